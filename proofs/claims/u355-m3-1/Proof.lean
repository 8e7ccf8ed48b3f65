import JvmDerived
import JvmDerived.Pilot.@@N@@Statement
import JvmDerived.Pilot.@@N@@Code
set_option linter.unusedVariables false
set_option linter.unusedSimpArgs false
namespace Jvm.Pilot.@@N@@
open Jvm Jvm.ClassFile Sem Op Lib Jvm.Free Jvm.Stand Jvm.LawKit Jvm.RoadKit Bundle Jvm.Pilot.@@N@@.Jvm.D
section OwnKit
variable {p : Program} {l : Launch} {e : Env} {R : Room} {s : State} {m : MethodId} {args : Array Value} {below : List Frame} {meth : Method} {c : Code} {T T' : State} {locs : List Loc} {cells slots : Nat} {Z : State} {h : Heap} {a0 : Array Value}
/-- from the state T with the frame g on top the method comes to its end, and what it leaves meets E -/
def own_WP (p : Program) (e : Env) (below : List Frame) (E : Outcome → State → Prop) (T : State) (g : JFrame) : Prop :=
  ∃ s₂ o, Steps p.tables e below (T.setTop g) s₂ ∧ s₂.status = .running ∧ Ended s₂ below o ∧ E o s₂
/-- it returns, and what it leaves meets Q within K cells and N slots -/
def own_E (s : State) (Q : Option Value → Heap → List Loc → Prop) (K N : Nat) (o : Outcome) (t : State) : Prop := ∃ v L, o = .returned v ∧ Q v t.heap L ∧ FrameEnd s o t L K N
variable {Q : Option Value → Heap → List Loc → Prop} {K N : Nat} {g g' : JFrame} {E : Outcome → State → Prop}
theorem own_go (h : ∀ t, Steps p.tables e below (T'.setTop g') t → Steps p.tables e below (T.setTop g) t) (k : own_WP p e below E T' g') : own_WP p e below E T g := by
  obtain ⟨s₂, o, h1, h2⟩ := k
  exact ⟨s₂, o, h s₂ h1, h2⟩
theorem own_tr (h : Steps p.tables e below (T.setTop g) (T'.setTop g')) (k : own_WP p e below E T' g') : own_WP p e below E T g := by
  obtain ⟨s₂, o, h1, h2⟩ := k
  exact ⟨s₂, o, h.trans h1, h2⟩
theorem own_end (X : Stand p l e R s m args below meth c T locs cells slots) (hlk : meth.locks = false) {v : Option Value} (hv : meth.sig.returnType = none → v = none)
    (hs : ∀ fs, (∀ (f : JFrame) (acts : List Action), f.method = m → f.locked = none → f.entered = [] → (doReturn e (T.setTop f) acts v).1 = T.setFrames fs) → Steps p.tables e below (T.setTop g) (T.setFrames fs))
    (hk : cells ≤ K) (hn : slots ≤ N) (hq : Q v T.heap locs) : own_WP p e below (own_E s Q K N) T g := by
  obtain ⟨fs, hr, hrun, hended, hW, hsame⟩ := X.leave hv hlk
  exact ⟨_, _, hs fs hr, hrun, hended, _, _, rfl, hq, ⟨_, rfl⟩, hW, hsame.mono hk hn⟩
theorem own_retV (X : Stand p l e R s m args below meth c T locs cells slots) (hx : p.tables.exec = Jvm.exec) (hlk : meth.locks = false) {pc : Nat} {Ls : Array Slot} (hret : meth.sig.returnType = none) (hd : decode c.code pc = .ok (.return_, 1))
    (hk : cells ≤ K) (hn : slots ≤ N) (hq : Q none T.heap locs) : own_WP p e below (own_E s Q K N) T (mkF m pc Ls []) :=
  own_end X hlk (fun _ => rfl) (fun fs hr => X.returnOut hx hret hd hr) hk hn hq
theorem own_retI (X : Stand p l e R s m args below meth c T locs cells slots) (hx : p.tables.exec = Jvm.exec) (hlk : meth.locks = false) {pc : Nat} {Ls : Array Slot} {z : Int32} (hret : meth.sig.returnType = some .int) (hd : decode c.code pc = .ok (.ireturn, 1))
    (hk : cells ≤ K) (hn : slots ≤ N) (hq : Q (some (.int z)) T.heap locs) : own_WP p e below (own_E s Q K N) T (mkF m pc Ls [.int z]) :=
  own_end X hlk (fun h => by rw [hret] at h; cases h) (fun fs hr => retOut X hx hret rfl (Or.inl ⟨rfl, Or.inl rfl, z, rfl⟩) hd hr) hk hn hq
theorem own_retJ (X : Stand p l e R s m args below meth c T locs cells slots) (hx : p.tables.exec = Jvm.exec) (hlk : meth.locks = false) {pc : Nat} {Ls : Array Slot} {z : Int64} (hret : meth.sig.returnType = some .long) (hd : decode c.code pc = .ok (.lreturn, 1))
    (hk : cells ≤ K) (hn : slots ≤ N) (hq : Q (some (.long z)) T.heap locs) : own_WP p e below (own_E s Q K N) T (mkF m pc Ls [.long z]) :=
  own_end X hlk (fun h => by rw [hret] at h; cases h) (fun fs hr => X.lreturnOut hx hret hd hr) hk hn hq
theorem own_retA (X : Stand p l e R s m args below meth c T locs cells slots) (hx : p.tables.exec = Jvm.exec) (hlk : meth.locks = false) {pc : Nat} {Ls : Array Slot} {w : Value} (hw : w.isRef = true) {t : FieldType} (ht : t.isReference = true) (hret : meth.sig.returnType = some t) (hd : decode c.code pc = .ok (.areturn, 1))
    (hk : cells ≤ K) (hn : slots ≤ N) (hq : Q (some w) T.heap locs) : own_WP p e below (own_E s Q K N) T (mkF m pc Ls [w]) :=
  own_end X hlk (fun h => by rw [hret] at h; cases h) (fun fs hr => X.areturnOut hx hw hret ht hd hr) hk hn hq
theorem own_retN (X : Stand p l e R s m args below meth c T locs cells slots) (hx : p.tables.exec = Jvm.exec) (hlk : meth.locks = false) {pc : Nat} {Ls : Array Slot} {z : Int32} {t : FieldType} (ht : t = .boolean ∨ t = .byte ∨ t = .char ∨ t = .short) (hret : meth.sig.returnType = some t) (hd : decode c.code pc = .ok (.ireturn, 1))
    (hk : cells ≤ K) (hn : slots ≤ N) (hq : Q (some (.int (nar t z))) T.heap locs) : own_WP p e below (own_E s Q K N) T (mkF m pc Ls [.int z]) :=
  own_end X hlk (fun h => by rw [hret] at h; cases h) (fun fs hr => retN X hx hret ht hd hr) hk hn hq
theorem own_len (X : Stand p l e R s m args below meth c T locs cells slots) (hx : p.tables.exec = Jvm.exec) (hZ : Z.Warmed39 s.vm) (eT : T.heap = h) {a : Addr} {k : ClassId} {ty : FieldType} {n : Int32} {vs : List Value} {d : Value} (V : Arv Z h a k ty n vs d)
    {pc : Nat} {Ls : Array Slot} {S : List Value} (hd : decode c.code pc = .ok (.arraylength, 1)) (kk : own_WP p e below E T (mkF m (pc + 1) Ls (.int n :: S))) : own_WP p e below E T (mkF m pc Ls (.ref a :: S)) := by
  obtain ⟨cl, A, q, S1, M, H, G⟩ := V
  refine own_go (fun t k => X.arraylength hx (by rw [eT]; exact A.1) (State.isArrayOf_alike hZ.alike A.2.1) (g := mkF m pc Ls (.ref a :: S)) rfl rfl hd t k) ?_
  rw [len_of S1 M]
  exact kk
theorem own_at {cl : Cell} {n j : Int32} {vs : List Value} {d w : Value} (S1 : cl.slots.size = n.toNatClampNeg) (H : Has cl vs d) (hj : ¬ j < 0 ∧ j < n) (hv : vs.getD j.toNatClampNeg d = w) : cl.slots[j.toNatClampNeg]? = some w :=
  H.at (inb_of S1 hj) hv
theorem own_ldI (X : Stand p l e R s m args below meth c T locs cells slots) (hx : p.tables.exec = Jvm.exec) (hZ : Z.Warmed39 s.vm) (eT : T.heap = h) {a : Addr} {k : ClassId} {n j w : Int32} {vs : List Value} {d : Value} (V : Arv Z h a k .int n vs d) (hj : ¬ j < 0 ∧ j < n) (hv : vs.getD j.toNatClampNeg d = .int w)
    {pc : Nat} {Ls : Array Slot} {S : List Value} (hd : decode c.code pc = .ok (.iaload, 1)) (kk : own_WP p e below E T (mkF m (pc + 1) Ls (.int w :: S))) : own_WP p e below E T (mkF m pc Ls (.int j :: .ref a :: S)) := by
  obtain ⟨cl, A, q, S1, M, H, G⟩ := V
  exact own_go (fun t k => X.iaload hx (j := j) (v := .int w) (by rw [eT]; exact A.1) (State.isArrayOf_alike hZ.alike A.2.1) A.2.2 (inb_of S1 hj) (own_at S1 H hj hv) (g := mkF m pc Ls (.int j :: .ref a :: S)) rfl rfl hd t k) kk
theorem own_ldJ (X : Stand p l e R s m args below meth c T locs cells slots) (hx : p.tables.exec = Jvm.exec) (hZ : Z.Warmed39 s.vm) (eT : T.heap = h) {a : Addr} {k : ClassId} {n j : Int32} {w : Int64} {vs : List Value} {d : Value} (V : Arv Z h a k .long n vs d) (hj : ¬ j < 0 ∧ j < n) (hv : vs.getD j.toNatClampNeg d = .long w)
    {pc : Nat} {Ls : Array Slot} {S : List Value} (hd : decode c.code pc = .ok (.laload, 1)) (kk : own_WP p e below E T (mkF m (pc + 1) Ls (.long w :: S))) : own_WP p e below E T (mkF m pc Ls (.int j :: .ref a :: S)) := by
  obtain ⟨cl, A, q, S1, M, H, G⟩ := V
  exact own_go (fun t k => X.laload hx (j := j) (v := .long w) (by rw [eT]; exact A.1) (State.isArrayOf_alike hZ.alike A.2.1) A.2.2 (inb_of S1 hj) (own_at S1 H hj hv) (g := mkF m pc Ls (.int j :: .ref a :: S)) rfl rfl hd t k) kk
theorem own_ldB (X : Stand p l e R s m args below meth c T locs cells slots) (hx : p.tables.exec = Jvm.exec) (hZ : Z.Warmed39 s.vm) (eT : T.heap = h) {a : Addr} {k : ClassId} {n j w : Int32} {vs : List Value} {d : Value} (V : Arv Z h a k .byte n vs d) (hj : ¬ j < 0 ∧ j < n) (hv : vs.getD j.toNatClampNeg d = .int w)
    {pc : Nat} {Ls : Array Slot} {S : List Value} (hd : decode c.code pc = .ok (.baload, 1)) (kk : own_WP p e below E T (mkF m (pc + 1) Ls (.int w :: S))) : own_WP p e below E T (mkF m pc Ls (.int j :: .ref a :: S)) := by
  obtain ⟨cl, A, q, S1, M, H, G⟩ := V
  exact own_go (fun t k => X.baloadBytes hx (j := j) (v := .int w) (by rw [eT]; exact A.1) (State.isArrayOf_alike hZ.alike A.2.1) A.2.2 (inb_of S1 hj) (own_at S1 H hj hv) (g := mkF m pc Ls (.int j :: .ref a :: S)) rfl rfl hd t k) kk
theorem own_ldR (X : Stand p l e R s m args below meth c T locs cells slots) (hx : p.tables.exec = Jvm.exec) (hZ : Z.Warmed39 s.vm) (eT : T.heap = h) {a : Addr} {k : ClassId} {ty : FieldType} (hty : ty.isReference = true) {n j : Int32} {w : Value} {vs : List Value} {d : Value} (V : Arv Z h a k ty n vs d) (hj : ¬ j < 0 ∧ j < n) (hv : vs.getD j.toNatClampNeg d = w)
    {pc : Nat} {Ls : Array Slot} {S : List Value} (hd : decode c.code pc = .ok (.aaload, 1)) (kk : own_WP p e below E T (mkF m (pc + 1) Ls (w :: S))) : own_WP p e below E T (mkF m pc Ls (.int j :: .ref a :: S)) := by
  obtain ⟨cl, A, q, S1, M, H, G⟩ := V
  exact own_go (fun t k => X.aaload hx (j := j) (v := w) (by rw [eT]; exact A.1) (State.isArrayOf_alike hZ.alike A.2.1) hty A.2.2 (inb_of S1 hj) (own_at S1 H hj hv) (g := mkF m pc Ls (.int j :: .ref a :: S)) rfl rfl hd t k) kk
theorem own_stI (X : Stand p l e R s m args below meth c T locs cells slots) (hx : p.tables.exec = Jvm.exec) (hZ : Z.Warmed39 s.vm) (eT : T.heap = h) {a : Addr} {k : ClassId} {n j x : Int32} {vs : List Value} {d : Value} (V : Arv Z h a k .int n vs d) (hj : ¬ j < 0 ∧ j < n) {i : Nat} (hji : j.toNatClampNeg = i) (hi : i < vs.length)
    {pc : Nat} {Ls : Array Slot} {S : List Value} (hd : decode c.code pc = .ok (.iastore, 1))
    (kk : ∀ T' h', Stand p l e R s m args below meth c T' (locs ++ [⟨a, j.toNatClampNeg⟩]) cells slots → T'.heap = h' → Wr h h' a j.toNatClampNeg (.int x) → Arv Z h' a k .int n (vs.set i (.int x)) d → own_WP p e below E T' (mkF m (pc + 1) Ls S)) : own_WP p e below E T (mkF m pc Ls (.int x :: .int j :: .ref a :: S)) := by
  obtain ⟨cl, A, q, S1, M, H, G⟩ := V
  obtain ⟨T', h', X', e', W', st⟩ := stI X hx hZ eT A (j := j) (inb_of S1 hj) (g := mkF m pc Ls (.int x :: .int j :: .ref a :: S)) rfl rfl hd
  exact own_go st (kk T' h' X' e' W' (Arv.set A q S1 M H G rfl W' i hji hi))
theorem own_stJ (X : Stand p l e R s m args below meth c T locs cells slots) (hx : p.tables.exec = Jvm.exec) (hZ : Z.Warmed39 s.vm) (eT : T.heap = h) {a : Addr} {k : ClassId} {n j : Int32} {x : Int64} {vs : List Value} {d : Value} (V : Arv Z h a k .long n vs d) (hj : ¬ j < 0 ∧ j < n) {i : Nat} (hji : j.toNatClampNeg = i) (hi : i < vs.length)
    {pc : Nat} {Ls : Array Slot} {S : List Value} (hd : decode c.code pc = .ok (.lastore, 1))
    (kk : ∀ T' h', Stand p l e R s m args below meth c T' (locs ++ [⟨a, j.toNatClampNeg⟩]) cells slots → T'.heap = h' → Wr h h' a j.toNatClampNeg (.long x) → Arv Z h' a k .long n (vs.set i (.long x)) d → own_WP p e below E T' (mkF m (pc + 1) Ls S)) : own_WP p e below E T (mkF m pc Ls (.long x :: .int j :: .ref a :: S)) := by
  obtain ⟨cl, A, q, S1, M, H, G⟩ := V
  obtain ⟨T', h', X', e', W', st⟩ := stJ X hx hZ eT A (j := j) (inb_of S1 hj) (g := mkF m pc Ls (.long x :: .int j :: .ref a :: S)) rfl rfl hd
  exact own_go st (kk T' h' X' e' W' (Arv.set A q S1 M H G rfl W' i hji hi))
theorem own_stB (X : Stand p l e R s m args below meth c T locs cells slots) (hx : p.tables.exec = Jvm.exec) (hZ : Z.Warmed39 s.vm) (eT : T.heap = h) {a : Addr} {k : ClassId} {n j x : Int32} {vs : List Value} {d : Value} (V : Arv Z h a k .byte n vs d) (hj : ¬ j < 0 ∧ j < n) {i : Nat} (hji : j.toNatClampNeg = i) (hi : i < vs.length)
    {pc : Nat} {Ls : Array Slot} {S : List Value} (hd : decode c.code pc = .ok (.bastore, 1))
    (kk : ∀ T' h', Stand p l e R s m args below meth c T' (locs ++ [⟨a, j.toNatClampNeg⟩]) cells slots → T'.heap = h' → Wr h h' a j.toNatClampNeg (.int (nar .byte x)) → Arv Z h' a k .byte n (vs.set i (.int (nar .byte x))) d → own_WP p e below E T' (mkF m (pc + 1) Ls S)) : own_WP p e below E T (mkF m pc Ls (.int x :: .int j :: .ref a :: S)) := by
  obtain ⟨cl, A, q, S1, M, H, G⟩ := V
  obtain ⟨T', h', X', e', W', st⟩ := stB X hx hZ eT A (j := j) (inb_of S1 hj) (g := mkF m pc Ls (.int x :: .int j :: .ref a :: S)) rfl rfl hd
  exact own_go st (kk T' h' X' e' W' (Arv.set A q S1 M H G (fits_nar_byte x) W' i hji hi))
theorem own_nm {x a : Addr} (h : x ≠ a) : x ∉ [a] := fun q => h (List.mem_singleton.mp q)
theorem own_nm0 {x : Addr} : x ∉ ([] : List Addr) := List.not_mem_nil
theorem own_nm2 {x a b : Addr} (h : x ≠ a) (h' : x ≠ b) : x ∉ [a, b] := fun q => by
  rcases List.mem_cons.mp q with r | r
  · exact h r
  · exact h' (List.mem_singleton.mp r)
theorem own_le {h0 h : Heap} {n0 : Nat} {ws : List Addr} (Z0 : n0 ≤ h0.size) (K : Keep h0 h ws) : n0 ≤ h.size := Nat.le_trans Z0 K.1
end OwnKit

def own_rs (i : Int32) : Int32 := if (i &&& (-2147483648 : Int32)) = 0 then 0 else 1
theorem own_bits (i : Int32) : (i &&& (-2147483648 : Int32)) = 0 ↔ ¬ i < 0 := by
  rw [Jvm.Free.XT.neg32]
  rw [← Int32.toBitVec_inj, Int32.toBitVec_and]
  show i.toBitVec &&& 0x80000000#32 = 0#32 ↔ _
  constructor
  · intro h q
    have z := congrArg (fun v => BitVec.getLsbD v 31) h
    rw [BitVec.msb_eq_getLsbD_last] at q
    simp [BitVec.getLsbD_and] at z
    simp at q
    rw [q] at z
    simp at z
  · intro q
    rw [BitVec.msb_eq_getLsbD_last] at q
    apply BitVec.eq_of_getLsbD_eq
    intro j hj
    rw [BitVec.getLsbD_and]
    by_cases e : j = 31
    · subst e
      have q' : i.toBitVec.getLsbD 31 = false := by simpa using q
      rw [q']; simp
    · have z : ∀ n : Fin 32, n.1 ≠ 31 → (0x80000000#32).getLsbD n.1 = false := by decide
      rw [z ⟨j, hj⟩ e]; simp
theorem own_rsn (i : Int32) : own_rs i = if i < 0 then 1 else 0 := by
  unfold own_rs
  by_cases h : i < 0
  · rw [if_neg (fun z => (own_bits i).mp z h), if_pos h]
  · rw [if_pos ((own_bits i).mpr h), if_neg h]
theorem own_rso (i : Int32) : own_rs (i ||| (-2147483648 : Int32)) = 1 := by
  rw [own_rsn, if_pos]
  rw [Jvm.Free.XT.neg32, Int32.toBitVec_or, BitVec.msb_or]
  show (_ || (0x80000000#32).msb) = true
  rw [show (0x80000000#32).msb = true from by decide, Bool.or_true]
theorem d1_0 : decode prog_10_method_1_code 0 = .ok (.aload_n 0, 1) := by decide +kernel
theorem d1_1 : decode prog_10_method_1_code 1 = .ok (.invokespecial 1, 3) := by decide +kernel
theorem d1_4 : decode prog_10_method_1_code 4 = .ok (.aload_n 0, 1) := by decide +kernel
theorem d1_5 : decode prog_10_method_1_code 5 = .ok (.iload_n 1, 1) := by decide +kernel
theorem d1_6 : decode prog_10_method_1_code 6 = .ok (.putfield 7, 3) := by decide +kernel
theorem d1_9 : decode prog_10_method_1_code 9 = .ok (.aload_n 0, 1) := by decide +kernel
theorem d1_10 : decode prog_10_method_1_code 10 = .ok (.iload_n 2, 1) := by decide +kernel
theorem d1_11 : decode prog_10_method_1_code 11 = .ok (.putfield 13, 3) := by decide +kernel
theorem d1_14 : decode prog_10_method_1_code 14 = .ok (.aload_n 0, 1) := by decide +kernel
theorem d1_15 : decode prog_10_method_1_code 15 = .ok (.iload_n 3, 1) := by decide +kernel
theorem d1_16 : decode prog_10_method_1_code 16 = .ok (.putfield 16, 3) := by decide +kernel
theorem d1_19 : decode prog_10_method_1_code 19 = .ok (.aload_n 0, 1) := by decide +kernel
theorem d1_20 : decode prog_10_method_1_code 20 = .ok (.aload 4, 2) := by decide +kernel
theorem d1_22 : decode prog_10_method_1_code 22 = .ok (.invokevirtual 19, 3) := by decide +kernel
theorem d1_25 : decode prog_10_method_1_code 25 = .ok (.checkcast 20, 3) := by decide +kernel
theorem d1_28 : decode prog_10_method_1_code 28 = .ok (.putfield 25, 3) := by decide +kernel
theorem d1_31 : decode prog_10_method_1_code 31 = .ok (.return_, 1) := by decide +kernel
theorem own_pn89979 : plainName "com/example/tersel/tersel/carrier/Pdu" = true := by first | (simp [plainName, overriddenIn]; done) | decide +kernel
theorem ef_1 (m : MethodId) (zo : Addr) (zi : Int32) (zt : Int32) (zq : Int32) (za : Addr) : entryFrame m #[(.ref zo), (.int zi), (.int zt), (.int zq), (.ref za)] 5 = mkF m 0 #[.val (.ref zo), .val (.int zi), .val (.int zt), .val (.int zq), .val (.ref za)] [] := by first | (simp [entryFrame, mkF, argsToLocals, Value.category]; done) | rfl
def Q1 (Z : State) (zo : Addr) (zi : Int32) (zt : Int32) (zq : Int32) (za : Addr) (u0 : Value) (u1 : Value) (u2 : Value) (u3 : Value) (zk : ClassId) (zn : Int32) (zv : List Value) (zd : Value) (h0 : Heap) (n0 : Nat) (v : Option Value) (h : Heap) (L : List Loc) : Prop := v = none ∧ Fr n0 L ∧ Keep h0 h [zo] ∧ Exa Z h zo "com/example/tersel/tersel/carrier/Pdu" ∧ Fld Z h zo "com/example/tersel/tersel/carrier/Pdu" "commandId" "I" (.int zi) ∧ Fld Z h zo "com/example/tersel/tersel/carrier/Pdu" "sequenceNumber" "I" (.int zq)
set_option maxRecDepth 65536 in
set_option maxHeartbeats 40000000 in
theorem rm1 (l : Launch) (Z : State) (a0 : Array Value) (hw : ∀ d ∈ tables_1, d.before a0 Z = true) (ws : List Jvm.Cond) (zo : Addr) (zi : Int32) (zt : Int32) (zq : Int32) (za : Addr) (u0 : Value) (u1 : Value) (u2 : Value) (u3 : Value) (zk : ClassId) (zn : Int32) (zv : List Value) (zd : Value) (h0 : Heap) (n0 : Nat) (Z0 : n0 ≤ h0.size) (P0 : Exa Z h0 zo "com/example/tersel/tersel/carrier/Pdu") (P1 : Fld Z h0 zo "com/example/tersel/tersel/carrier/Pdu" "commandId" "I" u0) (P2 : Fld Z h0 zo "com/example/tersel/tersel/carrier/Pdu" "commandStatus" "I" u1) (P3 : Fld Z h0 zo "com/example/tersel/tersel/carrier/Pdu" "sequenceNumber" "I" u2) (P4 : Fld Z h0 zo "com/example/tersel/tersel/carrier/Pdu" "body" "[B" u3) (P5 : Arv Z h0 za zk .byte zn zv zd) (P6 : Exa Z h0 za "[B") (g_zo : n0 ≤ zo) (hne : za ≠ zo) (hcap : zn.toNatClampNeg ≤ 1) :
    MetFree l (⟨"com/example/tersel/tersel/carrier/Pdu", "<init>", "(III[B)V"⟩ : MethodName) (head1 (Jvm.Cond.code (⟨"com/example/tersel/tersel/carrier/Pdu", "<init>", "(III[B)V"⟩ : MethodName) prog_10_method_1_code 5 none :: ws) ({ frames := 1, cells := 1, slots := 1, locals := 15 } : Room)) (fun a U => a = #[(.ref zo), (.int zi), (.int zt), (.int zq), (.ref za)] ∧ Z.Warmed39 U.vm ∧ U.heap = h0) (fun _ _ _ _ _ => True) (fun _ U o U' => ∃ v L, o = .returned v ∧ Q1 Z zo zi zt zq za u0 u1 u2 u3 zk zn zv zd h0 n0 v U'.heap L ∧ FrameEnd U o U' L ({ frames := 1, cells := 1, slots := 1, locals := 15 } : Room).cells ({ frames := 1, cells := 1, slots := 1, locals := 15 } : Room).slots) := by
  refine MetFree.of_bodySF (plainFor_of_name own_pn89979) hisR ?_
  intro p e s m args below meth c s₁ Bd hml0 hP hK
  obtain ⟨rfl, hZ, hh⟩ := hP
  have hx := Bd.exec
  have hby := Bd.bytes
  have hml : c.maxLocals = 5 := hml0
  have hown : s.vm.findClass "com/example/tersel/tersel/carrier/Pdu" = some m.cls := findClass_of_methodNamed Bd.named
  have hnm := (name_of_methodNamed Bd.named Bd.method).1
  have X0 : Stand p l e ({ frames := 1, cells := 1, slots := 1, locals := 15 } : Room) s m #[(.ref zo), (.int zi), (.int zt), (.int zq), (.ref za)] below meth c s₁ [] 0 0 := Stand.of_body Bd
  have e0 : s₁.heap = h0 := by rw [← hh, Bd.state]; rfl
  have N0 := Fr.nil n0
  have K0 := Keep.refl h0 [zo]
  show own_WP p e below (own_E s (Q1 Z zo zi zt zq za u0 u1 u2 u3 zk zn zv zd h0 n0) 1 1) s₁ (entryFrame m #[(.ref zo), (.int zi), (.int zt), (.int zq), (.ref za)] 5)
  rw [ef_1 m zo zi zt zq za]
  show own_WP _ _ _ _ s₁ (mkF m 0 #[.val (.ref zo), .val (.int zi), .val (.int zt), .val (.int zq), .val (.ref za)] [])
  refine own_go (fun t k => XS.aloadN X0.here hx rfl (hb hby d1_0) rfl rfl  k) ?_
  show own_WP _ _ _ _ s₁ (mkF m 1 #[.val (.ref zo), .val (.int zi), .val (.int zt), .val (.int zq), .val (.ref za)] [(.ref zo)])
  obtain ⟨T1, X1, e1, st1⟩ := initO X0 hx hZ hown (hw _ (List.mem_of_getElem? (i := 7) rfl)) (hw _ (List.mem_of_getElem? (i := 8) rfl)) (hw _ (List.mem_of_getElem? (i := 9) rfl)) e0 (g := (mkF m 1 #[.val (.ref zo), .val (.int zi), .val (.int zt), .val (.int zq), .val (.ref za)] [(.ref zo)])) rfl (by rw [hml]; rfl) rfl (hb hby d1_1) (by decide) (W := 0) (by show 2 * 0 + _ ≤ _; exact Nat.le_of_eq rfl) (by decide)
  refine own_go st1 ?_
  show own_WP _ _ _ _ T1 (mkF m 4 #[.val (.ref zo), .val (.int zi), .val (.int zt), .val (.int zq), .val (.ref za)] [])
  refine own_go (fun t k => XS.aloadN X1.here hx rfl (hb hby d1_4) rfl rfl  k) ?_
  show own_WP _ _ _ _ T1 (mkF m 5 #[.val (.ref zo), .val (.int zi), .val (.int zt), .val (.int zq), .val (.ref za)] [(.ref zo)])
  refine own_go (fun t k => XS.iloadN X1.here hx rfl (hb hby d1_5) rfl  k) ?_
  show own_WP _ _ _ _ T1 (mkF m 6 #[.val (.ref zo), .val (.int zi), .val (.int zt), .val (.int zq), .val (.ref za)] [(.int zi), (.ref zo)])
  obtain ⟨T2, h2, X2, e2, W2, st2⟩ := putF X1 hx hZ hown (host := "") (Or.inl (hw _ (List.mem_of_getElem? (i := 10) rfl))) Via.refl e1 P1 P0 (Or.inr ⟨(hw _ (List.mem_of_getElem? (i := 11) rfl)), rfl, hnm⟩) (hw _ (List.mem_of_getElem? (i := 1) rfl)) (ty := .int) (by decide) rfl rfl (g := (mkF m 6 #[.val (.ref zo), .val (.int zi), .val (.int zt), .val (.int zq), .val (.ref za)] [(.int zi), (.ref zo)])) rfl rfl (hb hby d1_6)
  refine own_go st2 ?_
  have f3 : Fld Z h2 zo "com/example/tersel/tersel/carrier/Pdu" "commandId" "I" (.int zi) := P1.same W2
  have f4 : Exa Z h2 zo "com/example/tersel/tersel/carrier/Pdu" := P0.wr W2
  have f6 : Fld Z h2 zo "com/example/tersel/tersel/carrier/Pdu" "commandStatus" "I" u1 := P2.other W2 (Or.inr (slot_ne (Or.inr (hw _ (List.mem_of_getElem? (i := 13) rfl))) (Or.inr (hw _ (List.mem_of_getElem? (i := 11) rfl))) (by decide) (t := .int) (t' := .int) (by decide) (by decide)))
  have f7 : Fld Z h2 zo "com/example/tersel/tersel/carrier/Pdu" "sequenceNumber" "I" u2 := P3.other W2 (Or.inr (slot_ne (Or.inr (hw _ (List.mem_of_getElem? (i := 15) rfl))) (Or.inr (hw _ (List.mem_of_getElem? (i := 11) rfl))) (by decide) (t := .int) (t' := .int) (by decide) (by decide)))
  have f8 : Fld Z h2 zo "com/example/tersel/tersel/carrier/Pdu" "body" "[B" u3 := P4.other W2 (Or.inr (slot_ne (Or.inr (hw _ (List.mem_of_getElem? (i := 26) rfl))) (Or.inr (hw _ (List.mem_of_getElem? (i := 11) rfl))) (by decide) (t := (.array .byte)) (t' := .int) (by decide) (by decide)))
  have f9 : Arv Z h2 za zk .byte zn zv zd := P5.other W2 hne
  have f10 : Exa Z h2 za "[B" := P6.wr W2
  have K11 : Keep h0 h2 [zo] := K0.wr W2 (Or.inl (List.mem_of_getElem? (i := 0) rfl))
  have N12 := Fr.snoc X2 N0 g_zo
  show own_WP _ _ _ _ T2 (mkF m 9 #[.val (.ref zo), .val (.int zi), .val (.int zt), .val (.int zq), .val (.ref za)] [])
  refine own_go (fun t k => XS.aloadN X2.here hx rfl (hb hby d1_9) rfl rfl  k) ?_
  show own_WP _ _ _ _ T2 (mkF m 10 #[.val (.ref zo), .val (.int zi), .val (.int zt), .val (.int zq), .val (.ref za)] [(.ref zo)])
  refine own_go (fun t k => XS.iloadN X2.here hx rfl (hb hby d1_10) rfl  k) ?_
  show own_WP _ _ _ _ T2 (mkF m 11 #[.val (.ref zo), .val (.int zi), .val (.int zt), .val (.int zq), .val (.ref za)] [(.int zt), (.ref zo)])
  obtain ⟨T13, h13, X13, e13, W13, st13⟩ := putF X2 hx hZ hown (host := "") (Or.inl (hw _ (List.mem_of_getElem? (i := 12) rfl))) Via.refl e2 f6 f4 (Or.inr ⟨(hw _ (List.mem_of_getElem? (i := 13) rfl)), rfl, hnm⟩) (hw _ (List.mem_of_getElem? (i := 1) rfl)) (ty := .int) (by decide) rfl rfl (g := (mkF m 11 #[.val (.ref zo), .val (.int zi), .val (.int zt), .val (.int zq), .val (.ref za)] [(.int zt), (.ref zo)])) rfl rfl (hb hby d1_11)
  refine own_go st13 ?_
  have f14 : Fld Z h13 zo "com/example/tersel/tersel/carrier/Pdu" "commandStatus" "I" (.int zt) := f6.same W13
  have f15 : Exa Z h13 zo "com/example/tersel/tersel/carrier/Pdu" := f4.wr W13
  have f17 : Fld Z h13 zo "com/example/tersel/tersel/carrier/Pdu" "sequenceNumber" "I" u2 := f7.other W13 (Or.inr (slot_ne (Or.inr (hw _ (List.mem_of_getElem? (i := 15) rfl))) (Or.inr (hw _ (List.mem_of_getElem? (i := 13) rfl))) (by decide) (t := .int) (t' := .int) (by decide) (by decide)))
  have f18 : Fld Z h13 zo "com/example/tersel/tersel/carrier/Pdu" "body" "[B" u3 := f8.other W13 (Or.inr (slot_ne (Or.inr (hw _ (List.mem_of_getElem? (i := 26) rfl))) (Or.inr (hw _ (List.mem_of_getElem? (i := 13) rfl))) (by decide) (t := (.array .byte)) (t' := .int) (by decide) (by decide)))
  have f19 : Arv Z h13 za zk .byte zn zv zd := f9.other W13 hne
  have f20 : Exa Z h13 za "[B" := f10.wr W13
  have f21 : Fld Z h13 zo "com/example/tersel/tersel/carrier/Pdu" "commandId" "I" (.int zi) := f3.other W13 (Or.inr (slot_ne (Or.inr (hw _ (List.mem_of_getElem? (i := 11) rfl))) (Or.inr (hw _ (List.mem_of_getElem? (i := 13) rfl))) (by decide) (t := .int) (t' := .int) (by decide) (by decide)))
  have K22 : Keep h0 h13 [zo] := K11.wr W13 (Or.inl (List.mem_of_getElem? (i := 0) rfl))
  have N23 := Fr.snoc X13 N12 g_zo
  show own_WP _ _ _ _ T13 (mkF m 14 #[.val (.ref zo), .val (.int zi), .val (.int zt), .val (.int zq), .val (.ref za)] [])
  refine own_go (fun t k => XS.aloadN X13.here hx rfl (hb hby d1_14) rfl rfl  k) ?_
  show own_WP _ _ _ _ T13 (mkF m 15 #[.val (.ref zo), .val (.int zi), .val (.int zt), .val (.int zq), .val (.ref za)] [(.ref zo)])
  refine own_go (fun t k => XS.iloadN X13.here hx rfl (hb hby d1_15) rfl  k) ?_
  show own_WP _ _ _ _ T13 (mkF m 16 #[.val (.ref zo), .val (.int zi), .val (.int zt), .val (.int zq), .val (.ref za)] [(.int zq), (.ref zo)])
  obtain ⟨T24, h24, X24, e24, W24, st24⟩ := putF X13 hx hZ hown (host := "") (Or.inl (hw _ (List.mem_of_getElem? (i := 14) rfl))) Via.refl e13 f17 f15 (Or.inr ⟨(hw _ (List.mem_of_getElem? (i := 15) rfl)), rfl, hnm⟩) (hw _ (List.mem_of_getElem? (i := 1) rfl)) (ty := .int) (by decide) rfl rfl (g := (mkF m 16 #[.val (.ref zo), .val (.int zi), .val (.int zt), .val (.int zq), .val (.ref za)] [(.int zq), (.ref zo)])) rfl rfl (hb hby d1_16)
  refine own_go st24 ?_
  have f25 : Fld Z h24 zo "com/example/tersel/tersel/carrier/Pdu" "sequenceNumber" "I" (.int zq) := f17.same W24
  have f26 : Exa Z h24 zo "com/example/tersel/tersel/carrier/Pdu" := f15.wr W24
  have f28 : Fld Z h24 zo "com/example/tersel/tersel/carrier/Pdu" "body" "[B" u3 := f18.other W24 (Or.inr (slot_ne (Or.inr (hw _ (List.mem_of_getElem? (i := 26) rfl))) (Or.inr (hw _ (List.mem_of_getElem? (i := 15) rfl))) (by decide) (t := (.array .byte)) (t' := .int) (by decide) (by decide)))
  have f29 : Arv Z h24 za zk .byte zn zv zd := f19.other W24 hne
  have f30 : Exa Z h24 za "[B" := f20.wr W24
  have f31 : Fld Z h24 zo "com/example/tersel/tersel/carrier/Pdu" "commandId" "I" (.int zi) := f21.other W24 (Or.inr (slot_ne (Or.inr (hw _ (List.mem_of_getElem? (i := 11) rfl))) (Or.inr (hw _ (List.mem_of_getElem? (i := 15) rfl))) (by decide) (t := .int) (t' := .int) (by decide) (by decide)))
  have f32 : Fld Z h24 zo "com/example/tersel/tersel/carrier/Pdu" "commandStatus" "I" (.int zt) := f14.other W24 (Or.inr (slot_ne (Or.inr (hw _ (List.mem_of_getElem? (i := 13) rfl))) (Or.inr (hw _ (List.mem_of_getElem? (i := 15) rfl))) (by decide) (t := .int) (t' := .int) (by decide) (by decide)))
  have K33 : Keep h0 h24 [zo] := K22.wr W24 (Or.inl (List.mem_of_getElem? (i := 0) rfl))
  have N34 := Fr.snoc X24 N23 g_zo
  show own_WP _ _ _ _ T24 (mkF m 19 #[.val (.ref zo), .val (.int zi), .val (.int zt), .val (.int zq), .val (.ref za)] [])
  refine own_go (fun t k => XS.aloadN X24.here hx rfl (hb hby d1_19) rfl rfl  k) ?_
  show own_WP _ _ _ _ T24 (mkF m 20 #[.val (.ref zo), .val (.int zi), .val (.int zt), .val (.int zq), .val (.ref za)] [(.ref zo)])
  refine own_go (fun t k => XS.aload X24.here hx rfl (hb hby d1_20) rfl rfl  k) ?_
  show own_WP _ _ _ _ T24 (mkF m 22 #[.val (.ref zo), .val (.int zi), .val (.int zt), .val (.int zq), .val (.ref za)] [(.ref za), (.ref zo)])
  obtain ⟨T35, h35, X35, e35, E35, A35, G35, st35⟩ := cloneH X24 hx hZ hown (hw _ (List.mem_of_getElem? (i := 16) rfl)) (hw _ (List.mem_of_getElem? (i := 17) rfl)) (hw _ (List.mem_of_getElem? (i := 21) rfl)) (hw _ (List.mem_of_getElem? (i := 19) rfl)) (hw _ (List.mem_of_getElem? (i := 20) rfl)) (hw _ (List.mem_of_getElem? (i := 22) rfl)) e24 (Arv.arh f29) f30 (g := (mkF m 22 #[.val (.ref zo), .val (.int zi), .val (.int zt), .val (.int zq), .val (.ref za)] [(.ref za), (.ref zo)])) rfl (by rw [hml]; rfl) rfl (hb hby d1_22) (by decide) (W := 1) (cap := 1) (by show 2 * 0 + _ ≤ _; exact Nat.le_of_eq rfl) (by decide) hcap (by decide) (by decide)
  obtain ⟨b35, q35⟩ : ∃ z, z = h24.size := ⟨_, rfl⟩
  rw [← q35] at A35 G35 st35
  refine own_go st35 ?_
  have g_b35 : n0 ≤ b35 := Nat.le_trans (own_le Z0 K33) (Nat.le_of_eq q35.symm)
  have sz_b35 : h0.size ≤ b35 := Nat.le_trans K33.1 (Nat.le_of_eq q35.symm)
  have ne_zo_b35 : zo ≠ b35 := Nat.ne_of_lt (Nat.lt_of_lt_of_le f26.lt (Nat.le_of_eq q35.symm))
  have ne_za_b35 : za ≠ b35 := Nat.ne_of_lt (Nat.lt_of_lt_of_le f29.lt (Nat.le_of_eq q35.symm))
  have f36 : Exa Z h35 zo "com/example/tersel/tersel/carrier/Pdu" := f26.ext E35
  have f37 : Fld Z h35 zo "com/example/tersel/tersel/carrier/Pdu" "body" "[B" u3 := f28.ext E35
  have f38 : Arv Z h35 za zk .byte zn zv zd := f29.ext E35
  have f39 : Exa Z h35 za "[B" := f30.ext E35
  have f40 : Fld Z h35 zo "com/example/tersel/tersel/carrier/Pdu" "commandId" "I" (.int zi) := f31.ext E35
  have f41 : Fld Z h35 zo "com/example/tersel/tersel/carrier/Pdu" "commandStatus" "I" (.int zt) := f32.ext E35
  have f42 : Fld Z h35 zo "com/example/tersel/tersel/carrier/Pdu" "sequenceNumber" "I" (.int zq) := f25.ext E35
  have K43 : Keep h0 h35 [zo] := K33.ext E35
  show own_WP _ _ _ _ T35 (mkF m 25 #[.val (.ref zo), .val (.int zi), .val (.int zt), .val (.int zq), .val (.ref za)] [(.ref b35), (.ref zo)])
  obtain ⟨T44, X44, e44, st44⟩ := castY X35 hx hZ hown (hw _ (List.mem_of_getElem? (i := 23) rfl)) e35 (Ins.self G35) (g := (mkF m 25 #[.val (.ref zo), .val (.int zi), .val (.int zt), .val (.int zq), .val (.ref za)] [(.ref b35), (.ref zo)])) rfl rfl (hb hby d1_25)
  refine own_go st44 ?_
  show own_WP _ _ _ _ T44 (mkF m 28 #[.val (.ref zo), .val (.int zi), .val (.int zt), .val (.int zq), .val (.ref za)] [(.ref b35), (.ref zo)])
  obtain ⟨T45, h45, X45, e45, W45, st45⟩ := putF X44 hx hZ hown (host := "") (Or.inl (hw _ (List.mem_of_getElem? (i := 25) rfl))) Via.refl e44 f37 f36 (Or.inr ⟨(hw _ (List.mem_of_getElem? (i := 26) rfl)), rfl, hnm⟩) (hw _ (List.mem_of_getElem? (i := 1) rfl)) (ty := (.array .byte)) (by decide) rfl rfl (g := (mkF m 28 #[.val (.ref zo), .val (.int zi), .val (.int zt), .val (.int zq), .val (.ref za)] [(.ref b35), (.ref zo)])) rfl rfl (hb hby d1_28)
  refine own_go st45 ?_
  have f46 : Fld Z h45 zo "com/example/tersel/tersel/carrier/Pdu" "body" "[B" (.ref b35) := f37.same W45
  have f47 : Exa Z h45 zo "com/example/tersel/tersel/carrier/Pdu" := f36.wr W45
  have f49 : Arv Z h45 za zk .byte zn zv zd := f38.other W45 hne
  have f50 : Exa Z h45 za "[B" := f39.wr W45
  have f51 : Fld Z h45 zo "com/example/tersel/tersel/carrier/Pdu" "commandId" "I" (.int zi) := f40.other W45 (Or.inr (slot_ne (Or.inr (hw _ (List.mem_of_getElem? (i := 11) rfl))) (Or.inr (hw _ (List.mem_of_getElem? (i := 26) rfl))) (by decide) (t := .int) (t' := (.array .byte)) (by decide) (by decide)))
  have f52 : Fld Z h45 zo "com/example/tersel/tersel/carrier/Pdu" "commandStatus" "I" (.int zt) := f41.other W45 (Or.inr (slot_ne (Or.inr (hw _ (List.mem_of_getElem? (i := 13) rfl))) (Or.inr (hw _ (List.mem_of_getElem? (i := 26) rfl))) (by decide) (t := .int) (t' := (.array .byte)) (by decide) (by decide)))
  have f53 : Fld Z h45 zo "com/example/tersel/tersel/carrier/Pdu" "sequenceNumber" "I" (.int zq) := f42.other W45 (Or.inr (slot_ne (Or.inr (hw _ (List.mem_of_getElem? (i := 15) rfl))) (Or.inr (hw _ (List.mem_of_getElem? (i := 26) rfl))) (by decide) (t := .int) (t' := (.array .byte)) (by decide) (by decide)))
  have f54 : Arv Z h45 b35 zk .byte zn zv zd := A35.other W45 (Ne.symm ne_zo_b35)
  have f55 : Exa Z h45 b35 "[B" := G35.wr W45
  have K56 : Keep h0 h45 [zo] := K43.wr W45 (Or.inl (List.mem_of_getElem? (i := 0) rfl))
  have N57 := Fr.snoc X45 N34 g_zo
  show own_WP _ _ _ _ T45 (mkF m 31 #[.val (.ref zo), .val (.int zi), .val (.int zt), .val (.int zq), .val (.ref za)] [])
  refine own_retV X45 hx Bd.notSynchronized Bd.returns (hb hby d1_31) (by decide) (by decide) ?_
  rw [e45]
  exact ⟨rfl, N57, K56, f47, f51, f53⟩
theorem d3_0 : decode prog_10_method_16_code 0 = .ok (.aload_n 0, 1) := by decide +kernel
theorem d3_1 : decode prog_10_method_16_code 1 = .ok (.getfield 7, 3) := by decide +kernel
theorem d3_4 : decode prog_10_method_16_code 4 = .ok (.ldc 56, 2) := by decide +kernel
theorem d3_6 : decode prog_10_method_16_code 6 = .ok (.iand, 1) := by decide +kernel
theorem d3_7 : decode prog_10_method_16_code 7 = .ok (.ifCond .eq 7, 3) := by decide +kernel
theorem d3_10 : decode prog_10_method_16_code 10 = .ok (.iconst 1, 1) := by decide +kernel
theorem d3_11 : decode prog_10_method_16_code 11 = .ok (.goto 4, 3) := by decide +kernel
theorem d3_14 : decode prog_10_method_16_code 14 = .ok (.iconst 0, 1) := by decide +kernel
theorem d3_15 : decode prog_10_method_16_code 15 = .ok (.ireturn, 1) := by decide +kernel
theorem ef_3 (m : MethodId) (zo : Addr) : entryFrame m #[(.ref zo)] 1 = mkF m 0 #[.val (.ref zo)] [] := by first | (simp [entryFrame, mkF, argsToLocals, Value.category]; done) | rfl
def Q3 (Z : State) (zo : Addr) (zi : Int32) (h0 : Heap) (n0 : Nat) (v : Option Value) (h : Heap) (L : List Loc) : Prop := v = some (.int (own_rs zi)) ∧ Fr n0 L ∧ h = h0
set_option maxRecDepth 65536 in
set_option maxHeartbeats 40000000 in
theorem rm3 (l : Launch) (Z : State) (a0 : Array Value) (hw : ∀ d ∈ tables_1, d.before a0 Z = true) (ws : List Jvm.Cond) (zo : Addr) (zi : Int32) (h0 : Heap) (n0 : Nat) (Z0 : n0 ≤ h0.size) (P0 : Fld Z h0 zo "com/example/tersel/tersel/carrier/Pdu" "commandId" "I" (.int zi)) :
    MetFree l (⟨"com/example/tersel/tersel/carrier/Pdu", "isResponse", "()Z"⟩ : MethodName) (head1 (Jvm.Cond.code (⟨"com/example/tersel/tersel/carrier/Pdu", "isResponse", "()Z"⟩ : MethodName) prog_10_method_16_code 1 (some .boolean) :: ws) ({ frames := 0, cells := 0, slots := 0, locals := 0 } : Room)) (fun a U => a = #[(.ref zo)] ∧ Z.Warmed39 U.vm ∧ U.heap = h0) (fun _ _ _ _ _ => True) (fun _ U o U' => ∃ v L, o = .returned v ∧ Q3 Z zo zi h0 n0 v U'.heap L ∧ FrameEnd U o U' L ({ frames := 0, cells := 0, slots := 0, locals := 0 } : Room).cells ({ frames := 0, cells := 0, slots := 0, locals := 0 } : Room).slots) := by
  refine MetFree.of_bodySF (plainFor_of_name own_pn89979) hisR ?_
  intro p e s m args below meth c s₁ Bd hml0 hP hK
  obtain ⟨rfl, hZ, hh⟩ := hP
  have hx := Bd.exec
  have hby := Bd.bytes
  have hml : c.maxLocals = 1 := hml0
  have hown : s.vm.findClass "com/example/tersel/tersel/carrier/Pdu" = some m.cls := findClass_of_methodNamed Bd.named
  have hnm := (name_of_methodNamed Bd.named Bd.method).1
  have X0 : Stand p l e ({ frames := 0, cells := 0, slots := 0, locals := 0 } : Room) s m #[(.ref zo)] below meth c s₁ [] 0 0 := Stand.of_body Bd
  have e0 : s₁.heap = h0 := by rw [← hh, Bd.state]; rfl
  have N0 := Fr.nil n0
  have K0 := Keep.refl h0 ([] : List Addr)
  show own_WP p e below (own_E s (Q3 Z zo zi h0 n0) 0 0) s₁ (entryFrame m #[(.ref zo)] 1)
  rw [ef_3 m zo]
  show own_WP _ _ _ _ s₁ (mkF m 0 #[.val (.ref zo)] [])
  refine own_go (fun t k => XS.aloadN X0.here hx rfl (hb hby d3_0) rfl rfl  k) ?_
  show own_WP _ _ _ _ s₁ (mkF m 1 #[.val (.ref zo)] [(.ref zo)])
  obtain ⟨T1, X1, e1, st1⟩ := getF X0 hx hZ hown (host := "") (Or.inl (hw _ (List.mem_of_getElem? (i := 10) rfl))) Via.refl e0 P0 (g := (mkF m 1 #[.val (.ref zo)] [(.ref zo)])) rfl rfl (hb hby d3_1)
  refine own_go st1 ?_
  show own_WP _ _ _ _ T1 (mkF m 4 #[.val (.ref zo)] [(.int zi)])
  refine own_go (fun t k => X1.ldcInt hx hown (mvT hZ (hw _ (List.mem_of_getElem? (i := 32) rfl))) (g := (mkF m 4 #[.val (.ref zo)] [(.int zi)])) rfl (hb hby d3_4) t k) ?_
  show own_WP _ _ _ _ T1 (mkF m 6 #[.val (.ref zo)] [(.int (-2147483648 : Int32)), (.int zi)])
  refine own_go (fun t k => XS.iand X1.here hx rfl (hb hby d3_6) rfl k) ?_
  show own_WP _ _ _ _ T1 (mkF m 7 #[.val (.ref zo)] [(.int (zi &&& (-2147483648 : Int32)))])
  by_cases hc7 : (zi &&& (-2147483648 : Int32)) = (0 : Int32)
  · refine own_go (fun t k => XS.ifYes X1.here hx rfl (pc0 := 7) (pc' := 14) rfl (hb hby d3_7) rfl ((if0 _ _).trans (teq hc7).1) (by decide) (by decide) k) ?_
    show own_WP _ _ _ _ T1 (mkF m 14 #[.val (.ref zo)] [])
    refine own_go (fun t k => XS.iconst X1.here hx rfl (hb hby d3_14) k) ?_
    show own_WP _ _ _ _ T1 (mkF m 15 #[.val (.ref zo)] [(.int (0 : Int32))])
    refine own_retN X1 hx Bd.notSynchronized (t := .boolean) (by simp) Bd.returns (hb hby d3_15) (by decide) (by decide) ?_
    rw [e1]
    exact ⟨(congrArg (fun z => some (Value.int z)) (show (nar .boolean (0 : Int32)) = (own_rs zi) from by first | (simp [nar, own_rs, hc7]; done) | (simp only [if_true, if_false, eq_self, ↓reduceIte, own_rs, hc7]; first | done | rfl | decide))), N0, rfl⟩
  · refine own_go (fun t k => XS.ifNo X1.here hx rfl (hb hby d3_7) rfl ((if0 _ _).trans (feq hc7).1) k) ?_
    show own_WP _ _ _ _ T1 (mkF m 10 #[.val (.ref zo)] [])
    refine own_go (fun t k => XS.iconst X1.here hx rfl (hb hby d3_10) k) ?_
    show own_WP _ _ _ _ T1 (mkF m 11 #[.val (.ref zo)] [(.int (1 : Int32))])
    refine own_go (fun t k => XS.goto X1.here hx rfl (pc0 := 11) (pc' := 15) rfl (hb hby d3_11) (by decide) (by decide) k) ?_
    show own_WP _ _ _ _ T1 (mkF m 15 #[.val (.ref zo)] [(.int (1 : Int32))])
    refine own_retN X1 hx Bd.notSynchronized (t := .boolean) (by simp) Bd.returns (hb hby d3_15) (by decide) (by decide) ?_
    rw [e1]
    exact ⟨(congrArg (fun z => some (Value.int z)) (show (nar .boolean (1 : Int32)) = (own_rs zi) from by first | (simp [nar, own_rs, hc7]; done) | (simp only [if_true, if_false, eq_self, ↓reduceIte, own_rs, hc7]; first | done | rfl | decide))), N0, rfl⟩
theorem own_pd12665 : parseMethodDescriptor "(III[B)V" = some ⟨[.int, .int, .int, (.array .byte)], none⟩ := by decide +kernel
theorem d4_0 : decode prog_10_method_7_code 0 = .ok (.aload_n 0, 1) := by decide +kernel
theorem d4_1 : decode prog_10_method_7_code 1 = .ok (.getfield 7, 3) := by decide +kernel
theorem d4_4 : decode prog_10_method_7_code 4 = .ok (.iconst 5, 1) := by decide +kernel
theorem d4_5 : decode prog_10_method_7_code 5 = .ok (.if_icmp .ne 9, 3) := by decide +kernel
theorem d4_8 : decode prog_10_method_7_code 8 = .ok (.iconst 1, 1) := by decide +kernel
theorem d4_9 : decode prog_10_method_7_code 9 = .ok (.newarray .byte, 2) := by decide +kernel
theorem d4_11 : decode prog_10_method_7_code 11 = .ok (.goto 6, 3) := by decide +kernel
theorem d4_14 : decode prog_10_method_7_code 14 = .ok (.iconst 0, 1) := by decide +kernel
theorem d4_15 : decode prog_10_method_7_code 15 = .ok (.newarray .byte, 2) := by decide +kernel
theorem d4_17 : decode prog_10_method_7_code 17 = .ok (.astore_n 2, 1) := by decide +kernel
theorem d4_18 : decode prog_10_method_7_code 18 = .ok (.new 8, 3) := by decide +kernel
theorem d4_21 : decode prog_10_method_7_code 21 = .ok (.dup, 1) := by decide +kernel
theorem d4_22 : decode prog_10_method_7_code 22 = .ok (.aload_n 0, 1) := by decide +kernel
theorem d4_23 : decode prog_10_method_7_code 23 = .ok (.getfield 7, 3) := by decide +kernel
theorem d4_26 : decode prog_10_method_7_code 26 = .ok (.ldc 56, 2) := by decide +kernel
theorem d4_28 : decode prog_10_method_7_code 28 = .ok (.ior, 1) := by decide +kernel
theorem d4_29 : decode prog_10_method_7_code 29 = .ok (.iload_n 1, 1) := by decide +kernel
theorem d4_30 : decode prog_10_method_7_code 30 = .ok (.aload_n 0, 1) := by decide +kernel
theorem d4_31 : decode prog_10_method_7_code 31 = .ok (.getfield 16, 3) := by decide +kernel
theorem d4_34 : decode prog_10_method_7_code 34 = .ok (.aload_n 2, 1) := by decide +kernel
theorem d4_35 : decode prog_10_method_7_code 35 = .ok (.invokespecial 53, 3) := by decide +kernel
theorem d4_38 : decode prog_10_method_7_code 38 = .ok (.areturn, 1) := by decide +kernel
theorem ef_4 (m : MethodId) (zo : Addr) (zt : Int32) : entryFrame m #[(.ref zo), (.int zt)] 3 = mkF m 0 #[.val (.ref zo), .val (.int zt), .unset] [] := by first | (simp [entryFrame, mkF, argsToLocals, Value.category]; done) | rfl
def Q4 (Z : State) (zo : Addr) (zt : Int32) (zi : Int32) (zq : Int32) (h0 : Heap) (n0 : Nat) (v : Option Value) (h : Heap) (L : List Loc) : Prop := ∃ (rb : Addr), v = some (.ref rb) ∧ Fr n0 L ∧ Keep h0 h [] ∧ n0 ≤ rb ∧ h0.size ≤ rb ∧ Exa Z h rb "com/example/tersel/tersel/carrier/Pdu" ∧ Fld Z h rb "com/example/tersel/tersel/carrier/Pdu" "commandId" "I" (.int (zi ||| (-2147483648 : Int32)))
set_option maxRecDepth 65536 in
set_option maxHeartbeats 40000000 in
theorem rm4 (l : Launch) (Z : State) (a0 : Array Value) (hw : ∀ d ∈ tables_1, d.before a0 Z = true) (ws : List Jvm.Cond) (zo : Addr) (zt : Int32) (zi : Int32) (zq : Int32) (h0 : Heap) (n0 : Nat) (Z0 : n0 ≤ h0.size) (P0 : Fld Z h0 zo "com/example/tersel/tersel/carrier/Pdu" "commandId" "I" (.int zi)) (P1 : Fld Z h0 zo "com/example/tersel/tersel/carrier/Pdu" "sequenceNumber" "I" (.int zq)) :
    MetFree l (⟨"com/example/tersel/tersel/carrier/Pdu", "answer", "(I)Lcom/example/tersel/tersel/carrier/Pdu;"⟩ : MethodName) (head1 (Jvm.Cond.code (⟨"com/example/tersel/tersel/carrier/Pdu", "answer", "(I)Lcom/example/tersel/tersel/carrier/Pdu;"⟩ : MethodName) prog_10_method_7_code 3 (some (.object "com/example/tersel/tersel/carrier/Pdu")) :: ws) ({ frames := 2, cells := 3, slots := 6, locals := 32 } : Room)) (fun a U => a = #[(.ref zo), (.int zt)] ∧ Z.Warmed39 U.vm ∧ U.heap = h0) (fun _ _ _ _ _ => True) (fun _ U o U' => ∃ v L, o = .returned v ∧ Q4 Z zo zt zi zq h0 n0 v U'.heap L ∧ FrameEnd U o U' L ({ frames := 2, cells := 3, slots := 6, locals := 32 } : Room).cells ({ frames := 2, cells := 3, slots := 6, locals := 32 } : Room).slots) := by
  refine MetFree.of_bodySF (plainFor_of_name own_pn89979) hisR ?_
  intro p e s m args below meth c s₁ Bd hml0 hP hK
  obtain ⟨rfl, hZ, hh⟩ := hP
  have hx := Bd.exec
  have hby := Bd.bytes
  have hml : c.maxLocals = 3 := hml0
  have hown : s.vm.findClass "com/example/tersel/tersel/carrier/Pdu" = some m.cls := findClass_of_methodNamed Bd.named
  have hnm := (name_of_methodNamed Bd.named Bd.method).1
  have X0 : Stand p l e ({ frames := 2, cells := 3, slots := 6, locals := 32 } : Room) s m #[(.ref zo), (.int zt)] below meth c s₁ [] 0 0 := Stand.of_body Bd
  have e0 : s₁.heap = h0 := by rw [← hh, Bd.state]; rfl
  have N0 := Fr.nil n0
  have K0 := Keep.refl h0 ([] : List Addr)
  show own_WP p e below (own_E s (Q4 Z zo zt zi zq h0 n0) 3 6) s₁ (entryFrame m #[(.ref zo), (.int zt)] 3)
  rw [ef_4 m zo zt]
  show own_WP _ _ _ _ s₁ (mkF m 0 #[.val (.ref zo), .val (.int zt), .unset] [])
  refine own_go (fun t k => XS.aloadN X0.here hx rfl (hb hby d4_0) rfl rfl  k) ?_
  show own_WP _ _ _ _ s₁ (mkF m 1 #[.val (.ref zo), .val (.int zt), .unset] [(.ref zo)])
  obtain ⟨T1, X1, e1, st1⟩ := getF X0 hx hZ hown (host := "") (Or.inl (hw _ (List.mem_of_getElem? (i := 10) rfl))) Via.refl e0 P0 (g := (mkF m 1 #[.val (.ref zo), .val (.int zt), .unset] [(.ref zo)])) rfl rfl (hb hby d4_1)
  refine own_go st1 ?_
  show own_WP _ _ _ _ T1 (mkF m 4 #[.val (.ref zo), .val (.int zt), .unset] [(.int zi)])
  refine own_go (fun t k => XS.iconst X1.here hx rfl (hb hby d4_4) k) ?_
  show own_WP _ _ _ _ T1 (mkF m 5 #[.val (.ref zo), .val (.int zt), .unset] [(.int (5 : Int32)), (.int zi)])
  by_cases hc5 : zi = (5 : Int32)
  · refine own_go (fun t k => XS.icmpNo X1.here hx rfl (hb hby d4_5) rfl (teq hc5).2 k) ?_
    show own_WP _ _ _ _ T1 (mkF m 8 #[.val (.ref zo), .val (.int zt), .unset] [])
    refine own_go (fun t k => XS.iconst X1.here hx rfl (hb hby d4_8) k) ?_
    show own_WP _ _ _ _ T1 (mkF m 9 #[.val (.ref zo), .val (.int zt), .unset] [(.int (1 : Int32))])
    obtain ⟨T2, h2, k2, X2, e2, E2, A2, G2, st2⟩ := newPE X1 hx hZ (hw _ (List.mem_of_getElem? (i := 3) rfl)) e1 (g := (mkF m 9 #[.val (.ref zo), .val (.int zt), .unset] [(.int (1 : Int32))])) rfl (hb hby d4_9) rfl (by decide) (cap := 1) (by decide) (by decide) (by decide) (by decide) (ad := "[B") rfl
    obtain ⟨za, q2⟩ : ∃ z, z = h0.size := ⟨_, rfl⟩
    rw [← q2] at A2 G2 st2
    refine own_go st2 ?_
    have g_za : n0 ≤ za := Nat.le_trans (own_le Z0 K0) (Nat.le_of_eq q2.symm)
    have sz_za : h0.size ≤ za := Nat.le_trans K0.1 (Nat.le_of_eq q2.symm)
    have ne_zo_za : zo ≠ za := Nat.ne_of_lt (Nat.lt_of_lt_of_le P0.lt (Nat.le_of_eq q2.symm))
    have f3 : Fld Z h2 zo "com/example/tersel/tersel/carrier/Pdu" "commandId" "I" (.int zi) := P0.ext E2
    have f4 : Fld Z h2 zo "com/example/tersel/tersel/carrier/Pdu" "sequenceNumber" "I" (.int zq) := P1.ext E2
    have K5 : Keep h0 h2 [] := K0.ext E2
    have f6 : Arv Z h2 za k2 .byte (1 : Int32) [(.int (0 : Int32))] (.int (0 : Int32)) := (Arv.new A2 (by decide)).pad (pad_rep [] (.int (0 : Int32)) 1)
    show own_WP _ _ _ _ T2 (mkF m 11 #[.val (.ref zo), .val (.int zt), .unset] [(.ref za)])
    refine own_go (fun t k => XS.goto X2.here hx rfl (pc0 := 11) (pc' := 17) rfl (hb hby d4_11) (by decide) (by decide) k) ?_
    show own_WP _ _ _ _ T2 (mkF m 17 #[.val (.ref zo), .val (.int zt), .unset] [(.ref za)])
    refine own_go (fun t k => XS.astoreN X2.here hx rfl (hb hby d4_17) rfl rfl (l' := #[.val (.ref zo), .val (.int zt), .val (.ref za)]) rfl k) ?_
    show own_WP _ _ _ _ T2 (mkF m 18 #[.val (.ref zo), .val (.int zt), .val (.ref za)] [])
    obtain ⟨T7, h7, X7, e7, E7, A7, D7, -, st7⟩ := newO X2 hx hZ hown (hw _ (List.mem_of_getElem? (i := 38) rfl)) (hw _ (List.mem_of_getElem? (i := 1) rfl)) (hw _ (List.mem_of_getElem? (i := 2) rfl)) e2 (g := (mkF m 18 #[.val (.ref zo), .val (.int zt), .val (.ref za)] [])) rfl (hb hby d4_18) (by decide) (by decide)
    obtain ⟨zb, q7⟩ : ∃ z, z = h2.size := ⟨_, rfl⟩
    rw [← q7] at A7 D7 st7
    refine own_go st7 ?_
    have g_zb : n0 ≤ zb := Nat.le_trans (own_le Z0 K5) (Nat.le_of_eq q7.symm)
    have sz_zb : h0.size ≤ zb := Nat.le_trans K5.1 (Nat.le_of_eq q7.symm)
    have ne_zo_zb : zo ≠ zb := Nat.ne_of_lt (Nat.lt_of_lt_of_le f3.lt (Nat.le_of_eq q7.symm))
    have ne_za_zb : za ≠ zb := Nat.ne_of_lt (Nat.lt_of_lt_of_le G2.lt (Nat.le_of_eq q7.symm))
    have f8 : Fld Z h7 zo "com/example/tersel/tersel/carrier/Pdu" "commandId" "I" (.int zi) := f3.ext E7
    have f9 : Fld Z h7 zo "com/example/tersel/tersel/carrier/Pdu" "sequenceNumber" "I" (.int zq) := f4.ext E7
    have f10 : Exa Z h7 za "[B" := G2.ext E7
    have f11 : Arv Z h7 za k2 .byte (1 : Int32) [(.int (0 : Int32))] (.int (0 : Int32)) := f6.ext E7
    have K12 : Keep h0 h7 [] := K5.ext E7
    have f13 : Fld Z h7 zb "com/example/tersel/tersel/carrier/Pdu" "commandId" "I" (.int (0 : Int32)) := D7 (Or.inr (hw _ (List.mem_of_getElem? (i := 11) rfl))) (ty := .int) (by decide)
    have f14 : Fld Z h7 zb "com/example/tersel/tersel/carrier/Pdu" "commandStatus" "I" (.int (0 : Int32)) := D7 (Or.inr (hw _ (List.mem_of_getElem? (i := 13) rfl))) (ty := .int) (by decide)
    have f15 : Fld Z h7 zb "com/example/tersel/tersel/carrier/Pdu" "sequenceNumber" "I" (.int (0 : Int32)) := D7 (Or.inr (hw _ (List.mem_of_getElem? (i := 15) rfl))) (ty := .int) (by decide)
    have f16 : Fld Z h7 zb "com/example/tersel/tersel/carrier/Pdu" "body" "[B" .null := D7 (Or.inr (hw _ (List.mem_of_getElem? (i := 26) rfl))) (ty := (.array .byte)) (by decide)
    show own_WP _ _ _ _ T7 (mkF m 21 #[.val (.ref zo), .val (.int zt), .val (.ref za)] [(.ref zb)])
    refine own_go (fun t k => XS.dup X7.here hx rfl (hb hby d4_21) rfl rfl k) ?_
    show own_WP _ _ _ _ T7 (mkF m 22 #[.val (.ref zo), .val (.int zt), .val (.ref za)] [(.ref zb), (.ref zb)])
    refine own_go (fun t k => XS.aloadN X7.here hx rfl (hb hby d4_22) rfl rfl  k) ?_
    show own_WP _ _ _ _ T7 (mkF m 23 #[.val (.ref zo), .val (.int zt), .val (.ref za)] [(.ref zo), (.ref zb), (.ref zb)])
    obtain ⟨T17, X17, e17, st17⟩ := getF X7 hx hZ hown (host := "") (Or.inl (hw _ (List.mem_of_getElem? (i := 10) rfl))) Via.refl e7 f8 (g := (mkF m 23 #[.val (.ref zo), .val (.int zt), .val (.ref za)] [(.ref zo), (.ref zb), (.ref zb)])) rfl rfl (hb hby d4_23)
    refine own_go st17 ?_
    show own_WP _ _ _ _ T17 (mkF m 26 #[.val (.ref zo), .val (.int zt), .val (.ref za)] [(.int zi), (.ref zb), (.ref zb)])
    refine own_go (fun t k => X17.ldcInt hx hown (mvT hZ (hw _ (List.mem_of_getElem? (i := 32) rfl))) (g := (mkF m 26 #[.val (.ref zo), .val (.int zt), .val (.ref za)] [(.int zi), (.ref zb), (.ref zb)])) rfl (hb hby d4_26) t k) ?_
    show own_WP _ _ _ _ T17 (mkF m 28 #[.val (.ref zo), .val (.int zt), .val (.ref za)] [(.int (-2147483648 : Int32)), (.int zi), (.ref zb), (.ref zb)])
    refine own_go (fun t k => XS.ior X17.here hx rfl (hb hby d4_28) rfl k) ?_
    show own_WP _ _ _ _ T17 (mkF m 29 #[.val (.ref zo), .val (.int zt), .val (.ref za)] [(.int (zi ||| (-2147483648 : Int32))), (.ref zb), (.ref zb)])
    refine own_go (fun t k => XS.iloadN X17.here hx rfl (hb hby d4_29) rfl  k) ?_
    show own_WP _ _ _ _ T17 (mkF m 30 #[.val (.ref zo), .val (.int zt), .val (.ref za)] [(.int zt), (.int (zi ||| (-2147483648 : Int32))), (.ref zb), (.ref zb)])
    refine own_go (fun t k => XS.aloadN X17.here hx rfl (hb hby d4_30) rfl rfl  k) ?_
    show own_WP _ _ _ _ T17 (mkF m 31 #[.val (.ref zo), .val (.int zt), .val (.ref za)] [(.ref zo), (.int zt), (.int (zi ||| (-2147483648 : Int32))), (.ref zb), (.ref zb)])
    obtain ⟨T18, X18, e18, st18⟩ := getF X17 hx hZ hown (host := "") (Or.inl (hw _ (List.mem_of_getElem? (i := 14) rfl))) Via.refl e17 f9 (g := (mkF m 31 #[.val (.ref zo), .val (.int zt), .val (.ref za)] [(.ref zo), (.int zt), (.int (zi ||| (-2147483648 : Int32))), (.ref zb), (.ref zb)])) rfl rfl (hb hby d4_31)
    refine own_go st18 ?_
    show own_WP _ _ _ _ T18 (mkF m 34 #[.val (.ref zo), .val (.int zt), .val (.ref za)] [(.int zq), (.int zt), (.int (zi ||| (-2147483648 : Int32))), (.ref zb), (.ref zb)])
    refine own_go (fun t k => XS.aloadN X18.here hx rfl (hb hby d4_34) rfl rfl  k) ?_
    show own_WP _ _ _ _ T18 (mkF m 35 #[.val (.ref zo), .val (.int zt), .val (.ref za)] [(.ref za), (.int zq), (.int zt), (.int (zi ||| (-2147483648 : Int32))), (.ref zb), (.ref zb)])
    obtain ⟨_, _, ⟨T19, L19, k19, n19⟩, -, X19, ⟨Lc19, hQ19, l19, y19, z19⟩, st19⟩ := X18.specialBack hx (y := (⟨"com/example/tersel/tersel/carrier/Pdu", "<init>", "(III[B)V"⟩ : MethodName)) rfl hown (mvT hZ (hw _ (List.mem_of_getElem? (i := 39) rfl))) (mvT hZ (hw _ (List.mem_of_getElem? (i := 5) rfl))) (mvT hZ (hw _ (List.mem_of_getElem? (i := 6) rfl))) (by decide) (backOf (W := 1) (rm1 l Z a0 hw [] zb (zi ||| (-2147483648 : Int32)) zt zq za (.int (0 : Int32)) (.int (0 : Int32)) (.int (0 : Int32)) .null k2 (1 : Int32) [(.int (0 : Int32))] (.int (0 : Int32)) h7 n0 (own_le Z0 K12) A7 f13 f14 f15 f16 f11 f10 g_zb ne_za_zb (show (1 : Int32).toNatClampNeg ≤ 1 from by decide)) hZ (hw _ (List.mem_of_getElem? (i := 6) rfl)) (hw _ (List.mem_of_getElem? (i := 2) rfl)) (by decide) (by decide)) (g := (mkF m 35 #[.val (.ref zo), .val (.int zt), .val (.ref za)] [(.ref za), (.int zq), (.int zt), (.int (zi ||| (-2147483648 : Int32))), (.ref zb), (.ref zb)])) rfl (by rw [hml]; rfl) (Steps.refl _) (a := zb) (argsL := [(.int (zi ||| (-2147483648 : Int32))), (.int zt), (.int zq), (.ref za)]) (rest := [(.ref zb)]) (lenOf own_pd12665 rfl) rfl (by show 2 * 0 + _ ≤ _; exact Nat.le_of_eq rfl) (hb hby d4_35) (fun _ _ => ⟨rfl, e18, (by decide : 2 + 1 ≤ _), (by decide : 5 + 1 ≤ _)⟩)
    dsimp only [Pt.U, Pt.locs, Pt.cells, Pt.slots] at X19 l19 y19 z19 st19 hQ19
    subst l19 y19 z19
    obtain ⟨rfl, N19q, Kc19, f20, f21, f22⟩ := hQ19
    have N19 := Fr.app N0 N19q
    refine own_tr st19 ?_
    have f23 : Fld Z T19.heap zo "com/example/tersel/tersel/carrier/Pdu" "commandId" "I" (.int zi) := f8.keep Kc19 (own_nm ne_zo_zb)
    have f24 : Fld Z T19.heap zo "com/example/tersel/tersel/carrier/Pdu" "sequenceNumber" "I" (.int zq) := f9.keep Kc19 (own_nm ne_zo_zb)
    have f25 : Exa Z T19.heap za "[B" := f10.keep Kc19
    have f26 : Arv Z T19.heap za k2 .byte (1 : Int32) [(.int (0 : Int32))] (.int (0 : Int32)) := f11.keep Kc19 (own_nm ne_za_zb)
    have f27 : Exa Z T19.heap zb "com/example/tersel/tersel/carrier/Pdu" := A7.keep Kc19
    have K32 : Keep h0 T19.heap [] := K12.trans Kc19 (fun x hx => by cases List.mem_singleton.mp hx; exact Or.inr sz_zb)
    show own_WP _ _ _ _ T19 (mkF m 38 #[.val (.ref zo), .val (.int zt), .val (.ref za)] [(.ref zb)])
    refine own_retA X19 hx Bd.notSynchronized rfl rfl Bd.returns (hb hby d4_38) (by decide) (by decide) ?_
    exact ⟨zb, rfl, N19, K32, g_zb, sz_zb, f20, f21⟩
  · refine own_go (fun t k => XS.icmpYes X1.here hx rfl (pc0 := 5) (pc' := 14) rfl (hb hby d4_5) rfl (feq hc5).2 (by decide) (by decide) k) ?_
    show own_WP _ _ _ _ T1 (mkF m 14 #[.val (.ref zo), .val (.int zt), .unset] [])
    refine own_go (fun t k => XS.iconst X1.here hx rfl (hb hby d4_14) k) ?_
    show own_WP _ _ _ _ T1 (mkF m 15 #[.val (.ref zo), .val (.int zt), .unset] [(.int (0 : Int32))])
    obtain ⟨T33, h33, k33, X33, e33, E33, A33, G33, st33⟩ := newPE X1 hx hZ (hw _ (List.mem_of_getElem? (i := 3) rfl)) e1 (g := (mkF m 15 #[.val (.ref zo), .val (.int zt), .unset] [(.int (0 : Int32))])) rfl (hb hby d4_15) rfl (by decide) (cap := 0) (by decide) (by decide) (by decide) (by decide) (ad := "[B") rfl
    obtain ⟨za, q33⟩ : ∃ z, z = h0.size := ⟨_, rfl⟩
    rw [← q33] at A33 G33 st33
    refine own_go st33 ?_
    have g_za : n0 ≤ za := Nat.le_trans (own_le Z0 K0) (Nat.le_of_eq q33.symm)
    have sz_za : h0.size ≤ za := Nat.le_trans K0.1 (Nat.le_of_eq q33.symm)
    have ne_zo_za : zo ≠ za := Nat.ne_of_lt (Nat.lt_of_lt_of_le P0.lt (Nat.le_of_eq q33.symm))
    have f34 : Fld Z h33 zo "com/example/tersel/tersel/carrier/Pdu" "commandId" "I" (.int zi) := P0.ext E33
    have f35 : Fld Z h33 zo "com/example/tersel/tersel/carrier/Pdu" "sequenceNumber" "I" (.int zq) := P1.ext E33
    have K36 : Keep h0 h33 [] := K0.ext E33
    have f37 : Arv Z h33 za k33 .byte (0 : Int32) [] (.int (0 : Int32)) := (Arv.new A33 (by decide)).pad (pad_rep [] (.int (0 : Int32)) 0)
    show own_WP _ _ _ _ T33 (mkF m 17 #[.val (.ref zo), .val (.int zt), .unset] [(.ref za)])
    refine own_go (fun t k => XS.astoreN X33.here hx rfl (hb hby d4_17) rfl rfl (l' := #[.val (.ref zo), .val (.int zt), .val (.ref za)]) rfl k) ?_
    show own_WP _ _ _ _ T33 (mkF m 18 #[.val (.ref zo), .val (.int zt), .val (.ref za)] [])
    obtain ⟨T38, h38, X38, e38, E38, A38, D38, -, st38⟩ := newO X33 hx hZ hown (hw _ (List.mem_of_getElem? (i := 38) rfl)) (hw _ (List.mem_of_getElem? (i := 1) rfl)) (hw _ (List.mem_of_getElem? (i := 2) rfl)) e33 (g := (mkF m 18 #[.val (.ref zo), .val (.int zt), .val (.ref za)] [])) rfl (hb hby d4_18) (by decide) (by decide)
    obtain ⟨zb, q38⟩ : ∃ z, z = h33.size := ⟨_, rfl⟩
    rw [← q38] at A38 D38 st38
    refine own_go st38 ?_
    have g_zb : n0 ≤ zb := Nat.le_trans (own_le Z0 K36) (Nat.le_of_eq q38.symm)
    have sz_zb : h0.size ≤ zb := Nat.le_trans K36.1 (Nat.le_of_eq q38.symm)
    have ne_zo_zb : zo ≠ zb := Nat.ne_of_lt (Nat.lt_of_lt_of_le f34.lt (Nat.le_of_eq q38.symm))
    have ne_za_zb : za ≠ zb := Nat.ne_of_lt (Nat.lt_of_lt_of_le G33.lt (Nat.le_of_eq q38.symm))
    have f39 : Fld Z h38 zo "com/example/tersel/tersel/carrier/Pdu" "commandId" "I" (.int zi) := f34.ext E38
    have f40 : Fld Z h38 zo "com/example/tersel/tersel/carrier/Pdu" "sequenceNumber" "I" (.int zq) := f35.ext E38
    have f41 : Exa Z h38 za "[B" := G33.ext E38
    have f42 : Arv Z h38 za k33 .byte (0 : Int32) [] (.int (0 : Int32)) := f37.ext E38
    have K43 : Keep h0 h38 [] := K36.ext E38
    have f44 : Fld Z h38 zb "com/example/tersel/tersel/carrier/Pdu" "commandId" "I" (.int (0 : Int32)) := D38 (Or.inr (hw _ (List.mem_of_getElem? (i := 11) rfl))) (ty := .int) (by decide)
    have f45 : Fld Z h38 zb "com/example/tersel/tersel/carrier/Pdu" "commandStatus" "I" (.int (0 : Int32)) := D38 (Or.inr (hw _ (List.mem_of_getElem? (i := 13) rfl))) (ty := .int) (by decide)
    have f46 : Fld Z h38 zb "com/example/tersel/tersel/carrier/Pdu" "sequenceNumber" "I" (.int (0 : Int32)) := D38 (Or.inr (hw _ (List.mem_of_getElem? (i := 15) rfl))) (ty := .int) (by decide)
    have f47 : Fld Z h38 zb "com/example/tersel/tersel/carrier/Pdu" "body" "[B" .null := D38 (Or.inr (hw _ (List.mem_of_getElem? (i := 26) rfl))) (ty := (.array .byte)) (by decide)
    show own_WP _ _ _ _ T38 (mkF m 21 #[.val (.ref zo), .val (.int zt), .val (.ref za)] [(.ref zb)])
    refine own_go (fun t k => XS.dup X38.here hx rfl (hb hby d4_21) rfl rfl k) ?_
    show own_WP _ _ _ _ T38 (mkF m 22 #[.val (.ref zo), .val (.int zt), .val (.ref za)] [(.ref zb), (.ref zb)])
    refine own_go (fun t k => XS.aloadN X38.here hx rfl (hb hby d4_22) rfl rfl  k) ?_
    show own_WP _ _ _ _ T38 (mkF m 23 #[.val (.ref zo), .val (.int zt), .val (.ref za)] [(.ref zo), (.ref zb), (.ref zb)])
    obtain ⟨T48, X48, e48, st48⟩ := getF X38 hx hZ hown (host := "") (Or.inl (hw _ (List.mem_of_getElem? (i := 10) rfl))) Via.refl e38 f39 (g := (mkF m 23 #[.val (.ref zo), .val (.int zt), .val (.ref za)] [(.ref zo), (.ref zb), (.ref zb)])) rfl rfl (hb hby d4_23)
    refine own_go st48 ?_
    show own_WP _ _ _ _ T48 (mkF m 26 #[.val (.ref zo), .val (.int zt), .val (.ref za)] [(.int zi), (.ref zb), (.ref zb)])
    refine own_go (fun t k => X48.ldcInt hx hown (mvT hZ (hw _ (List.mem_of_getElem? (i := 32) rfl))) (g := (mkF m 26 #[.val (.ref zo), .val (.int zt), .val (.ref za)] [(.int zi), (.ref zb), (.ref zb)])) rfl (hb hby d4_26) t k) ?_
    show own_WP _ _ _ _ T48 (mkF m 28 #[.val (.ref zo), .val (.int zt), .val (.ref za)] [(.int (-2147483648 : Int32)), (.int zi), (.ref zb), (.ref zb)])
    refine own_go (fun t k => XS.ior X48.here hx rfl (hb hby d4_28) rfl k) ?_
    show own_WP _ _ _ _ T48 (mkF m 29 #[.val (.ref zo), .val (.int zt), .val (.ref za)] [(.int (zi ||| (-2147483648 : Int32))), (.ref zb), (.ref zb)])
    refine own_go (fun t k => XS.iloadN X48.here hx rfl (hb hby d4_29) rfl  k) ?_
    show own_WP _ _ _ _ T48 (mkF m 30 #[.val (.ref zo), .val (.int zt), .val (.ref za)] [(.int zt), (.int (zi ||| (-2147483648 : Int32))), (.ref zb), (.ref zb)])
    refine own_go (fun t k => XS.aloadN X48.here hx rfl (hb hby d4_30) rfl rfl  k) ?_
    show own_WP _ _ _ _ T48 (mkF m 31 #[.val (.ref zo), .val (.int zt), .val (.ref za)] [(.ref zo), (.int zt), (.int (zi ||| (-2147483648 : Int32))), (.ref zb), (.ref zb)])
    obtain ⟨T49, X49, e49, st49⟩ := getF X48 hx hZ hown (host := "") (Or.inl (hw _ (List.mem_of_getElem? (i := 14) rfl))) Via.refl e48 f40 (g := (mkF m 31 #[.val (.ref zo), .val (.int zt), .val (.ref za)] [(.ref zo), (.int zt), (.int (zi ||| (-2147483648 : Int32))), (.ref zb), (.ref zb)])) rfl rfl (hb hby d4_31)
    refine own_go st49 ?_
    show own_WP _ _ _ _ T49 (mkF m 34 #[.val (.ref zo), .val (.int zt), .val (.ref za)] [(.int zq), (.int zt), (.int (zi ||| (-2147483648 : Int32))), (.ref zb), (.ref zb)])
    refine own_go (fun t k => XS.aloadN X49.here hx rfl (hb hby d4_34) rfl rfl  k) ?_
    show own_WP _ _ _ _ T49 (mkF m 35 #[.val (.ref zo), .val (.int zt), .val (.ref za)] [(.ref za), (.int zq), (.int zt), (.int (zi ||| (-2147483648 : Int32))), (.ref zb), (.ref zb)])
    obtain ⟨_, _, ⟨T50, L50, k50, n50⟩, -, X50, ⟨Lc50, hQ50, l50, y50, z50⟩, st50⟩ := X49.specialBack hx (y := (⟨"com/example/tersel/tersel/carrier/Pdu", "<init>", "(III[B)V"⟩ : MethodName)) rfl hown (mvT hZ (hw _ (List.mem_of_getElem? (i := 39) rfl))) (mvT hZ (hw _ (List.mem_of_getElem? (i := 5) rfl))) (mvT hZ (hw _ (List.mem_of_getElem? (i := 6) rfl))) (by decide) (backOf (W := 1) (rm1 l Z a0 hw [] zb (zi ||| (-2147483648 : Int32)) zt zq za (.int (0 : Int32)) (.int (0 : Int32)) (.int (0 : Int32)) .null k33 (0 : Int32) [] (.int (0 : Int32)) h38 n0 (own_le Z0 K43) A38 f44 f45 f46 f47 f42 f41 g_zb ne_za_zb (show (0 : Int32).toNatClampNeg ≤ 1 from by decide)) hZ (hw _ (List.mem_of_getElem? (i := 6) rfl)) (hw _ (List.mem_of_getElem? (i := 2) rfl)) (by decide) (by decide)) (g := (mkF m 35 #[.val (.ref zo), .val (.int zt), .val (.ref za)] [(.ref za), (.int zq), (.int zt), (.int (zi ||| (-2147483648 : Int32))), (.ref zb), (.ref zb)])) rfl (by rw [hml]; rfl) (Steps.refl _) (a := zb) (argsL := [(.int (zi ||| (-2147483648 : Int32))), (.int zt), (.int zq), (.ref za)]) (rest := [(.ref zb)]) (lenOf own_pd12665 rfl) rfl (by show 2 * 0 + _ ≤ _; exact Nat.le_of_eq rfl) (hb hby d4_35) (fun _ _ => ⟨rfl, e49, (by decide : 2 + 1 ≤ _), (by decide : 4 + 1 ≤ _)⟩)
    dsimp only [Pt.U, Pt.locs, Pt.cells, Pt.slots] at X50 l50 y50 z50 st50 hQ50
    subst l50 y50 z50
    obtain ⟨rfl, N50q, Kc50, f51, f52, f53⟩ := hQ50
    have N50 := Fr.app N0 N50q
    refine own_tr st50 ?_
    have f54 : Fld Z T50.heap zo "com/example/tersel/tersel/carrier/Pdu" "commandId" "I" (.int zi) := f39.keep Kc50 (own_nm ne_zo_zb)
    have f55 : Fld Z T50.heap zo "com/example/tersel/tersel/carrier/Pdu" "sequenceNumber" "I" (.int zq) := f40.keep Kc50 (own_nm ne_zo_zb)
    have f56 : Exa Z T50.heap za "[B" := f41.keep Kc50
    have f57 : Arv Z T50.heap za k33 .byte (0 : Int32) [] (.int (0 : Int32)) := f42.keep Kc50 (own_nm ne_za_zb)
    have f58 : Exa Z T50.heap zb "com/example/tersel/tersel/carrier/Pdu" := A38.keep Kc50
    have K63 : Keep h0 T50.heap [] := K43.trans Kc50 (fun x hx => by cases List.mem_singleton.mp hx; exact Or.inr sz_zb)
    show own_WP _ _ _ _ T50 (mkF m 38 #[.val (.ref zo), .val (.int zt), .val (.ref za)] [(.ref zb)])
    refine own_retA X50 hx Bd.notSynchronized rfl rfl Bd.returns (hb hby d4_38) (by decide) (by decide) ?_
    exact ⟨zb, rfl, N50, K63, g_zb, sz_zb, f51, f52⟩
theorem own_pd91901 : parseMethodDescriptor "()Z" = some ⟨[], some .boolean⟩ := by decide +kernel
theorem own_pd40732 : parseMethodDescriptor "(I)Lcom/example/tersel/tersel/carrier/Pdu;" = some ⟨[.int], some (.object "com/example/tersel/tersel/carrier/Pdu")⟩ := by decide +kernel
theorem own_pn34727 : plainName "com/example/tersel/tersel/carrier/PduIsResponsePinLaw" = true := by first | (simp [plainName, overriddenIn]; done) | decide +kernel
theorem ef_0 (m : MethodId) (zc : Int32) (zt : Int32) (zq : Int32) : entryFrame m #[(.int zc), (.int zt), (.int zq)] maxLocals = mkF m 0 #[.val (.int zc), .val (.int zt), .val (.int zq), .unset, .unset, .unset] [] := by first | (simp [entryFrame, mkF, argsToLocals, Value.category, maxLocals]; done) | rfl
def Q0 (Z : State) (zc : Int32) (zt : Int32) (zq : Int32) (h0 : Heap) (n0 : Nat) (v : Option Value) (h : Heap) (L : List Loc) : Prop := v = some (.int 1) ∧ Fr n0 L
set_option maxRecDepth 65536 in
set_option maxHeartbeats 40000000 in
theorem rm0 (l : Launch) (Z : State) (a0 : Array Value) (hw : ∀ d ∈ tables_1, d.before a0 Z = true) (ws : List Jvm.Cond) (zc : Int32) (zt : Int32) (zq : Int32) (h0 : Heap) (n0 : Nat) (Z0 : n0 ≤ h0.size)  :
    MetFree l x (head1 (Jvm.Cond.code x code maxLocals ret :: ws) room_1) (fun a U => a = #[(.int zc), (.int zt), (.int zq)] ∧ Z.Warmed39 U.vm ∧ U.heap = h0) (fun _ _ _ _ _ => True) (fun _ U o U' => ∃ v L, o = .returned v ∧ Q0 Z zc zt zq h0 n0 v U'.heap L ∧ FrameEnd U o U' L 6 11) := by
  refine MetFree.of_bodySF (plainFor_of_name own_pn34727) hisR ?_
  intro p e s m args below meth c s₁ Bd hml0 hP hK
  obtain ⟨rfl, hZ, hh⟩ := hP
  have hx := Bd.exec
  have hby := Bd.bytes
  have hml : c.maxLocals = 6 := hml0
  have hown : s.vm.findClass "com/example/tersel/tersel/carrier/PduIsResponsePinLaw" = some m.cls := findClass_of_methodNamed Bd.named
  have hnm := (name_of_methodNamed Bd.named Bd.method).1
  have X0 : Stand p l e room_1 s m #[(.int zc), (.int zt), (.int zq)] below meth c s₁ [] 0 0 := Stand.of_body Bd
  have e0 : s₁.heap = h0 := by rw [← hh, Bd.state]; rfl
  have N0 := Fr.nil n0
  have K0 := Keep.refl h0 ([] : List Addr)
  show own_WP p e below (own_E s (Q0 Z zc zt zq h0 n0) 6 11) s₁ (entryFrame m #[(.int zc), (.int zt), (.int zq)] maxLocals)
  rw [ef_0 m zc zt zq]
  show own_WP _ _ _ _ s₁ (mkF m 0 #[.val (.int zc), .val (.int zt), .val (.int zq), .unset, .unset, .unset] [])
  obtain ⟨T1, h1, X1, e1, E1, A1, D1, -, st1⟩ := newO X0 hx hZ hown (hw _ (List.mem_of_getElem? (i := 0) rfl)) (hw _ (List.mem_of_getElem? (i := 1) rfl)) (hw _ (List.mem_of_getElem? (i := 2) rfl)) e0 (g := (mkF m 0 #[.val (.int zc), .val (.int zt), .val (.int zq), .unset, .unset, .unset] [])) rfl (hb hby at_0) (by decide) (by decide)
  obtain ⟨zo, q1⟩ : ∃ z, z = h0.size := ⟨_, rfl⟩
  rw [← q1] at A1 D1 st1
  refine own_go st1 ?_
  have g_zo : n0 ≤ zo := Nat.le_trans (own_le Z0 K0) (Nat.le_of_eq q1.symm)
  have sz_zo : h0.size ≤ zo := Nat.le_trans K0.1 (Nat.le_of_eq q1.symm)
  have K2 : Keep h0 h1 [] := K0.ext E1
  have f3 : Fld Z h1 zo "com/example/tersel/tersel/carrier/Pdu" "commandId" "I" (.int (0 : Int32)) := D1 (Or.inr (hw _ (List.mem_of_getElem? (i := 11) rfl))) (ty := .int) (by decide)
  have f4 : Fld Z h1 zo "com/example/tersel/tersel/carrier/Pdu" "commandStatus" "I" (.int (0 : Int32)) := D1 (Or.inr (hw _ (List.mem_of_getElem? (i := 13) rfl))) (ty := .int) (by decide)
  have f5 : Fld Z h1 zo "com/example/tersel/tersel/carrier/Pdu" "sequenceNumber" "I" (.int (0 : Int32)) := D1 (Or.inr (hw _ (List.mem_of_getElem? (i := 15) rfl))) (ty := .int) (by decide)
  have f6 : Fld Z h1 zo "com/example/tersel/tersel/carrier/Pdu" "body" "[B" .null := D1 (Or.inr (hw _ (List.mem_of_getElem? (i := 26) rfl))) (ty := (.array .byte)) (by decide)
  show own_WP _ _ _ _ T1 (mkF m 3 #[.val (.int zc), .val (.int zt), .val (.int zq), .unset, .unset, .unset] [(.ref zo)])
  refine own_go (fun t k => XS.dup X1.here hx rfl (hb hby at_3) rfl rfl k) ?_
  show own_WP _ _ _ _ T1 (mkF m 4 #[.val (.int zc), .val (.int zt), .val (.int zq), .unset, .unset, .unset] [(.ref zo), (.ref zo)])
  refine own_go (fun t k => XS.iloadN X1.here hx rfl (hb hby at_4) rfl  k) ?_
  show own_WP _ _ _ _ T1 (mkF m 5 #[.val (.int zc), .val (.int zt), .val (.int zq), .unset, .unset, .unset] [(.int zc), (.ref zo), (.ref zo)])
  refine own_go (fun t k => XS.iloadN X1.here hx rfl (hb hby at_5) rfl  k) ?_
  show own_WP _ _ _ _ T1 (mkF m 6 #[.val (.int zc), .val (.int zt), .val (.int zq), .unset, .unset, .unset] [(.int zt), (.int zc), (.ref zo), (.ref zo)])
  refine own_go (fun t k => XS.iloadN X1.here hx rfl (hb hby at_6) rfl  k) ?_
  show own_WP _ _ _ _ T1 (mkF m 7 #[.val (.int zc), .val (.int zt), .val (.int zq), .unset, .unset, .unset] [(.int zq), (.int zt), (.int zc), (.ref zo), (.ref zo)])
  refine own_go (fun t k => XS.iconst X1.here hx rfl (hb hby at_7) k) ?_
  show own_WP _ _ _ _ T1 (mkF m 8 #[.val (.int zc), .val (.int zt), .val (.int zq), .unset, .unset, .unset] [(.int (0 : Int32)), (.int zq), (.int zt), (.int zc), (.ref zo), (.ref zo)])
  obtain ⟨T7, h7, k7, X7, e7, E7, A7, G7, st7⟩ := newPE X1 hx hZ (hw _ (List.mem_of_getElem? (i := 3) rfl)) e1 (g := (mkF m 8 #[.val (.int zc), .val (.int zt), .val (.int zq), .unset, .unset, .unset] [(.int (0 : Int32)), (.int zq), (.int zt), (.int zc), (.ref zo), (.ref zo)])) rfl (hb hby at_8) rfl (by decide) (cap := 0) (by decide) (by decide) (by decide) (by decide) (ad := "[B") rfl
  obtain ⟨za, q7⟩ : ∃ z, z = h1.size := ⟨_, rfl⟩
  rw [← q7] at A7 G7 st7
  refine own_go st7 ?_
  have g_za : n0 ≤ za := Nat.le_trans (own_le Z0 K2) (Nat.le_of_eq q7.symm)
  have sz_za : h0.size ≤ za := Nat.le_trans K2.1 (Nat.le_of_eq q7.symm)
  have ne_zo_za : zo ≠ za := Nat.ne_of_lt (Nat.lt_of_lt_of_le A1.lt (Nat.le_of_eq q7.symm))
  have f8 : Exa Z h7 zo "com/example/tersel/tersel/carrier/Pdu" := A1.ext E7
  have f9 : Fld Z h7 zo "com/example/tersel/tersel/carrier/Pdu" "commandId" "I" (.int (0 : Int32)) := f3.ext E7
  have f10 : Fld Z h7 zo "com/example/tersel/tersel/carrier/Pdu" "commandStatus" "I" (.int (0 : Int32)) := f4.ext E7
  have f11 : Fld Z h7 zo "com/example/tersel/tersel/carrier/Pdu" "sequenceNumber" "I" (.int (0 : Int32)) := f5.ext E7
  have f12 : Fld Z h7 zo "com/example/tersel/tersel/carrier/Pdu" "body" "[B" .null := f6.ext E7
  have K13 : Keep h0 h7 [] := K2.ext E7
  have f14 : Arv Z h7 za k7 .byte (0 : Int32) [] (.int (0 : Int32)) := (Arv.new A7 (by decide)).pad (pad_rep [] (.int (0 : Int32)) 0)
  show own_WP _ _ _ _ T7 (mkF m 10 #[.val (.int zc), .val (.int zt), .val (.int zq), .unset, .unset, .unset] [(.ref za), (.int zq), (.int zt), (.int zc), (.ref zo), (.ref zo)])
  obtain ⟨_, _, ⟨T15, L15, k15, n15⟩, -, X15, ⟨Lc15, hQ15, l15, y15, z15⟩, st15⟩ := X7.specialBack hx (y := (⟨"com/example/tersel/tersel/carrier/Pdu", "<init>", "(III[B)V"⟩ : MethodName)) rfl hown (mvT hZ (hw _ (List.mem_of_getElem? (i := 4) rfl))) (mvT hZ (hw _ (List.mem_of_getElem? (i := 5) rfl))) (mvT hZ (hw _ (List.mem_of_getElem? (i := 6) rfl))) (by decide) (backOf (W := 1) (rm1 l Z a0 hw [] zo zc zt zq za (.int (0 : Int32)) (.int (0 : Int32)) (.int (0 : Int32)) .null k7 (0 : Int32) [] (.int (0 : Int32)) h7 n0 (own_le Z0 K13) f8 f9 f10 f11 f12 f14 G7 g_zo (Ne.symm ne_zo_za) (show (0 : Int32).toNatClampNeg ≤ 1 from by decide)) hZ (hw _ (List.mem_of_getElem? (i := 6) rfl)) (hw _ (List.mem_of_getElem? (i := 2) rfl)) (by decide) (by decide)) (g := (mkF m 10 #[.val (.int zc), .val (.int zt), .val (.int zq), .unset, .unset, .unset] [(.ref za), (.int zq), (.int zt), (.int zc), (.ref zo), (.ref zo)])) rfl (by rw [hml]; rfl) (Steps.refl _) (a := zo) (argsL := [(.int zc), (.int zt), (.int zq), (.ref za)]) (rest := [(.ref zo)]) (lenOf own_pd12665 rfl) rfl (by show 2 * 0 + _ ≤ _; exact Nat.le_of_eq rfl) (hb hby at_10) (fun _ _ => ⟨rfl, e7, (by decide : 2 + 1 ≤ _), (by decide : 4 + 1 ≤ _)⟩)
  dsimp only [Pt.U, Pt.locs, Pt.cells, Pt.slots] at X15 l15 y15 z15 st15 hQ15
  subst l15 y15 z15
  obtain ⟨rfl, N15q, Kc15, f16, f17, f18⟩ := hQ15
  have N15 := Fr.app N0 N15q
  refine own_tr st15 ?_
  have f19 : Exa Z T15.heap zo "com/example/tersel/tersel/carrier/Pdu" := f8.keep Kc15
  have f24 : Exa Z T15.heap za "[B" := G7.keep Kc15
  have f25 : Arv Z T15.heap za k7 .byte (0 : Int32) [] (.int (0 : Int32)) := f14.keep Kc15 (own_nm (Ne.symm ne_zo_za))
  have K26 : Keep h0 T15.heap [] := K13.trans Kc15 (fun x hx => by cases List.mem_singleton.mp hx; exact Or.inr sz_zo)
  show own_WP _ _ _ _ T15 (mkF m 13 #[.val (.int zc), .val (.int zt), .val (.int zq), .unset, .unset, .unset] [(.ref zo)])
  refine own_go (fun t k => XS.astoreN X15.here hx rfl (hb hby at_13) rfl rfl (l' := #[.val (.int zc), .val (.int zt), .val (.int zq), .val (.ref zo), .unset, .unset]) rfl k) ?_
  show own_WP _ _ _ _ T15 (mkF m 14 #[.val (.int zc), .val (.int zt), .val (.int zq), .val (.ref zo), .unset, .unset] [])
  refine own_go (fun t k => XS.iloadN X15.here hx rfl (hb hby at_14) rfl  k) ?_
  show own_WP _ _ _ _ T15 (mkF m 15 #[.val (.int zc), .val (.int zt), .val (.int zq), .val (.ref zo), .unset, .unset] [(.int zc)])
  by_cases hc15 : zc < (0 : Int32)
  · refine own_go (fun t k => XS.ifNo X15.here hx rfl (hb hby at_15) rfl ((if0 _ _).trans (tlt hc15).2.1) k) ?_
    show own_WP _ _ _ _ T15 (mkF m 18 #[.val (.int zc), .val (.int zt), .val (.int zq), .val (.ref zo), .unset, .unset] [])
    refine own_go (fun t k => XS.iconst X15.here hx rfl (hb hby at_18) k) ?_
    show own_WP _ _ _ _ T15 (mkF m 19 #[.val (.int zc), .val (.int zt), .val (.int zq), .val (.ref zo), .unset, .unset] [(.int (1 : Int32))])
    refine own_go (fun t k => XS.goto X15.here hx rfl (pc0 := 19) (pc' := 23) rfl (hb hby at_19) (by decide) (by decide) k) ?_
    show own_WP _ _ _ _ T15 (mkF m 23 #[.val (.int zc), .val (.int zt), .val (.int zq), .val (.ref zo), .unset, .unset] [(.int (1 : Int32))])
    refine own_go (fun t k => XS.istore X15.here hx rfl (hb hby at_23) rfl (l' := #[.val (.int zc), .val (.int zt), .val (.int zq), .val (.ref zo), .val (.int (1 : Int32)), .unset]) rfl k) ?_
    show own_WP _ _ _ _ T15 (mkF m 25 #[.val (.int zc), .val (.int zt), .val (.int zq), .val (.ref zo), .val (.int (1 : Int32)), .unset] [])
    refine own_go (fun t k => XS.aloadN X15.here hx rfl (hb hby at_25) rfl rfl  k) ?_
    show own_WP _ _ _ _ T15 (mkF m 26 #[.val (.int zc), .val (.int zt), .val (.int zq), .val (.ref zo), .val (.int (1 : Int32)), .unset] [(.ref zo)])
    obtain ⟨cq27, kq27, q27a, q27b, q27c⟩ := isOf hZ rfl f16
    obtain ⟨_, _, ⟨T27, L27, k27, n27⟩, -, X27, ⟨Lc27, hQ27, l27, y27, z27⟩, st27⟩ := X15.virtualBack hx (y := (⟨"com/example/tersel/tersel/carrier/Pdu", "isResponse", "()Z"⟩ : MethodName)) (z := (⟨"com/example/tersel/tersel/carrier/Pdu", "isResponse", "()Z"⟩ : MethodName)) hown (mvT hZ (hw _ (List.mem_of_getElem? (i := 27) rfl))) (mvT hZ (hw _ (List.mem_of_getElem? (i := 28) rfl))) (notFace_of_selects (args := #[]) (mvT hZ (hw _ (List.mem_of_getElem? (i := 30) rfl)))) (mvT hZ (hw _ (List.mem_of_getElem? (i := 30) rfl))) (mvT hZ (hw _ (List.mem_of_getElem? (i := 29) rfl))) (by decide) (backOf (W := 0) (rm3 l Z a0 hw [] zo zc T15.heap n0 (own_le Z0 K26) f17) hZ (hw _ (List.mem_of_getElem? (i := 31) rfl)) (hw _ (List.mem_of_getElem? (i := 2) rfl)) (by decide) (by decide)) q27a q27c (g := (mkF m 26 #[.val (.int zc), .val (.int zt), .val (.int zq), .val (.ref zo), .val (.int (1 : Int32)), .unset] [(.ref zo)])) rfl (by rw [hml]; rfl) (Steps.refl _) (argsL := []) (rest := []) (lenOf own_pd91901 rfl) rfl (by show 2 * 0 + _ ≤ _; exact Nat.le_of_eq rfl) (hb hby at_26) (fun _ _ => ⟨rfl, rfl, (by decide : 3 + 0 ≤ _), (by decide : 5 + 0 ≤ _)⟩)
    dsimp only [Pt.U, Pt.locs, Pt.cells, Pt.slots] at X27 l27 y27 z27 st27 hQ27
    subst l27 y27 z27
    obtain ⟨rfl, N27q, eq27⟩ := hQ27
    have N27 := Fr.app N15 N27q
    refine own_tr st27 ?_
    show own_WP _ _ _ _ T27 (mkF m 29 #[.val (.int zc), .val (.int zt), .val (.int zq), .val (.ref zo), .val (.int (1 : Int32)), .unset] [(.int (own_rs zc))])
    refine own_go (fun t k => XS.iload X27.here hx rfl (hb hby at_29) rfl  k) ?_
    show own_WP _ _ _ _ T27 (mkF m 31 #[.val (.int zc), .val (.int zt), .val (.int zq), .val (.ref zo), .val (.int (1 : Int32)), .unset] [(.int (1 : Int32)), (.int (own_rs zc))])
    have hc31 : (own_rs zc) = (1 : Int32) := by
      rw [own_rsn]; simp [hc15]
    refine own_go (fun t k => XS.icmpYes X27.here hx rfl (pc0 := 31) (pc' := 36) rfl (hb hby at_31) rfl (teq hc31).1 (by decide) (by decide) k) ?_
    show own_WP _ _ _ _ T27 (mkF m 36 #[.val (.int zc), .val (.int zt), .val (.int zq), .val (.ref zo), .val (.int (1 : Int32)), .unset] [])
    refine own_go (fun t k => XS.aloadN X27.here hx rfl (hb hby at_36) rfl rfl  k) ?_
    show own_WP _ _ _ _ T27 (mkF m 37 #[.val (.int zc), .val (.int zt), .val (.int zq), .val (.ref zo), .val (.int (1 : Int32)), .unset] [(.ref zo)])
    refine own_go (fun t k => XS.iloadN X27.here hx rfl (hb hby at_37) rfl  k) ?_
    show own_WP _ _ _ _ T27 (mkF m 38 #[.val (.int zc), .val (.int zt), .val (.int zq), .val (.ref zo), .val (.int (1 : Int32)), .unset] [(.int zt), (.ref zo)])
    obtain ⟨cq28, kq28, q28a, q28b, q28c⟩ := isOf hZ eq27 f16
    obtain ⟨_, _, ⟨T28, L28, k28, n28⟩, -, X28, ⟨Lc28, hQ28, l28, y28, z28⟩, st28⟩ := X27.virtualBack hx (y := (⟨"com/example/tersel/tersel/carrier/Pdu", "answer", "(I)Lcom/example/tersel/tersel/carrier/Pdu;"⟩ : MethodName)) (z := (⟨"com/example/tersel/tersel/carrier/Pdu", "answer", "(I)Lcom/example/tersel/tersel/carrier/Pdu;"⟩ : MethodName)) hown (mvT hZ (hw _ (List.mem_of_getElem? (i := 33) rfl))) (mvT hZ (hw _ (List.mem_of_getElem? (i := 34) rfl))) (notFace_of_selects (args := #[]) (mvT hZ (hw _ (List.mem_of_getElem? (i := 36) rfl)))) (mvT hZ (hw _ (List.mem_of_getElem? (i := 36) rfl))) (mvT hZ (hw _ (List.mem_of_getElem? (i := 35) rfl))) (by decide) (backOf (W := 0) (rm4 l Z a0 hw [] zo zt zc zq T15.heap n0 (own_le Z0 K26) f17 f18) hZ (hw _ (List.mem_of_getElem? (i := 37) rfl)) (hw _ (List.mem_of_getElem? (i := 2) rfl)) (by decide) (by decide)) q28a q28c (g := (mkF m 38 #[.val (.int zc), .val (.int zt), .val (.int zq), .val (.ref zo), .val (.int (1 : Int32)), .unset] [(.int zt), (.ref zo)])) rfl (by rw [hml]; rfl) (Steps.refl _) (argsL := [(.int zt)]) (rest := []) (lenOf own_pd40732 rfl) rfl (by show 2 * 0 + _ ≤ _; exact Nat.le_of_eq rfl) (hb hby at_38) (fun _ _ => ⟨rfl, eq27, (by decide : 3 + 3 ≤ _), (by decide : 5 + 6 ≤ _)⟩)
    dsimp only [Pt.U, Pt.locs, Pt.cells, Pt.slots] at X28 l28 y28 z28 st28 hQ28
    subst l28 y28 z28
    obtain ⟨rb29, rfl, N28q, Kc28, g_rb29, szc_rb29, f30, f31⟩ := hQ28
    have N28 := Fr.app N27 N28q
    refine own_tr st28 ?_
    have sz_rb29 : h0.size ≤ rb29 := Nat.le_trans K26.1 szc_rb29
    have ne_zo_rb29 : zo ≠ rb29 := Nat.ne_of_lt (Nat.lt_of_lt_of_le f16.lt szc_rb29)
    have ne_za_rb29 : za ≠ rb29 := Nat.ne_of_lt (Nat.lt_of_lt_of_le f24.lt szc_rb29)
    have f32 : Exa Z T28.heap zo "com/example/tersel/tersel/carrier/Pdu" := f16.keep Kc28
    have f33 : Exa Z T28.heap za "[B" := f24.keep Kc28
    have f34 : Arv Z T28.heap za k7 .byte (0 : Int32) [] (.int (0 : Int32)) := f25.keep Kc28 own_nm0
    have f35 : Fld Z T28.heap zo "com/example/tersel/tersel/carrier/Pdu" "commandId" "I" (.int zc) := f17.keep Kc28 own_nm0
    have f36 : Fld Z T28.heap zo "com/example/tersel/tersel/carrier/Pdu" "sequenceNumber" "I" (.int zq) := f18.keep Kc28 own_nm0
    have K37 : Keep h0 T28.heap [] := K26.trans Kc28 (fun x hx => by cases hx)
    show own_WP _ _ _ _ T28 (mkF m 41 #[.val (.int zc), .val (.int zt), .val (.int zq), .val (.ref zo), .val (.int (1 : Int32)), .unset] [(.ref rb29)])
    refine own_go (fun t k => XS.astore X28.here hx rfl (hb hby at_41) rfl rfl (l' := #[.val (.int zc), .val (.int zt), .val (.int zq), .val (.ref zo), .val (.int (1 : Int32)), .val (.ref rb29)]) rfl k) ?_
    show own_WP _ _ _ _ T28 (mkF m 43 #[.val (.int zc), .val (.int zt), .val (.int zq), .val (.ref zo), .val (.int (1 : Int32)), .val (.ref rb29)] [])
    refine own_go (fun t k => XS.aload X28.here hx rfl (hb hby at_43) rfl rfl  k) ?_
    show own_WP _ _ _ _ T28 (mkF m 45 #[.val (.int zc), .val (.int zt), .val (.int zq), .val (.ref zo), .val (.int (1 : Int32)), .val (.ref rb29)] [(.ref rb29)])
    obtain ⟨cq38, kq38, q38a, q38b, q38c⟩ := isOf hZ rfl f30
    obtain ⟨_, _, ⟨T38, L38, k38, n38⟩, -, X38, ⟨Lc38, hQ38, l38, y38, z38⟩, st38⟩ := X28.virtualBack hx (y := (⟨"com/example/tersel/tersel/carrier/Pdu", "isResponse", "()Z"⟩ : MethodName)) (z := (⟨"com/example/tersel/tersel/carrier/Pdu", "isResponse", "()Z"⟩ : MethodName)) hown (mvT hZ (hw _ (List.mem_of_getElem? (i := 27) rfl))) (mvT hZ (hw _ (List.mem_of_getElem? (i := 28) rfl))) (notFace_of_selects (args := #[]) (mvT hZ (hw _ (List.mem_of_getElem? (i := 30) rfl)))) (mvT hZ (hw _ (List.mem_of_getElem? (i := 30) rfl))) (mvT hZ (hw _ (List.mem_of_getElem? (i := 29) rfl))) (by decide) (backOf (W := 0) (rm3 l Z a0 hw [] rb29 (zc ||| (-2147483648 : Int32)) T28.heap n0 (own_le Z0 K37) f31) hZ (hw _ (List.mem_of_getElem? (i := 31) rfl)) (hw _ (List.mem_of_getElem? (i := 2) rfl)) (by decide) (by decide)) q38a q38c (g := (mkF m 45 #[.val (.int zc), .val (.int zt), .val (.int zq), .val (.ref zo), .val (.int (1 : Int32)), .val (.ref rb29)] [(.ref rb29)])) rfl (by rw [hml]; rfl) (Steps.refl _) (argsL := []) (rest := []) (lenOf own_pd91901 rfl) rfl (by show 2 * 0 + _ ≤ _; exact Nat.le_of_eq rfl) (hb hby at_45) (fun _ _ => ⟨rfl, rfl, (by decide : 6 + 0 ≤ _), (by decide : 11 + 0 ≤ _)⟩)
    dsimp only [Pt.U, Pt.locs, Pt.cells, Pt.slots] at X38 l38 y38 z38 st38 hQ38
    subst l38 y38 z38
    obtain ⟨rfl, N38q, eq38⟩ := hQ38
    have N38 := Fr.app N28 N38q
    refine own_tr st38 ?_
    show own_WP _ _ _ _ T38 (mkF m 48 #[.val (.int zc), .val (.int zt), .val (.int zq), .val (.ref zo), .val (.int (1 : Int32)), .val (.ref rb29)] [(.int (own_rs (zc ||| (-2147483648 : Int32))))])
    refine own_retN X38 hx Bd.notSynchronized (t := .boolean) (by simp) Bd.returns (hb hby at_48) (by decide) (by decide) ?_
    rw [eq38]
    exact ⟨congrArg (fun z => some (Value.int z)) (by show nar .boolean _ = 1; rw [own_rso]; rfl), N38⟩
  · refine own_go (fun t k => XS.ifYes X15.here hx rfl (pc0 := 15) (pc' := 22) rfl (hb hby at_15) rfl ((if0 _ _).trans (flt hc15).2.1) (by decide) (by decide) k) ?_
    show own_WP _ _ _ _ T15 (mkF m 22 #[.val (.int zc), .val (.int zt), .val (.int zq), .val (.ref zo), .unset, .unset] [])
    refine own_go (fun t k => XS.iconst X15.here hx rfl (hb hby at_22) k) ?_
    show own_WP _ _ _ _ T15 (mkF m 23 #[.val (.int zc), .val (.int zt), .val (.int zq), .val (.ref zo), .unset, .unset] [(.int (0 : Int32))])
    refine own_go (fun t k => XS.istore X15.here hx rfl (hb hby at_23) rfl (l' := #[.val (.int zc), .val (.int zt), .val (.int zq), .val (.ref zo), .val (.int (0 : Int32)), .unset]) rfl k) ?_
    show own_WP _ _ _ _ T15 (mkF m 25 #[.val (.int zc), .val (.int zt), .val (.int zq), .val (.ref zo), .val (.int (0 : Int32)), .unset] [])
    refine own_go (fun t k => XS.aloadN X15.here hx rfl (hb hby at_25) rfl rfl  k) ?_
    show own_WP _ _ _ _ T15 (mkF m 26 #[.val (.int zc), .val (.int zt), .val (.int zq), .val (.ref zo), .val (.int (0 : Int32)), .unset] [(.ref zo)])
    obtain ⟨cq39, kq39, q39a, q39b, q39c⟩ := isOf hZ rfl f16
    obtain ⟨_, _, ⟨T39, L39, k39, n39⟩, -, X39, ⟨Lc39, hQ39, l39, y39, z39⟩, st39⟩ := X15.virtualBack hx (y := (⟨"com/example/tersel/tersel/carrier/Pdu", "isResponse", "()Z"⟩ : MethodName)) (z := (⟨"com/example/tersel/tersel/carrier/Pdu", "isResponse", "()Z"⟩ : MethodName)) hown (mvT hZ (hw _ (List.mem_of_getElem? (i := 27) rfl))) (mvT hZ (hw _ (List.mem_of_getElem? (i := 28) rfl))) (notFace_of_selects (args := #[]) (mvT hZ (hw _ (List.mem_of_getElem? (i := 30) rfl)))) (mvT hZ (hw _ (List.mem_of_getElem? (i := 30) rfl))) (mvT hZ (hw _ (List.mem_of_getElem? (i := 29) rfl))) (by decide) (backOf (W := 0) (rm3 l Z a0 hw [] zo zc T15.heap n0 (own_le Z0 K26) f17) hZ (hw _ (List.mem_of_getElem? (i := 31) rfl)) (hw _ (List.mem_of_getElem? (i := 2) rfl)) (by decide) (by decide)) q39a q39c (g := (mkF m 26 #[.val (.int zc), .val (.int zt), .val (.int zq), .val (.ref zo), .val (.int (0 : Int32)), .unset] [(.ref zo)])) rfl (by rw [hml]; rfl) (Steps.refl _) (argsL := []) (rest := []) (lenOf own_pd91901 rfl) rfl (by show 2 * 0 + _ ≤ _; exact Nat.le_of_eq rfl) (hb hby at_26) (fun _ _ => ⟨rfl, rfl, (by decide : 3 + 0 ≤ _), (by decide : 5 + 0 ≤ _)⟩)
    dsimp only [Pt.U, Pt.locs, Pt.cells, Pt.slots] at X39 l39 y39 z39 st39 hQ39
    subst l39 y39 z39
    obtain ⟨rfl, N39q, eq39⟩ := hQ39
    have N39 := Fr.app N15 N39q
    refine own_tr st39 ?_
    show own_WP _ _ _ _ T39 (mkF m 29 #[.val (.int zc), .val (.int zt), .val (.int zq), .val (.ref zo), .val (.int (0 : Int32)), .unset] [(.int (own_rs zc))])
    refine own_go (fun t k => XS.iload X39.here hx rfl (hb hby at_29) rfl  k) ?_
    show own_WP _ _ _ _ T39 (mkF m 31 #[.val (.int zc), .val (.int zt), .val (.int zq), .val (.ref zo), .val (.int (0 : Int32)), .unset] [(.int (0 : Int32)), (.int (own_rs zc))])
    have hc31 : (own_rs zc) = (0 : Int32) := by
      rw [own_rsn]; simp [hc15]
    refine own_go (fun t k => XS.icmpYes X39.here hx rfl (pc0 := 31) (pc' := 36) rfl (hb hby at_31) rfl (teq hc31).1 (by decide) (by decide) k) ?_
    show own_WP _ _ _ _ T39 (mkF m 36 #[.val (.int zc), .val (.int zt), .val (.int zq), .val (.ref zo), .val (.int (0 : Int32)), .unset] [])
    refine own_go (fun t k => XS.aloadN X39.here hx rfl (hb hby at_36) rfl rfl  k) ?_
    show own_WP _ _ _ _ T39 (mkF m 37 #[.val (.int zc), .val (.int zt), .val (.int zq), .val (.ref zo), .val (.int (0 : Int32)), .unset] [(.ref zo)])
    refine own_go (fun t k => XS.iloadN X39.here hx rfl (hb hby at_37) rfl  k) ?_
    show own_WP _ _ _ _ T39 (mkF m 38 #[.val (.int zc), .val (.int zt), .val (.int zq), .val (.ref zo), .val (.int (0 : Int32)), .unset] [(.int zt), (.ref zo)])
    obtain ⟨cq40, kq40, q40a, q40b, q40c⟩ := isOf hZ eq39 f16
    obtain ⟨_, _, ⟨T40, L40, k40, n40⟩, -, X40, ⟨Lc40, hQ40, l40, y40, z40⟩, st40⟩ := X39.virtualBack hx (y := (⟨"com/example/tersel/tersel/carrier/Pdu", "answer", "(I)Lcom/example/tersel/tersel/carrier/Pdu;"⟩ : MethodName)) (z := (⟨"com/example/tersel/tersel/carrier/Pdu", "answer", "(I)Lcom/example/tersel/tersel/carrier/Pdu;"⟩ : MethodName)) hown (mvT hZ (hw _ (List.mem_of_getElem? (i := 33) rfl))) (mvT hZ (hw _ (List.mem_of_getElem? (i := 34) rfl))) (notFace_of_selects (args := #[]) (mvT hZ (hw _ (List.mem_of_getElem? (i := 36) rfl)))) (mvT hZ (hw _ (List.mem_of_getElem? (i := 36) rfl))) (mvT hZ (hw _ (List.mem_of_getElem? (i := 35) rfl))) (by decide) (backOf (W := 0) (rm4 l Z a0 hw [] zo zt zc zq T15.heap n0 (own_le Z0 K26) f17 f18) hZ (hw _ (List.mem_of_getElem? (i := 37) rfl)) (hw _ (List.mem_of_getElem? (i := 2) rfl)) (by decide) (by decide)) q40a q40c (g := (mkF m 38 #[.val (.int zc), .val (.int zt), .val (.int zq), .val (.ref zo), .val (.int (0 : Int32)), .unset] [(.int zt), (.ref zo)])) rfl (by rw [hml]; rfl) (Steps.refl _) (argsL := [(.int zt)]) (rest := []) (lenOf own_pd40732 rfl) rfl (by show 2 * 0 + _ ≤ _; exact Nat.le_of_eq rfl) (hb hby at_38) (fun _ _ => ⟨rfl, eq39, (by decide : 3 + 3 ≤ _), (by decide : 5 + 6 ≤ _)⟩)
    dsimp only [Pt.U, Pt.locs, Pt.cells, Pt.slots] at X40 l40 y40 z40 st40 hQ40
    subst l40 y40 z40
    obtain ⟨rb41, rfl, N40q, Kc40, g_rb41, szc_rb41, f42, f43⟩ := hQ40
    have N40 := Fr.app N39 N40q
    refine own_tr st40 ?_
    have sz_rb41 : h0.size ≤ rb41 := Nat.le_trans K26.1 szc_rb41
    have ne_zo_rb41 : zo ≠ rb41 := Nat.ne_of_lt (Nat.lt_of_lt_of_le f16.lt szc_rb41)
    have ne_za_rb41 : za ≠ rb41 := Nat.ne_of_lt (Nat.lt_of_lt_of_le f24.lt szc_rb41)
    have f44 : Exa Z T40.heap zo "com/example/tersel/tersel/carrier/Pdu" := f16.keep Kc40
    have f45 : Exa Z T40.heap za "[B" := f24.keep Kc40
    have f46 : Arv Z T40.heap za k7 .byte (0 : Int32) [] (.int (0 : Int32)) := f25.keep Kc40 own_nm0
    have f47 : Fld Z T40.heap zo "com/example/tersel/tersel/carrier/Pdu" "commandId" "I" (.int zc) := f17.keep Kc40 own_nm0
    have f48 : Fld Z T40.heap zo "com/example/tersel/tersel/carrier/Pdu" "sequenceNumber" "I" (.int zq) := f18.keep Kc40 own_nm0
    have K49 : Keep h0 T40.heap [] := K26.trans Kc40 (fun x hx => by cases hx)
    show own_WP _ _ _ _ T40 (mkF m 41 #[.val (.int zc), .val (.int zt), .val (.int zq), .val (.ref zo), .val (.int (0 : Int32)), .unset] [(.ref rb41)])
    refine own_go (fun t k => XS.astore X40.here hx rfl (hb hby at_41) rfl rfl (l' := #[.val (.int zc), .val (.int zt), .val (.int zq), .val (.ref zo), .val (.int (0 : Int32)), .val (.ref rb41)]) rfl k) ?_
    show own_WP _ _ _ _ T40 (mkF m 43 #[.val (.int zc), .val (.int zt), .val (.int zq), .val (.ref zo), .val (.int (0 : Int32)), .val (.ref rb41)] [])
    refine own_go (fun t k => XS.aload X40.here hx rfl (hb hby at_43) rfl rfl  k) ?_
    show own_WP _ _ _ _ T40 (mkF m 45 #[.val (.int zc), .val (.int zt), .val (.int zq), .val (.ref zo), .val (.int (0 : Int32)), .val (.ref rb41)] [(.ref rb41)])
    obtain ⟨cq50, kq50, q50a, q50b, q50c⟩ := isOf hZ rfl f42
    obtain ⟨_, _, ⟨T50, L50, k50, n50⟩, -, X50, ⟨Lc50, hQ50, l50, y50, z50⟩, st50⟩ := X40.virtualBack hx (y := (⟨"com/example/tersel/tersel/carrier/Pdu", "isResponse", "()Z"⟩ : MethodName)) (z := (⟨"com/example/tersel/tersel/carrier/Pdu", "isResponse", "()Z"⟩ : MethodName)) hown (mvT hZ (hw _ (List.mem_of_getElem? (i := 27) rfl))) (mvT hZ (hw _ (List.mem_of_getElem? (i := 28) rfl))) (notFace_of_selects (args := #[]) (mvT hZ (hw _ (List.mem_of_getElem? (i := 30) rfl)))) (mvT hZ (hw _ (List.mem_of_getElem? (i := 30) rfl))) (mvT hZ (hw _ (List.mem_of_getElem? (i := 29) rfl))) (by decide) (backOf (W := 0) (rm3 l Z a0 hw [] rb41 (zc ||| (-2147483648 : Int32)) T40.heap n0 (own_le Z0 K49) f43) hZ (hw _ (List.mem_of_getElem? (i := 31) rfl)) (hw _ (List.mem_of_getElem? (i := 2) rfl)) (by decide) (by decide)) q50a q50c (g := (mkF m 45 #[.val (.int zc), .val (.int zt), .val (.int zq), .val (.ref zo), .val (.int (0 : Int32)), .val (.ref rb41)] [(.ref rb41)])) rfl (by rw [hml]; rfl) (Steps.refl _) (argsL := []) (rest := []) (lenOf own_pd91901 rfl) rfl (by show 2 * 0 + _ ≤ _; exact Nat.le_of_eq rfl) (hb hby at_45) (fun _ _ => ⟨rfl, rfl, (by decide : 6 + 0 ≤ _), (by decide : 11 + 0 ≤ _)⟩)
    dsimp only [Pt.U, Pt.locs, Pt.cells, Pt.slots] at X50 l50 y50 z50 st50 hQ50
    subst l50 y50 z50
    obtain ⟨rfl, N50q, eq50⟩ := hQ50
    have N50 := Fr.app N40 N50q
    refine own_tr st50 ?_
    show own_WP _ _ _ _ T50 (mkF m 48 #[.val (.int zc), .val (.int zt), .val (.int zq), .val (.ref zo), .val (.int (0 : Int32)), .val (.ref rb41)] [(.int (own_rs (zc ||| (-2147483648 : Int32))))])
    refine own_retN X50 hx Bd.notSynchronized (t := .boolean) (by simp) Bd.returns (hb hby at_48) (by decide) (by decide) ?_
    rw [eq50]
    exact ⟨congrArg (fun z => some (Value.int z)) (by show nar .boolean _ = 1; rw [own_rso]; rfl), N50⟩
set_option maxRecDepth 65536 in
set_option maxHeartbeats 40000000 in
theorem comes_1 {Post : Tables → Env → Array Value → State → Outcome → State → Prop} (hpost : ∀ tb e args s v u, (limb_1_1.after args s (.returned v) u = true ∧ limb_1_2.after args s (.returned v) u = true ∧ True) → FrameEnd s (.returned v) u (Jvm.fieldLocs frame_1_writes args s ++ Jvm.arrayLocs frame_1_arrays args s ++ Jvm.staticLocs frame_1_statics s) 24 128 → Post tb e args s (.returned v) u) :
    ArmFor flags0 classFile x code maxLocals ret World_1 tables_1 room_1 Calls_1 rest_1 Pre_1 Post := by
  intro l hfl _ _ p e ha hc hk s m args below hf hA hF happ hP
  obtain ⟨hcalls, hrest, hpre⟩ := hP
  obtain ⟨-, -, -, hnamed, -, -, -, hat⟩ := (Spec.applies_iff hf).mp happ
  obtain ⟨hg, hn⟩ := and_e (Cond.before_iff.mp (show (Jvm.Cond.and given_1 narrow_1).before args s = true from hpre))
  obtain ⟨u0, v0⟩ := and_e hg
  obtain ⟨u1, v1⟩ := and_e v0
  obtain ⟨u2, v2⟩ := and_e v1
  obtain ⟨w0, w1, w2, rfl⟩ : ∃ w0 w1 w2 : Value, args = #[w0, w1, w2] := by
    have hs : args.size = 3 := by simpa [Cond.value, given_1] using u0
    obtain ⟨L⟩ := args
    match L, hs with
    | [w0, w1, w2], _ => exact ⟨w0, w1, w2, rfl⟩
  have hw := fun d (hd : d ∈ tables_1) => atoms_spec (ws := Jvm.Cond.code x code maxLocals ret :: tables_1) hat d (List.mem_cons_of_mem _ hd)
  obtain ⟨i0, ei0⟩ := is_v u1
  obtain rfl : w0 = (.int i0) := Option.some.inj ei0
  obtain ⟨i1, ei1⟩ := is_v u2
  obtain rfl : w1 = (.int i1) := Option.some.inj ei1
  obtain ⟨i2, ei2⟩ := is_v v2
  obtain rfl : w2 = (.int i2) := Option.some.inj ei2
  obtain ⟨n, o, h1, h2, h3, _, L, rfl, ⟨rfl, N⟩, hq⟩ := rm0 l s _ hw tables_1 i0 i1 i2  s.heap s.heap.size (Nat.le_refl _)  p e ha hc hk s m _ below hf ((Spec.applies_iff_loose hf).mp happ).1 ⟨rfl, State.Warmed39.refl s, rfl⟩ trivial
  refine ⟨n, _, h1, h2, h3, hpost _ _ _ _ _ _ ⟨Cond.after_iff.mpr rfl, Cond.after_iff.mpr (eq_i res_at (Term.int_eval (1)) rfl), trivial⟩ ⟨hq.1, hq.2.1, (hq.2.2.sift fun y hy => Or.inr (N y hy)).mono (by decide) (by decide)⟩⟩
theorem main_1_1 : Claimed_1_1 := comes_1 fun _ _ _ _ _ _ h hF => ⟨h.1, hF⟩
theorem main_1_2 : Claimed_1_2 := comes_1 fun _ _ _ _ _ _ h hF => ⟨h.2.1, hF⟩
end Jvm.Pilot.@@N@@
namespace Jvm.Pilot.@@N@@
open Jvm Jvm.ClassFile Sem Op Lib Jvm.Free Jvm.Stand Jvm.Pilot.@@N@@.Jvm.D
/-! MADE BY PROGRAM (witnessworld.py) out of the Statement's table words and the real class files: 9 classes; the members and pool entries that the words name. The judged class is class 1, her method 1. -/
namespace start1
open Jvm.ClassFile
def u (s : String) : CpInfo := .utf8 (stringToUtf16 s)
/-- a pool by its gaps: so many unusable entries, then the entry; so many at the end -/
def gap : Nat → List CpInfo → List CpInfo
  | 0, r => r
  | n + 1, r => .unusable :: gap n r
def poolList (es : List (Nat × CpInfo)) (last : Nat) : List CpInfo := es.foldr (fun e r => gap e.1 (e.2 :: r)) (gap last [])
def pool (es : List (Nat × CpInfo)) (last : Nat) : Array CpInfo := ⟨poolList es last⟩
def fileOf (pool : Array CpInfo) (this : Nat) (attrs : Array Attribute := #[]) (ms : Array MethodInfo := #[]) (fl : Nat := 33) (sup : Nat := 0) (ifs : Array Nat := #[]) (fds : Array FieldInfo := #[]) : ClassFile where
  minorVersion := 0
  majorVersion := 65
  constantPool := pool
  accessFlags := fl
  thisClass := this
  superClass := sup
  interfaces := ifs
  fields := fds
  methods := ms
  attributes := attrs
def plain (name : String) (sup : Option ClassId) : Class where
  name := name
  kind := .ordinary
  loader := none
  accessFlags := 33
  super := sup
  interfaces := #[]
  cf := none
  fields := #[]
  methods := #[]
  instanceTypes := #[]
  staticTypes := #[]
  resolved := #[]
  callSites := []
  init := .initialized
  statics := none
  mirror := none

def pool0 : Array CpInfo := pool [(5, u "<init>"), (0, u "()V"), (1, .class_ 10), (1, u "java/lang/Object"), (85, u "clone"), (0, u "()Ljava/lang/Object;")] 26

def k0c0 : Code := { maxStack := 0, maxLocals := 1, code := object_method_1_code, exceptionTable := #[], attributes := #[] }
def k0m0 : Method := { name := "<init>", desc := "()V", sig := { parameters := [], returnType := none }, accessFlags := 1, code := some k0c0 }
def k0m1 : Method := { name := "clone", desc := "()Ljava/lang/Object;", sig := { parameters := [], returnType := some (.object "java/lang/Object") }, accessFlags := 260, code := none }
/-- java/lang/Object -/
def k0 : Class := { plain "java/lang/Object" none with
  accessFlags := 33
  interfaces := #[]
  cf := some (fileOf pool0 8 #[] #[{ accessFlags := 1, nameIndex := 5, descriptorIndex := 6, attributes := #[] }, { accessFlags := 260, nameIndex := 96, descriptorIndex := 97, attributes := #[] }] 33 0 #[] #[])
  fields := #[]
  methods := #[k0m0, k0m1]
  instanceTypes := #[]
  staticTypes := #[]
  resolved := Array.replicate 124 none
  statics := none }

def pool1 : Array CpInfo := pool [(2, .class_ 4), (1, u "java/lang/Object"), (0, u "<init>"), (0, u "()V"), (0, .class_ 8), (0, u "com/example/tersel/tersel/carrier/Pdu"), (0, .methodref 7 10), (0, .nameAndType 5 11), (0, u "(III[B)V"), (0, .methodref 7 13), (0, .nameAndType 14 15), (0, u "isResponse"), (0, u "()Z"), (0, .methodref 7 17), (0, .nameAndType 18 19), (0, u "answer"), (0, u "(I)Lcom/example/tersel/tersel/carrier/Pdu;"), (0, .class_ 21), (0, u "com/example/tersel/tersel/carrier/PduIsResponsePinLaw"), (2, u "law"), (0, u "(III)Z")] 3

def k1m0 : Method := { name := "<init>", desc := "()V", sig := { parameters := [], returnType := none }, accessFlags := 1, code := none }
def k1c1 : Code := { maxStack := 6, maxLocals := 6, code := code, exceptionTable := #[], attributes := #[] }
def k1m1 : Method := { name := "law", desc := "(III)Z", sig := { parameters := [.int, .int, .int], returnType := some .boolean }, accessFlags := 9, code := some k1c1 }
/-- com/example/tersel/tersel/carrier/PduIsResponsePinLaw -/
def k1 : Class := { plain "com/example/tersel/tersel/carrier/PduIsResponsePinLaw" (some 0) with
  accessFlags := 49
  interfaces := #[]
  cf := some (fileOf pool1 20 #[] #[{ accessFlags := 1, nameIndex := 5, descriptorIndex := 6, attributes := #[] }, { accessFlags := 9, nameIndex := 24, descriptorIndex := 25, attributes := #[] }] 49 2 #[] #[])
  fields := #[]
  methods := #[k1m0, k1m1]
  instanceTypes := #[]
  staticTypes := #[]
  resolved := Array.replicate 29 none
  statics := none }

def pool2 : Array CpInfo := pool [(1, .methodref 2 3), (0, .class_ 4), (0, .nameAndType 5 6), (0, u "java/lang/Object"), (0, u "<init>"), (0, u "()V"), (0, .fieldref 8 9), (0, .class_ 10), (0, .nameAndType 11 12), (0, u "com/example/tersel/tersel/carrier/Pdu"), (0, u "commandId"), (0, u "I"), (0, .fieldref 8 14), (0, .nameAndType 15 12), (0, u "commandStatus"), (0, .fieldref 8 17), (0, .nameAndType 18 12), (0, u "sequenceNumber"), (0, .methodref 20 21), (0, .class_ 22), (0, .nameAndType 23 24), (0, u "[B"), (0, u "clone"), (0, u "()Ljava/lang/Object;"), (0, .fieldref 8 26), (0, .nameAndType 27 22), (0, u "body"), (25, .methodref 8 54), (0, .nameAndType 5 55), (0, u "(III[B)V"), (0, .integer 2147483648), (36, u "()Z"), (35, u "GENERIC_NACK"), (1, u "SUBMIT_SM"), (1, u "SUBMIT_SM_RESP"), (1, u "DELIVER_SM"), (1, u "DELIVER_SM_RESP"), (1, u "UNBIND"), (1, u "UNBIND_RESP"), (1, u "BIND_TRANSCEIVER"), (1, u "BIND_TRANSCEIVER_RESP"), (1, u "ENQUIRE_LINK"), (1, u "ENQUIRE_LINK_RESP"), (1, u "ESME_ROK"), (1, u "ESME_RINVCMDID"), (1, u "ESME_RMSGQFUL"), (1, u "ESME_RTHROTTLED"), (1, u "ESME_RX_T_APPN"), (1, u "ESME_RX_P_APPN"), (1, u "SYSTEM_ID_OCTETS"), (1, u "PASSWORD_OCTETS"), (0, u "MESSAGE_ID_OCTETS"), (1, u "HEADER_LENGTH"), (0, u "MAX_LENGTH"), (0, u "RESPONSE_BIT"), (0, u "INTERFACE_VERSION"), (8, u "(I)Lcom/example/tersel/tersel/carrier/Pdu;"), (3, u "answer"), (5, u "isResponse")] 19

def k2c0 : Code := { maxStack := 2, maxLocals := 5, code := prog_10_method_1_code, exceptionTable := #[], attributes := #[] }
def k2m0 : Method := { name := "<init>", desc := "(III[B)V", sig := { parameters := [.int, .int, .int, (.array .byte)], returnType := none }, accessFlags := 0, code := some k2c0 }
def k2c1 : Code := { maxStack := 6, maxLocals := 3, code := prog_10_method_7_code, exceptionTable := #[], attributes := #[] }
def k2m1 : Method := { name := "answer", desc := "(I)Lcom/example/tersel/tersel/carrier/Pdu;", sig := { parameters := [.int], returnType := some (.object "com/example/tersel/tersel/carrier/Pdu") }, accessFlags := 1, code := some k2c1 }
def k2c2 : Code := { maxStack := 2, maxLocals := 1, code := prog_10_method_16_code, exceptionTable := #[], attributes := #[] }
def k2m2 : Method := { name := "isResponse", desc := "()Z", sig := { parameters := [], returnType := some .boolean }, accessFlags := 1, code := some k2c2 }
/-- com/example/tersel/tersel/carrier/Pdu -/
def k2 : Class := { plain "com/example/tersel/tersel/carrier/Pdu" (some 0) with
  accessFlags := 49
  interfaces := #[]
  cf := some (fileOf pool2 8 #[] #[{ accessFlags := 0, nameIndex := 5, descriptorIndex := 55, attributes := #[] }, { accessFlags := 1, nameIndex := 184, descriptorIndex := 180, attributes := #[] }, { accessFlags := 1, nameIndex := 190, descriptorIndex := 93, attributes := #[] }] 49 2 #[] #[{ accessFlags := 25, nameIndex := 129, descriptorIndex := 12, attributes := #[] }, { accessFlags := 25, nameIndex := 131, descriptorIndex := 12, attributes := #[] }, { accessFlags := 25, nameIndex := 133, descriptorIndex := 12, attributes := #[] }, { accessFlags := 25, nameIndex := 135, descriptorIndex := 12, attributes := #[] }, { accessFlags := 25, nameIndex := 137, descriptorIndex := 12, attributes := #[] }, { accessFlags := 25, nameIndex := 139, descriptorIndex := 12, attributes := #[] }, { accessFlags := 25, nameIndex := 141, descriptorIndex := 12, attributes := #[] }, { accessFlags := 25, nameIndex := 143, descriptorIndex := 12, attributes := #[] }, { accessFlags := 25, nameIndex := 145, descriptorIndex := 12, attributes := #[] }, { accessFlags := 25, nameIndex := 147, descriptorIndex := 12, attributes := #[] }, { accessFlags := 25, nameIndex := 149, descriptorIndex := 12, attributes := #[] }, { accessFlags := 25, nameIndex := 151, descriptorIndex := 12, attributes := #[] }, { accessFlags := 25, nameIndex := 153, descriptorIndex := 12, attributes := #[] }, { accessFlags := 25, nameIndex := 155, descriptorIndex := 12, attributes := #[] }, { accessFlags := 25, nameIndex := 157, descriptorIndex := 12, attributes := #[] }, { accessFlags := 25, nameIndex := 159, descriptorIndex := 12, attributes := #[] }, { accessFlags := 25, nameIndex := 161, descriptorIndex := 12, attributes := #[] }, { accessFlags := 24, nameIndex := 163, descriptorIndex := 12, attributes := #[] }, { accessFlags := 24, nameIndex := 165, descriptorIndex := 12, attributes := #[] }, { accessFlags := 24, nameIndex := 166, descriptorIndex := 12, attributes := #[] }, { accessFlags := 25, nameIndex := 168, descriptorIndex := 12, attributes := #[] }, { accessFlags := 25, nameIndex := 169, descriptorIndex := 12, attributes := #[] }, { accessFlags := 26, nameIndex := 170, descriptorIndex := 12, attributes := #[] }, { accessFlags := 26, nameIndex := 171, descriptorIndex := 12, attributes := #[] }, { accessFlags := 18, nameIndex := 11, descriptorIndex := 12, attributes := #[] }, { accessFlags := 18, nameIndex := 15, descriptorIndex := 12, attributes := #[] }, { accessFlags := 18, nameIndex := 18, descriptorIndex := 12, attributes := #[] }, { accessFlags := 18, nameIndex := 27, descriptorIndex := 22, attributes := #[] }])
  fields := #[{ name := "GENERIC_NACK", type := .int, accessFlags := 25, slot := 0, constantValue := 0 }, { name := "SUBMIT_SM", type := .int, accessFlags := 25, slot := 1, constantValue := 0 }, { name := "SUBMIT_SM_RESP", type := .int, accessFlags := 25, slot := 2, constantValue := 0 }, { name := "DELIVER_SM", type := .int, accessFlags := 25, slot := 3, constantValue := 0 }, { name := "DELIVER_SM_RESP", type := .int, accessFlags := 25, slot := 4, constantValue := 0 }, { name := "UNBIND", type := .int, accessFlags := 25, slot := 5, constantValue := 0 }, { name := "UNBIND_RESP", type := .int, accessFlags := 25, slot := 6, constantValue := 0 }, { name := "BIND_TRANSCEIVER", type := .int, accessFlags := 25, slot := 7, constantValue := 0 }, { name := "BIND_TRANSCEIVER_RESP", type := .int, accessFlags := 25, slot := 8, constantValue := 0 }, { name := "ENQUIRE_LINK", type := .int, accessFlags := 25, slot := 9, constantValue := 0 }, { name := "ENQUIRE_LINK_RESP", type := .int, accessFlags := 25, slot := 10, constantValue := 0 }, { name := "ESME_ROK", type := .int, accessFlags := 25, slot := 11, constantValue := 0 }, { name := "ESME_RINVCMDID", type := .int, accessFlags := 25, slot := 12, constantValue := 0 }, { name := "ESME_RMSGQFUL", type := .int, accessFlags := 25, slot := 13, constantValue := 0 }, { name := "ESME_RTHROTTLED", type := .int, accessFlags := 25, slot := 14, constantValue := 0 }, { name := "ESME_RX_T_APPN", type := .int, accessFlags := 25, slot := 15, constantValue := 0 }, { name := "ESME_RX_P_APPN", type := .int, accessFlags := 25, slot := 16, constantValue := 0 }, { name := "SYSTEM_ID_OCTETS", type := .int, accessFlags := 24, slot := 17, constantValue := 0 }, { name := "PASSWORD_OCTETS", type := .int, accessFlags := 24, slot := 18, constantValue := 0 }, { name := "MESSAGE_ID_OCTETS", type := .int, accessFlags := 24, slot := 19, constantValue := 0 }, { name := "HEADER_LENGTH", type := .int, accessFlags := 25, slot := 20, constantValue := 0 }, { name := "MAX_LENGTH", type := .int, accessFlags := 25, slot := 21, constantValue := 0 }, { name := "RESPONSE_BIT", type := .int, accessFlags := 26, slot := 22, constantValue := 0 }, { name := "INTERFACE_VERSION", type := .int, accessFlags := 26, slot := 23, constantValue := 0 }, { name := "commandId", type := .int, accessFlags := 18, slot := 0, constantValue := 0 }, { name := "commandStatus", type := .int, accessFlags := 18, slot := 1, constantValue := 0 }, { name := "sequenceNumber", type := .int, accessFlags := 18, slot := 2, constantValue := 0 }, { name := "body", type := (.array .byte), accessFlags := 18, slot := 3, constantValue := 0 }]
  methods := #[k2m0, k2m1, k2m2]
  instanceTypes := #[.int, .int, .int, (.array .byte)]
  staticTypes := #[.int, .int, .int, .int, .int, .int, .int, .int, .int, .int, .int, .int, .int, .int, .int, .int, .int, .int, .int, .int, .int, .int, .int, .int]
  resolved := Array.replicate 210 none
  statics := none }

def pool3 : Array CpInfo := pool [(1, .class_ 2), (0, u "java/lang/Cloneable"), (0, .class_ 4), (0, u "java/lang/Object")] 2

/-- java/lang/Cloneable -/
def k3 : Class := { plain "java/lang/Cloneable" (some 0) with
  accessFlags := 1537
  interfaces := #[]
  cf := some (fileOf pool3 1 #[] #[] 1537 3 #[] #[])
  fields := #[]
  methods := #[]
  instanceTypes := #[]
  staticTypes := #[]
  resolved := Array.replicate 7 none
  statics := none }

def pool4 : Array CpInfo := pool [(1, u "java/io/Serializable"), (0, .class_ 1), (0, u "java/lang/Object"), (0, .class_ 3)] 3

/-- java/io/Serializable -/
def k4 : Class := { plain "java/io/Serializable" (some 0) with
  accessFlags := 1537
  interfaces := #[]
  cf := some (fileOf pool4 2 #[] #[] 1537 4 #[] #[])
  fields := #[]
  methods := #[]
  instanceTypes := #[]
  staticTypes := #[]
  resolved := Array.replicate 8 none
  statics := none }

/-- the primitive byte -/
def k5 : Class := { plain "byte" none with kind := .primitive 'B', accessFlags := 0x411 }
/-- [B -/
def k6 : Class := { plain "[B" (some 0) with kind := .array 5 .byte, interfaces := #[3, 4], accessFlags := 1041 }

/-- the primitive int -/
def k7 : Class := { plain "int" none with kind := .primitive 'I', accessFlags := 0x411 }
/-- [I -/
def k8 : Class := { plain "[I" (some 0) with kind := .array 7 .int, interfaces := #[3, 4], accessFlags := 1041 }

def heap : Heap := #[]
def classes : Array Class := #[k0, k1, k2, k3, k4, k5, k6, k7, k8]
def interned : List (Array UInt16 × Addr) := []
def slotsUsed : Nat := 0
def theMethod : MethodId := ⟨1, 1⟩
def args0 : Array Value := #[.int 5, .int 9, .int 3]
def aboutOver (below : List Frame) : State where
  vm := { classes := classes, interned := interned.toArray }
  heap := heap
  slotsUsed := slotsUsed
  threads := #[{ frames := .invoking theMethod args0 :: below }]
def below0 : List Frame := [.native { method := ⟨0, 0⟩, args := #[] }]
def about1 : State := aboutOver below0
def p0 : Program := .bare "" "" ""
def e0 : Env := launch0.env 0 0 0
theorem w_frames : about1.frames = Frame.invoking theMethod args0 :: below0 := rfl
set_option maxRecDepth 65536 in
theorem w_args : argsFit about1.vm theMethod args0 = true := by decide +kernel
set_option maxRecDepth 65536 in
theorem w_heap : heapFits about1 = true := by decide +kernel
set_option maxRecDepth 65536 in
theorem w_runnable : about1.curStatus? = some .runnable := by decide +kernel
set_option maxRecDepth 65536 in
theorem w_alone : about1.alone = true := by decide +kernel
set_option maxRecDepth 65536 in
theorem w_named : about1.methodNamed? x = some theMethod := by decide +kernel
set_option maxRecDepth 65536 in
theorem w_hears : about1.hears theMethod below0 = true := by decide +kernel
set_option maxRecDepth 65536 in
theorem w_ripe : about1.ripe theMethod args0 below0 = true := by decide +kernel
theorem w_running : about1.status = .running := rfl
set_option maxRecDepth 65536 in
theorem w_room : about1.hasRoom e0.platform room_1 = true :=
  launch0.hasRoom_least _ room_1 (by decide +kernel) (by decide +kernel) (by decide +kernel) (by decide +kernel) (by decide +kernel) (by decide +kernel)
theorem allAtoms_all (ts : List Jvm.Cond) (a : Array Jvm.Value) (st : Jvm.State) : (allAtoms ts).before a st = ts.all (fun c => c.before a st) := by
  induction ts with
  | nil => rfl
  | cons c t ih =>
    show (Jvm.Cond.and c (allAtoms t)).before a st = _
    rw [Jvm.Cond.before_and, ih, List.all_cons]
def words1 : List Jvm.Cond := Jvm.Cond.code x code maxLocals ret :: tables_1
/-- a 'code' word, met by the world's own term for the bytes: nothing is compared byte by byte -/
theorem code_word {y : MethodName} {bytes : ByteArray} {mx : Nat} {rt : Option FieldType} {a : Array Value} {s : State} {m : MethodId} {meth : Method} {c : Code} (h1 : s.methodNamed? y = some m) (h2 : s.vm.method? m = some meth) (h3 : meth.code = some c) (h4 : c.code = bytes)
    (h5 : (c.maxLocals == mx && c.exceptionTable.isEmpty && decide (c.maxStack ≤ mostOperands) && decide (meth.sig.returnType = rt) && !meth.locks && decide (parseMethodDescriptor y.desc = some meth.sig)) = true) : (Jvm.Cond.code y bytes mx rt).before a s = true := by
  simp only [Bool.and_eq_true, beq_iff_eq, Bool.not_eq_true', decide_eq_true_eq] at h5
  obtain ⟨⟨⟨⟨⟨g1, g2⟩, g3⟩, g4⟩, g5⟩, g6⟩ := h5
  simp [Cond.before, Cond.holds, Cond.value, h1, h2, h3, h4, g1, g2, g3, g4, g5, g6]
def isCode : Jvm.Cond → Bool
  | .code _ _ _ _ => true
  | _ => false
theorem all_split {L : List Jvm.Cond} {P : Jvm.Cond → Bool} (h1 : L.all (fun c => isCode c || P c) = true) (h2 : ∀ c ∈ L.filter isCode, P c = true) : L.all P = true := by
  refine List.all_eq_true.mpr fun c hc => ?_
  have h := List.all_eq_true.mp h1 c hc
  rcases Bool.eq_false_or_eq_true (isCode c) with hi | hi
  · exact h2 c (List.mem_filter.mpr ⟨hc, hi⟩)
  · simpa [hi] using h
set_option maxRecDepth 65536 in
theorem w_c0 : (Jvm.Cond.code x code maxLocals ret).before args0 about1 = true := code_word (m := ⟨1, 1⟩) (meth := k1m1) (c := k1c1) (by decide +kernel) rfl rfl rfl (by decide +kernel)
set_option maxRecDepth 65536 in
theorem w_c1 : (Jvm.Cond.code ({ cls := "com/example/tersel/tersel/carrier/Pdu", name := "<init>", desc := "(III[B)V" } : Jvm.MethodName) prog_10_method_1_code (5 : Nat) (Option.none : Option Jvm.ClassFile.FieldType)).before args0 about1 = true := code_word (m := ⟨2, 0⟩) (meth := k2m0) (c := k2c0) (by decide +kernel) rfl rfl rfl (by decide +kernel)
set_option maxRecDepth 65536 in
theorem w_c2 : (Jvm.Cond.code ({ cls := "java/lang/Object", name := "<init>", desc := "()V" } : Jvm.MethodName) object_method_1_code (1 : Nat) (Option.none : Option Jvm.ClassFile.FieldType)).before args0 about1 = true := code_word (m := ⟨0, 0⟩) (meth := k0m0) (c := k0c0) (by decide +kernel) rfl rfl rfl (by decide +kernel)
set_option maxRecDepth 65536 in
theorem w_c3 : (Jvm.Cond.code ({ cls := "com/example/tersel/tersel/carrier/Pdu", name := "isResponse", desc := "()Z" } : Jvm.MethodName) prog_10_method_16_code (1 : Nat) (Option.some Jvm.ClassFile.FieldType.boolean)).before args0 about1 = true := code_word (m := ⟨2, 2⟩) (meth := k2m2) (c := k2c2) (by decide +kernel) rfl rfl rfl (by decide +kernel)
set_option maxRecDepth 65536 in
theorem w_c4 : (Jvm.Cond.code ({ cls := "com/example/tersel/tersel/carrier/Pdu", name := "answer", desc := "(I)Lcom/example/tersel/tersel/carrier/Pdu;" } : Jvm.MethodName) prog_10_method_7_code (3 : Nat) (Option.some (Jvm.ClassFile.FieldType.object "com/example/tersel/tersel/carrier/Pdu"))).before args0 about1 = true := code_word (m := ⟨2, 1⟩) (meth := k2m1) (c := k2c1) (by decide +kernel) rfl rfl rfl (by decide +kernel)
def codes1 : List Jvm.Cond := [Jvm.Cond.code x code maxLocals ret, Jvm.Cond.code ({ cls := "com/example/tersel/tersel/carrier/Pdu", name := "<init>", desc := "(III[B)V" } : Jvm.MethodName) prog_10_method_1_code (5 : Nat) (Option.none : Option Jvm.ClassFile.FieldType), Jvm.Cond.code ({ cls := "java/lang/Object", name := "<init>", desc := "()V" } : Jvm.MethodName) object_method_1_code (1 : Nat) (Option.none : Option Jvm.ClassFile.FieldType), Jvm.Cond.code ({ cls := "com/example/tersel/tersel/carrier/Pdu", name := "isResponse", desc := "()Z" } : Jvm.MethodName) prog_10_method_16_code (1 : Nat) (Option.some Jvm.ClassFile.FieldType.boolean), Jvm.Cond.code ({ cls := "com/example/tersel/tersel/carrier/Pdu", name := "answer", desc := "(I)Lcom/example/tersel/tersel/carrier/Pdu;" } : Jvm.MethodName) prog_10_method_7_code (3 : Nat) (Option.some (Jvm.ClassFile.FieldType.object "com/example/tersel/tersel/carrier/Pdu"))]
set_option maxRecDepth 65536 in
theorem codes_eq : words1.filter isCode = codes1 := rfl
theorem w_codes : ∀ c ∈ words1.filter isCode, c.before args0 about1 = true := by
  rw [codes_eq]
  intro c hc
  simp only [codes1, List.mem_cons, List.not_mem_nil, or_false] at hc
  rcases hc with rfl | rfl | rfl | rfl | rfl
  · exact w_c0
  · exact w_c1
  · exact w_c2
  · exact w_c3
  · exact w_c4
set_option maxRecDepth 65536 in
theorem w_t1 : (words1.take 24).all (fun c => isCode c || c.before args0 about1) = true := by decide +kernel
set_option maxRecDepth 65536 in
theorem w_t2 : (words1.drop 24).all (fun c => isCode c || c.before args0 about1) = true := by decide +kernel
theorem w_tables : (allAtoms (Jvm.Cond.code x code maxLocals ret :: tables_1)).before args0 about1 = true := by
  rw [allAtoms_all]
  show words1.all (fun c => c.before args0 about1) = true
  refine all_split ?_ w_codes
  rw [← List.take_append_drop 24 words1, List.all_append, w_t1, w_t2]
  rfl
set_option maxRecDepth 65536 in
theorem w_case : (Jvm.Cond.and given_1 narrow_1).before args0 about1 = true := by decide +kernel
theorem w_applies : (headSpec (Jvm.Cond.code x code maxLocals ret :: tables_1) room_1).applies x e0.platform about1 = true :=
  (Spec.applies_iff w_frames).mpr ⟨w_running, w_runnable, w_alone, w_named, w_hears, w_ripe, w_room, w_tables⟩
theorem atStart : AtStart classFile x code maxLocals ret World_1 tables_1 room_1 Calls_1 rest_1 Pre_1 launch0 p0 e0 about1 theMethod args0 below0 :=
  ⟨lists_1, trivial, launch0.admits_env _ _ _, launch0.least_env, fairChoices_fair.cas, fairChoices_fair.clock, w_frames, w_args, w_heap, w_applies, trivial, trivial, w_case⟩
end start1
theorem witness_1 : WitnessClaimed_1 := ⟨start1.p0, start1.e0, start1.about1, start1.theMethod, start1.args0, start1.below0, start1.atStart⟩
end Jvm.Pilot.@@N@@
