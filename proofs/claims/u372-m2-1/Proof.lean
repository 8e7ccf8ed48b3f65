import JvmDerived
import JvmDerived.Pilot.@@N@@Statement
import JvmDerived.Pilot.@@N@@Code
set_option linter.unusedVariables false
set_option linter.unusedSimpArgs false
@@BLOCK:NumsL.lean.txt@@
namespace Jvm.Pilot.@@N@@
open Jvm Jvm.ClassFile Sem Op Lib Jvm.Free Jvm.Stand Jvm.LawKit Jvm.RoadKit Bundle Jvm.Pilot.@@N@@.Jvm.D
section OwnKit
variable {p : Program} {l : Launch} {e : Env} {R : Room} {s : State} {m : MethodId} {args : Array Value} {below : List Frame} {meth : Method} {c : Code} {T T' : State} {locs : List Loc} {cells slots : Nat} {Z : State} {h : Heap} {a0 : Array Value}
/-- from the state T with the frame g on top the method comes to its end, and what it leaves meets E -/
def own_WP (p : Program) (e : Env) (below : List Frame) (E : Outcome → State → Prop) (T : State) (g : JFrame) : Prop :=
  ∃ s₂ o, Steps p.tables e below (T.setTop g) s₂ ∧ s₂.status = .running ∧ Ended s₂ below o ∧ E o s₂
/-- it returns, and what it leaves meets Q within K cells and N slots -/
def own_E (s : State) (Q : Option Value → Heap → List Loc → Prop) (K N : Nat) (o : Outcome) (t : State) : Prop := ∃ v L, o = .returned v ∧ Q v t.heap L ∧ FrameEnd s o t L K N
variable {Q : Option Value → Heap → List Loc → Prop} {K N : Nat} {g g' : JFrame} {E : Outcome → State → Prop}
theorem own_go (h : ∀ t, Steps p.tables e below (T'.setTop g') t → Steps p.tables e below (T.setTop g) t) (k : own_WP p e below E T' g') : own_WP p e below E T g := by
  obtain ⟨s₂, o, h1, h2⟩ := k
  exact ⟨s₂, o, h s₂ h1, h2⟩
theorem own_tr (h : Steps p.tables e below (T.setTop g) (T'.setTop g')) (k : own_WP p e below E T' g') : own_WP p e below E T g := by
  obtain ⟨s₂, o, h1, h2⟩ := k
  exact ⟨s₂, o, h.trans h1, h2⟩
theorem own_end (X : Stand p l e R s m args below meth c T locs cells slots) (hlk : meth.locks = false) {v : Option Value} (hv : meth.sig.returnType = none → v = none)
    (hs : ∀ fs, (∀ (f : JFrame) (acts : List Action), f.method = m → f.locked = none → f.entered = [] → (doReturn e (T.setTop f) acts v).1 = T.setFrames fs) → Steps p.tables e below (T.setTop g) (T.setFrames fs))
    (hk : cells ≤ K) (hn : slots ≤ N) (hq : Q v T.heap locs) : own_WP p e below (own_E s Q K N) T g := by
  obtain ⟨fs, hr, hrun, hended, hW, hsame⟩ := X.leave hv hlk
  exact ⟨_, _, hs fs hr, hrun, hended, _, _, rfl, hq, ⟨_, rfl⟩, hW, hsame.mono hk hn⟩
theorem own_retV (X : Stand p l e R s m args below meth c T locs cells slots) (hx : p.tables.exec = Jvm.exec) (hlk : meth.locks = false) {pc : Nat} {Ls : Array Slot} (hret : meth.sig.returnType = none) (hd : decode c.code pc = .ok (.return_, 1))
    (hk : cells ≤ K) (hn : slots ≤ N) (hq : Q none T.heap locs) : own_WP p e below (own_E s Q K N) T (mkF m pc Ls []) :=
  own_end X hlk (fun _ => rfl) (fun fs hr => X.returnOut hx hret hd hr) hk hn hq
theorem own_retI (X : Stand p l e R s m args below meth c T locs cells slots) (hx : p.tables.exec = Jvm.exec) (hlk : meth.locks = false) {pc : Nat} {Ls : Array Slot} {z : Int32} (hret : meth.sig.returnType = some .int) (hd : decode c.code pc = .ok (.ireturn, 1))
    (hk : cells ≤ K) (hn : slots ≤ N) (hq : Q (some (.int z)) T.heap locs) : own_WP p e below (own_E s Q K N) T (mkF m pc Ls [.int z]) :=
  own_end X hlk (fun h => by rw [hret] at h; cases h) (fun fs hr => retOut X hx hret rfl (Or.inl ⟨rfl, Or.inl rfl, z, rfl⟩) hd hr) hk hn hq
theorem own_retJ (X : Stand p l e R s m args below meth c T locs cells slots) (hx : p.tables.exec = Jvm.exec) (hlk : meth.locks = false) {pc : Nat} {Ls : Array Slot} {z : Int64} (hret : meth.sig.returnType = some .long) (hd : decode c.code pc = .ok (.lreturn, 1))
    (hk : cells ≤ K) (hn : slots ≤ N) (hq : Q (some (.long z)) T.heap locs) : own_WP p e below (own_E s Q K N) T (mkF m pc Ls [.long z]) :=
  own_end X hlk (fun h => by rw [hret] at h; cases h) (fun fs hr => X.lreturnOut hx hret hd hr) hk hn hq
theorem own_retA (X : Stand p l e R s m args below meth c T locs cells slots) (hx : p.tables.exec = Jvm.exec) (hlk : meth.locks = false) {pc : Nat} {Ls : Array Slot} {w : Value} (hw : w.isRef = true) {t : FieldType} (ht : t.isReference = true) (hret : meth.sig.returnType = some t) (hd : decode c.code pc = .ok (.areturn, 1))
    (hk : cells ≤ K) (hn : slots ≤ N) (hq : Q (some w) T.heap locs) : own_WP p e below (own_E s Q K N) T (mkF m pc Ls [w]) :=
  own_end X hlk (fun h => by rw [hret] at h; cases h) (fun fs hr => X.areturnOut hx hw hret ht hd hr) hk hn hq
theorem own_retN (X : Stand p l e R s m args below meth c T locs cells slots) (hx : p.tables.exec = Jvm.exec) (hlk : meth.locks = false) {pc : Nat} {Ls : Array Slot} {z : Int32} {t : FieldType} (ht : t = .boolean ∨ t = .byte ∨ t = .char ∨ t = .short) (hret : meth.sig.returnType = some t) (hd : decode c.code pc = .ok (.ireturn, 1))
    (hk : cells ≤ K) (hn : slots ≤ N) (hq : Q (some (.int (nar t z))) T.heap locs) : own_WP p e below (own_E s Q K N) T (mkF m pc Ls [.int z]) :=
  own_end X hlk (fun h => by rw [hret] at h; cases h) (fun fs hr => retN X hx hret ht hd hr) hk hn hq
/-- the same, where a String constant may have been made: the wide frame -/
def own_EW (s : State) (Q : Option Value → Heap → List Loc → Prop) (K N : Nat) (o : Outcome) (t : State) : Prop := ∃ v L, o = .returned v ∧ Q v t.heap L ∧ ReturnedEndW s o t L K N
theorem own_retNW {vm₁ : Vm} (X : Stand p l e R (s.setVm vm₁) m args below meth c T locs cells slots) {n : Nat} (hS : s.Since vm₁ n) (hn : n ≤ T.heap.size) (hx : p.tables.exec = Jvm.exec) (hlk : meth.locks = false) {pc : Nat} {Ls : Array Slot} {z : Int32} {t : FieldType} (ht : t = .boolean ∨ t = .byte ∨ t = .char ∨ t = .short) (hret : meth.sig.returnType = some t) (hd : decode c.code pc = .ok (.ireturn, 1))
    (hk : cells ≤ K) (hN : slots ≤ N) (hq : Q (some (.int (nar t z))) T.heap locs) : own_WP p e below (own_EW s Q K N) T (mkF m pc Ls [.int z]) := by
  obtain ⟨fs, hr, hrun, hended, hEnd⟩ := X.leaveW hS hn (v := some (.int (nar t z))) (fun h => by rw [hret] at h; cases h) hlk
  exact ⟨_, _, retN X hx hret ht hd hr, hrun, hended, _, _, rfl, hq, hEnd.1, hEnd.2.1, hEnd.2.2.1, hEnd.2.2.2.mono hk hN⟩
theorem own_stR (X : Stand p l e R s m args below meth c T locs cells slots) (hx : p.tables.exec = Jvm.exec) (hZ : Z.Warmed39 s.vm) (eT : T.heap = h) {a y : Addr} {k : ClassId} {C : String} {n j : Int32} {vs : List Value} {d : Value} (V : Arv Z h a k (.object C) n vs d) (O : Ovr Z k C) (I : Ins Z h y C true) (hj : ¬ j < 0 ∧ j < n) {i : Nat} (hji : j.toNatClampNeg = i) (hi : i < vs.length)
    {pc : Nat} {Ls : Array Slot} {S : List Value} (hd : decode c.code pc = .ok (.aastore, 1))
    (kk : ∀ T' h', Stand p l e R s m args below meth c T' (locs ++ [⟨a, j.toNatClampNeg⟩]) cells slots → T'.heap = h' → Wr h h' a j.toNatClampNeg (.ref y) → Arv Z h' a k (.object C) n (vs.set i (.ref y)) d → own_WP p e below E T' (mkF m (pc + 1) Ls S)) : own_WP p e below E T (mkF m pc Ls (.ref y :: .int j :: .ref a :: S)) := by
  obtain ⟨cl, A, q, S1, M, H, G⟩ := V
  obtain ⟨T', h', X', e', W', st⟩ := stR X hx hZ eT A (j := j) (inb_of S1 hj) rfl (Sto.ofV A q O I) (g := mkF m pc Ls (.ref y :: .int j :: .ref a :: S)) rfl rfl hd
  exact own_go st (kk T' h' X' e' W' (Arv.set A q S1 M H G rfl W' i hji hi))
theorem own_len (X : Stand p l e R s m args below meth c T locs cells slots) (hx : p.tables.exec = Jvm.exec) (hZ : Z.Warmed39 s.vm) (eT : T.heap = h) {a : Addr} {k : ClassId} {ty : FieldType} {n : Int32} {vs : List Value} {d : Value} (V : Arv Z h a k ty n vs d)
    {pc : Nat} {Ls : Array Slot} {S : List Value} (hd : decode c.code pc = .ok (.arraylength, 1)) (kk : own_WP p e below E T (mkF m (pc + 1) Ls (.int n :: S))) : own_WP p e below E T (mkF m pc Ls (.ref a :: S)) := by
  obtain ⟨cl, A, q, S1, M, H, G⟩ := V
  refine own_go (fun t k => X.arraylength hx (by rw [eT]; exact A.1) (State.isArrayOf_alike hZ.alike A.2.1) (g := mkF m pc Ls (.ref a :: S)) rfl rfl hd t k) ?_
  rw [len_of S1 M]
  exact kk
theorem own_at {cl : Cell} {n j : Int32} {vs : List Value} {d w : Value} (S1 : cl.slots.size = n.toNatClampNeg) (H : Has cl vs d) (hj : ¬ j < 0 ∧ j < n) (hv : vs.getD j.toNatClampNeg d = w) : cl.slots[j.toNatClampNeg]? = some w :=
  H.at (inb_of S1 hj) hv
theorem own_ldI (X : Stand p l e R s m args below meth c T locs cells slots) (hx : p.tables.exec = Jvm.exec) (hZ : Z.Warmed39 s.vm) (eT : T.heap = h) {a : Addr} {k : ClassId} {n j w : Int32} {vs : List Value} {d : Value} (V : Arv Z h a k .int n vs d) (hj : ¬ j < 0 ∧ j < n) (hv : vs.getD j.toNatClampNeg d = .int w)
    {pc : Nat} {Ls : Array Slot} {S : List Value} (hd : decode c.code pc = .ok (.iaload, 1)) (kk : own_WP p e below E T (mkF m (pc + 1) Ls (.int w :: S))) : own_WP p e below E T (mkF m pc Ls (.int j :: .ref a :: S)) := by
  obtain ⟨cl, A, q, S1, M, H, G⟩ := V
  exact own_go (fun t k => X.iaload hx (j := j) (v := .int w) (by rw [eT]; exact A.1) (State.isArrayOf_alike hZ.alike A.2.1) A.2.2 (inb_of S1 hj) (own_at S1 H hj hv) (g := mkF m pc Ls (.int j :: .ref a :: S)) rfl rfl hd t k) kk
theorem own_ldJ (X : Stand p l e R s m args below meth c T locs cells slots) (hx : p.tables.exec = Jvm.exec) (hZ : Z.Warmed39 s.vm) (eT : T.heap = h) {a : Addr} {k : ClassId} {n j : Int32} {w : Int64} {vs : List Value} {d : Value} (V : Arv Z h a k .long n vs d) (hj : ¬ j < 0 ∧ j < n) (hv : vs.getD j.toNatClampNeg d = .long w)
    {pc : Nat} {Ls : Array Slot} {S : List Value} (hd : decode c.code pc = .ok (.laload, 1)) (kk : own_WP p e below E T (mkF m (pc + 1) Ls (.long w :: S))) : own_WP p e below E T (mkF m pc Ls (.int j :: .ref a :: S)) := by
  obtain ⟨cl, A, q, S1, M, H, G⟩ := V
  exact own_go (fun t k => X.laload hx (j := j) (v := .long w) (by rw [eT]; exact A.1) (State.isArrayOf_alike hZ.alike A.2.1) A.2.2 (inb_of S1 hj) (own_at S1 H hj hv) (g := mkF m pc Ls (.int j :: .ref a :: S)) rfl rfl hd t k) kk
theorem own_ldB (X : Stand p l e R s m args below meth c T locs cells slots) (hx : p.tables.exec = Jvm.exec) (hZ : Z.Warmed39 s.vm) (eT : T.heap = h) {a : Addr} {k : ClassId} {n j w : Int32} {vs : List Value} {d : Value} (V : Arv Z h a k .byte n vs d) (hj : ¬ j < 0 ∧ j < n) (hv : vs.getD j.toNatClampNeg d = .int w)
    {pc : Nat} {Ls : Array Slot} {S : List Value} (hd : decode c.code pc = .ok (.baload, 1)) (kk : own_WP p e below E T (mkF m (pc + 1) Ls (.int w :: S))) : own_WP p e below E T (mkF m pc Ls (.int j :: .ref a :: S)) := by
  obtain ⟨cl, A, q, S1, M, H, G⟩ := V
  exact own_go (fun t k => X.baloadBytes hx (j := j) (v := .int w) (by rw [eT]; exact A.1) (State.isArrayOf_alike hZ.alike A.2.1) A.2.2 (inb_of S1 hj) (own_at S1 H hj hv) (g := mkF m pc Ls (.int j :: .ref a :: S)) rfl rfl hd t k) kk
theorem own_ldR (X : Stand p l e R s m args below meth c T locs cells slots) (hx : p.tables.exec = Jvm.exec) (hZ : Z.Warmed39 s.vm) (eT : T.heap = h) {a : Addr} {k : ClassId} {ty : FieldType} (hty : ty.isReference = true) {n j : Int32} {w : Value} {vs : List Value} {d : Value} (V : Arv Z h a k ty n vs d) (hj : ¬ j < 0 ∧ j < n) (hv : vs.getD j.toNatClampNeg d = w)
    {pc : Nat} {Ls : Array Slot} {S : List Value} (hd : decode c.code pc = .ok (.aaload, 1)) (kk : own_WP p e below E T (mkF m (pc + 1) Ls (w :: S))) : own_WP p e below E T (mkF m pc Ls (.int j :: .ref a :: S)) := by
  obtain ⟨cl, A, q, S1, M, H, G⟩ := V
  exact own_go (fun t k => X.aaload hx (j := j) (v := w) (by rw [eT]; exact A.1) (State.isArrayOf_alike hZ.alike A.2.1) hty A.2.2 (inb_of S1 hj) (own_at S1 H hj hv) (g := mkF m pc Ls (.int j :: .ref a :: S)) rfl rfl hd t k) kk
theorem own_stI (X : Stand p l e R s m args below meth c T locs cells slots) (hx : p.tables.exec = Jvm.exec) (hZ : Z.Warmed39 s.vm) (eT : T.heap = h) {a : Addr} {k : ClassId} {n j x : Int32} {vs : List Value} {d : Value} (V : Arv Z h a k .int n vs d) (hj : ¬ j < 0 ∧ j < n) {i : Nat} (hji : j.toNatClampNeg = i) (hi : i < vs.length)
    {pc : Nat} {Ls : Array Slot} {S : List Value} (hd : decode c.code pc = .ok (.iastore, 1))
    (kk : ∀ T' h', Stand p l e R s m args below meth c T' (locs ++ [⟨a, j.toNatClampNeg⟩]) cells slots → T'.heap = h' → Wr h h' a j.toNatClampNeg (.int x) → Arv Z h' a k .int n (vs.set i (.int x)) d → own_WP p e below E T' (mkF m (pc + 1) Ls S)) : own_WP p e below E T (mkF m pc Ls (.int x :: .int j :: .ref a :: S)) := by
  obtain ⟨cl, A, q, S1, M, H, G⟩ := V
  obtain ⟨T', h', X', e', W', st⟩ := stI X hx hZ eT A (j := j) (inb_of S1 hj) (g := mkF m pc Ls (.int x :: .int j :: .ref a :: S)) rfl rfl hd
  exact own_go st (kk T' h' X' e' W' (Arv.set A q S1 M H G rfl W' i hji hi))
theorem own_stJ (X : Stand p l e R s m args below meth c T locs cells slots) (hx : p.tables.exec = Jvm.exec) (hZ : Z.Warmed39 s.vm) (eT : T.heap = h) {a : Addr} {k : ClassId} {n j : Int32} {x : Int64} {vs : List Value} {d : Value} (V : Arv Z h a k .long n vs d) (hj : ¬ j < 0 ∧ j < n) {i : Nat} (hji : j.toNatClampNeg = i) (hi : i < vs.length)
    {pc : Nat} {Ls : Array Slot} {S : List Value} (hd : decode c.code pc = .ok (.lastore, 1))
    (kk : ∀ T' h', Stand p l e R s m args below meth c T' (locs ++ [⟨a, j.toNatClampNeg⟩]) cells slots → T'.heap = h' → Wr h h' a j.toNatClampNeg (.long x) → Arv Z h' a k .long n (vs.set i (.long x)) d → own_WP p e below E T' (mkF m (pc + 1) Ls S)) : own_WP p e below E T (mkF m pc Ls (.long x :: .int j :: .ref a :: S)) := by
  obtain ⟨cl, A, q, S1, M, H, G⟩ := V
  obtain ⟨T', h', X', e', W', st⟩ := stJ X hx hZ eT A (j := j) (inb_of S1 hj) (g := mkF m pc Ls (.long x :: .int j :: .ref a :: S)) rfl rfl hd
  exact own_go st (kk T' h' X' e' W' (Arv.set A q S1 M H G rfl W' i hji hi))
theorem own_stB (X : Stand p l e R s m args below meth c T locs cells slots) (hx : p.tables.exec = Jvm.exec) (hZ : Z.Warmed39 s.vm) (eT : T.heap = h) {a : Addr} {k : ClassId} {n j x : Int32} {vs : List Value} {d : Value} (V : Arv Z h a k .byte n vs d) (hj : ¬ j < 0 ∧ j < n) {i : Nat} (hji : j.toNatClampNeg = i) (hi : i < vs.length)
    {pc : Nat} {Ls : Array Slot} {S : List Value} (hd : decode c.code pc = .ok (.bastore, 1))
    (kk : ∀ T' h', Stand p l e R s m args below meth c T' (locs ++ [⟨a, j.toNatClampNeg⟩]) cells slots → T'.heap = h' → Wr h h' a j.toNatClampNeg (.int (nar .byte x)) → Arv Z h' a k .byte n (vs.set i (.int (nar .byte x))) d → own_WP p e below E T' (mkF m (pc + 1) Ls S)) : own_WP p e below E T (mkF m pc Ls (.int x :: .int j :: .ref a :: S)) := by
  obtain ⟨cl, A, q, S1, M, H, G⟩ := V
  obtain ⟨T', h', X', e', W', st⟩ := stB X hx hZ eT A (j := j) (inb_of S1 hj) (g := mkF m pc Ls (.int x :: .int j :: .ref a :: S)) rfl rfl hd
  exact own_go st (kk T' h' X' e' W' (Arv.set A q S1 M H G (fits_nar_byte x) W' i hji hi))
theorem own_nm {x a : Addr} (h : x ≠ a) : x ∉ [a] := fun q => h (List.mem_singleton.mp q)
theorem own_nm0 {x : Addr} : x ∉ ([] : List Addr) := List.not_mem_nil
theorem own_nm2 {x a b : Addr} (h : x ≠ a) (h' : x ≠ b) : x ∉ [a, b] := fun q => by
  rcases List.mem_cons.mp q with r | r
  · exact h r
  · exact h' (List.mem_singleton.mp r)
theorem own_nm4 {x a b c d : Addr} (q1 : x ≠ a) (q2 : x ≠ b) (q3 : x ≠ c) (q4 : x ≠ d) : x ∉ [a, b, c, d] := fun q => by
  simp only [List.mem_cons, List.not_mem_nil, or_false] at q
  rcases q with r | r | r | r
  · exact q1 r
  · exact q2 r
  · exact q3 r
  · exact q4 r
theorem own_le {h0 h : Heap} {n0 : Nat} {ws : List Addr} (Z0 : n0 ≤ h0.size) (K : Keep h0 h ws) : n0 ≤ h.size := Nat.le_trans Z0 K.1
end OwnKit
theorem own_fin (b : Nat) (y : Int32) (h0 : 0 ≤ y.toInt) (h1 : y.toInt < b) : ∃ n : Fin b, y = Int32.ofNat n.1 := by
  have h2 : y.toInt < 2147483648 := y.toInt_lt
  refine ⟨⟨y.toInt.toNat, by omega⟩, ?_⟩
  apply Int32.toInt_inj.mp
  rw [Int32.toInt_ofNat_of_lt (by show y.toInt.toNat < 2 ^ 31; omega)]
  show y.toInt = (y.toInt.toNat : Int)
  omega
def own_let (z : Int32) : Int32 := if z < 97 then (if z < 65 then -1 else if 70 < z then -1 else (26 + z) - 65) else if 122 < z then (if z < 65 then -1 else if 70 < z then -1 else (26 + z) - 65) else z - 97
def own_sym (z : Int32) : Int32 := if z < 26 then (97 + z).toUInt32.toUInt16.toUInt32.toInt32 else ((65 + z) - 26).toUInt32.toUInt16.toUInt32.toInt32
theorem own_inv2 : ∀ n : Fin 32, own_let (own_sym (Int32.ofNat n.1)) = Int32.ofNat n.1 := by decide +kernel
theorem own_inv1s : ∀ n : Fin 123, own_let (Int32.ofNat n.1) = -1 ∨ (¬ own_let (Int32.ofNat n.1) < 0 ∧ ¬ 31 < own_let (Int32.ofNat n.1) ∧ own_sym (own_let (Int32.ofNat n.1)) = Int32.ofNat n.1) := by decide +kernel
theorem own_inv1 (z : Int32) : own_let z = -1 ∨ (¬ own_let z < 0 ∧ ¬ 31 < own_let z ∧ own_sym (own_let z) = z) := by
  have e0 : (0 : Int32).toInt = 0 := rfl
  have e1 : (97 : Int32).toInt = 97 := rfl
  have e2 : (65 : Int32).toInt = 65 := rfl
  have e3 : (122 : Int32).toInt = 122 := rfl
  by_cases h : 0 ≤ z.toInt ∧ z.toInt < 123
  · obtain ⟨n, rfl⟩ := own_fin 123 z h.1 h.2
    exact own_inv1s n
  · left
    by_cases h1 : z < 97
    · have h2 : z < 65 := by rw [Int32.lt_iff_toInt_lt] at h1 ⊢; omega
      simp [own_let, h1, h2]
    · have h2 : (122 : Int32) < z := by rw [Int32.lt_iff_toInt_lt] at h1 ⊢; omega
      have h3 : ¬ z < 65 := by rw [Int32.lt_iff_toInt_lt] at h1 ⊢; omega
      have h4 : (70 : Int32) < z := by
        have e4 : (70 : Int32).toInt = 70 := rfl
        rw [Int32.lt_iff_toInt_lt] at h1 ⊢; omega
      simp [own_let, h1, h2, h3, h4]

theorem own_nc (x : Int32) : nar .char x.toUInt32.toUInt16.toUInt32.toInt32 = x.toUInt32.toUInt16.toUInt32.toInt32 := by
  show x.toUInt32.toUInt16.toUInt32.toInt32.toUInt32.toUInt16.toUInt32.toInt32 = _
  rw [UInt32.toUInt32_toInt32, UInt16.toUInt16_toUInt32]
open Jvm.Kit in
theorem own_inv2x (b : Int32) : own_let (own_sym (b &&& 31)) = b &&& 31 := by
  have e : (b &&& 31).toInt = b.toInt % 2 ^ 5 := i32_mask b 31 (k := 5) (by decide) (by decide)
  obtain ⟨n, q⟩ := own_fin 32 (b &&& 31) (by omega) (by omega)
  rw [q]
  exact own_inv2 n
def own_ca (w : Int32) : Int32 := (w &&& (255 : Int32)).toUInt32.toUInt16.toUInt32.toInt32
def own_tb : List Int32 := [97, 98, 99, 100, 101, 102, 103, 104, 105, 106, 107, 108, 109, 110, 111, 112, 113, 114, 115, 116, 117, 118, 119, 120, 121, 122, 65, 66, 67, 68, 69, 70]
theorem own_k1s : ∀ n : Fin 32, own_sym (Int32.ofNat n.1) = own_ca (own_tb.getD (Int32.ofNat n.1).toNatClampNeg 0) := by decide +kernel
theorem own_k1 {b k : Int32} (h : b &&& 31 = k) : own_sym k = own_ca (own_tb.getD k.toNatClampNeg 0) := by
  have e : (b &&& 31).toInt = b.toInt % 2 ^ 5 := Jvm.Kit.i32_mask b 31 (k := 5) (by decide) (by decide)
  obtain ⟨n, q⟩ := own_fin 32 (b &&& 31) (by omega) (by omega)
  rw [← h, q]
  exact own_k1s n
theorem own_rg {b k : Int32} (h : b &&& 31 = k) : ¬ k < 0 ∧ k < (32 : Int32) := by
  have e : (b &&& 31).toInt = b.toInt % 2 ^ 5 := Jvm.Kit.i32_mask b 31 (k := 5) (by decide) (by decide)
  rw [h] at e
  have e0 : (0 : Int32).toInt = 0 := rfl
  have e1 : (32 : Int32).toInt = 32 := rfl
  rw [Int32.lt_iff_toInt_lt, Int32.lt_iff_toInt_lt, e0, e1]
  omega
theorem own_mapget (L : List Int32) (n : Nat) {z : Int32} (h : L.getD n 0 = z) : (List.map Value.int L).getD n (.int (0 : Int32)) = .int z := by
  subst h
  simp only [List.getD_eq_getElem?_getD, List.getElem?_map]
  cases L[n]? <;> rfl
theorem own_tx : (∀ c ∈ ("abcdefghijklmnopqrstuvwxyzABCDEF" : String).toList, c.toNat < 256) ∧ ("abcdefghijklmnopqrstuvwxyzABCDEF" : String).toList.map (fun c => Value.int (Jvm.Lit.byteI c.toNat.toUInt16)) = List.map Value.int own_tb := ⟨by decide +kernel, by decide +kernel⟩
theorem own_not0 {t : Term} {a : Array Value} {s : State} {z : Int32} (h : t.eval a s none [] s = some (.int z)) (q : (Cond.not (Cond.eq t (Term.int (0 : Int32)))).value a s none s [] = some true) : ¬ z = 0 := by
  intro e
  subst e
  simp [Cond.value, Term.eval, h] at q
theorem own_isR {t : Term} {a : Array Value} {s : State} (q : (Cond.isRef t).value a s none s [] = some true) : ∃ v, t.eval a s none [] s = some v ∧ v.isRef = true := by
  simp only [Cond.value] at q
  cases ht : t.eval a s none [] s with
  | none => simp [ht] at q
  | some x => exact ⟨x, rfl, by cases x <;> simp [ht, Value.isRef] at q ⊢⟩
theorem own_sa {Z : State} {a0 : Array Value} (hw : ∀ d ∈ tables_1, d.before a0 Z = true) : ∀ a ∈ Bundle.stringAtoms, a.before a0 Z = true := by
  intro d hd
  simp only [Bundle.stringAtoms, List.mem_cons, List.not_mem_nil, or_false] at hd
  rcases hd with rfl | rfl | rfl | rfl | rfl | rfl | rfl
  · exact (hw _ (List.mem_of_getElem? (i := 5) rfl))
  · exact (hw _ (List.mem_of_getElem? (i := 6) rfl))
  · exact (hw _ (List.mem_of_getElem? (i := 7) rfl))
  · exact (hw _ (List.mem_of_getElem? (i := 8) rfl))
  · exact (hw _ (List.mem_of_getElem? (i := 9) rfl))
  · exact (hw _ (List.mem_of_getElem? (i := 10) rfl))
  · exact (hw _ (List.mem_of_getElem? (i := 11) rfl))
theorem d7_0 : decode prog_10_method_3_code 0 = .ok (.iload_n 0, 1) := by decide +kernel
theorem d7_1 : decode prog_10_method_3_code 1 = .ok (.bipush 97, 2) := by decide +kernel
theorem d7_3 : decode prog_10_method_3_code 3 = .ok (.if_icmp .lt 14, 3) := by decide +kernel
theorem d7_6 : decode prog_10_method_3_code 6 = .ok (.iload_n 0, 1) := by decide +kernel
theorem d7_7 : decode prog_10_method_3_code 7 = .ok (.bipush 122, 2) := by decide +kernel
theorem d7_9 : decode prog_10_method_3_code 9 = .ok (.if_icmp .gt 8, 3) := by decide +kernel
theorem d7_12 : decode prog_10_method_3_code 12 = .ok (.iload_n 0, 1) := by decide +kernel
theorem d7_13 : decode prog_10_method_3_code 13 = .ok (.bipush 97, 2) := by decide +kernel
theorem d7_15 : decode prog_10_method_3_code 15 = .ok (.isub, 1) := by decide +kernel
theorem d7_16 : decode prog_10_method_3_code 16 = .ok (.ireturn, 1) := by decide +kernel
theorem d7_17 : decode prog_10_method_3_code 17 = .ok (.iload_n 0, 1) := by decide +kernel
theorem d7_18 : decode prog_10_method_3_code 18 = .ok (.bipush 65, 2) := by decide +kernel
theorem d7_20 : decode prog_10_method_3_code 20 = .ok (.if_icmp .lt 17, 3) := by decide +kernel
theorem d7_23 : decode prog_10_method_3_code 23 = .ok (.iload_n 0, 1) := by decide +kernel
theorem d7_24 : decode prog_10_method_3_code 24 = .ok (.bipush 70, 2) := by decide +kernel
theorem d7_26 : decode prog_10_method_3_code 26 = .ok (.if_icmp .gt 11, 3) := by decide +kernel
theorem d7_29 : decode prog_10_method_3_code 29 = .ok (.bipush 26, 2) := by decide +kernel
theorem d7_31 : decode prog_10_method_3_code 31 = .ok (.iload_n 0, 1) := by decide +kernel
theorem d7_32 : decode prog_10_method_3_code 32 = .ok (.iadd, 1) := by decide +kernel
theorem d7_33 : decode prog_10_method_3_code 33 = .ok (.bipush 65, 2) := by decide +kernel
theorem d7_35 : decode prog_10_method_3_code 35 = .ok (.isub, 1) := by decide +kernel
theorem d7_36 : decode prog_10_method_3_code 36 = .ok (.ireturn, 1) := by decide +kernel
theorem d7_37 : decode prog_10_method_3_code 37 = .ok (.iconst (-1), 1) := by decide +kernel
theorem d7_38 : decode prog_10_method_3_code 38 = .ok (.ireturn, 1) := by decide +kernel
theorem own_pn80992 : plainName "sinkward/Label" = true := by first | (simp [plainName, overriddenIn]; done) | decide +kernel
theorem ef_7 (m : MethodId) (zc : Int32) : entryFrame m #[(.int zc)] 1 = mkF m 0 #[.val (.int zc)] [] := by first | (simp [entryFrame, mkF, argsToLocals, Value.category]; done) | rfl
def Q7 (Z : State) (zc : Int32) (h0 : Heap) (n0 : Nat) (v : Option Value) (h : Heap) (L : List Loc) : Prop := v = some (.int (own_let zc)) ∧ Fr n0 L ∧ h = h0
set_option maxRecDepth 65536 in
set_option maxHeartbeats 40000000 in
theorem rm7 (l : Launch) (Z : State) (a0 : Array Value) (hw : ∀ d ∈ tables_1, d.before a0 Z = true) (ws : List Jvm.Cond) (zc : Int32) (h0 : Heap) (n0 : Nat) (Z0 : n0 ≤ h0.size)  :
    MetFree l (⟨"sinkward/Label", "letter", "(C)I"⟩ : MethodName) (head1 (Jvm.Cond.code (⟨"sinkward/Label", "letter", "(C)I"⟩ : MethodName) prog_10_method_3_code 1 (some .int) :: ws) ({ frames := 0, cells := 0, slots := 0, locals := 0 } : Room)) (fun a U => a = #[(.int zc)] ∧ Z.Warmed39 U.vm ∧ U.heap = h0) (fun _ _ _ _ _ => True) (fun _ U o U' => ∃ v L, o = .returned v ∧ Q7 Z zc h0 n0 v U'.heap L ∧ FrameEnd U o U' L ({ frames := 0, cells := 0, slots := 0, locals := 0 } : Room).cells ({ frames := 0, cells := 0, slots := 0, locals := 0 } : Room).slots) := by
  refine MetFree.of_bodySF (plainFor_of_name own_pn80992) hisR ?_
  intro p e s m args below meth c s₁ Bd hml0 hP hK
  obtain ⟨rfl, hZ, hh⟩ := hP
  have hx := Bd.exec
  have hby := Bd.bytes
  have hml : c.maxLocals = 1 := hml0
  have hown : s.vm.findClass "sinkward/Label" = some m.cls := findClass_of_methodNamed Bd.named
  have hnm := (name_of_methodNamed Bd.named Bd.method).1
  have X0 : Stand p l e ({ frames := 0, cells := 0, slots := 0, locals := 0 } : Room) s m #[(.int zc)] below meth c s₁ [] 0 0 := Stand.of_body Bd
  have e0 : s₁.heap = h0 := by rw [← hh, Bd.state]; rfl
  have N0 := Fr.nil n0
  have K0 := Keep.refl h0 ([] : List Addr)
  show own_WP p e below (own_E s (Q7 Z zc h0 n0) 0 0) s₁ (entryFrame m #[(.int zc)] 1)
  rw [ef_7 m zc]
  show own_WP _ _ _ _ s₁ (mkF m 0 #[.val (.int zc)] [])
  refine own_go (fun t k => XS.iloadN X0.here hx rfl (hb hby d7_0) rfl  k) ?_
  show own_WP _ _ _ _ s₁ (mkF m 1 #[.val (.int zc)] [(.int zc)])
  refine own_go (fun t k => XS.bipush X0.here hx rfl (hb hby d7_1) k) ?_
  show own_WP _ _ _ _ s₁ (mkF m 3 #[.val (.int zc)] [(.int (97 : Int32)), (.int zc)])
  by_cases hc3 : zc < (97 : Int32)
  · refine own_go (fun t k => XS.icmpYes X0.here hx rfl (pc0 := 3) (pc' := 17) rfl (hb hby d7_3) rfl (tlt hc3).1 (by decide) (by decide) k) ?_
    show own_WP _ _ _ _ s₁ (mkF m 17 #[.val (.int zc)] [])
    refine own_go (fun t k => XS.iloadN X0.here hx rfl (hb hby d7_17) rfl  k) ?_
    show own_WP _ _ _ _ s₁ (mkF m 18 #[.val (.int zc)] [(.int zc)])
    refine own_go (fun t k => XS.bipush X0.here hx rfl (hb hby d7_18) k) ?_
    show own_WP _ _ _ _ s₁ (mkF m 20 #[.val (.int zc)] [(.int (65 : Int32)), (.int zc)])
    by_cases hc20 : zc < (65 : Int32)
    · refine own_go (fun t k => XS.icmpYes X0.here hx rfl (pc0 := 20) (pc' := 37) rfl (hb hby d7_20) rfl (tlt hc20).1 (by decide) (by decide) k) ?_
      show own_WP _ _ _ _ s₁ (mkF m 37 #[.val (.int zc)] [])
      refine own_go (fun t k => XS.iconst X0.here hx rfl (hb hby d7_37) k) ?_
      show own_WP _ _ _ _ s₁ (mkF m 38 #[.val (.int zc)] [(.int (-1 : Int32))])
      refine own_retI X0 hx Bd.notSynchronized Bd.returns (hb hby d7_38) (by decide) (by decide) ?_
      rw [e0]
      exact ⟨(congrArg (fun z => some (Value.int z)) (show (-1 : Int32) = (own_let zc) from by first | (simp [nar, own_let, hc3, hc20]; done) | (simp only [if_true, if_false, eq_self, ↓reduceIte, own_let, hc3, hc20]; first | done | rfl | decide) | (unfold own_let; rw [if_pos hc3, if_pos hc20]; first | done | rfl))), N0, rfl⟩
    · refine own_go (fun t k => XS.icmpNo X0.here hx rfl (hb hby d7_20) rfl (flt hc20).1 k) ?_
      show own_WP _ _ _ _ s₁ (mkF m 23 #[.val (.int zc)] [])
      refine own_go (fun t k => XS.iloadN X0.here hx rfl (hb hby d7_23) rfl  k) ?_
      show own_WP _ _ _ _ s₁ (mkF m 24 #[.val (.int zc)] [(.int zc)])
      refine own_go (fun t k => XS.bipush X0.here hx rfl (hb hby d7_24) k) ?_
      show own_WP _ _ _ _ s₁ (mkF m 26 #[.val (.int zc)] [(.int (70 : Int32)), (.int zc)])
      by_cases hc26 : (70 : Int32) < zc
      · refine own_go (fun t k => XS.icmpYes X0.here hx rfl (pc0 := 26) (pc' := 37) rfl (hb hby d7_26) rfl (tlt hc26).2.2.1 (by decide) (by decide) k) ?_
        show own_WP _ _ _ _ s₁ (mkF m 37 #[.val (.int zc)] [])
        refine own_go (fun t k => XS.iconst X0.here hx rfl (hb hby d7_37) k) ?_
        show own_WP _ _ _ _ s₁ (mkF m 38 #[.val (.int zc)] [(.int (-1 : Int32))])
        refine own_retI X0 hx Bd.notSynchronized Bd.returns (hb hby d7_38) (by decide) (by decide) ?_
        rw [e0]
        exact ⟨(congrArg (fun z => some (Value.int z)) (show (-1 : Int32) = (own_let zc) from by first | (simp [nar, own_let, hc3, hc20, hc26]; done) | (simp only [if_true, if_false, eq_self, ↓reduceIte, own_let, hc3, hc20, hc26]; first | done | rfl | decide) | (unfold own_let; rw [if_pos hc3, if_neg hc20, if_pos hc26]; first | done | rfl))), N0, rfl⟩
      · refine own_go (fun t k => XS.icmpNo X0.here hx rfl (hb hby d7_26) rfl (flt hc26).2.2.1 k) ?_
        show own_WP _ _ _ _ s₁ (mkF m 29 #[.val (.int zc)] [])
        refine own_go (fun t k => XS.bipush X0.here hx rfl (hb hby d7_29) k) ?_
        show own_WP _ _ _ _ s₁ (mkF m 31 #[.val (.int zc)] [(.int (26 : Int32))])
        refine own_go (fun t k => XS.iloadN X0.here hx rfl (hb hby d7_31) rfl  k) ?_
        show own_WP _ _ _ _ s₁ (mkF m 32 #[.val (.int zc)] [(.int zc), (.int (26 : Int32))])
        refine own_go (fun t k => XS.iadd X0.here hx rfl (hb hby d7_32) rfl k) ?_
        show own_WP _ _ _ _ s₁ (mkF m 33 #[.val (.int zc)] [(.int ((26 : Int32) + zc))])
        refine own_go (fun t k => XS.bipush X0.here hx rfl (hb hby d7_33) k) ?_
        show own_WP _ _ _ _ s₁ (mkF m 35 #[.val (.int zc)] [(.int (65 : Int32)), (.int ((26 : Int32) + zc))])
        refine own_go (fun t k => XS.isub X0.here hx rfl (hb hby d7_35) rfl k) ?_
        show own_WP _ _ _ _ s₁ (mkF m 36 #[.val (.int zc)] [(.int (((26 : Int32) + zc) - (65 : Int32)))])
        refine own_retI X0 hx Bd.notSynchronized Bd.returns (hb hby d7_36) (by decide) (by decide) ?_
        rw [e0]
        exact ⟨(congrArg (fun z => some (Value.int z)) (show (((26 : Int32) + zc) - (65 : Int32)) = (own_let zc) from by first | (simp [nar, own_let, hc3, hc20, hc26]; done) | (simp only [if_true, if_false, eq_self, ↓reduceIte, own_let, hc3, hc20, hc26]; first | done | rfl | decide) | (unfold own_let; rw [if_pos hc3, if_neg hc20, if_neg hc26]; first | done | rfl))), N0, rfl⟩
  · refine own_go (fun t k => XS.icmpNo X0.here hx rfl (hb hby d7_3) rfl (flt hc3).1 k) ?_
    show own_WP _ _ _ _ s₁ (mkF m 6 #[.val (.int zc)] [])
    refine own_go (fun t k => XS.iloadN X0.here hx rfl (hb hby d7_6) rfl  k) ?_
    show own_WP _ _ _ _ s₁ (mkF m 7 #[.val (.int zc)] [(.int zc)])
    refine own_go (fun t k => XS.bipush X0.here hx rfl (hb hby d7_7) k) ?_
    show own_WP _ _ _ _ s₁ (mkF m 9 #[.val (.int zc)] [(.int (122 : Int32)), (.int zc)])
    by_cases hc9 : (122 : Int32) < zc
    · refine own_go (fun t k => XS.icmpYes X0.here hx rfl (pc0 := 9) (pc' := 17) rfl (hb hby d7_9) rfl (tlt hc9).2.2.1 (by decide) (by decide) k) ?_
      show own_WP _ _ _ _ s₁ (mkF m 17 #[.val (.int zc)] [])
      refine own_go (fun t k => XS.iloadN X0.here hx rfl (hb hby d7_17) rfl  k) ?_
      show own_WP _ _ _ _ s₁ (mkF m 18 #[.val (.int zc)] [(.int zc)])
      refine own_go (fun t k => XS.bipush X0.here hx rfl (hb hby d7_18) k) ?_
      show own_WP _ _ _ _ s₁ (mkF m 20 #[.val (.int zc)] [(.int (65 : Int32)), (.int zc)])
      by_cases hc20 : zc < (65 : Int32)
      · refine own_go (fun t k => XS.icmpYes X0.here hx rfl (pc0 := 20) (pc' := 37) rfl (hb hby d7_20) rfl (tlt hc20).1 (by decide) (by decide) k) ?_
        show own_WP _ _ _ _ s₁ (mkF m 37 #[.val (.int zc)] [])
        refine own_go (fun t k => XS.iconst X0.here hx rfl (hb hby d7_37) k) ?_
        show own_WP _ _ _ _ s₁ (mkF m 38 #[.val (.int zc)] [(.int (-1 : Int32))])
        refine own_retI X0 hx Bd.notSynchronized Bd.returns (hb hby d7_38) (by decide) (by decide) ?_
        rw [e0]
        exact ⟨(congrArg (fun z => some (Value.int z)) (show (-1 : Int32) = (own_let zc) from by first | (simp [nar, own_let, hc3, hc9, hc20]; done) | (simp only [if_true, if_false, eq_self, ↓reduceIte, own_let, hc3, hc9, hc20]; first | done | rfl | decide) | (unfold own_let; rw [if_neg hc3, if_pos hc9, if_pos hc20]; first | done | rfl))), N0, rfl⟩
      · refine own_go (fun t k => XS.icmpNo X0.here hx rfl (hb hby d7_20) rfl (flt hc20).1 k) ?_
        show own_WP _ _ _ _ s₁ (mkF m 23 #[.val (.int zc)] [])
        refine own_go (fun t k => XS.iloadN X0.here hx rfl (hb hby d7_23) rfl  k) ?_
        show own_WP _ _ _ _ s₁ (mkF m 24 #[.val (.int zc)] [(.int zc)])
        refine own_go (fun t k => XS.bipush X0.here hx rfl (hb hby d7_24) k) ?_
        show own_WP _ _ _ _ s₁ (mkF m 26 #[.val (.int zc)] [(.int (70 : Int32)), (.int zc)])
        by_cases hc26 : (70 : Int32) < zc
        · refine own_go (fun t k => XS.icmpYes X0.here hx rfl (pc0 := 26) (pc' := 37) rfl (hb hby d7_26) rfl (tlt hc26).2.2.1 (by decide) (by decide) k) ?_
          show own_WP _ _ _ _ s₁ (mkF m 37 #[.val (.int zc)] [])
          refine own_go (fun t k => XS.iconst X0.here hx rfl (hb hby d7_37) k) ?_
          show own_WP _ _ _ _ s₁ (mkF m 38 #[.val (.int zc)] [(.int (-1 : Int32))])
          refine own_retI X0 hx Bd.notSynchronized Bd.returns (hb hby d7_38) (by decide) (by decide) ?_
          rw [e0]
          exact ⟨(congrArg (fun z => some (Value.int z)) (show (-1 : Int32) = (own_let zc) from by first | (simp [nar, own_let, hc3, hc9, hc20, hc26]; done) | (simp only [if_true, if_false, eq_self, ↓reduceIte, own_let, hc3, hc9, hc20, hc26]; first | done | rfl | decide) | (unfold own_let; rw [if_neg hc3, if_pos hc9, if_neg hc20, if_pos hc26]; first | done | rfl))), N0, rfl⟩
        · refine own_go (fun t k => XS.icmpNo X0.here hx rfl (hb hby d7_26) rfl (flt hc26).2.2.1 k) ?_
          show own_WP _ _ _ _ s₁ (mkF m 29 #[.val (.int zc)] [])
          refine own_go (fun t k => XS.bipush X0.here hx rfl (hb hby d7_29) k) ?_
          show own_WP _ _ _ _ s₁ (mkF m 31 #[.val (.int zc)] [(.int (26 : Int32))])
          refine own_go (fun t k => XS.iloadN X0.here hx rfl (hb hby d7_31) rfl  k) ?_
          show own_WP _ _ _ _ s₁ (mkF m 32 #[.val (.int zc)] [(.int zc), (.int (26 : Int32))])
          refine own_go (fun t k => XS.iadd X0.here hx rfl (hb hby d7_32) rfl k) ?_
          show own_WP _ _ _ _ s₁ (mkF m 33 #[.val (.int zc)] [(.int ((26 : Int32) + zc))])
          refine own_go (fun t k => XS.bipush X0.here hx rfl (hb hby d7_33) k) ?_
          show own_WP _ _ _ _ s₁ (mkF m 35 #[.val (.int zc)] [(.int (65 : Int32)), (.int ((26 : Int32) + zc))])
          refine own_go (fun t k => XS.isub X0.here hx rfl (hb hby d7_35) rfl k) ?_
          show own_WP _ _ _ _ s₁ (mkF m 36 #[.val (.int zc)] [(.int (((26 : Int32) + zc) - (65 : Int32)))])
          refine own_retI X0 hx Bd.notSynchronized Bd.returns (hb hby d7_36) (by decide) (by decide) ?_
          rw [e0]
          exact ⟨(congrArg (fun z => some (Value.int z)) (show (((26 : Int32) + zc) - (65 : Int32)) = (own_let zc) from by first | (simp [nar, own_let, hc3, hc9, hc20, hc26]; done) | (simp only [if_true, if_false, eq_self, ↓reduceIte, own_let, hc3, hc9, hc20, hc26]; first | done | rfl | decide) | (unfold own_let; rw [if_neg hc3, if_pos hc9, if_neg hc20, if_neg hc26]; first | done | rfl))), N0, rfl⟩
    · refine own_go (fun t k => XS.icmpNo X0.here hx rfl (hb hby d7_9) rfl (flt hc9).2.2.1 k) ?_
      show own_WP _ _ _ _ s₁ (mkF m 12 #[.val (.int zc)] [])
      refine own_go (fun t k => XS.iloadN X0.here hx rfl (hb hby d7_12) rfl  k) ?_
      show own_WP _ _ _ _ s₁ (mkF m 13 #[.val (.int zc)] [(.int zc)])
      refine own_go (fun t k => XS.bipush X0.here hx rfl (hb hby d7_13) k) ?_
      show own_WP _ _ _ _ s₁ (mkF m 15 #[.val (.int zc)] [(.int (97 : Int32)), (.int zc)])
      refine own_go (fun t k => XS.isub X0.here hx rfl (hb hby d7_15) rfl k) ?_
      show own_WP _ _ _ _ s₁ (mkF m 16 #[.val (.int zc)] [(.int (zc - (97 : Int32)))])
      refine own_retI X0 hx Bd.notSynchronized Bd.returns (hb hby d7_16) (by decide) (by decide) ?_
      rw [e0]
      exact ⟨(congrArg (fun z => some (Value.int z)) (show (zc - (97 : Int32)) = (own_let zc) from by first | (simp [nar, own_let, hc3, hc9]; done) | (simp only [if_true, if_false, eq_self, ↓reduceIte, own_let, hc3, hc9]; first | done | rfl | decide) | (unfold own_let; rw [if_neg hc3, if_neg hc9]; first | done | rfl))), N0, rfl⟩
theorem d1_0 : decode prog_10_method_4_code 0 = .ok (.iload_n 0, 1) := by decide +kernel
theorem d1_1 : decode prog_10_method_4_code 1 = .ok (.bipush 26, 2) := by decide +kernel
theorem d1_3 : decode prog_10_method_4_code 3 = .ok (.if_icmp .ge 10, 3) := by decide +kernel
theorem d1_6 : decode prog_10_method_4_code 6 = .ok (.bipush 97, 2) := by decide +kernel
theorem d1_8 : decode prog_10_method_4_code 8 = .ok (.iload_n 0, 1) := by decide +kernel
theorem d1_9 : decode prog_10_method_4_code 9 = .ok (.iadd, 1) := by decide +kernel
theorem d1_10 : decode prog_10_method_4_code 10 = .ok (.goto 10, 3) := by decide +kernel
theorem d1_13 : decode prog_10_method_4_code 13 = .ok (.bipush 65, 2) := by decide +kernel
theorem d1_15 : decode prog_10_method_4_code 15 = .ok (.iload_n 0, 1) := by decide +kernel
theorem d1_16 : decode prog_10_method_4_code 16 = .ok (.iadd, 1) := by decide +kernel
theorem d1_17 : decode prog_10_method_4_code 17 = .ok (.bipush 26, 2) := by decide +kernel
theorem d1_19 : decode prog_10_method_4_code 19 = .ok (.isub, 1) := by decide +kernel
theorem d1_20 : decode prog_10_method_4_code 20 = .ok (.i2c, 1) := by decide +kernel
theorem d1_21 : decode prog_10_method_4_code 21 = .ok (.ireturn, 1) := by decide +kernel
theorem ef_1 (m : MethodId) (zi : Int32) : entryFrame m #[(.int zi)] 1 = mkF m 0 #[.val (.int zi)] [] := by first | (simp [entryFrame, mkF, argsToLocals, Value.category]; done) | rfl
def Q1 (Z : State) (zi : Int32) (h0 : Heap) (n0 : Nat) (v : Option Value) (h : Heap) (L : List Loc) : Prop := v = some (.int (own_sym zi)) ∧ Fr n0 L ∧ h = h0
set_option maxRecDepth 65536 in
set_option maxHeartbeats 40000000 in
theorem rm1 (l : Launch) (Z : State) (a0 : Array Value) (hw : ∀ d ∈ tables_1, d.before a0 Z = true) (ws : List Jvm.Cond) (zi : Int32) (h0 : Heap) (n0 : Nat) (Z0 : n0 ≤ h0.size)  :
    MetFree l (⟨"sinkward/Label", "symbol", "(I)C"⟩ : MethodName) (head1 (Jvm.Cond.code (⟨"sinkward/Label", "symbol", "(I)C"⟩ : MethodName) prog_10_method_4_code 1 (some .char) :: ws) ({ frames := 0, cells := 0, slots := 0, locals := 0 } : Room)) (fun a U => a = #[(.int zi)] ∧ Z.Warmed39 U.vm ∧ U.heap = h0) (fun _ _ _ _ _ => True) (fun _ U o U' => ∃ v L, o = .returned v ∧ Q1 Z zi h0 n0 v U'.heap L ∧ FrameEnd U o U' L ({ frames := 0, cells := 0, slots := 0, locals := 0 } : Room).cells ({ frames := 0, cells := 0, slots := 0, locals := 0 } : Room).slots) := by
  refine MetFree.of_bodySF (plainFor_of_name own_pn80992) hisR ?_
  intro p e s m args below meth c s₁ Bd hml0 hP hK
  obtain ⟨rfl, hZ, hh⟩ := hP
  have hx := Bd.exec
  have hby := Bd.bytes
  have hml : c.maxLocals = 1 := hml0
  have hown : s.vm.findClass "sinkward/Label" = some m.cls := findClass_of_methodNamed Bd.named
  have hnm := (name_of_methodNamed Bd.named Bd.method).1
  have X0 : Stand p l e ({ frames := 0, cells := 0, slots := 0, locals := 0 } : Room) s m #[(.int zi)] below meth c s₁ [] 0 0 := Stand.of_body Bd
  have e0 : s₁.heap = h0 := by rw [← hh, Bd.state]; rfl
  have N0 := Fr.nil n0
  have K0 := Keep.refl h0 ([] : List Addr)
  show own_WP p e below (own_E s (Q1 Z zi h0 n0) 0 0) s₁ (entryFrame m #[(.int zi)] 1)
  rw [ef_1 m zi]
  show own_WP _ _ _ _ s₁ (mkF m 0 #[.val (.int zi)] [])
  refine own_go (fun t k => XS.iloadN X0.here hx rfl (hb hby d1_0) rfl  k) ?_
  show own_WP _ _ _ _ s₁ (mkF m 1 #[.val (.int zi)] [(.int zi)])
  refine own_go (fun t k => XS.bipush X0.here hx rfl (hb hby d1_1) k) ?_
  show own_WP _ _ _ _ s₁ (mkF m 3 #[.val (.int zi)] [(.int (26 : Int32)), (.int zi)])
  by_cases hc3 : zi < (26 : Int32)
  · refine own_go (fun t k => XS.icmpNo X0.here hx rfl (hb hby d1_3) rfl (tlt hc3).2.1 k) ?_
    show own_WP _ _ _ _ s₁ (mkF m 6 #[.val (.int zi)] [])
    refine own_go (fun t k => XS.bipush X0.here hx rfl (hb hby d1_6) k) ?_
    show own_WP _ _ _ _ s₁ (mkF m 8 #[.val (.int zi)] [(.int (97 : Int32))])
    refine own_go (fun t k => XS.iloadN X0.here hx rfl (hb hby d1_8) rfl  k) ?_
    show own_WP _ _ _ _ s₁ (mkF m 9 #[.val (.int zi)] [(.int zi), (.int (97 : Int32))])
    refine own_go (fun t k => XS.iadd X0.here hx rfl (hb hby d1_9) rfl k) ?_
    show own_WP _ _ _ _ s₁ (mkF m 10 #[.val (.int zi)] [(.int ((97 : Int32) + zi))])
    refine own_go (fun t k => XS.goto X0.here hx rfl (pc0 := 10) (pc' := 20) rfl (hb hby d1_10) (by decide) (by decide) k) ?_
    show own_WP _ _ _ _ s₁ (mkF m 20 #[.val (.int zi)] [(.int ((97 : Int32) + zi))])
    refine own_go (fun t k => XS.i2c X0.here hx rfl (hb hby d1_20) rfl k) ?_
    show own_WP _ _ _ _ s₁ (mkF m 21 #[.val (.int zi)] [(.int (((97 : Int32) + zi).toUInt32.toUInt16.toUInt32.toInt32))])
    refine own_retN X0 hx Bd.notSynchronized (t := .char) (by simp) Bd.returns (hb hby d1_21) (by decide) (by decide) ?_
    rw [e0]
    exact ⟨(congrArg (fun z => some (Value.int z)) (show (nar .char (((97 : Int32) + zi).toUInt32.toUInt16.toUInt32.toInt32)) = (own_sym zi) from by unfold own_sym; rw [if_pos hc3]; exact own_nc _)), N0, rfl⟩
  · refine own_go (fun t k => XS.icmpYes X0.here hx rfl (pc0 := 3) (pc' := 13) rfl (hb hby d1_3) rfl (flt hc3).2.1 (by decide) (by decide) k) ?_
    show own_WP _ _ _ _ s₁ (mkF m 13 #[.val (.int zi)] [])
    refine own_go (fun t k => XS.bipush X0.here hx rfl (hb hby d1_13) k) ?_
    show own_WP _ _ _ _ s₁ (mkF m 15 #[.val (.int zi)] [(.int (65 : Int32))])
    refine own_go (fun t k => XS.iloadN X0.here hx rfl (hb hby d1_15) rfl  k) ?_
    show own_WP _ _ _ _ s₁ (mkF m 16 #[.val (.int zi)] [(.int zi), (.int (65 : Int32))])
    refine own_go (fun t k => XS.iadd X0.here hx rfl (hb hby d1_16) rfl k) ?_
    show own_WP _ _ _ _ s₁ (mkF m 17 #[.val (.int zi)] [(.int ((65 : Int32) + zi))])
    refine own_go (fun t k => XS.bipush X0.here hx rfl (hb hby d1_17) k) ?_
    show own_WP _ _ _ _ s₁ (mkF m 19 #[.val (.int zi)] [(.int (26 : Int32)), (.int ((65 : Int32) + zi))])
    refine own_go (fun t k => XS.isub X0.here hx rfl (hb hby d1_19) rfl k) ?_
    show own_WP _ _ _ _ s₁ (mkF m 20 #[.val (.int zi)] [(.int (((65 : Int32) + zi) - (26 : Int32)))])
    refine own_go (fun t k => XS.i2c X0.here hx rfl (hb hby d1_20) rfl k) ?_
    show own_WP _ _ _ _ s₁ (mkF m 21 #[.val (.int zi)] [(.int ((((65 : Int32) + zi) - (26 : Int32)).toUInt32.toUInt16.toUInt32.toInt32))])
    refine own_retN X0 hx Bd.notSynchronized (t := .char) (by simp) Bd.returns (hb hby d1_21) (by decide) (by decide) ?_
    rw [e0]
    exact ⟨(congrArg (fun z => some (Value.int z)) (show (nar .char ((((65 : Int32) + zi) - (26 : Int32)).toUInt32.toUInt16.toUInt32.toInt32)) = (own_sym zi) from by unfold own_sym; rw [if_neg hc3]; exact own_nc _)), N0, rfl⟩
theorem d6_0 : decode jdk_41_method_11_code 0 = .ok (.iload_n 0, 1) := by decide +kernel
theorem d6_1 : decode jdk_41_method_11_code 1 = .ok (.ifCond .lt 8, 3) := by decide +kernel
theorem d6_4 : decode jdk_41_method_11_code 4 = .ok (.iload_n 0, 1) := by decide +kernel
theorem d6_5 : decode jdk_41_method_11_code 5 = .ok (.iload_n 1, 1) := by decide +kernel
theorem d6_6 : decode jdk_41_method_11_code 6 = .ok (.if_icmp .lt 10, 3) := by decide +kernel
theorem d6_16 : decode jdk_41_method_11_code 16 = .ok (.iload_n 0, 1) := by decide +kernel
theorem d6_17 : decode jdk_41_method_11_code 17 = .ok (.ireturn, 1) := by decide +kernel
theorem own_pn74770 : plainName "jdk/internal/util/Preconditions" = true := by first | (simp [plainName, overriddenIn]; done) | decide +kernel
theorem ef_6 (m : MethodId) (zi : Int32) (zn : Int32) (zS : Value) (rzS : zS.isRef = true) : entryFrame m #[(.int zi), (.int zn), zS] 3 = mkF m 0 #[.val (.int zi), .val (.int zn), .val zS] [] := by rcases ref_cases rzS with rfl | ⟨_, rfl⟩ <;> first | (simp [entryFrame, mkF, argsToLocals, Value.category]; done) | rfl
def Q6 (Z : State) (zi : Int32) (zn : Int32) (zS : Value) (h0 : Heap) (n0 : Nat) (v : Option Value) (h : Heap) (L : List Loc) : Prop := v = some (.int zi) ∧ Fr n0 L ∧ h = h0
set_option maxRecDepth 65536 in
set_option maxHeartbeats 40000000 in
theorem rm6 (l : Launch) (Z : State) (a0 : Array Value) (hw : ∀ d ∈ tables_1, d.before a0 Z = true) (ws : List Jvm.Cond) (zi : Int32) (zn : Int32) (zS : Value) (h0 : Heap) (n0 : Nat) (Z0 : n0 ≤ h0.size) (hj : ¬ zi < 0 ∧ zi < zn) (hs : zS.isRef = true) :
    MetFree l (⟨"jdk/internal/util/Preconditions", "checkIndex", "(IILjava/util/function/BiFunction;)I"⟩ : MethodName) (head1 (Jvm.Cond.code (⟨"jdk/internal/util/Preconditions", "checkIndex", "(IILjava/util/function/BiFunction;)I"⟩ : MethodName) jdk_41_method_11_code 3 (some .int) :: ws) ({ frames := 0, cells := 0, slots := 0, locals := 0 } : Room)) (fun a U => a = #[(.int zi), (.int zn), zS] ∧ Z.Warmed39 U.vm ∧ U.heap = h0) (fun _ _ _ _ _ => True) (fun _ U o U' => ∃ v L, o = .returned v ∧ Q6 Z zi zn zS h0 n0 v U'.heap L ∧ FrameEnd U o U' L ({ frames := 0, cells := 0, slots := 0, locals := 0 } : Room).cells ({ frames := 0, cells := 0, slots := 0, locals := 0 } : Room).slots) := by
  refine MetFree.of_bodySF (plainFor_of_name own_pn74770) hisR ?_
  intro p e s m args below meth c s₁ Bd hml0 hP hK
  obtain ⟨rfl, hZ, hh⟩ := hP
  have hx := Bd.exec
  have hby := Bd.bytes
  have hml : c.maxLocals = 3 := hml0
  have hown : s.vm.findClass "jdk/internal/util/Preconditions" = some m.cls := findClass_of_methodNamed Bd.named
  have hnm := (name_of_methodNamed Bd.named Bd.method).1
  have X0 : Stand p l e ({ frames := 0, cells := 0, slots := 0, locals := 0 } : Room) s m #[(.int zi), (.int zn), zS] below meth c s₁ [] 0 0 := Stand.of_body Bd
  have e0 : s₁.heap = h0 := by rw [← hh, Bd.state]; rfl
  have N0 := Fr.nil n0
  have K0 := Keep.refl h0 ([] : List Addr)
  show own_WP p e below (own_E s (Q6 Z zi zn zS h0 n0) 0 0) s₁ (entryFrame m #[(.int zi), (.int zn), zS] 3)
  rw [ef_6 m zi zn zS hs]
  show own_WP _ _ _ _ s₁ (mkF m 0 #[.val (.int zi), .val (.int zn), .val zS] [])
  refine own_go (fun t k => XS.iloadN X0.here hx rfl (hb hby d6_0) rfl  k) ?_
  show own_WP _ _ _ _ s₁ (mkF m 1 #[.val (.int zi), .val (.int zn), .val zS] [(.int zi)])
  have hc1 : ¬ (zi < (0 : Int32)) := by
    exact hj.1
  refine own_go (fun t k => XS.ifNo X0.here hx rfl (hb hby d6_1) rfl ((if0 _ _).trans (flt hc1).1) k) ?_
  show own_WP _ _ _ _ s₁ (mkF m 4 #[.val (.int zi), .val (.int zn), .val zS] [])
  refine own_go (fun t k => XS.iloadN X0.here hx rfl (hb hby d6_4) rfl  k) ?_
  show own_WP _ _ _ _ s₁ (mkF m 5 #[.val (.int zi), .val (.int zn), .val zS] [(.int zi)])
  refine own_go (fun t k => XS.iloadN X0.here hx rfl (hb hby d6_5) rfl  k) ?_
  show own_WP _ _ _ _ s₁ (mkF m 6 #[.val (.int zi), .val (.int zn), .val zS] [(.int zn), (.int zi)])
  have hc6 : zi < zn := by
    exact hj.2
  refine own_go (fun t k => XS.icmpYes X0.here hx rfl (pc0 := 6) (pc' := 16) rfl (hb hby d6_6) rfl (tlt hc6).1 (by decide) (by decide) k) ?_
  show own_WP _ _ _ _ s₁ (mkF m 16 #[.val (.int zi), .val (.int zn), .val zS] [])
  refine own_go (fun t k => XS.iloadN X0.here hx rfl (hb hby d6_16) rfl  k) ?_
  show own_WP _ _ _ _ s₁ (mkF m 17 #[.val (.int zi), .val (.int zn), .val zS] [(.int zi)])
  refine own_retI X0 hx Bd.notSynchronized Bd.returns (hb hby d6_17) (by decide) (by decide) ?_
  rw [e0]
  exact ⟨rfl, N0, rfl⟩
theorem own_pd21205 : parseMethodDescriptor "(IILjava/util/function/BiFunction;)I" = some ⟨[.int, .int, (.object "java/util/function/BiFunction")], some .int⟩ := by decide +kernel
theorem d5_0 : decode jdk_42_method_155_code 0 = .ok (.iload_n 0, 1) := by decide +kernel
theorem d5_1 : decode jdk_42_method_155_code 1 = .ok (.iload_n 1, 1) := by decide +kernel
theorem d5_2 : decode jdk_42_method_155_code 2 = .ok (.getstatic 1053, 3) := by decide +kernel
theorem d5_5 : decode jdk_42_method_155_code 5 = .ok (.invokestatic 1059, 3) := by decide +kernel
theorem d5_8 : decode jdk_42_method_155_code 8 = .ok (.pop, 1) := by decide +kernel
theorem d5_9 : decode jdk_42_method_155_code 9 = .ok (.return_, 1) := by decide +kernel
theorem own_pn55509 : plainName "java/lang/String" = true := by first | (simp [plainName, overriddenIn]; done) | decide +kernel
theorem ef_5 (m : MethodId) (zi : Int32) (zn : Int32) : entryFrame m #[(.int zi), (.int zn)] 2 = mkF m 0 #[.val (.int zi), .val (.int zn)] [] := by first | (simp [entryFrame, mkF, argsToLocals, Value.category]; done) | rfl
def Q5 (Z : State) (zi : Int32) (zn : Int32) (zS : Value) (h0 : Heap) (n0 : Nat) (v : Option Value) (h : Heap) (L : List Loc) : Prop := v = none ∧ Fr n0 L ∧ h = h0
set_option maxRecDepth 65536 in
set_option maxHeartbeats 40000000 in
theorem rm5 (l : Launch) (Z : State) (a0 : Array Value) (hw : ∀ d ∈ tables_1, d.before a0 Z = true) (ws : List Jvm.Cond) (zi : Int32) (zn : Int32) (zS : Value) (h0 : Heap) (n0 : Nat) (Z0 : n0 ≤ h0.size) (P0 : Old Z n0 h0) (P1 : Sta Z Z.heap "jdk/internal/util/Preconditions" "SIOOBE_FORMATTER" "Ljava/util/function/BiFunction;" zS) (hj : ¬ zi < 0 ∧ zi < zn) (hs : zS.isRef = true) :
    MetFree l (⟨"java/lang/String", "checkIndex", "(II)V"⟩ : MethodName) (head1 (Jvm.Cond.code (⟨"java/lang/String", "checkIndex", "(II)V"⟩ : MethodName) jdk_42_method_155_code 2 none :: ws) ({ frames := 1, cells := 0, slots := 0, locals := 14 } : Room)) (fun a U => a = #[(.int zi), (.int zn)] ∧ Z.Warmed39 U.vm ∧ U.heap = h0) (fun _ _ _ _ _ => True) (fun _ U o U' => ∃ v L, o = .returned v ∧ Q5 Z zi zn zS h0 n0 v U'.heap L ∧ FrameEnd U o U' L ({ frames := 1, cells := 0, slots := 0, locals := 14 } : Room).cells ({ frames := 1, cells := 0, slots := 0, locals := 14 } : Room).slots) := by
  refine MetFree.of_bodySF (plainFor_of_name own_pn55509) hisR ?_
  intro p e s m args below meth c s₁ Bd hml0 hP hK
  obtain ⟨rfl, hZ, hh⟩ := hP
  have hx := Bd.exec
  have hby := Bd.bytes
  have hml : c.maxLocals = 2 := hml0
  have hown : s.vm.findClass "java/lang/String" = some m.cls := findClass_of_methodNamed Bd.named
  have hnm := (name_of_methodNamed Bd.named Bd.method).1
  have X0 : Stand p l e ({ frames := 1, cells := 0, slots := 0, locals := 14 } : Room) s m #[(.int zi), (.int zn)] below meth c s₁ [] 0 0 := Stand.of_body Bd
  have e0 : s₁.heap = h0 := by rw [← hh, Bd.state]; rfl
  have N0 := Fr.nil n0
  have K0 := Keep.refl h0 ([] : List Addr)
  show own_WP p e below (own_E s (Q5 Z zi zn zS h0 n0) 0 0) s₁ (entryFrame m #[(.int zi), (.int zn)] 2)
  rw [ef_5 m zi zn]
  show own_WP _ _ _ _ s₁ (mkF m 0 #[.val (.int zi), .val (.int zn)] [])
  refine own_go (fun t k => XS.iloadN X0.here hx rfl (hb hby d5_0) rfl  k) ?_
  show own_WP _ _ _ _ s₁ (mkF m 1 #[.val (.int zi), .val (.int zn)] [(.int zi)])
  refine own_go (fun t k => XS.iloadN X0.here hx rfl (hb hby d5_1) rfl  k) ?_
  show own_WP _ _ _ _ s₁ (mkF m 2 #[.val (.int zi), .val (.int zn)] [(.int zn), (.int zi)])
  obtain ⟨T1, X1, e1, st1⟩ := getS2 X0 hx hZ hown (host := "") (Or.inl (hw _ (List.mem_of_getElem? (i := 32) rfl))) Via.refl e0 (P1.ext P0.2) (g := (mkF m 2 #[.val (.int zi), .val (.int zn)] [(.int zn), (.int zi)])) rfl (hb hby d5_2)
  refine own_go st1 ?_
  show own_WP _ _ _ _ T1 (mkF m 5 #[.val (.int zi), .val (.int zn)] [zS, (.int zn), (.int zi)])
  obtain ⟨_, _, ⟨T2, L2, k2, n2⟩, -, X2, ⟨Lc2, hQ2, l2, y2, z2⟩, st2⟩ := Jvm.LawKit.callS X1 hx (y := (⟨"jdk/internal/util/Preconditions", "checkIndex", "(IILjava/util/function/BiFunction;)I"⟩ : MethodName)) hown (mvT hZ (hw _ (List.mem_of_getElem? (i := 34) rfl))) (mvT hZ (hw _ (List.mem_of_getElem? (i := 35) rfl))) (mvT hZ (hw _ (List.mem_of_getElem? (i := 33) rfl))) (mvT hZ (hw _ (List.mem_of_getElem? (i := 36) rfl))) (by decide) (backOf (W := 0) (rm6 l Z a0 hw [] zi zn zS  h0 n0 (own_le Z0 K0) (show ¬ zi < 0 ∧ zi < zn from by assumption) (show zS.isRef = true from by assumption)) hZ (hw _ (List.mem_of_getElem? (i := 36) rfl)) (hw _ (List.mem_of_getElem? (i := 33) rfl)) (by decide) (by decide)) (g := (mkF m 5 #[.val (.int zi), .val (.int zn)] [zS, (.int zn), (.int zi)])) rfl (by rw [hml]; rfl) (argsL := [(.int zi), (.int zn), zS]) (rest := []) (lenOf own_pd21205 rfl) rfl (by show 2 * 0 + _ ≤ _; exact Nat.le_of_eq rfl) (hb hby d5_5) (fun _ _ => ⟨rfl, e1, (by decide : 0 + 0 ≤ _), (by decide : 0 + 0 ≤ _)⟩)
  dsimp only [Pt.U, Pt.locs, Pt.cells, Pt.slots] at X2 l2 y2 z2 st2 hQ2
  subst l2 y2 z2
  obtain ⟨rfl, N2q, eq2⟩ := hQ2
  have N2 := Fr.app N0 N2q
  refine own_go st2 ?_
  show own_WP _ _ _ _ T2 (mkF m 8 #[.val (.int zi), .val (.int zn)] [(.int zi)])
  refine own_go (fun t k => XS.pop X2.here hx rfl (hb hby d5_8) rfl rfl k) ?_
  show own_WP _ _ _ _ T2 (mkF m 9 #[.val (.int zi), .val (.int zn)] [])
  refine own_retV X2 hx Bd.notSynchronized Bd.returns (hb hby d5_9) (by decide) (by decide) ?_
  rw [eq2]
  exact ⟨rfl, N2, rfl⟩
theorem own_pd31101 : parseMethodDescriptor "(II)V" = some ⟨[.int, .int], none⟩ := by decide +kernel
theorem d4_0 : decode jdk_43_method_2_code 0 = .ok (.iload_n 1, 1) := by decide +kernel
theorem d4_1 : decode jdk_43_method_2_code 1 = .ok (.aload_n 0, 1) := by decide +kernel
theorem d4_2 : decode jdk_43_method_2_code 2 = .ok (.arraylength, 1) := by decide +kernel
theorem d4_3 : decode jdk_43_method_2_code 3 = .ok (.invokestatic 9, 3) := by decide +kernel
theorem d4_6 : decode jdk_43_method_2_code 6 = .ok (.aload_n 0, 1) := by decide +kernel
theorem d4_7 : decode jdk_43_method_2_code 7 = .ok (.iload_n 1, 1) := by decide +kernel
theorem d4_8 : decode jdk_43_method_2_code 8 = .ok (.baload, 1) := by decide +kernel
theorem d4_9 : decode jdk_43_method_2_code 9 = .ok (.sipush 255, 3) := by decide +kernel
theorem d4_12 : decode jdk_43_method_2_code 12 = .ok (.iand, 1) := by decide +kernel
theorem d4_13 : decode jdk_43_method_2_code 13 = .ok (.i2c, 1) := by decide +kernel
theorem d4_14 : decode jdk_43_method_2_code 14 = .ok (.ireturn, 1) := by decide +kernel
theorem own_pn97034 : plainName "java/lang/StringLatin1" = true := by first | (simp [plainName, overriddenIn]; done) | decide +kernel
theorem ef_4 (m : MethodId) (za : Addr) (zi : Int32) : entryFrame m #[(.ref za), (.int zi)] 2 = mkF m 0 #[.val (.ref za), .val (.int zi)] [] := by first | (simp [entryFrame, mkF, argsToLocals, Value.category]; done) | rfl
def Q4 (Z : State) (za : Addr) (zi : Int32) (zk : ClassId) (zn : Int32) (zv : List Value) (zw : Int32) (zS : Value) (h0 : Heap) (n0 : Nat) (v : Option Value) (h : Heap) (L : List Loc) : Prop := v = some (.int (own_ca zw)) ∧ Fr n0 L ∧ h = h0
set_option maxRecDepth 65536 in
set_option maxHeartbeats 40000000 in
theorem rm4 (l : Launch) (Z : State) (a0 : Array Value) (hw : ∀ d ∈ tables_1, d.before a0 Z = true) (ws : List Jvm.Cond) (za : Addr) (zi : Int32) (zk : ClassId) (zn : Int32) (zv : List Value) (zw : Int32) (zS : Value) (h0 : Heap) (n0 : Nat) (Z0 : n0 ≤ h0.size) (P0 : Old Z n0 h0) (P1 : Sta Z Z.heap "jdk/internal/util/Preconditions" "SIOOBE_FORMATTER" "Ljava/util/function/BiFunction;" zS) (P2 : Arv Z h0 za zk .byte zn zv (.int (0 : Int32))) (hj : ¬ zi < 0 ∧ zi < zn) (hs : zS.isRef = true) (hv : List.getD (α := Value) zv zi.toNatClampNeg (.int (0 : Int32)) = Value.int zw) :
    MetFree l (⟨"java/lang/StringLatin1", "charAt", "([BI)C"⟩ : MethodName) (head1 (Jvm.Cond.code (⟨"java/lang/StringLatin1", "charAt", "([BI)C"⟩ : MethodName) jdk_43_method_2_code 2 (some .char) :: ws) ({ frames := 2, cells := 0, slots := 0, locals := 27 } : Room)) (fun a U => a = #[(.ref za), (.int zi)] ∧ Z.Warmed39 U.vm ∧ U.heap = h0) (fun _ _ _ _ _ => True) (fun _ U o U' => ∃ v L, o = .returned v ∧ Q4 Z za zi zk zn zv zw zS h0 n0 v U'.heap L ∧ FrameEnd U o U' L ({ frames := 2, cells := 0, slots := 0, locals := 27 } : Room).cells ({ frames := 2, cells := 0, slots := 0, locals := 27 } : Room).slots) := by
  refine MetFree.of_bodySF (plainFor_of_name own_pn97034) hisR ?_
  intro p e s m args below meth c s₁ Bd hml0 hP hK
  obtain ⟨rfl, hZ, hh⟩ := hP
  have hx := Bd.exec
  have hby := Bd.bytes
  have hml : c.maxLocals = 2 := hml0
  have hown : s.vm.findClass "java/lang/StringLatin1" = some m.cls := findClass_of_methodNamed Bd.named
  have hnm := (name_of_methodNamed Bd.named Bd.method).1
  have X0 : Stand p l e ({ frames := 2, cells := 0, slots := 0, locals := 27 } : Room) s m #[(.ref za), (.int zi)] below meth c s₁ [] 0 0 := Stand.of_body Bd
  have e0 : s₁.heap = h0 := by rw [← hh, Bd.state]; rfl
  have N0 := Fr.nil n0
  have K0 := Keep.refl h0 ([] : List Addr)
  show own_WP p e below (own_E s (Q4 Z za zi zk zn zv zw zS h0 n0) 0 0) s₁ (entryFrame m #[(.ref za), (.int zi)] 2)
  rw [ef_4 m za zi]
  show own_WP _ _ _ _ s₁ (mkF m 0 #[.val (.ref za), .val (.int zi)] [])
  refine own_go (fun t k => XS.iloadN X0.here hx rfl (hb hby d4_0) rfl  k) ?_
  show own_WP _ _ _ _ s₁ (mkF m 1 #[.val (.ref za), .val (.int zi)] [(.int zi)])
  refine own_go (fun t k => XS.aloadN X0.here hx rfl (hb hby d4_1) rfl rfl  k) ?_
  show own_WP _ _ _ _ s₁ (mkF m 2 #[.val (.ref za), .val (.int zi)] [(.ref za), (.int zi)])
  refine own_len X0 hx hZ e0 P2 (hb hby d4_2) ?_
  show own_WP _ _ _ _ s₁ (mkF m 3 #[.val (.ref za), .val (.int zi)] [(.int zn), (.int zi)])
  obtain ⟨_, _, ⟨T1, L1, k1, n1⟩, -, X1, ⟨Lc1, hQ1, l1, y1, z1⟩, st1⟩ := Jvm.LawKit.callS X0 hx (y := (⟨"java/lang/String", "checkIndex", "(II)V"⟩ : MethodName)) hown (mvT hZ (hw _ (List.mem_of_getElem? (i := 29) rfl))) (mvT hZ (hw _ (List.mem_of_getElem? (i := 30) rfl))) (mvT hZ (hw _ (List.mem_of_getElem? (i := 5) rfl))) (mvT hZ (hw _ (List.mem_of_getElem? (i := 31) rfl))) (by decide) (backOf (W := 0) (rm5 l Z a0 hw [] zi zn zS h0 n0 (own_le Z0 K0) P0 P1 (show ¬ zi < 0 ∧ zi < zn from by assumption) (show zS.isRef = true from by assumption)) hZ (hw _ (List.mem_of_getElem? (i := 31) rfl)) (hw _ (List.mem_of_getElem? (i := 5) rfl)) (by decide) (by decide)) (g := (mkF m 3 #[.val (.ref za), .val (.int zi)] [(.int zn), (.int zi)])) rfl (by rw [hml]; rfl) (argsL := [(.int zi), (.int zn)]) (rest := []) (lenOf own_pd31101 rfl) rfl (by show 2 * 0 + _ ≤ _; exact Nat.le_of_eq rfl) (hb hby d4_3) (fun _ _ => ⟨rfl, e0, (by decide : 0 + 0 ≤ _), (by decide : 0 + 0 ≤ _)⟩)
  dsimp only [Pt.U, Pt.locs, Pt.cells, Pt.slots] at X1 l1 y1 z1 st1 hQ1
  subst l1 y1 z1
  obtain ⟨rfl, N1q, eq1⟩ := hQ1
  have N1 := Fr.app N0 N1q
  refine own_go st1 ?_
  show own_WP _ _ _ _ T1 (mkF m 6 #[.val (.ref za), .val (.int zi)] [])
  refine own_go (fun t k => XS.aloadN X1.here hx rfl (hb hby d4_6) rfl rfl  k) ?_
  show own_WP _ _ _ _ T1 (mkF m 7 #[.val (.ref za), .val (.int zi)] [(.ref za)])
  refine own_go (fun t k => XS.iloadN X1.here hx rfl (hb hby d4_7) rfl  k) ?_
  show own_WP _ _ _ _ T1 (mkF m 8 #[.val (.ref za), .val (.int zi)] [(.int zi), (.ref za)])
  refine own_ldB X1 hx hZ eq1 P2 (j := zi) (w := zw) hj hv (hb hby d4_8) ?_
  show own_WP _ _ _ _ T1 (mkF m 9 #[.val (.ref za), .val (.int zi)] [(.int zw)])
  refine own_go (fun t k => XS.sipush X1.here hx rfl (hb hby d4_9) k) ?_
  show own_WP _ _ _ _ T1 (mkF m 12 #[.val (.ref za), .val (.int zi)] [(.int (255 : Int32)), (.int zw)])
  refine own_go (fun t k => XS.iand X1.here hx rfl (hb hby d4_12) rfl k) ?_
  show own_WP _ _ _ _ T1 (mkF m 13 #[.val (.ref za), .val (.int zi)] [(.int (zw &&& (255 : Int32)))])
  refine own_go (fun t k => XS.i2c X1.here hx rfl (hb hby d4_13) rfl k) ?_
  show own_WP _ _ _ _ T1 (mkF m 14 #[.val (.ref za), .val (.int zi)] [(.int ((zw &&& (255 : Int32)).toUInt32.toUInt16.toUInt32.toInt32))])
  refine own_retN X1 hx Bd.notSynchronized (t := .char) (by simp) Bd.returns (hb hby d4_14) (by decide) (by decide) ?_
  rw [eq1]
  exact ⟨(congrArg (fun z => some (Value.int z)) (show (nar .char ((zw &&& (255 : Int32)).toUInt32.toUInt16.toUInt32.toInt32)) = (own_ca zw) from by exact own_nc _)), N1, rfl⟩
theorem d3_0 : decode jdk_42_method_154_code 0 = .ok (.getstatic 38, 3) := by decide +kernel
theorem d3_3 : decode jdk_42_method_154_code 3 = .ok (.ifCond .eq 14, 3) := by decide +kernel
theorem d3_6 : decode jdk_42_method_154_code 6 = .ok (.aload_n 0, 1) := by decide +kernel
theorem d3_7 : decode jdk_42_method_154_code 7 = .ok (.getfield 15, 3) := by decide +kernel
theorem d3_10 : decode jdk_42_method_154_code 10 = .ok (.ifCond .ne 7, 3) := by decide +kernel
theorem d3_13 : decode jdk_42_method_154_code 13 = .ok (.iconst 1, 1) := by decide +kernel
theorem d3_14 : decode jdk_42_method_154_code 14 = .ok (.goto 4, 3) := by decide +kernel
theorem d3_18 : decode jdk_42_method_154_code 18 = .ok (.ireturn, 1) := by decide +kernel
theorem ef_3 (m : MethodId) (zo : Addr) : entryFrame m #[(.ref zo)] 1 = mkF m 0 #[.val (.ref zo)] [] := by first | (simp [entryFrame, mkF, argsToLocals, Value.category]; done) | rfl
def Q3 (Z : State) (zo : Addr) (zC : Int32) (h0 : Heap) (n0 : Nat) (v : Option Value) (h : Heap) (L : List Loc) : Prop := v = some (.int (1 : Int32)) ∧ Fr n0 L ∧ h = h0
set_option maxRecDepth 65536 in
set_option maxHeartbeats 40000000 in
theorem rm3 (l : Launch) (Z : State) (a0 : Array Value) (hw : ∀ d ∈ tables_1, d.before a0 Z = true) (ws : List Jvm.Cond) (zo : Addr) (zC : Int32) (h0 : Heap) (n0 : Nat) (Z0 : n0 ≤ h0.size) (P0 : Old Z n0 h0) (P1 : Sta Z Z.heap "java/lang/String" "COMPACT_STRINGS" "Z" (.int zC)) (P2 : Fld Z h0 zo "java/lang/String" "coder" "B" (.int (0 : Int32))) (hzC : ¬ zC = 0) :
    MetFree l (⟨"java/lang/String", "isLatin1", "()Z"⟩ : MethodName) (head1 (Jvm.Cond.code (⟨"java/lang/String", "isLatin1", "()Z"⟩ : MethodName) jdk_42_method_154_code 1 (some .boolean) :: ws) ({ frames := 0, cells := 0, slots := 0, locals := 0 } : Room)) (fun a U => a = #[(.ref zo)] ∧ Z.Warmed39 U.vm ∧ U.heap = h0) (fun _ _ _ _ _ => True) (fun _ U o U' => ∃ v L, o = .returned v ∧ Q3 Z zo zC h0 n0 v U'.heap L ∧ FrameEnd U o U' L ({ frames := 0, cells := 0, slots := 0, locals := 0 } : Room).cells ({ frames := 0, cells := 0, slots := 0, locals := 0 } : Room).slots) := by
  refine MetFree.of_bodySF (plainFor_of_name own_pn55509) hisR ?_
  intro p e s m args below meth c s₁ Bd hml0 hP hK
  obtain ⟨rfl, hZ, hh⟩ := hP
  have hx := Bd.exec
  have hby := Bd.bytes
  have hml : c.maxLocals = 1 := hml0
  have hown : s.vm.findClass "java/lang/String" = some m.cls := findClass_of_methodNamed Bd.named
  have hnm := (name_of_methodNamed Bd.named Bd.method).1
  have X0 : Stand p l e ({ frames := 0, cells := 0, slots := 0, locals := 0 } : Room) s m #[(.ref zo)] below meth c s₁ [] 0 0 := Stand.of_body Bd
  have e0 : s₁.heap = h0 := by rw [← hh, Bd.state]; rfl
  have N0 := Fr.nil n0
  have K0 := Keep.refl h0 ([] : List Addr)
  show own_WP p e below (own_E s (Q3 Z zo zC h0 n0) 0 0) s₁ (entryFrame m #[(.ref zo)] 1)
  rw [ef_3 m zo]
  show own_WP _ _ _ _ s₁ (mkF m 0 #[.val (.ref zo)] [])
  obtain ⟨T1, X1, e1, st1⟩ := getS2 X0 hx hZ hown (host := "") (Or.inl (hw _ (List.mem_of_getElem? (i := 22) rfl))) Via.refl e0 (P1.ext P0.2) (g := (mkF m 0 #[.val (.ref zo)] [])) rfl (hb hby d3_0)
  refine own_go st1 ?_
  show own_WP _ _ _ _ T1 (mkF m 3 #[.val (.ref zo)] [(.int zC)])
  have hc3 : ¬ (zC = (0 : Int32)) := by
    exact hzC
  refine own_go (fun t k => XS.ifNo X1.here hx rfl (hb hby d3_3) rfl ((if0 _ _).trans (feq hc3).1) k) ?_
  show own_WP _ _ _ _ T1 (mkF m 6 #[.val (.ref zo)] [])
  refine own_go (fun t k => XS.aloadN X1.here hx rfl (hb hby d3_6) rfl rfl  k) ?_
  show own_WP _ _ _ _ T1 (mkF m 7 #[.val (.ref zo)] [(.ref zo)])
  obtain ⟨T2, X2, e2, st2⟩ := getF X1 hx hZ hown (host := "") (Or.inl (hw _ (List.mem_of_getElem? (i := 23) rfl))) Via.refl e1 P2 (g := (mkF m 7 #[.val (.ref zo)] [(.ref zo)])) rfl rfl (hb hby d3_7)
  refine own_go st2 ?_
  show own_WP _ _ _ _ T2 (mkF m 10 #[.val (.ref zo)] [(.int (0 : Int32))])
  have hc10 : (0 : Int32) = (0 : Int32) := rfl
  refine own_go (fun t k => XS.ifNo X2.here hx rfl (hb hby d3_10) rfl ((if0 _ _).trans (teq hc10).2) k) ?_
  show own_WP _ _ _ _ T2 (mkF m 13 #[.val (.ref zo)] [])
  refine own_go (fun t k => XS.iconst X2.here hx rfl (hb hby d3_13) k) ?_
  show own_WP _ _ _ _ T2 (mkF m 14 #[.val (.ref zo)] [(.int (1 : Int32))])
  refine own_go (fun t k => XS.goto X2.here hx rfl (pc0 := 14) (pc' := 18) rfl (hb hby d3_14) (by decide) (by decide) k) ?_
  show own_WP _ _ _ _ T2 (mkF m 18 #[.val (.ref zo)] [(.int (1 : Int32))])
  refine own_retN X2 hx Bd.notSynchronized (t := .boolean) (by simp) Bd.returns (hb hby d3_18) (by decide) (by decide) ?_
  rw [e2]
  exact ⟨(congrArg (fun z => some (Value.int z)) (show (nar .boolean (1 : Int32)) = (1 : Int32) from by first | (simp [nar, hc3]; done) | (simp only [if_true, if_false, eq_self, ↓reduceIte, hc3]; first | done | rfl | decide))), N0, rfl⟩
theorem own_pd91901 : parseMethodDescriptor "()Z" = some ⟨[], some .boolean⟩ := by decide +kernel
theorem own_pd48008 : parseMethodDescriptor "([BI)C" = some ⟨[(.array .byte), .int], some .char⟩ := by decide +kernel
theorem d2_0 : decode jdk_42_method_56_code 0 = .ok (.aload_n 0, 1) := by decide +kernel
theorem d2_1 : decode jdk_42_method_56_code 1 = .ok (.invokevirtual 492, 3) := by decide +kernel
theorem d2_4 : decode jdk_42_method_56_code 4 = .ok (.ifCond .eq 12, 3) := by decide +kernel
theorem d2_7 : decode jdk_42_method_56_code 7 = .ok (.aload_n 0, 1) := by decide +kernel
theorem d2_8 : decode jdk_42_method_56_code 8 = .ok (.getfield 9, 3) := by decide +kernel
theorem d2_11 : decode jdk_42_method_56_code 11 = .ok (.iload_n 1, 1) := by decide +kernel
theorem d2_12 : decode jdk_42_method_56_code 12 = .ok (.invokestatic 495, 3) := by decide +kernel
theorem d2_15 : decode jdk_42_method_56_code 15 = .ok (.ireturn, 1) := by decide +kernel
theorem ef_2 (m : MethodId) (zo : Addr) (zi : Int32) : entryFrame m #[(.ref zo), (.int zi)] 2 = mkF m 0 #[.val (.ref zo), .val (.int zi)] [] := by first | (simp [entryFrame, mkF, argsToLocals, Value.category]; done) | rfl
def Q2 (Z : State) (zo : Addr) (zi : Int32) (za : Addr) (zk : ClassId) (zn : Int32) (zv : List Value) (zw : Int32) (zS : Value) (zC : Int32) (h0 : Heap) (n0 : Nat) (v : Option Value) (h : Heap) (L : List Loc) : Prop := v = some (.int (own_ca zw)) ∧ Fr n0 L ∧ h = h0
set_option maxRecDepth 65536 in
set_option maxHeartbeats 40000000 in
theorem rm2 (l : Launch) (Z : State) (a0 : Array Value) (hw : ∀ d ∈ tables_1, d.before a0 Z = true) (ws : List Jvm.Cond) (zo : Addr) (zi : Int32) (za : Addr) (zk : ClassId) (zn : Int32) (zv : List Value) (zw : Int32) (zS : Value) (zC : Int32) (h0 : Heap) (n0 : Nat) (Z0 : n0 ≤ h0.size) (P0 : Old Z n0 h0) (P1 : Sta Z Z.heap "java/lang/String" "COMPACT_STRINGS" "Z" (.int zC)) (P2 : Sta Z Z.heap "jdk/internal/util/Preconditions" "SIOOBE_FORMATTER" "Ljava/util/function/BiFunction;" zS) (P3 : Exa Z h0 zo "java/lang/String") (P4 : Fld Z h0 zo "java/lang/String" "coder" "B" (.int (0 : Int32))) (P5 : Fld Z h0 zo "java/lang/String" "value" "[B" (.ref za)) (P6 : Arv Z h0 za zk .byte zn zv (.int (0 : Int32))) (hzC : ¬ zC = 0) (hj : ¬ zi < 0 ∧ zi < zn) (hs : zS.isRef = true) (hv : List.getD (α := Value) zv zi.toNatClampNeg (.int (0 : Int32)) = Value.int zw) :
    MetFree l (⟨"java/lang/String", "charAt", "(I)C"⟩ : MethodName) (head1 (Jvm.Cond.code (⟨"java/lang/String", "charAt", "(I)C"⟩ : MethodName) jdk_42_method_56_code 2 (some .char) :: ws) ({ frames := 3, cells := 0, slots := 0, locals := 40 } : Room)) (fun a U => a = #[(.ref zo), (.int zi)] ∧ Z.Warmed39 U.vm ∧ U.heap = h0) (fun _ _ _ _ _ => True) (fun _ U o U' => ∃ v L, o = .returned v ∧ Q2 Z zo zi za zk zn zv zw zS zC h0 n0 v U'.heap L ∧ FrameEnd U o U' L ({ frames := 3, cells := 0, slots := 0, locals := 40 } : Room).cells ({ frames := 3, cells := 0, slots := 0, locals := 40 } : Room).slots) := by
  refine MetFree.of_bodySF (plainFor_of_name own_pn55509) hisR ?_
  intro p e s m args below meth c s₁ Bd hml0 hP hK
  obtain ⟨rfl, hZ, hh⟩ := hP
  have hx := Bd.exec
  have hby := Bd.bytes
  have hml : c.maxLocals = 2 := hml0
  have hown : s.vm.findClass "java/lang/String" = some m.cls := findClass_of_methodNamed Bd.named
  have hnm := (name_of_methodNamed Bd.named Bd.method).1
  have X0 : Stand p l e ({ frames := 3, cells := 0, slots := 0, locals := 40 } : Room) s m #[(.ref zo), (.int zi)] below meth c s₁ [] 0 0 := Stand.of_body Bd
  have e0 : s₁.heap = h0 := by rw [← hh, Bd.state]; rfl
  have N0 := Fr.nil n0
  have K0 := Keep.refl h0 ([] : List Addr)
  show own_WP p e below (own_E s (Q2 Z zo zi za zk zn zv zw zS zC h0 n0) 0 0) s₁ (entryFrame m #[(.ref zo), (.int zi)] 2)
  rw [ef_2 m zo zi]
  show own_WP _ _ _ _ s₁ (mkF m 0 #[.val (.ref zo), .val (.int zi)] [])
  refine own_go (fun t k => XS.aloadN X0.here hx rfl (hb hby d2_0) rfl rfl  k) ?_
  show own_WP _ _ _ _ s₁ (mkF m 1 #[.val (.ref zo), .val (.int zi)] [(.ref zo)])
  obtain ⟨cq1, kq1, q1a, q1b, q1c⟩ := isOf hZ e0 P3
  obtain ⟨_, _, ⟨T1, L1, k1, n1⟩, -, X1, ⟨Lc1, hQ1, l1, y1, z1⟩, st1⟩ := X0.virtualBack hx (y := (⟨"java/lang/String", "isLatin1", "()Z"⟩ : MethodName)) (z := (⟨"java/lang/String", "isLatin1", "()Z"⟩ : MethodName)) hown (mvT hZ (hw _ (List.mem_of_getElem? (i := 17) rfl))) (mvT hZ (hw _ (List.mem_of_getElem? (i := 18) rfl))) (notFace_of_selects (args := #[]) (mvT hZ (hw _ (List.mem_of_getElem? (i := 20) rfl)))) (mvT hZ (hw _ (List.mem_of_getElem? (i := 20) rfl))) (mvT hZ (hw _ (List.mem_of_getElem? (i := 19) rfl))) (by decide) (backOf (W := 0) (rm3 l Z a0 hw [] zo zC h0 n0 (own_le Z0 K0) P0 P1 P4 (show ¬ zC = 0 from by assumption)) hZ (hw _ (List.mem_of_getElem? (i := 21) rfl)) (hw _ (List.mem_of_getElem? (i := 5) rfl)) (by decide) (by decide)) q1a q1c (g := (mkF m 1 #[.val (.ref zo), .val (.int zi)] [(.ref zo)])) rfl (by rw [hml]; rfl) (Steps.refl _) (argsL := []) (rest := []) (lenOf own_pd91901 rfl) rfl (by show 2 * 0 + _ ≤ _; exact Nat.le_of_eq rfl) (hb hby d2_1) (fun _ _ => ⟨rfl, e0, (by decide : 0 + 0 ≤ _), (by decide : 0 + 0 ≤ _)⟩)
  dsimp only [Pt.U, Pt.locs, Pt.cells, Pt.slots] at X1 l1 y1 z1 st1 hQ1
  subst l1 y1 z1
  obtain ⟨rfl, N1q, eq1⟩ := hQ1
  have N1 := Fr.app N0 N1q
  refine own_tr st1 ?_
  show own_WP _ _ _ _ T1 (mkF m 4 #[.val (.ref zo), .val (.int zi)] [(.int (1 : Int32))])
  have hc4 : ¬ ((1 : Int32) = (0 : Int32)) := by decide
  refine own_go (fun t k => XS.ifNo X1.here hx rfl (hb hby d2_4) rfl ((if0 _ _).trans (feq hc4).1) k) ?_
  show own_WP _ _ _ _ T1 (mkF m 7 #[.val (.ref zo), .val (.int zi)] [])
  refine own_go (fun t k => XS.aloadN X1.here hx rfl (hb hby d2_7) rfl rfl  k) ?_
  show own_WP _ _ _ _ T1 (mkF m 8 #[.val (.ref zo), .val (.int zi)] [(.ref zo)])
  obtain ⟨T2, X2, e2, st2⟩ := getF X1 hx hZ hown (host := "") (Or.inl (hw _ (List.mem_of_getElem? (i := 24) rfl))) Via.refl eq1 P5 (g := (mkF m 8 #[.val (.ref zo), .val (.int zi)] [(.ref zo)])) rfl rfl (hb hby d2_8)
  refine own_go st2 ?_
  show own_WP _ _ _ _ T2 (mkF m 11 #[.val (.ref zo), .val (.int zi)] [(.ref za)])
  refine own_go (fun t k => XS.iloadN X2.here hx rfl (hb hby d2_11) rfl  k) ?_
  show own_WP _ _ _ _ T2 (mkF m 12 #[.val (.ref zo), .val (.int zi)] [(.int zi), (.ref za)])
  obtain ⟨_, _, ⟨T3, L3, k3, n3⟩, -, X3, ⟨Lc3, hQ3, l3, y3, z3⟩, st3⟩ := Jvm.LawKit.callS X2 hx (y := (⟨"java/lang/StringLatin1", "charAt", "([BI)C"⟩ : MethodName)) hown (mvT hZ (hw _ (List.mem_of_getElem? (i := 25) rfl))) (mvT hZ (hw _ (List.mem_of_getElem? (i := 26) rfl))) (mvT hZ (hw _ (List.mem_of_getElem? (i := 27) rfl))) (mvT hZ (hw _ (List.mem_of_getElem? (i := 28) rfl))) (by decide) (backOf (W := 0) (rm4 l Z a0 hw [] za zi zk zn zv zw zS h0 n0 (own_le Z0 K0) P0 P2 P6 (show ¬ zi < 0 ∧ zi < zn from by assumption) (show zS.isRef = true from by assumption) (show List.getD (α := Value) zv zi.toNatClampNeg (.int (0 : Int32)) = Value.int zw from by assumption)) hZ (hw _ (List.mem_of_getElem? (i := 28) rfl)) (hw _ (List.mem_of_getElem? (i := 27) rfl)) (by decide) (by decide)) (g := (mkF m 12 #[.val (.ref zo), .val (.int zi)] [(.int zi), (.ref za)])) rfl (by rw [hml]; rfl) (argsL := [(.ref za), (.int zi)]) (rest := []) (lenOf own_pd48008 rfl) rfl (by show 2 * 0 + _ ≤ _; exact Nat.le_of_eq rfl) (hb hby d2_12) (fun _ _ => ⟨rfl, e2, (by decide : 0 + 0 ≤ _), (by decide : 0 + 0 ≤ _)⟩)
  dsimp only [Pt.U, Pt.locs, Pt.cells, Pt.slots] at X3 l3 y3 z3 st3 hQ3
  subst l3 y3 z3
  obtain ⟨rfl, N3q, eq3⟩ := hQ3
  have N3 := Fr.app N1 N3q
  refine own_go st3 ?_
  show own_WP _ _ _ _ T3 (mkF m 15 #[.val (.ref zo), .val (.int zi)] [(.int (own_ca zw))])
  refine own_retN X3 hx Bd.notSynchronized (t := .char) (by simp) Bd.returns (hb hby d2_15) (by decide) (by decide) ?_
  rw [eq3]
  exact ⟨(congrArg (fun z => some (Value.int z)) (show (nar .char (own_ca zw)) = (own_ca zw) from by exact own_nc _)), N3, rfl⟩
theorem own_pd81831 : parseMethodDescriptor "(I)C" = some ⟨[.int], some .char⟩ := by decide +kernel
theorem own_pd78871 : parseMethodDescriptor "(C)I" = some ⟨[.char], some .int⟩ := by decide +kernel
theorem own_pn68997 : plainName "sinkward/LabelSymbolPinLaw" = true := by first | (simp [plainName, overriddenIn]; done) | decide +kernel
theorem ef_0 (m : MethodId) (x0 : Int32) : entryFrame m #[(.int x0)] maxLocals = mkF m 0 #[.val (.int x0), .unset, .unset] [] := by first | (simp [entryFrame, mkF, argsToLocals, Value.category, maxLocals]; done) | rfl
def Q0 (Z : State) (x0 : Int32) (zC : Int32) (zS : Value) (h0 : Heap) (n0 : Nat) (v : Option Value) (h : Heap) (L : List Loc) : Prop := v = some (.int 1) ∧ Fr n0 L
set_option maxRecDepth 65536 in
set_option maxHeartbeats 40000000 in
theorem rm0 (l : Launch) (Z : State) (a0 : Array Value) (hw : ∀ d ∈ tables_1, d.before a0 Z = true) (ws : List Jvm.Cond) (x0 : Int32) (zC : Int32) (zS : Value) (h0 : Heap) (n0 : Nat) (Z0 : n0 ≤ h0.size) (P0 : Old Z n0 h0) (P1 : Sta Z Z.heap "java/lang/String" "COMPACT_STRINGS" "Z" (.int zC)) (P2 : Sta Z Z.heap "jdk/internal/util/Preconditions" "SIOOBE_FORMATTER" "Ljava/util/function/BiFunction;" zS) (hzC : ¬ zC = 0) (hs : zS.isRef = true) (hcw : Jvm.Lit.compactW.before a0 Z = true) (hcs : Jvm.Lit.constHeld Z "sinkward/LabelSymbolPinLaw" 13) :
    MetFree l x (head1 (Jvm.Cond.code x code maxLocals ret :: ws) room_1) (fun a U => a = #[(.int x0)] ∧ Z.Warmed39 U.vm ∧ U.heap = h0 ∧ Z = U ∧ n0 = U.heap.size) (fun _ _ _ _ _ => True) (fun _ U o U' => ∃ v L, o = .returned v ∧ Q0 Z x0 zC zS h0 n0 v U'.heap L ∧ ReturnedEndW U o U' L 2 132) := by
  refine MetFree.of_bodySF (plainFor_of_name own_pn68997) hisR ?_
  intro p e s m args below meth c s₁ Bd hml0 hP hK
  obtain ⟨rfl, hZ, hh, hP4⟩ := hP
  have hx := Bd.exec
  have hby := Bd.bytes
  have hml : c.maxLocals = 3 := hml0
  have hown : s.vm.findClass "sinkward/LabelSymbolPinLaw" = some m.cls := findClass_of_methodNamed Bd.named
  have hnm := (name_of_methodNamed Bd.named Bd.method).1
  have X0 : Stand p l e room_1 s m #[(.int x0)] below meth c s₁ [] 0 0 := Stand.of_body Bd
  have e0 : s₁.heap = h0 := by rw [← hh, Bd.state]; rfl
  have N0 := Fr.nil n0
  have K0 := Keep.refl h0 ([] : List Addr)
  show own_WP p e below (own_EW s (Q0 Z x0 zC zS h0 n0) 2 132) s₁ (entryFrame m #[(.int x0)] maxLocals)
  rw [ef_0 m x0]
  show own_WP _ _ _ _ s₁ (mkF m 0 #[.val (.int x0), .unset, .unset] [])
  refine own_go (fun t k => XS.iloadN X0.here hx rfl (hb hby at_0) rfl  k) ?_
  show own_WP _ _ _ _ s₁ (mkF m 1 #[.val (.int x0), .unset, .unset] [(.int x0)])
  refine own_go (fun t k => XS.bipush X0.here hx rfl (hb hby at_1) k) ?_
  show own_WP _ _ _ _ s₁ (mkF m 3 #[.val (.int x0), .unset, .unset] [(.int (31 : Int32)), (.int x0)])
  refine own_go (fun t k => XS.iand X0.here hx rfl (hb hby at_3) rfl k) ?_
  show own_WP _ _ _ _ s₁ (mkF m 4 #[.val (.int x0), .unset, .unset] [(.int (x0 &&& (31 : Int32)))])
  generalize d_zq : (x0 &&& (31 : Int32)) = zq
  refine own_go (fun t k => XS.istoreN X0.here hx rfl (hb hby at_4) rfl (l' := #[.val (.int x0), .val (.int zq), .unset]) rfl k) ?_
  show own_WP _ _ _ _ s₁ (mkF m 5 #[.val (.int x0), .val (.int zq), .unset] [])
  refine own_go (fun t k => XS.iloadN X0.here hx rfl (hb hby at_5) rfl  k) ?_
  show own_WP _ _ _ _ s₁ (mkF m 6 #[.val (.int x0), .val (.int zq), .unset] [(.int zq)])
  obtain ⟨_, _, ⟨T1, L1, k1, n1⟩, -, X1, ⟨Lc1, hQ1, l1, y1, z1⟩, st1⟩ := Jvm.LawKit.callS X0 hx (y := (⟨"sinkward/Label", "symbol", "(I)C"⟩ : MethodName)) hown (mvT hZ (hw _ (List.mem_of_getElem? (i := 0) rfl))) (mvT hZ (hw _ (List.mem_of_getElem? (i := 1) rfl))) (mvT hZ (hw _ (List.mem_of_getElem? (i := 2) rfl))) (mvT hZ (hw _ (List.mem_of_getElem? (i := 3) rfl))) (by decide) (backOf (W := 0) (rm1 l Z a0 hw [] zq  h0 n0 (own_le Z0 K0) ) hZ (hw _ (List.mem_of_getElem? (i := 3) rfl)) (hw _ (List.mem_of_getElem? (i := 2) rfl)) (by decide) (by decide)) (g := (mkF m 6 #[.val (.int x0), .val (.int zq), .unset] [(.int zq)])) rfl (by rw [hml]; rfl) (argsL := [(.int zq)]) (rest := []) (lenOf own_pd81831 rfl) rfl (by show 2 * 0 + _ ≤ _; exact Nat.le_of_eq rfl) (hb hby at_6) (fun _ _ => ⟨rfl, e0, (by decide : 0 + 0 ≤ _), (by decide : 0 + 0 ≤ _)⟩)
  dsimp only [Pt.U, Pt.locs, Pt.cells, Pt.slots] at X1 l1 y1 z1 st1 hQ1
  subst l1 y1 z1
  obtain ⟨rfl, N1q, eq1⟩ := hQ1
  have N1 := Fr.app N0 N1q
  refine own_go st1 ?_
  show own_WP _ _ _ _ T1 (mkF m 9 #[.val (.int x0), .val (.int zq), .unset] [(.int (own_sym zq))])
  refine own_go (fun t k => XS.istoreN X1.here hx rfl (hb hby at_9) rfl (l' := #[.val (.int x0), .val (.int zq), .val (.int (own_sym zq))]) rfl k) ?_
  show own_WP _ _ _ _ T1 (mkF m 10 #[.val (.int x0), .val (.int zq), .val (.int (own_sym zq))] [])
  refine own_go (fun t k => XS.iloadN X1.here hx rfl (hb hby at_10) rfl  k) ?_
  show own_WP _ _ _ _ T1 (mkF m 11 #[.val (.int x0), .val (.int zq), .val (.int (own_sym zq))] [(.int (own_sym zq))])
  obtain ⟨zt, T2, h2, k2, zb, kc2, X2, e2, E2, hS2, hk2, hZ, hown, le2, lc2, lv2, la2, -, -, hIB, st2⟩ := ldcSV (show Stand p l e room_1 (s.setVm s.vm) m #[(.int x0)] below meth c T1 _ _ _ from X1) hx hZ hown (hw _ (List.mem_of_getElem? (i := 4) rfl)) (own_sa hw) eq1 ((State.WarmedH.refl s).since 0) (Nat.zero_le _) (hP4.2 ▸ N1) (fun _ _ q => hP4.1 ▸ q) (show IB Z s.vm [] from hP4.1 ▸ IB.start) (by decide) hcs hcw (z := (32 : Int32)) (vs := (List.map Value.int own_tb)) own_tx (by decide) rfl (g := (mkF m 11 #[.val (.int x0), .val (.int zq), .val (.int (own_sym zq))] [(.int (own_sym zq))])) rfl (hb hby at_11) (n := 128) (by decide) (by decide) (by decide) (by decide)
  refine own_go st2 ?_
  have f3 : Old Z n0 h2 := P0.ext E2
  have K4 : Keep h0 h2 [] := K0.ext E2
  show own_WP _ _ _ _ T2 (mkF m 13 #[.val (.int x0), .val (.int zq), .val (.int (own_sym zq))] [(.ref zt), (.int (own_sym zq))])
  refine own_go (fun t k => XS.iloadN X2.here hx rfl (hb hby at_13) rfl  k) ?_
  show own_WP _ _ _ _ T2 (mkF m 14 #[.val (.int x0), .val (.int zq), .val (.int (own_sym zq))] [(.int zq), (.ref zt), (.int (own_sym zq))])
  obtain ⟨cq5, kq5, q5a, q5b, q5c⟩ := isOf hZ e2 le2
  obtain ⟨_, _, ⟨T5, L5, k5, n5⟩, -, X5, ⟨Lc5, hQ5, l5, y5, z5⟩, st5⟩ := X2.virtualBack hx (y := (⟨"java/lang/String", "charAt", "(I)C"⟩ : MethodName)) (z := (⟨"java/lang/String", "charAt", "(I)C"⟩ : MethodName)) hown (mvT hZ (hw _ (List.mem_of_getElem? (i := 12) rfl))) (mvT hZ (hw _ (List.mem_of_getElem? (i := 13) rfl))) (notFace_of_selects (args := #[]) (mvT hZ (hw _ (List.mem_of_getElem? (i := 15) rfl)))) (mvT hZ (hw _ (List.mem_of_getElem? (i := 15) rfl))) (mvT hZ (hw _ (List.mem_of_getElem? (i := 14) rfl))) (by decide) (backOf (W := 1) (rm2 l Z a0 hw [] zt zq zb kc2 (32 : Int32) (List.map Value.int own_tb) (own_tb.getD zq.toNatClampNeg 0) zS zC h2 n0 (own_le Z0 K4) f3 P1 P2 le2 lc2 lv2 la2 (show ¬ zC = 0 from hzC) (show ¬ zq < 0 ∧ zq < (32 : Int32) from own_rg d_zq) (show zS.isRef = true from hs) (show List.getD (α := Value) (List.map Value.int own_tb) zq.toNatClampNeg (.int (0 : Int32)) = Value.int (own_tb.getD zq.toNatClampNeg 0) from own_mapget own_tb _ rfl)) hZ (hw _ (List.mem_of_getElem? (i := 16) rfl)) (hw _ (List.mem_of_getElem? (i := 5) rfl)) (by decide) (by decide)) q5a q5c (g := (mkF m 14 #[.val (.int x0), .val (.int zq), .val (.int (own_sym zq))] [(.int zq), (.ref zt), (.int (own_sym zq))])) rfl (by rw [hml]; rfl) (Steps.refl _) (argsL := [(.int zq)]) (rest := [(.int (own_sym zq))]) (lenOf own_pd81831 rfl) rfl (by show 2 * 0 + _ ≤ _; exact Nat.le_of_eq rfl) (hb hby at_14) (fun _ _ => ⟨rfl, e2, (by decide : 2 + 0 ≤ _), (by decide : 132 + 0 ≤ _)⟩)
  dsimp only [Pt.U, Pt.locs, Pt.cells, Pt.slots] at X5 l5 y5 z5 st5 hQ5
  subst l5 y5 z5
  obtain ⟨rfl, N5q, eq5⟩ := hQ5
  have N5 := Fr.app N1 N5q
  refine own_tr st5 ?_
  show own_WP _ _ _ _ T5 (mkF m 17 #[.val (.int x0), .val (.int zq), .val (.int (own_sym zq))] [(.int (own_ca (own_tb.getD zq.toNatClampNeg 0))), (.int (own_sym zq))])
  have hc17 : (own_sym zq) = (own_ca (own_tb.getD zq.toNatClampNeg 0)) := by
    exact own_k1 d_zq
  refine own_go (fun t k => XS.icmpNo X5.here hx rfl (hb hby at_17) rfl (teq hc17).2 k) ?_
  show own_WP _ _ _ _ T5 (mkF m 20 #[.val (.int x0), .val (.int zq), .val (.int (own_sym zq))] [])
  refine own_go (fun t k => XS.iloadN X5.here hx rfl (hb hby at_20) rfl  k) ?_
  show own_WP _ _ _ _ T5 (mkF m 21 #[.val (.int x0), .val (.int zq), .val (.int (own_sym zq))] [(.int (own_sym zq))])
  obtain ⟨_, _, ⟨T6, L6, k6, n6⟩, -, X6, ⟨Lc6, hQ6, l6, y6, z6⟩, st6⟩ := Jvm.LawKit.callS X5 hx (y := (⟨"sinkward/Label", "letter", "(C)I"⟩ : MethodName)) hown (mvT hZ (hw _ (List.mem_of_getElem? (i := 37) rfl))) (mvT hZ (hw _ (List.mem_of_getElem? (i := 38) rfl))) (mvT hZ (hw _ (List.mem_of_getElem? (i := 2) rfl))) (mvT hZ (hw _ (List.mem_of_getElem? (i := 39) rfl))) (by decide) (backOf (W := 0) (rm7 l Z a0 hw [] (own_sym zq)  h2 n0 (own_le Z0 K4) ) hZ (hw _ (List.mem_of_getElem? (i := 39) rfl)) (hw _ (List.mem_of_getElem? (i := 2) rfl)) (by decide) (by decide)) (g := (mkF m 21 #[.val (.int x0), .val (.int zq), .val (.int (own_sym zq))] [(.int (own_sym zq))])) rfl (by rw [hml]; rfl) (argsL := [(.int (own_sym zq))]) (rest := []) (lenOf own_pd78871 rfl) rfl (by show 2 * 0 + _ ≤ _; exact Nat.le_of_eq rfl) (hb hby at_21) (fun _ _ => ⟨rfl, eq5, (by decide : 2 + 0 ≤ _), (by decide : 132 + 0 ≤ _)⟩)
  dsimp only [Pt.U, Pt.locs, Pt.cells, Pt.slots] at X6 l6 y6 z6 st6 hQ6
  subst l6 y6 z6
  obtain ⟨rfl, N6q, eq6⟩ := hQ6
  have N6 := Fr.app N5 N6q
  refine own_go st6 ?_
  show own_WP _ _ _ _ T6 (mkF m 24 #[.val (.int x0), .val (.int zq), .val (.int (own_sym zq))] [(.int (own_let (own_sym zq)))])
  refine own_go (fun t k => XS.iloadN X6.here hx rfl (hb hby at_24) rfl  k) ?_
  show own_WP _ _ _ _ T6 (mkF m 25 #[.val (.int x0), .val (.int zq), .val (.int (own_sym zq))] [(.int zq), (.int (own_let (own_sym zq)))])
  have hc25 : (own_let (own_sym zq)) = zq := by
    subst d_zq
    exact own_inv2x x0
  refine own_go (fun t k => XS.icmpNo X6.here hx rfl (hb hby at_25) rfl (teq hc25).2 k) ?_
  show own_WP _ _ _ _ T6 (mkF m 28 #[.val (.int x0), .val (.int zq), .val (.int (own_sym zq))] [])
  refine own_go (fun t k => XS.iconst X6.here hx rfl (hb hby at_28) k) ?_
  show own_WP _ _ _ _ T6 (mkF m 29 #[.val (.int x0), .val (.int zq), .val (.int (own_sym zq))] [(.int (1 : Int32))])
  refine own_go (fun t k => XS.goto X6.here hx rfl (pc0 := 29) (pc' := 33) rfl (hb hby at_29) (by decide) (by decide) k) ?_
  show own_WP _ _ _ _ T6 (mkF m 33 #[.val (.int x0), .val (.int zq), .val (.int (own_sym zq))] [(.int (1 : Int32))])
  refine own_retNW X6 hS2 (by rw [eq6]; exact hk2) hx Bd.notSynchronized (t := .boolean) (by simp) Bd.returns (hb hby at_33) (by decide) (by decide) ?_
  rw [eq6]
  exact ⟨rfl, N6⟩
set_option maxRecDepth 65536 in
set_option maxHeartbeats 40000000 in
theorem comes_1 {Post : Tables → Env → Array Value → State → Outcome → State → Prop} (hpost : ∀ tb e args s v u, (limb_1_1.after args s (.returned v) u = true ∧ limb_1_2.after args s (.returned v) u = true ∧ True) → ReturnedEndW s (.returned v) u (Jvm.fieldLocs frame_1_writes args s ++ Jvm.arrayLocs frame_1_arrays args s ++ Jvm.staticLocs frame_1_statics s) 8 1088 → Post tb e args s (.returned v) u) :
    ArmFor flags0 classFile x code maxLocals ret World_1 tables_1 room_1 Calls_1 rest_1 Pre_1 Post := by
  intro l hfl _ _ p e ha hc hk s m args below hf hA hF happ hP
  obtain ⟨hcalls, hrest, hpre⟩ := hP
  obtain ⟨-, -, -, hnamed, -, -, -, hat⟩ := (Spec.applies_iff hf).mp happ
  obtain ⟨hg, hn⟩ := and_e (Cond.before_iff.mp (show (Jvm.Cond.and given_1 narrow_1).before args s = true from hpre))
  obtain ⟨u0, v0⟩ := and_e hg
  obtain ⟨w0, rfl⟩ : ∃ w0 : Value, args = #[w0] := by
    have hs : args.size = 1 := by simpa [Cond.value, given_1] using u0
    obtain ⟨L⟩ := args
    match L, hs with
    | [w0], _ => exact ⟨w0, rfl⟩
  have hw := fun d (hd : d ∈ tables_1) => atoms_spec (ws := Jvm.Cond.code x code maxLocals ret :: tables_1) hat d (List.mem_cons_of_mem _ hd)
  obtain ⟨i0, ei0⟩ := is_v v0
  obtain rfl : w0 = (.int i0) := Option.some.inj ei0
  obtain ⟨hsets, hown0⟩ := atoms_of _ (rest_1_c_eq ▸ (show rest_1_c.before _ s = true from hrest))
  obtain ⟨zC, hC⟩ := is_v (Cond.before_iff.mp (hsets _ (List.mem_of_getElem? (i := 1) rfl)))
  have hS := Sta.start hC (Or.inl (hsets _ (List.mem_of_getElem? (i := 0) rfl)))
  have hz : ¬ zC = 0 := own_not0 hC (Cond.before_iff.mp (hsets _ (List.mem_of_getElem? (i := 2) rfl)))
  obtain ⟨zS, hF, hr⟩ := own_isR (Cond.before_iff.mp (hsets _ (List.mem_of_getElem? (i := 8) rfl)))
  have hS2 := Sta.start hF (Or.inl (hsets _ (List.mem_of_getElem? (i := 7) rfl)))
  have hcw : Jvm.Lit.compactW.before _ s = true := hsets _ (List.mem_of_getElem? (i := 2) rfl)
  have hcs := hcalls.1 _ (List.mem_of_getElem? (i := 0) rfl)
  obtain ⟨n, o, h1, h2, h3, _, L, rfl, ⟨rfl, N⟩, hq⟩ := rm0 l s _ hw tables_1 i0 zC zS s.heap s.heap.size (Nat.le_refl _) (Old.start s) hS hS2 hz hr hcw hcs p e ha hc hk s m _ below hf ((Spec.applies_iff_loose hf).mp happ).1 ⟨rfl, State.Warmed39.refl s, rfl, rfl, rfl⟩ trivial
  refine ⟨n, _, h1, h2, h3, hpost _ _ _ _ _ _ ⟨Cond.after_iff.mpr rfl, Cond.after_iff.mpr (eq_i res_at (Term.int_eval (1)) rfl), trivial⟩ ⟨hq.1, hq.2.1, hq.2.2.1, (hq.2.2.2.sift fun y hy => Or.inr (N y hy)).mono (by decide) (by decide)⟩⟩
theorem main_1_1 : Claimed_1_1 := comes_1 fun _ _ _ _ _ _ h hF => ⟨h.1, hF⟩
theorem main_1_2 : Claimed_1_2 := comes_1 fun _ _ _ _ _ _ h hF => ⟨h.2.1, hF⟩
end Jvm.Pilot.@@N@@
namespace Jvm.Pilot.@@N@@
open Jvm Jvm.ClassFile Sem Op Lib Jvm.Free Jvm.Stand Jvm.Pilot.@@N@@.Jvm.D
/-! MADE BY PROGRAM (witnessworld.py) out of the Statement's table words and the real class files: 18 classes; the members and pool entries that the words name. The judged class is class 1, her method 1. -/
namespace start1
open Jvm.ClassFile
def u (s : String) : CpInfo := .utf8 (stringToUtf16 s)
/-- a pool by its gaps: so many unusable entries, then the entry; so many at the end -/
def gap : Nat → List CpInfo → List CpInfo
  | 0, r => r
  | n + 1, r => .unusable :: gap n r
def poolList (es : List (Nat × CpInfo)) (last : Nat) : List CpInfo := es.foldr (fun e r => gap e.1 (e.2 :: r)) (gap last [])
def pool (es : List (Nat × CpInfo)) (last : Nat) : Array CpInfo := ⟨poolList es last⟩
def fileOf (pool : Array CpInfo) (this : Nat) (attrs : Array Attribute := #[]) (ms : Array MethodInfo := #[]) (fl : Nat := 33) (sup : Nat := 0) (ifs : Array Nat := #[]) (fds : Array FieldInfo := #[]) : ClassFile where
  minorVersion := 0
  majorVersion := 65
  constantPool := pool
  accessFlags := fl
  thisClass := this
  superClass := sup
  interfaces := ifs
  fields := fds
  methods := ms
  attributes := attrs
def plain (name : String) (sup : Option ClassId) : Class where
  name := name
  kind := .ordinary
  loader := none
  accessFlags := 33
  super := sup
  interfaces := #[]
  cf := none
  fields := #[]
  methods := #[]
  instanceTypes := #[]
  staticTypes := #[]
  resolved := #[]
  callSites := []
  init := .initialized
  statics := none
  mirror := none

def pool0 : Array CpInfo := pool [(5, u "<init>"), (0, u "()V"), (1, .class_ 10), (1, u "java/lang/Object")] 113

def k0m0 : Method := { name := "<init>", desc := "()V", sig := { parameters := [], returnType := none }, accessFlags := 1, code := none }
/-- java/lang/Object -/
def k0 : Class := { plain "java/lang/Object" none with
  accessFlags := 33
  interfaces := #[]
  cf := some (fileOf pool0 8 #[] #[{ accessFlags := 1, nameIndex := 5, descriptorIndex := 6, attributes := #[] }] 33 0 #[] #[])
  fields := #[]
  methods := #[k0m0]
  instanceTypes := #[]
  staticTypes := #[]
  resolved := Array.replicate 124 none
  statics := none }

def pool1 : Array CpInfo := pool [(2, .class_ 4), (1, u "java/lang/Object"), (0, u "<init>"), (0, u "()V"), (0, .methodref 8 9), (0, .class_ 10), (0, .nameAndType 11 12), (0, u "sinkward/Label"), (0, u "symbol"), (0, u "(I)C"), (0, .string 14), (0, u "abcdefghijklmnopqrstuvwxyzABCDEF"), (0, .methodref 16 17), (0, .class_ 18), (0, .nameAndType 19 12), (0, u "java/lang/String"), (0, u "charAt"), (0, .methodref 8 21), (0, .nameAndType 22 23), (0, u "letter"), (0, u "(C)I"), (0, .class_ 25), (0, u "sinkward/LabelSymbolPinLaw"), (2, u "law"), (0, u "(I)Z")] 3

def k1m0 : Method := { name := "<init>", desc := "()V", sig := { parameters := [], returnType := none }, accessFlags := 1, code := none }
def k1c1 : Code := { maxStack := 3, maxLocals := 3, code := code, exceptionTable := #[], attributes := #[] }
def k1m1 : Method := { name := "law", desc := "(I)Z", sig := { parameters := [.int], returnType := some .boolean }, accessFlags := 9, code := some k1c1 }
/-- sinkward/LabelSymbolPinLaw -/
def k1 : Class := { plain "sinkward/LabelSymbolPinLaw" (some 0) with
  accessFlags := 49
  interfaces := #[]
  cf := some (fileOf pool1 24 #[] #[{ accessFlags := 1, nameIndex := 5, descriptorIndex := 6, attributes := #[] }, { accessFlags := 9, nameIndex := 28, descriptorIndex := 29, attributes := #[] }] 49 2 #[] #[])
  fields := #[]
  methods := #[k1m0, k1m1]
  instanceTypes := #[]
  staticTypes := #[]
  resolved := Array.replicate 33 none
  statics := none }

def pool2 : Array CpInfo := pool [(2, .class_ 4), (1, u "java/lang/Object"), (0, u "<init>"), (0, u "()V"), (0, .class_ 8), (0, u "java/lang/Record")] 13

def k2m0 : Method := { name := "<init>", desc := "()V", sig := { parameters := [], returnType := none }, accessFlags := 4, code := none }
/-- java/lang/Record -/
def k2 : Class := { plain "java/lang/Record" (some 0) with
  accessFlags := 1057
  interfaces := #[]
  cf := some (fileOf pool2 7 #[] #[{ accessFlags := 4, nameIndex := 5, descriptorIndex := 6, attributes := #[] }] 1057 2 #[] #[])
  fields := #[]
  methods := #[k2m0]
  instanceTypes := #[]
  staticTypes := #[]
  resolved := Array.replicate 22 none
  statics := none }

def pool3 : Array CpInfo := pool [(2, .class_ 4), (1, u "java/lang/Record"), (3, .class_ 10), (1, u "sinkward/Label"), (0, u "positive"), (0, u "I"), (2, u "negative"), (16, u "EMPTY"), (0, u "Lsinkward/Label;"), (7, u "(I)C"), (2, u "letter"), (0, u "(C)I"), (62, u "symbol"), (11, u "EMPTY_SYMBOL"), (0, u "C"), (2, u "NOT"), (1, u "UNKNOWN"), (1, u "NO_LETTER")] 42

def k3c0 : Code := { maxStack := 2, maxLocals := 1, code := prog_10_method_3_code, exceptionTable := #[], attributes := #[] }
def k3m0 : Method := { name := "letter", desc := "(C)I", sig := { parameters := [.char], returnType := some .int }, accessFlags := 8, code := some k3c0 }
def k3c1 : Code := { maxStack := 2, maxLocals := 1, code := prog_10_method_4_code, exceptionTable := #[], attributes := #[] }
def k3m1 : Method := { name := "symbol", desc := "(I)C", sig := { parameters := [.int], returnType := some .char }, accessFlags := 8, code := some k3c1 }
/-- sinkward/Label -/
def k3 : Class := { plain "sinkward/Label" (some 2) with
  accessFlags := 48
  interfaces := #[]
  cf := some (fileOf pool3 8 #[] #[{ accessFlags := 8, nameIndex := 44, descriptorIndex := 45, attributes := #[] }, { accessFlags := 8, nameIndex := 108, descriptorIndex := 41, attributes := #[] }] 48 2 #[] #[{ accessFlags := 18, nameIndex := 11, descriptorIndex := 12, attributes := #[] }, { accessFlags := 18, nameIndex := 15, descriptorIndex := 12, attributes := #[] }, { accessFlags := 24, nameIndex := 32, descriptorIndex := 33, attributes := #[] }, { accessFlags := 24, nameIndex := 120, descriptorIndex := 121, attributes := #[] }, { accessFlags := 24, nameIndex := 124, descriptorIndex := 121, attributes := #[] }, { accessFlags := 24, nameIndex := 126, descriptorIndex := 121, attributes := #[] }, { accessFlags := 24, nameIndex := 128, descriptorIndex := 12, attributes := #[] }])
  fields := #[{ name := "positive", type := .int, accessFlags := 18, slot := 0, constantValue := 0 }, { name := "negative", type := .int, accessFlags := 18, slot := 1, constantValue := 0 }, { name := "EMPTY", type := (.object "sinkward/Label"), accessFlags := 24, slot := 0, constantValue := 0 }, { name := "EMPTY_SYMBOL", type := .char, accessFlags := 24, slot := 1, constantValue := 0 }, { name := "NOT", type := .char, accessFlags := 24, slot := 2, constantValue := 0 }, { name := "UNKNOWN", type := .char, accessFlags := 24, slot := 3, constantValue := 0 }, { name := "NO_LETTER", type := .int, accessFlags := 24, slot := 4, constantValue := 0 }]
  methods := #[k3m0, k3m1]
  instanceTypes := #[.int, .int]
  staticTypes := #[(.object "sinkward/Label"), .char, .char, .char, .int]
  resolved := Array.replicate 171 none
  statics := none }

def pool4 : Array CpInfo := pool [(1, .class_ 2), (0, u "java/io/Serializable"), (0, .class_ 4), (0, u "java/lang/Object")] 2

/-- java/io/Serializable -/
def k4 : Class := { plain "java/io/Serializable" (some 0) with
  accessFlags := 1537
  interfaces := #[]
  cf := some (fileOf pool4 1 #[] #[] 1537 3 #[] #[])
  fields := #[]
  methods := #[]
  instanceTypes := #[]
  staticTypes := #[]
  resolved := Array.replicate 7 none
  statics := none }

def pool5 : Array CpInfo := pool [(1, .class_ 2), (0, u "java/lang/Comparable"), (0, .class_ 4), (0, u "java/lang/Object")] 7

/-- java/lang/Comparable -/
def k5 : Class := { plain "java/lang/Comparable" (some 0) with
  accessFlags := 1537
  interfaces := #[]
  cf := some (fileOf pool5 1 #[] #[] 1537 3 #[] #[])
  fields := #[]
  methods := #[]
  instanceTypes := #[]
  staticTypes := #[]
  resolved := Array.replicate 12 none
  statics := none }

def pool6 : Array CpInfo := pool [(2, .class_ 4), (1, u "java/lang/CharSequence"), (42, .class_ 48), (0, u "java/lang/CharSequence$1CodePointIterator"), (10, .class_ 60), (0, u "java/lang/CharSequence$1CharIterator"), (5, .class_ 67), (0, u "java/lang/Object")] 63

/-- java/lang/CharSequence -/
def k6 : Class := { plain "java/lang/CharSequence" (some 0) with
  accessFlags := 1537
  interfaces := #[]
  cf := some (fileOf pool6 2 #[.nestMembers #[47, 59]] #[] 1537 66 #[] #[])
  fields := #[]
  methods := #[]
  instanceTypes := #[]
  staticTypes := #[]
  resolved := Array.replicate 131 none
  statics := none }

def pool7 : Array CpInfo := pool [(1, .class_ 2), (0, u "java/lang/constant/Constable"), (0, .class_ 4), (0, u "java/lang/Object")] 6

/-- java/lang/constant/Constable -/
def k7 : Class := { plain "java/lang/constant/Constable" (some 0) with
  accessFlags := 1537
  interfaces := #[]
  cf := some (fileOf pool7 1 #[] #[] 1537 3 #[] #[])
  fields := #[]
  methods := #[]
  instanceTypes := #[]
  staticTypes := #[]
  resolved := Array.replicate 11 none
  statics := none }

def pool8 : Array CpInfo := pool [(1, .class_ 2), (0, u "java/lang/constant/ConstantDesc"), (0, .class_ 4), (0, u "java/lang/Object")] 32

/-- java/lang/constant/ConstantDesc -/
def k8 : Class := { plain "java/lang/constant/ConstantDesc" (some 0) with
  accessFlags := 1537
  interfaces := #[]
  cf := some (fileOf pool8 1 #[] #[] 1537 3 #[] #[])
  fields := #[]
  methods := #[]
  instanceTypes := #[]
  staticTypes := #[]
  resolved := Array.replicate 37 none
  statics := none }

def pool9 : Array CpInfo := pool [(2, .class_ 4), (1, u "java/lang/Object"), (0, u "<init>"), (0, u "()V"), (2, .fieldref 10 11), (0, .class_ 12), (0, .nameAndType 13 14), (0, u "java/lang/String"), (0, u "value"), (0, u "[B"), (0, .fieldref 10 16), (0, .nameAndType 17 18), (0, u "coder"), (0, u "B"), (2, u "hash"), (0, u "I"), (2, u "hashIsZero"), (0, u "Z"), (11, .fieldref 10 39), (0, .nameAndType 40 26), (0, u "COMPACT_STRINGS"), (66, .class_ 109), (1, u "java/lang/StringLatin1"), (32, u "()Z"), (220, u "([BI)C"), (27, u "(II)V"), (35, u "(I)C"), (64, .methodref 10 493), (0, .nameAndType 494 142), (0, u "isLatin1"), (0, .methodref 107 496), (0, .nameAndType 497 363), (0, u "charAt"), (3, u "checkIndex"), (73, .class_ 576), (0, u "java/lang/CharSequence"), (22, u "CASE_INSENSITIVE_ORDER"), (0, u "Ljava/util/Comparator;"), (452, .fieldref 1054 1055), (0, .class_ 1056), (0, .nameAndType 1057 1058), (0, u "jdk/internal/util/Preconditions"), (0, u "SIOOBE_FORMATTER"), (0, u "Ljava/util/function/BiFunction;"), (0, .methodref 1054 1060), (0, .nameAndType 501 1061), (0, u "(IILjava/util/function/BiFunction;)I"), (39, u "serialPersistentFields"), (0, u "[Ljava/io/ObjectStreamField;"), (0, .class_ 1104), (0, u "java/lang/String$CaseInsensitiveComparator"), (1, .class_ 1107), (0, u "java/io/Serializable"), (0, .class_ 1109), (0, u "java/lang/Comparable"), (0, .class_ 1111), (0, u "java/lang/constant/Constable"), (0, .class_ 1113), (0, u "java/lang/constant/ConstantDesc"), (2, u "serialVersionUID"), (0, u "J"), (3, u "REPL"), (0, u "C"), (2, u "LATIN1"), (1, u "UTF16")] 323

def k9m0 : Method := { name := "<init>", desc := "()V", sig := { parameters := [], returnType := none }, accessFlags := 1, code := none }
def k9c1 : Code := { maxStack := 2, maxLocals := 2, code := jdk_42_method_56_code, exceptionTable := #[], attributes := #[] }
def k9m1 : Method := { name := "charAt", desc := "(I)C", sig := { parameters := [.int], returnType := some .char }, accessFlags := 1, code := some k9c1 }
def k9c2 : Code := { maxStack := 1, maxLocals := 1, code := jdk_42_method_154_code, exceptionTable := #[], attributes := #[] }
def k9m2 : Method := { name := "isLatin1", desc := "()Z", sig := { parameters := [], returnType := some .boolean }, accessFlags := 0, code := some k9c2 }
def k9c3 : Code := { maxStack := 3, maxLocals := 2, code := jdk_42_method_155_code, exceptionTable := #[], attributes := #[] }
def k9m3 : Method := { name := "checkIndex", desc := "(II)V", sig := { parameters := [.int, .int], returnType := none }, accessFlags := 8, code := some k9c3 }
/-- java/lang/String -/
def k9 : Class := { plain "java/lang/String" (some 0) with
  accessFlags := 49
  interfaces := #[4, 5, 6, 7, 8]
  cf := some (fileOf pool9 10 #[.nestMembers #[1103]] #[{ accessFlags := 1, nameIndex := 5, descriptorIndex := 6, attributes := #[] }, { accessFlags := 1, nameIndex := 497, descriptorIndex := 427, attributes := #[] }, { accessFlags := 0, nameIndex := 494, descriptorIndex := 142, attributes := #[] }, { accessFlags := 8, nameIndex := 501, descriptorIndex := 391, attributes := #[] }] 49 2 #[1106, 1108, 575, 1110, 1112] #[{ accessFlags := 18, nameIndex := 13, descriptorIndex := 14, attributes := #[] }, { accessFlags := 18, nameIndex := 17, descriptorIndex := 18, attributes := #[] }, { accessFlags := 2, nameIndex := 21, descriptorIndex := 22, attributes := #[] }, { accessFlags := 2, nameIndex := 25, descriptorIndex := 26, attributes := #[] }, { accessFlags := 26, nameIndex := 1116, descriptorIndex := 1117, attributes := #[] }, { accessFlags := 24, nameIndex := 40, descriptorIndex := 26, attributes := #[] }, { accessFlags := 26, nameIndex := 1101, descriptorIndex := 1102, attributes := #[] }, { accessFlags := 26, nameIndex := 1121, descriptorIndex := 1122, attributes := #[] }, { accessFlags := 25, nameIndex := 599, descriptorIndex := 600, attributes := #[] }, { accessFlags := 24, nameIndex := 1125, descriptorIndex := 18, attributes := #[] }, { accessFlags := 24, nameIndex := 1127, descriptorIndex := 18, attributes := #[] }])
  fields := #[{ name := "value", type := (.array .byte), accessFlags := 18, slot := 0, constantValue := 0 }, { name := "coder", type := .byte, accessFlags := 18, slot := 1, constantValue := 0 }, { name := "hash", type := .int, accessFlags := 2, slot := 2, constantValue := 0 }, { name := "hashIsZero", type := .boolean, accessFlags := 2, slot := 3, constantValue := 0 }, { name := "serialVersionUID", type := .long, accessFlags := 26, slot := 0, constantValue := 0 }, { name := "COMPACT_STRINGS", type := .boolean, accessFlags := 24, slot := 1, constantValue := 0 }, { name := "serialPersistentFields", type := (.array (.object "java/io/ObjectStreamField")), accessFlags := 26, slot := 2, constantValue := 0 }, { name := "REPL", type := .char, accessFlags := 26, slot := 3, constantValue := 0 }, { name := "CASE_INSENSITIVE_ORDER", type := (.object "java/util/Comparator"), accessFlags := 25, slot := 4, constantValue := 0 }, { name := "LATIN1", type := .byte, accessFlags := 24, slot := 5, constantValue := 0 }, { name := "UTF16", type := .byte, accessFlags := 24, slot := 6, constantValue := 0 }]
  methods := #[k9m0, k9m1, k9m2, k9m3]
  instanceTypes := #[(.array .byte), .byte, .int, .boolean]
  staticTypes := #[.long, .boolean, (.array (.object "java/io/ObjectStreamField")), .char, (.object "java/util/Comparator"), .byte, .byte]
  resolved := Array.replicate 1451 none
  statics := some 0 }

def pool10 : Array CpInfo := pool [(1, .class_ 2), (0, u "java/lang/String"), (1, .class_ 6), (1, u "java/lang/Object"), (0, u "<init>"), (0, u "()V"), (0, .methodref 1 10), (0, .nameAndType 11 12), (0, u "checkIndex"), (0, u "(II)V"), (1, .class_ 16), (1, u "java/lang/StringLatin1"), (36, u "([BI)C"), (67, u "$assertionsDisabled"), (0, u "Z"), (98, .class_ 223), (1, u "java/lang/StringLatin1$LinesSpliterator"), (28, u "charAt"), (137, .class_ 391), (0, u "java/lang/StringLatin1$CharsSpliterator")] 3

def k10m0 : Method := { name := "<init>", desc := "()V", sig := { parameters := [], returnType := none }, accessFlags := 0, code := none }
def k10c1 : Code := { maxStack := 2, maxLocals := 2, code := jdk_43_method_2_code, exceptionTable := #[], attributes := #[] }
def k10m1 : Method := { name := "charAt", desc := "([BI)C", sig := { parameters := [(.array .byte), .int], returnType := some .char }, accessFlags := 9, code := some k10c1 }
/-- java/lang/StringLatin1 -/
def k10 : Class := { plain "java/lang/StringLatin1" (some 0) with
  accessFlags := 48
  interfaces := #[]
  cf := some (fileOf pool10 14 #[.nestMembers #[390, 221]] #[{ accessFlags := 0, nameIndex := 7, descriptorIndex := 8, attributes := #[] }, { accessFlags := 9, nameIndex := 252, descriptorIndex := 53, attributes := #[] }] 48 4 #[] #[{ accessFlags := 4120, nameIndex := 121, descriptorIndex := 122, attributes := #[] }])
  fields := #[{ name := "$assertionsDisabled", type := .boolean, accessFlags := 4120, slot := 0, constantValue := 0 }]
  methods := #[k10m0, k10m1]
  instanceTypes := #[]
  staticTypes := #[.boolean]
  resolved := Array.replicate 395 none
  statics := none }

def pool11 : Array CpInfo := pool [(2, .class_ 4), (1, u "java/lang/Object"), (0, u "<init>"), (0, u "()V"), (17, .class_ 26), (1, u "jdk/internal/util/Preconditions"), (6, u "checkIndex"), (21, .class_ 56), (0, u "jdk/internal/util/Preconditions$4"), (57, .class_ 115), (0, u "jdk/internal/util/Preconditions$1"), (7, u "SIOOBE_FORMATTER"), (0, u "Ljava/util/function/BiFunction;"), (0, .class_ 126), (0, u "jdk/internal/util/Preconditions$2"), (3, u "AIOOBE_FORMATTER"), (0, .class_ 132), (0, u "jdk/internal/util/Preconditions$3"), (3, u "IOOBE_FORMATTER"), (41, u "(IILjava/util/function/BiFunction;)I")] 15

def k11m0 : Method := { name := "<init>", desc := "()V", sig := { parameters := [], returnType := none }, accessFlags := 1, code := none }
def k11c1 : Code := { maxStack := 3, maxLocals := 3, code := jdk_41_method_11_code, exceptionTable := #[], attributes := #[] }
def k11m1 : Method := { name := "checkIndex", desc := "(IILjava/util/function/BiFunction;)I", sig := { parameters := [.int, .int, (.object "java/util/function/BiFunction")], returnType := some .int }, accessFlags := 9, code := some k11c1 }
/-- jdk/internal/util/Preconditions -/
def k11 : Class := { plain "jdk/internal/util/Preconditions" (some 0) with
  accessFlags := 33
  interfaces := #[]
  cf := some (fileOf pool11 24 #[.nestMembers #[55, 131, 125, 114]] #[{ accessFlags := 1, nameIndex := 5, descriptorIndex := 6, attributes := #[] }, { accessFlags := 9, nameIndex := 33, descriptorIndex := 178, attributes := #[] }] 33 2 #[] #[{ accessFlags := 25, nameIndex := 123, descriptorIndex := 124, attributes := #[] }, { accessFlags := 25, nameIndex := 130, descriptorIndex := 124, attributes := #[] }, { accessFlags := 25, nameIndex := 136, descriptorIndex := 124, attributes := #[] }])
  fields := #[{ name := "SIOOBE_FORMATTER", type := (.object "java/util/function/BiFunction"), accessFlags := 25, slot := 0, constantValue := 0 }, { name := "AIOOBE_FORMATTER", type := (.object "java/util/function/BiFunction"), accessFlags := 25, slot := 1, constantValue := 0 }, { name := "IOOBE_FORMATTER", type := (.object "java/util/function/BiFunction"), accessFlags := 25, slot := 2, constantValue := 0 }]
  methods := #[k11m0, k11m1]
  instanceTypes := #[]
  staticTypes := #[(.object "java/util/function/BiFunction"), (.object "java/util/function/BiFunction"), (.object "java/util/function/BiFunction")]
  resolved := Array.replicate 194 none
  statics := some 1 }

def pool12 : Array CpInfo := pool [(9, u "<init>"), (6, .class_ 18), (1, u "java/lang/Object"), (0, u "()V"), (1, .class_ 23), (1, u "jdk/internal/util/ArraysSupport"), (0, u "LOG2_ARRAY_LONG_INDEX_SCALE"), (0, u "I"), (2, u "U"), (0, u "Ljdk/internal/misc/Unsafe;"), (8, u "BIG_ENDIAN"), (0, u "Z"), (8, u "LOG2_BYTE_BIT_SIZE"), (4, u "LOG2_ARRAY_INT_INDEX_SCALE"), (54, u "JLA"), (0, u "Ljdk/internal/access/JavaLangAccess;"), (11, u "LOG2_ARRAY_BOOLEAN_INDEX_SCALE"), (9, u "LOG2_ARRAY_BYTE_INDEX_SCALE"), (5, u "LOG2_ARRAY_CHAR_INDEX_SCALE"), (5, u "LOG2_ARRAY_SHORT_INDEX_SCALE"), (18, u "LOG2_ARRAY_FLOAT_INDEX_SCALE"), (24, u "LOG2_ARRAY_DOUBLE_INDEX_SCALE"), (89, u "T_BOOLEAN"), (2, u "T_CHAR"), (1, u "T_FLOAT"), (1, u "T_DOUBLE"), (1, u "T_BYTE"), (1, u "T_SHORT"), (1, u "T_INT"), (1, u "T_LONG"), (1, u "SOFT_MAX_ARRAY_LENGTH")] 83

def k12m0 : Method := { name := "<init>", desc := "()V", sig := { parameters := [], returnType := none }, accessFlags := 2, code := none }
/-- jdk/internal/util/ArraysSupport -/
def k12 : Class := { plain "jdk/internal/util/ArraysSupport" (some 0) with
  accessFlags := 33
  interfaces := #[]
  cf := some (fileOf pool12 21 #[] #[{ accessFlags := 2, nameIndex := 9, descriptorIndex := 19, attributes := #[] }] 33 16 #[] #[{ accessFlags := 24, nameIndex := 28, descriptorIndex := 29, attributes := #[] }, { accessFlags := 26, nameIndex := 38, descriptorIndex := 39, attributes := #[] }, { accessFlags := 25, nameIndex := 121, descriptorIndex := 25, attributes := #[] }, { accessFlags := 25, nameIndex := 131, descriptorIndex := 25, attributes := #[] }, { accessFlags := 25, nameIndex := 137, descriptorIndex := 25, attributes := #[] }, { accessFlags := 25, nameIndex := 143, descriptorIndex := 25, attributes := #[] }, { accessFlags := 25, nameIndex := 53, descriptorIndex := 25, attributes := #[] }, { accessFlags := 25, nameIndex := 24, descriptorIndex := 25, attributes := #[] }, { accessFlags := 25, nameIndex := 162, descriptorIndex := 25, attributes := #[] }, { accessFlags := 25, nameIndex := 187, descriptorIndex := 25, attributes := #[] }, { accessFlags := 26, nameIndex := 48, descriptorIndex := 25, attributes := #[] }, { accessFlags := 25, nameIndex := 277, descriptorIndex := 25, attributes := #[] }, { accessFlags := 25, nameIndex := 280, descriptorIndex := 25, attributes := #[] }, { accessFlags := 25, nameIndex := 282, descriptorIndex := 25, attributes := #[] }, { accessFlags := 25, nameIndex := 284, descriptorIndex := 25, attributes := #[] }, { accessFlags := 25, nameIndex := 286, descriptorIndex := 25, attributes := #[] }, { accessFlags := 25, nameIndex := 288, descriptorIndex := 25, attributes := #[] }, { accessFlags := 25, nameIndex := 290, descriptorIndex := 25, attributes := #[] }, { accessFlags := 25, nameIndex := 292, descriptorIndex := 25, attributes := #[] }, { accessFlags := 26, nameIndex := 108, descriptorIndex := 109, attributes := #[] }, { accessFlags := 25, nameIndex := 294, descriptorIndex := 25, attributes := #[] }])
  fields := #[{ name := "U", type := (.object "jdk/internal/misc/Unsafe"), accessFlags := 24, slot := 0, constantValue := 0 }, { name := "BIG_ENDIAN", type := .boolean, accessFlags := 26, slot := 1, constantValue := 0 }, { name := "LOG2_ARRAY_BOOLEAN_INDEX_SCALE", type := .int, accessFlags := 25, slot := 2, constantValue := 0 }, { name := "LOG2_ARRAY_BYTE_INDEX_SCALE", type := .int, accessFlags := 25, slot := 3, constantValue := 0 }, { name := "LOG2_ARRAY_CHAR_INDEX_SCALE", type := .int, accessFlags := 25, slot := 4, constantValue := 0 }, { name := "LOG2_ARRAY_SHORT_INDEX_SCALE", type := .int, accessFlags := 25, slot := 5, constantValue := 0 }, { name := "LOG2_ARRAY_INT_INDEX_SCALE", type := .int, accessFlags := 25, slot := 6, constantValue := 0 }, { name := "LOG2_ARRAY_LONG_INDEX_SCALE", type := .int, accessFlags := 25, slot := 7, constantValue := 0 }, { name := "LOG2_ARRAY_FLOAT_INDEX_SCALE", type := .int, accessFlags := 25, slot := 8, constantValue := 0 }, { name := "LOG2_ARRAY_DOUBLE_INDEX_SCALE", type := .int, accessFlags := 25, slot := 9, constantValue := 0 }, { name := "LOG2_BYTE_BIT_SIZE", type := .int, accessFlags := 26, slot := 10, constantValue := 0 }, { name := "T_BOOLEAN", type := .int, accessFlags := 25, slot := 11, constantValue := 0 }, { name := "T_CHAR", type := .int, accessFlags := 25, slot := 12, constantValue := 0 }, { name := "T_FLOAT", type := .int, accessFlags := 25, slot := 13, constantValue := 0 }, { name := "T_DOUBLE", type := .int, accessFlags := 25, slot := 14, constantValue := 0 }, { name := "T_BYTE", type := .int, accessFlags := 25, slot := 15, constantValue := 0 }, { name := "T_SHORT", type := .int, accessFlags := 25, slot := 16, constantValue := 0 }, { name := "T_INT", type := .int, accessFlags := 25, slot := 17, constantValue := 0 }, { name := "T_LONG", type := .int, accessFlags := 25, slot := 18, constantValue := 0 }, { name := "JLA", type := (.object "jdk/internal/access/JavaLangAccess"), accessFlags := 26, slot := 19, constantValue := 0 }, { name := "SOFT_MAX_ARRAY_LENGTH", type := .int, accessFlags := 25, slot := 20, constantValue := 0 }]
  methods := #[k12m0]
  instanceTypes := #[]
  staticTypes := #[(.object "jdk/internal/misc/Unsafe"), .boolean, .int, .int, .int, .int, .int, .int, .int, .int, .int, .int, .int, .int, .int, .int, .int, .int, .int, (.object "jdk/internal/access/JavaLangAccess"), .int]
  resolved := Array.replicate 378 none
  statics := none }

def pool13 : Array CpInfo := pool [(1, u "java/lang/Cloneable"), (0, .class_ 1), (0, u "java/lang/Object"), (0, .class_ 3)] 3

/-- java/lang/Cloneable -/
def k13 : Class := { plain "java/lang/Cloneable" (some 0) with
  accessFlags := 1537
  interfaces := #[]
  cf := some (fileOf pool13 2 #[] #[] 1537 4 #[] #[])
  fields := #[]
  methods := #[]
  instanceTypes := #[]
  staticTypes := #[]
  resolved := Array.replicate 8 none
  statics := none }

/-- the primitive byte -/
def k14 : Class := { plain "byte" none with kind := .primitive 'B', accessFlags := 0x411 }
/-- [B -/
def k15 : Class := { plain "[B" (some 0) with kind := .array 14 .byte, interfaces := #[13, 4], accessFlags := 1041 }

/-- the primitive int -/
def k16 : Class := { plain "int" none with kind := .primitive 'I', accessFlags := 0x411 }
/-- [I -/
def k17 : Class := { plain "[I" (some 0) with kind := .array 16 .int, interfaces := #[13, 4], accessFlags := 1041 }

def heap : Heap := #[{ cls := 9, slots := #[.long 0, .int 1, .null, .int 0, .null, .int 0, .int 0], vm := .statics 9 },
  { cls := 11, slots := #[.null, .null, .null], vm := .statics 11 }]
def classes : Array Class := #[k0, k1, k2, k3, k4, k5, k6, k7, k8, k9, k10, k11, k12, k13, k14, k15, k16, k17]
def interned : List (Array UInt16 × Addr) := []
def slotsUsed : Nat := 10
def theMethod : MethodId := ⟨1, 1⟩
def args0 : Array Value := #[.int 5]
def aboutOver (below : List Frame) : State where
  vm := { classes := classes, interned := interned.toArray }
  heap := heap
  slotsUsed := slotsUsed
  threads := #[{ frames := .invoking theMethod args0 :: below }]
def below0 : List Frame := [.native { method := ⟨0, 0⟩, args := #[] }]
def about1 : State := aboutOver below0
def p0 : Program := .bare "" "" ""
def e0 : Env := launch0.env 0 0 0
theorem w_frames : about1.frames = Frame.invoking theMethod args0 :: below0 := rfl
set_option maxRecDepth 65536 in
theorem w_args : argsFit about1.vm theMethod args0 = true := by decide +kernel
set_option maxRecDepth 65536 in
theorem w_heap : heapFits about1 = true := by decide +kernel
set_option maxRecDepth 65536 in
theorem w_runnable : about1.curStatus? = some .runnable := by decide +kernel
set_option maxRecDepth 65536 in
theorem w_alone : about1.alone = true := by decide +kernel
set_option maxRecDepth 65536 in
theorem w_named : about1.methodNamed? x = some theMethod := by decide +kernel
set_option maxRecDepth 65536 in
theorem w_hears : about1.hears theMethod below0 = true := by decide +kernel
set_option maxRecDepth 65536 in
theorem w_ripe : about1.ripe theMethod args0 below0 = true := by decide +kernel
theorem w_running : about1.status = .running := rfl
set_option maxRecDepth 65536 in
theorem w_room : about1.hasRoom e0.platform room_1 = true :=
  launch0.hasRoom_least _ room_1 (by decide +kernel) (by decide +kernel) (by decide +kernel) (by decide +kernel) (by decide +kernel) (by decide +kernel)
theorem allAtoms_all (ts : List Jvm.Cond) (a : Array Jvm.Value) (st : Jvm.State) : (allAtoms ts).before a st = ts.all (fun c => c.before a st) := by
  induction ts with
  | nil => rfl
  | cons c t ih =>
    show (Jvm.Cond.and c (allAtoms t)).before a st = _
    rw [Jvm.Cond.before_and, ih, List.all_cons]
def words1 : List Jvm.Cond := Jvm.Cond.code x code maxLocals ret :: tables_1
/-- a 'code' word, met by the world's own term for the bytes: nothing is compared byte by byte -/
theorem code_word {y : MethodName} {bytes : ByteArray} {mx : Nat} {rt : Option FieldType} {a : Array Value} {s : State} {m : MethodId} {meth : Method} {c : Code} (h1 : s.methodNamed? y = some m) (h2 : s.vm.method? m = some meth) (h3 : meth.code = some c) (h4 : c.code = bytes)
    (h5 : (c.maxLocals == mx && c.exceptionTable.isEmpty && decide (c.maxStack ≤ mostOperands) && decide (meth.sig.returnType = rt) && !meth.locks && decide (parseMethodDescriptor y.desc = some meth.sig)) = true) : (Jvm.Cond.code y bytes mx rt).before a s = true := by
  simp only [Bool.and_eq_true, beq_iff_eq, Bool.not_eq_true', decide_eq_true_eq] at h5
  obtain ⟨⟨⟨⟨⟨g1, g2⟩, g3⟩, g4⟩, g5⟩, g6⟩ := h5
  simp [Cond.before, Cond.holds, Cond.value, h1, h2, h3, h4, g1, g2, g3, g4, g5, g6]
def isCode : Jvm.Cond → Bool
  | .code _ _ _ _ => true
  | _ => false
theorem all_split {L : List Jvm.Cond} {P : Jvm.Cond → Bool} (h1 : L.all (fun c => isCode c || P c) = true) (h2 : ∀ c ∈ L.filter isCode, P c = true) : L.all P = true := by
  refine List.all_eq_true.mpr fun c hc => ?_
  have h := List.all_eq_true.mp h1 c hc
  rcases Bool.eq_false_or_eq_true (isCode c) with hi | hi
  · exact h2 c (List.mem_filter.mpr ⟨hc, hi⟩)
  · simpa [hi] using h
set_option maxRecDepth 65536 in
theorem w_c0 : (Jvm.Cond.code x code maxLocals ret).before args0 about1 = true := code_word (m := ⟨1, 1⟩) (meth := k1m1) (c := k1c1) (by decide +kernel) rfl rfl rfl (by decide +kernel)
set_option maxRecDepth 65536 in
theorem w_c1 : (Jvm.Cond.code ({ cls := "sinkward/Label", name := "symbol", desc := "(I)C" } : Jvm.MethodName) prog_10_method_4_code (1 : Nat) (Option.some Jvm.ClassFile.FieldType.char)).before args0 about1 = true := code_word (m := ⟨3, 1⟩) (meth := k3m1) (c := k3c1) (by decide +kernel) rfl rfl rfl (by decide +kernel)
set_option maxRecDepth 65536 in
theorem w_c2 : (Jvm.Cond.code ({ cls := "java/lang/String", name := "charAt", desc := "(I)C" } : Jvm.MethodName) jdk_42_method_56_code (2 : Nat) (Option.some Jvm.ClassFile.FieldType.char)).before args0 about1 = true := code_word (m := ⟨9, 1⟩) (meth := k9m1) (c := k9c1) (by decide +kernel) rfl rfl rfl (by decide +kernel)
set_option maxRecDepth 65536 in
theorem w_c3 : (Jvm.Cond.code ({ cls := "java/lang/String", name := "isLatin1", desc := "()Z" } : Jvm.MethodName) jdk_42_method_154_code (1 : Nat) (Option.some Jvm.ClassFile.FieldType.boolean)).before args0 about1 = true := code_word (m := ⟨9, 2⟩) (meth := k9m2) (c := k9c2) (by decide +kernel) rfl rfl rfl (by decide +kernel)
set_option maxRecDepth 65536 in
theorem w_c4 : (Jvm.Cond.code ({ cls := "java/lang/StringLatin1", name := "charAt", desc := "([BI)C" } : Jvm.MethodName) jdk_43_method_2_code (2 : Nat) (Option.some Jvm.ClassFile.FieldType.char)).before args0 about1 = true := code_word (m := ⟨10, 1⟩) (meth := k10m1) (c := k10c1) (by decide +kernel) rfl rfl rfl (by decide +kernel)
set_option maxRecDepth 65536 in
theorem w_c5 : (Jvm.Cond.code ({ cls := "java/lang/String", name := "checkIndex", desc := "(II)V" } : Jvm.MethodName) jdk_42_method_155_code (2 : Nat) (Option.none : Option Jvm.ClassFile.FieldType)).before args0 about1 = true := code_word (m := ⟨9, 3⟩) (meth := k9m3) (c := k9c3) (by decide +kernel) rfl rfl rfl (by decide +kernel)
set_option maxRecDepth 65536 in
theorem w_c6 : (Jvm.Cond.code ({ cls := "jdk/internal/util/Preconditions", name := "checkIndex", desc := "(IILjava/util/function/BiFunction;)I" } : Jvm.MethodName) jdk_41_method_11_code (3 : Nat) (Option.some Jvm.ClassFile.FieldType.int)).before args0 about1 = true := code_word (m := ⟨11, 1⟩) (meth := k11m1) (c := k11c1) (by decide +kernel) rfl rfl rfl (by decide +kernel)
set_option maxRecDepth 65536 in
theorem w_c7 : (Jvm.Cond.code ({ cls := "sinkward/Label", name := "letter", desc := "(C)I" } : Jvm.MethodName) prog_10_method_3_code (1 : Nat) (Option.some Jvm.ClassFile.FieldType.int)).before args0 about1 = true := code_word (m := ⟨3, 0⟩) (meth := k3m0) (c := k3c0) (by decide +kernel) rfl rfl rfl (by decide +kernel)
def codes1 : List Jvm.Cond := [Jvm.Cond.code x code maxLocals ret, Jvm.Cond.code ({ cls := "sinkward/Label", name := "symbol", desc := "(I)C" } : Jvm.MethodName) prog_10_method_4_code (1 : Nat) (Option.some Jvm.ClassFile.FieldType.char), Jvm.Cond.code ({ cls := "java/lang/String", name := "charAt", desc := "(I)C" } : Jvm.MethodName) jdk_42_method_56_code (2 : Nat) (Option.some Jvm.ClassFile.FieldType.char), Jvm.Cond.code ({ cls := "java/lang/String", name := "isLatin1", desc := "()Z" } : Jvm.MethodName) jdk_42_method_154_code (1 : Nat) (Option.some Jvm.ClassFile.FieldType.boolean), Jvm.Cond.code ({ cls := "java/lang/StringLatin1", name := "charAt", desc := "([BI)C" } : Jvm.MethodName) jdk_43_method_2_code (2 : Nat) (Option.some Jvm.ClassFile.FieldType.char), Jvm.Cond.code ({ cls := "java/lang/String", name := "checkIndex", desc := "(II)V" } : Jvm.MethodName) jdk_42_method_155_code (2 : Nat) (Option.none : Option Jvm.ClassFile.FieldType), Jvm.Cond.code ({ cls := "jdk/internal/util/Preconditions", name := "checkIndex", desc := "(IILjava/util/function/BiFunction;)I" } : Jvm.MethodName) jdk_41_method_11_code (3 : Nat) (Option.some Jvm.ClassFile.FieldType.int), Jvm.Cond.code ({ cls := "sinkward/Label", name := "letter", desc := "(C)I" } : Jvm.MethodName) prog_10_method_3_code (1 : Nat) (Option.some Jvm.ClassFile.FieldType.int)]
set_option maxRecDepth 65536 in
theorem codes_eq : words1.filter isCode = codes1 := rfl
theorem w_codes : ∀ c ∈ words1.filter isCode, c.before args0 about1 = true := by
  rw [codes_eq]
  intro c hc
  simp only [codes1, List.mem_cons, List.not_mem_nil, or_false] at hc
  rcases hc with rfl | rfl | rfl | rfl | rfl | rfl | rfl | rfl
  · exact w_c0
  · exact w_c1
  · exact w_c2
  · exact w_c3
  · exact w_c4
  · exact w_c5
  · exact w_c6
  · exact w_c7
set_option maxRecDepth 65536 in
theorem w_t1 : (words1.take 24).all (fun c => isCode c || c.before args0 about1) = true := by decide +kernel
set_option maxRecDepth 65536 in
theorem w_t2 : (words1.drop 24).all (fun c => isCode c || c.before args0 about1) = true := by decide +kernel
theorem w_tables : (allAtoms (Jvm.Cond.code x code maxLocals ret :: tables_1)).before args0 about1 = true := by
  rw [allAtoms_all]
  show words1.all (fun c => c.before args0 about1) = true
  refine all_split ?_ w_codes
  rw [← List.take_append_drop 24 words1, List.all_append, w_t1, w_t2]
  rfl
set_option maxRecDepth 65536 in
theorem w_rest : rest_1_c.before args0 about1 = true := by decide +kernel
set_option maxRecDepth 65536 in
theorem w_case : (Jvm.Cond.and given_1 narrow_1).before args0 about1 = true := by decide +kernel
set_option maxRecDepth 65536 in
theorem w_consts : constsHeld consts_1 about1 := Jvm.Lit.constsHeldB_iff.mp (by decide +kernel)
theorem w_applies : (headSpec (Jvm.Cond.code x code maxLocals ret :: tables_1) room_1).applies x e0.platform about1 = true :=
  (Spec.applies_iff w_frames).mpr ⟨w_running, w_runnable, w_alone, w_named, w_hears, w_ripe, w_room, w_tables⟩
theorem atStart : AtStart classFile x code maxLocals ret World_1 tables_1 room_1 Calls_1 rest_1 Pre_1 launch0 p0 e0 about1 theMethod args0 below0 :=
  ⟨lists_1, trivial, launch0.admits_env _ _ _, launch0.least_env, fairChoices_fair.cas, fairChoices_fair.clock, w_frames, w_args, w_heap, w_applies, ⟨w_consts, trivial⟩, w_rest, w_case⟩
end start1
theorem witness_1 : WitnessClaimed_1 := ⟨start1.p0, start1.e0, start1.about1, start1.theMethod, start1.args0, start1.below0, start1.atStart⟩
end Jvm.Pilot.@@N@@
