import JvmDerived
import JvmDerived.Pilot.@@N@@Statement
import JvmDerived.Pilot.@@N@@Code
set_option linter.unusedVariables false
set_option linter.unusedSimpArgs false
@@BLOCK:NumsL.lean.txt@@
namespace Jvm.Pilot.@@N@@
open Jvm Jvm.ClassFile Sem Op Lib Jvm.Free Jvm.Stand Jvm.LawKit Jvm.RoadKit Bundle Jvm.Pilot.@@N@@.Jvm.D
section OwnKit
variable {p : Program} {l : Launch} {e : Env} {R : Room} {s : State} {m : MethodId} {args : Array Value} {below : List Frame} {meth : Method} {c : Code} {T T' : State} {locs : List Loc} {cells slots : Nat} {Z : State} {h : Heap} {a0 : Array Value}
/-- from the state T with the frame g on top the method comes to its end, and what it leaves meets E -/
def own_WP (p : Program) (e : Env) (below : List Frame) (E : Outcome → State → Prop) (T : State) (g : JFrame) : Prop :=
  ∃ s₂ o, Steps p.tables e below (T.setTop g) s₂ ∧ s₂.status = .running ∧ Ended s₂ below o ∧ E o s₂
/-- it returns, and what it leaves meets Q within K cells and N slots -/
def own_E (s : State) (Q : Option Value → Heap → List Loc → Prop) (K N : Nat) (o : Outcome) (t : State) : Prop := ∃ v L, o = .returned v ∧ Q v t.heap L ∧ FrameEnd s o t L K N
variable {Q : Option Value → Heap → List Loc → Prop} {K N : Nat} {g g' : JFrame} {E : Outcome → State → Prop}
theorem own_go (h : ∀ t, Steps p.tables e below (T'.setTop g') t → Steps p.tables e below (T.setTop g) t) (k : own_WP p e below E T' g') : own_WP p e below E T g := by
  obtain ⟨s₂, o, h1, h2⟩ := k
  exact ⟨s₂, o, h s₂ h1, h2⟩
theorem own_tr (h : Steps p.tables e below (T.setTop g) (T'.setTop g')) (k : own_WP p e below E T' g') : own_WP p e below E T g := by
  obtain ⟨s₂, o, h1, h2⟩ := k
  exact ⟨s₂, o, h.trans h1, h2⟩
theorem own_end (X : Stand p l e R s m args below meth c T locs cells slots) (hlk : meth.locks = false) {v : Option Value} (hv : meth.sig.returnType = none → v = none)
    (hs : ∀ fs, (∀ (f : JFrame) (acts : List Action), f.method = m → f.locked = none → f.entered = [] → (doReturn e (T.setTop f) acts v).1 = T.setFrames fs) → Steps p.tables e below (T.setTop g) (T.setFrames fs))
    (hk : cells ≤ K) (hn : slots ≤ N) (hq : Q v T.heap locs) : own_WP p e below (own_E s Q K N) T g := by
  obtain ⟨fs, hr, hrun, hended, hW, hsame⟩ := X.leave hv hlk
  exact ⟨_, _, hs fs hr, hrun, hended, _, _, rfl, hq, ⟨_, rfl⟩, hW, hsame.mono hk hn⟩
theorem own_retV (X : Stand p l e R s m args below meth c T locs cells slots) (hx : p.tables.exec = Jvm.exec) (hlk : meth.locks = false) {pc : Nat} {Ls : Array Slot} (hret : meth.sig.returnType = none) (hd : decode c.code pc = .ok (.return_, 1))
    (hk : cells ≤ K) (hn : slots ≤ N) (hq : Q none T.heap locs) : own_WP p e below (own_E s Q K N) T (mkF m pc Ls []) :=
  own_end X hlk (fun _ => rfl) (fun fs hr => X.returnOut hx hret hd hr) hk hn hq
theorem own_retI (X : Stand p l e R s m args below meth c T locs cells slots) (hx : p.tables.exec = Jvm.exec) (hlk : meth.locks = false) {pc : Nat} {Ls : Array Slot} {z : Int32} (hret : meth.sig.returnType = some .int) (hd : decode c.code pc = .ok (.ireturn, 1))
    (hk : cells ≤ K) (hn : slots ≤ N) (hq : Q (some (.int z)) T.heap locs) : own_WP p e below (own_E s Q K N) T (mkF m pc Ls [.int z]) :=
  own_end X hlk (fun h => by rw [hret] at h; cases h) (fun fs hr => retOut X hx hret rfl (Or.inl ⟨rfl, Or.inl rfl, z, rfl⟩) hd hr) hk hn hq
theorem own_retJ (X : Stand p l e R s m args below meth c T locs cells slots) (hx : p.tables.exec = Jvm.exec) (hlk : meth.locks = false) {pc : Nat} {Ls : Array Slot} {z : Int64} (hret : meth.sig.returnType = some .long) (hd : decode c.code pc = .ok (.lreturn, 1))
    (hk : cells ≤ K) (hn : slots ≤ N) (hq : Q (some (.long z)) T.heap locs) : own_WP p e below (own_E s Q K N) T (mkF m pc Ls [.long z]) :=
  own_end X hlk (fun h => by rw [hret] at h; cases h) (fun fs hr => X.lreturnOut hx hret hd hr) hk hn hq
theorem own_retA (X : Stand p l e R s m args below meth c T locs cells slots) (hx : p.tables.exec = Jvm.exec) (hlk : meth.locks = false) {pc : Nat} {Ls : Array Slot} {w : Value} (hw : w.isRef = true) {t : FieldType} (ht : t.isReference = true) (hret : meth.sig.returnType = some t) (hd : decode c.code pc = .ok (.areturn, 1))
    (hk : cells ≤ K) (hn : slots ≤ N) (hq : Q (some w) T.heap locs) : own_WP p e below (own_E s Q K N) T (mkF m pc Ls [w]) :=
  own_end X hlk (fun h => by rw [hret] at h; cases h) (fun fs hr => X.areturnOut hx hw hret ht hd hr) hk hn hq
theorem own_retN (X : Stand p l e R s m args below meth c T locs cells slots) (hx : p.tables.exec = Jvm.exec) (hlk : meth.locks = false) {pc : Nat} {Ls : Array Slot} {z : Int32} {t : FieldType} (ht : t = .boolean ∨ t = .byte ∨ t = .char ∨ t = .short) (hret : meth.sig.returnType = some t) (hd : decode c.code pc = .ok (.ireturn, 1))
    (hk : cells ≤ K) (hn : slots ≤ N) (hq : Q (some (.int (nar t z))) T.heap locs) : own_WP p e below (own_E s Q K N) T (mkF m pc Ls [.int z]) :=
  own_end X hlk (fun h => by rw [hret] at h; cases h) (fun fs hr => retN X hx hret ht hd hr) hk hn hq
/-- the same, where a String constant may have been made: the wide frame -/
def own_EW (s : State) (Q : Option Value → Heap → List Loc → Prop) (K N : Nat) (o : Outcome) (t : State) : Prop := ∃ v L, o = .returned v ∧ Q v t.heap L ∧ ReturnedEndW s o t L K N
theorem own_retNW {vm₁ : Vm} (X : Stand p l e R (s.setVm vm₁) m args below meth c T locs cells slots) {n : Nat} (hS : s.Since vm₁ n) (hn : n ≤ T.heap.size) (hx : p.tables.exec = Jvm.exec) (hlk : meth.locks = false) {pc : Nat} {Ls : Array Slot} {z : Int32} {t : FieldType} (ht : t = .boolean ∨ t = .byte ∨ t = .char ∨ t = .short) (hret : meth.sig.returnType = some t) (hd : decode c.code pc = .ok (.ireturn, 1))
    (hk : cells ≤ K) (hN : slots ≤ N) (hq : Q (some (.int (nar t z))) T.heap locs) : own_WP p e below (own_EW s Q K N) T (mkF m pc Ls [.int z]) := by
  obtain ⟨fs, hr, hrun, hended, hEnd⟩ := X.leaveW hS hn (v := some (.int (nar t z))) (fun h => by rw [hret] at h; cases h) hlk
  exact ⟨_, _, retN X hx hret ht hd hr, hrun, hended, _, _, rfl, hq, hEnd.1, hEnd.2.1, hEnd.2.2.1, hEnd.2.2.2.mono hk hN⟩
theorem own_stR (X : Stand p l e R s m args below meth c T locs cells slots) (hx : p.tables.exec = Jvm.exec) (hZ : Z.Warmed39 s.vm) (eT : T.heap = h) {a y : Addr} {k : ClassId} {C : String} {n j : Int32} {vs : List Value} {d : Value} (V : Arv Z h a k (.object C) n vs d) (O : Ovr Z k C) (I : Ins Z h y C true) (hj : ¬ j < 0 ∧ j < n) {i : Nat} (hji : j.toNatClampNeg = i) (hi : i < vs.length)
    {pc : Nat} {Ls : Array Slot} {S : List Value} (hd : decode c.code pc = .ok (.aastore, 1))
    (kk : ∀ T' h', Stand p l e R s m args below meth c T' (locs ++ [⟨a, j.toNatClampNeg⟩]) cells slots → T'.heap = h' → Wr h h' a j.toNatClampNeg (.ref y) → Arv Z h' a k (.object C) n (vs.set i (.ref y)) d → own_WP p e below E T' (mkF m (pc + 1) Ls S)) : own_WP p e below E T (mkF m pc Ls (.ref y :: .int j :: .ref a :: S)) := by
  obtain ⟨cl, A, q, S1, M, H, G⟩ := V
  obtain ⟨T', h', X', e', W', st⟩ := stR X hx hZ eT A (j := j) (inb_of S1 hj) rfl (Sto.ofV A q O I) (g := mkF m pc Ls (.ref y :: .int j :: .ref a :: S)) rfl rfl hd
  exact own_go st (kk T' h' X' e' W' (Arv.set A q S1 M H G rfl W' i hji hi))
theorem own_len (X : Stand p l e R s m args below meth c T locs cells slots) (hx : p.tables.exec = Jvm.exec) (hZ : Z.Warmed39 s.vm) (eT : T.heap = h) {a : Addr} {k : ClassId} {ty : FieldType} {n : Int32} {vs : List Value} {d : Value} (V : Arv Z h a k ty n vs d)
    {pc : Nat} {Ls : Array Slot} {S : List Value} (hd : decode c.code pc = .ok (.arraylength, 1)) (kk : own_WP p e below E T (mkF m (pc + 1) Ls (.int n :: S))) : own_WP p e below E T (mkF m pc Ls (.ref a :: S)) := by
  obtain ⟨cl, A, q, S1, M, H, G⟩ := V
  refine own_go (fun t k => X.arraylength hx (by rw [eT]; exact A.1) (State.isArrayOf_alike hZ.alike A.2.1) (g := mkF m pc Ls (.ref a :: S)) rfl rfl hd t k) ?_
  rw [len_of S1 M]
  exact kk
theorem own_at {cl : Cell} {n j : Int32} {vs : List Value} {d w : Value} (S1 : cl.slots.size = n.toNatClampNeg) (H : Has cl vs d) (hj : ¬ j < 0 ∧ j < n) (hv : vs.getD j.toNatClampNeg d = w) : cl.slots[j.toNatClampNeg]? = some w :=
  H.at (inb_of S1 hj) hv
theorem own_ldI (X : Stand p l e R s m args below meth c T locs cells slots) (hx : p.tables.exec = Jvm.exec) (hZ : Z.Warmed39 s.vm) (eT : T.heap = h) {a : Addr} {k : ClassId} {n j w : Int32} {vs : List Value} {d : Value} (V : Arv Z h a k .int n vs d) (hj : ¬ j < 0 ∧ j < n) (hv : vs.getD j.toNatClampNeg d = .int w)
    {pc : Nat} {Ls : Array Slot} {S : List Value} (hd : decode c.code pc = .ok (.iaload, 1)) (kk : own_WP p e below E T (mkF m (pc + 1) Ls (.int w :: S))) : own_WP p e below E T (mkF m pc Ls (.int j :: .ref a :: S)) := by
  obtain ⟨cl, A, q, S1, M, H, G⟩ := V
  exact own_go (fun t k => X.iaload hx (j := j) (v := .int w) (by rw [eT]; exact A.1) (State.isArrayOf_alike hZ.alike A.2.1) A.2.2 (inb_of S1 hj) (own_at S1 H hj hv) (g := mkF m pc Ls (.int j :: .ref a :: S)) rfl rfl hd t k) kk
theorem own_ldJ (X : Stand p l e R s m args below meth c T locs cells slots) (hx : p.tables.exec = Jvm.exec) (hZ : Z.Warmed39 s.vm) (eT : T.heap = h) {a : Addr} {k : ClassId} {n j : Int32} {w : Int64} {vs : List Value} {d : Value} (V : Arv Z h a k .long n vs d) (hj : ¬ j < 0 ∧ j < n) (hv : vs.getD j.toNatClampNeg d = .long w)
    {pc : Nat} {Ls : Array Slot} {S : List Value} (hd : decode c.code pc = .ok (.laload, 1)) (kk : own_WP p e below E T (mkF m (pc + 1) Ls (.long w :: S))) : own_WP p e below E T (mkF m pc Ls (.int j :: .ref a :: S)) := by
  obtain ⟨cl, A, q, S1, M, H, G⟩ := V
  exact own_go (fun t k => X.laload hx (j := j) (v := .long w) (by rw [eT]; exact A.1) (State.isArrayOf_alike hZ.alike A.2.1) A.2.2 (inb_of S1 hj) (own_at S1 H hj hv) (g := mkF m pc Ls (.int j :: .ref a :: S)) rfl rfl hd t k) kk
theorem own_ldB (X : Stand p l e R s m args below meth c T locs cells slots) (hx : p.tables.exec = Jvm.exec) (hZ : Z.Warmed39 s.vm) (eT : T.heap = h) {a : Addr} {k : ClassId} {n j w : Int32} {vs : List Value} {d : Value} (V : Arv Z h a k .byte n vs d) (hj : ¬ j < 0 ∧ j < n) (hv : vs.getD j.toNatClampNeg d = .int w)
    {pc : Nat} {Ls : Array Slot} {S : List Value} (hd : decode c.code pc = .ok (.baload, 1)) (kk : own_WP p e below E T (mkF m (pc + 1) Ls (.int w :: S))) : own_WP p e below E T (mkF m pc Ls (.int j :: .ref a :: S)) := by
  obtain ⟨cl, A, q, S1, M, H, G⟩ := V
  exact own_go (fun t k => X.baloadBytes hx (j := j) (v := .int w) (by rw [eT]; exact A.1) (State.isArrayOf_alike hZ.alike A.2.1) A.2.2 (inb_of S1 hj) (own_at S1 H hj hv) (g := mkF m pc Ls (.int j :: .ref a :: S)) rfl rfl hd t k) kk
theorem own_ldR (X : Stand p l e R s m args below meth c T locs cells slots) (hx : p.tables.exec = Jvm.exec) (hZ : Z.Warmed39 s.vm) (eT : T.heap = h) {a : Addr} {k : ClassId} {ty : FieldType} (hty : ty.isReference = true) {n j : Int32} {w : Value} {vs : List Value} {d : Value} (V : Arv Z h a k ty n vs d) (hj : ¬ j < 0 ∧ j < n) (hv : vs.getD j.toNatClampNeg d = w)
    {pc : Nat} {Ls : Array Slot} {S : List Value} (hd : decode c.code pc = .ok (.aaload, 1)) (kk : own_WP p e below E T (mkF m (pc + 1) Ls (w :: S))) : own_WP p e below E T (mkF m pc Ls (.int j :: .ref a :: S)) := by
  obtain ⟨cl, A, q, S1, M, H, G⟩ := V
  exact own_go (fun t k => X.aaload hx (j := j) (v := w) (by rw [eT]; exact A.1) (State.isArrayOf_alike hZ.alike A.2.1) hty A.2.2 (inb_of S1 hj) (own_at S1 H hj hv) (g := mkF m pc Ls (.int j :: .ref a :: S)) rfl rfl hd t k) kk
theorem own_stI (X : Stand p l e R s m args below meth c T locs cells slots) (hx : p.tables.exec = Jvm.exec) (hZ : Z.Warmed39 s.vm) (eT : T.heap = h) {a : Addr} {k : ClassId} {n j x : Int32} {vs : List Value} {d : Value} (V : Arv Z h a k .int n vs d) (hj : ¬ j < 0 ∧ j < n) {i : Nat} (hji : j.toNatClampNeg = i) (hi : i < vs.length)
    {pc : Nat} {Ls : Array Slot} {S : List Value} (hd : decode c.code pc = .ok (.iastore, 1))
    (kk : ∀ T' h', Stand p l e R s m args below meth c T' (locs ++ [⟨a, j.toNatClampNeg⟩]) cells slots → T'.heap = h' → Wr h h' a j.toNatClampNeg (.int x) → Arv Z h' a k .int n (vs.set i (.int x)) d → own_WP p e below E T' (mkF m (pc + 1) Ls S)) : own_WP p e below E T (mkF m pc Ls (.int x :: .int j :: .ref a :: S)) := by
  obtain ⟨cl, A, q, S1, M, H, G⟩ := V
  obtain ⟨T', h', X', e', W', st⟩ := stI X hx hZ eT A (j := j) (inb_of S1 hj) (g := mkF m pc Ls (.int x :: .int j :: .ref a :: S)) rfl rfl hd
  exact own_go st (kk T' h' X' e' W' (Arv.set A q S1 M H G rfl W' i hji hi))
theorem own_stJ (X : Stand p l e R s m args below meth c T locs cells slots) (hx : p.tables.exec = Jvm.exec) (hZ : Z.Warmed39 s.vm) (eT : T.heap = h) {a : Addr} {k : ClassId} {n j : Int32} {x : Int64} {vs : List Value} {d : Value} (V : Arv Z h a k .long n vs d) (hj : ¬ j < 0 ∧ j < n) {i : Nat} (hji : j.toNatClampNeg = i) (hi : i < vs.length)
    {pc : Nat} {Ls : Array Slot} {S : List Value} (hd : decode c.code pc = .ok (.lastore, 1))
    (kk : ∀ T' h', Stand p l e R s m args below meth c T' (locs ++ [⟨a, j.toNatClampNeg⟩]) cells slots → T'.heap = h' → Wr h h' a j.toNatClampNeg (.long x) → Arv Z h' a k .long n (vs.set i (.long x)) d → own_WP p e below E T' (mkF m (pc + 1) Ls S)) : own_WP p e below E T (mkF m pc Ls (.long x :: .int j :: .ref a :: S)) := by
  obtain ⟨cl, A, q, S1, M, H, G⟩ := V
  obtain ⟨T', h', X', e', W', st⟩ := stJ X hx hZ eT A (j := j) (inb_of S1 hj) (g := mkF m pc Ls (.long x :: .int j :: .ref a :: S)) rfl rfl hd
  exact own_go st (kk T' h' X' e' W' (Arv.set A q S1 M H G rfl W' i hji hi))
theorem own_stB (X : Stand p l e R s m args below meth c T locs cells slots) (hx : p.tables.exec = Jvm.exec) (hZ : Z.Warmed39 s.vm) (eT : T.heap = h) {a : Addr} {k : ClassId} {n j x : Int32} {vs : List Value} {d : Value} (V : Arv Z h a k .byte n vs d) (hj : ¬ j < 0 ∧ j < n) {i : Nat} (hji : j.toNatClampNeg = i) (hi : i < vs.length)
    {pc : Nat} {Ls : Array Slot} {S : List Value} (hd : decode c.code pc = .ok (.bastore, 1))
    (kk : ∀ T' h', Stand p l e R s m args below meth c T' (locs ++ [⟨a, j.toNatClampNeg⟩]) cells slots → T'.heap = h' → Wr h h' a j.toNatClampNeg (.int (nar .byte x)) → Arv Z h' a k .byte n (vs.set i (.int (nar .byte x))) d → own_WP p e below E T' (mkF m (pc + 1) Ls S)) : own_WP p e below E T (mkF m pc Ls (.int x :: .int j :: .ref a :: S)) := by
  obtain ⟨cl, A, q, S1, M, H, G⟩ := V
  obtain ⟨T', h', X', e', W', st⟩ := stB X hx hZ eT A (j := j) (inb_of S1 hj) (g := mkF m pc Ls (.int x :: .int j :: .ref a :: S)) rfl rfl hd
  exact own_go st (kk T' h' X' e' W' (Arv.set A q S1 M H G (fits_nar_byte x) W' i hji hi))
theorem own_nm {x a : Addr} (h : x ≠ a) : x ∉ [a] := fun q => h (List.mem_singleton.mp q)
theorem own_nm0 {x : Addr} : x ∉ ([] : List Addr) := List.not_mem_nil
theorem own_nm2 {x a b : Addr} (h : x ≠ a) (h' : x ≠ b) : x ∉ [a, b] := fun q => by
  rcases List.mem_cons.mp q with r | r
  · exact h r
  · exact h' (List.mem_singleton.mp r)
theorem own_nm4 {x a b c d : Addr} (q1 : x ≠ a) (q2 : x ≠ b) (q3 : x ≠ c) (q4 : x ≠ d) : x ∉ [a, b, c, d] := fun q => by
  simp only [List.mem_cons, List.not_mem_nil, or_false] at q
  rcases q with r | r | r | r
  · exact q1 r
  · exact q2 r
  · exact q3 r
  · exact q4 r
theorem own_le {h0 h : Heap} {n0 : Nat} {ws : List Addr} (Z0 : n0 ≤ h0.size) (K : Keep h0 h ws) : n0 ≤ h.size := Nat.le_trans Z0 K.1
end OwnKit

def own_hn (i n : Int32) : Int32 := if i < n then 1 else 0
theorem own_not0 {t : Term} {a : Array Value} {s : State} {z : Int32} (h : t.eval a s none [] s = some (.int z)) (q : (Cond.not (Cond.eq t (Term.int (0 : Int32)))).value a s none s [] = some true) : ¬ z = 0 := by
  intro e
  subst e
  simp [Cond.value, Term.eval, h] at q
theorem own_c255 (x : Int32) : ¬ (255 : Int32) < (x &&& (255 : Int32)).toUInt32.toUInt16.toUInt32.toInt32 := by
  rw [i2c_mask]
  have e : (x &&& 255).toInt = x.toInt % 2 ^ 8 := Jvm.Kit.i32_mask x 255 (k := 8) (by decide) (by decide)
  rw [Int32.lt_iff_toInt_lt, e]
  show ¬ (255 : Int) < _
  omega
theorem own_n1 {x n : Int32} (h : x &&& 3 = n) : n + 1 ≠ 0 := by
  have e : (x &&& 3).toInt = x.toInt % 2 ^ 2 := Jvm.Kit.i32_mask x 3 (k := 2) (by decide) (by decide)
  rw [h] at e
  intro q
  have e1 : (1 : Int32).toInt = 1 := rfl
  have q1 : (n + 1).toInt = n.toInt + (1 : Int32).toInt := Jvm.Kit.i32_add (by omega) (by omega)
  rw [q, e1] at q1
  have e0 : (0 : Int32).toInt = 0 := rfl
  omega
theorem own_n4 {x n : Int32} (h : x &&& 3 = n) : n = 0 ∨ n = 1 ∨ n = 2 ∨ n = 3 := by
  have e : (x &&& 3).toInt = x.toInt % 2 ^ 2 := Jvm.Kit.i32_mask x 3 (k := 2) (by decide) (by decide)
  rw [h] at e
  have q : ∀ (a b : Int32), a.toInt = b.toInt → a = b := fun a b h => Int32.toInt_inj.mp h
  rcases (by omega : n.toInt = 0 ∨ n.toInt = 1 ∨ n.toInt = 2 ∨ n.toInt = 3) with z | z | z | z
  · exact Or.inl (q _ 0 z)
  · exact Or.inr (Or.inl (q _ 1 z))
  · exact Or.inr (Or.inr (Or.inl (q _ 2 z)))
  · exact Or.inr (Or.inr (Or.inr (q _ 3 z)))
theorem own_nk {x y n k : Int32} (h : x &&& 3 = n) (h' : (y &&& 2147483647) % (n + 1) = k) : (n = 0 ∧ k = 0) ∨ (n = 1 ∧ k = 0) ∨ (n = 1 ∧ k = 1) ∨ (n = 2 ∧ k = 0) ∨ (n = 2 ∧ k = 1) ∨ (n = 2 ∧ k = 2) ∨ (n = 3 ∧ k = 0) ∨ (n = 3 ∧ k = 1) ∨ (n = 3 ∧ k = 2) ∨ (n = 3 ∧ k = 3) := by
  have e : (x &&& 3).toInt = x.toInt % 2 ^ 2 := Jvm.Kit.i32_mask x 3 (k := 2) (by decide) (by decide)
  rw [h] at e
  have e1 : (1 : Int32).toInt = 1 := rfl
  have q1 : (n + 1).toInt = n.toInt + (1 : Int32).toInt := Jvm.Kit.i32_add (by omega) (by omega)
  have e2 : (y &&& 2147483647).toInt = y.toInt % 2 ^ 31 := Jvm.Kit.i32_mask y 2147483647 (k := 31) (by decide) (by decide)
  have e3 : ((y &&& 2147483647) % (n + 1)).toInt = (y &&& 2147483647).toInt % (n + 1).toInt := Jvm.Kit.i32_rem_nonneg (by omega)
  rw [h'] at e3
  have b0 : 0 ≤ k.toInt := by rw [e3]; exact Int.emod_nonneg _ (by omega)
  have b1 : k.toInt < (n + 1).toInt := by rw [e3]; exact Int.emod_lt_of_pos _ (by omega)
  have q : ∀ (a b : Int32), a.toInt = b.toInt → a = b := fun a b h => Int32.toInt_inj.mp h
  rcases (by omega : (n.toInt = 0 ∧ k.toInt = 0) ∨ (n.toInt = 1 ∧ k.toInt = 0) ∨ (n.toInt = 1 ∧ k.toInt = 1) ∨ (n.toInt = 2 ∧ k.toInt = 0) ∨ (n.toInt = 2 ∧ k.toInt = 1) ∨ (n.toInt = 2 ∧ k.toInt = 2) ∨ (n.toInt = 3 ∧ k.toInt = 0) ∨ (n.toInt = 3 ∧ k.toInt = 1) ∨ (n.toInt = 3 ∧ k.toInt = 2) ∨ (n.toInt = 3 ∧ k.toInt = 3)) with z | z | z | z | z | z | z | z | z | z
  · exact Or.inl ⟨q _ _ z.1, q _ _ z.2⟩
  · exact Or.inr (Or.inl ⟨q _ _ z.1, q _ _ z.2⟩)
  · exact Or.inr (Or.inr (Or.inl ⟨q _ _ z.1, q _ _ z.2⟩))
  · exact Or.inr (Or.inr (Or.inr (Or.inl ⟨q _ _ z.1, q _ _ z.2⟩)))
  · exact Or.inr (Or.inr (Or.inr (Or.inr (Or.inl ⟨q _ _ z.1, q _ _ z.2⟩))))
  · exact Or.inr (Or.inr (Or.inr (Or.inr (Or.inr (Or.inl ⟨q _ _ z.1, q _ _ z.2⟩)))))
  · exact Or.inr (Or.inr (Or.inr (Or.inr (Or.inr (Or.inr (Or.inl ⟨q _ _ z.1, q _ _ z.2⟩))))))
  · exact Or.inr (Or.inr (Or.inr (Or.inr (Or.inr (Or.inr (Or.inr (Or.inl ⟨q _ _ z.1, q _ _ z.2⟩)))))))
  · exact Or.inr (Or.inr (Or.inr (Or.inr (Or.inr (Or.inr (Or.inr (Or.inr (Or.inl ⟨q _ _ z.1, q _ _ z.2⟩))))))))
  · exact Or.inr (Or.inr (Or.inr (Or.inr (Or.inr (Or.inr (Or.inr (Or.inr (Or.inr (⟨q _ _ z.1, q _ _ z.2⟩)))))))))
theorem own_sa {Z : State} {a0 : Array Value} (hw : ∀ d ∈ tables_1, d.before a0 Z = true) : ∀ a ∈ Bundle.stringAtoms, a.before a0 Z = true := by
  intro d hd
  simp only [Bundle.stringAtoms, List.mem_cons, List.not_mem_nil, or_false] at hd
  rcases hd with rfl | rfl | rfl | rfl | rfl | rfl | rfl
  · exact (hw _ (List.mem_of_getElem? (i := 3) rfl))
  · exact (hw _ (List.mem_of_getElem? (i := 11) rfl))
  · exact (hw _ (List.mem_of_getElem? (i := 15) rfl))
  · exact (hw _ (List.mem_of_getElem? (i := 24) rfl))
  · exact (hw _ (List.mem_of_getElem? (i := 26) rfl))
  · exact (hw _ (List.mem_of_getElem? (i := 33) rfl))
  · exact (hw _ (List.mem_of_getElem? (i := 34) rfl))
theorem d2_0 : decode jdk_43_method_3_code 0 = .ok (.iload_n 0, 1) := by decide +kernel
theorem d2_1 : decode jdk_43_method_3_code 1 = .ok (.sipush 255, 3) := by decide +kernel
theorem d2_4 : decode jdk_43_method_3_code 4 = .ok (.if_icmp .gt 7, 3) := by decide +kernel
theorem d2_7 : decode jdk_43_method_3_code 7 = .ok (.iconst 1, 1) := by decide +kernel
theorem d2_8 : decode jdk_43_method_3_code 8 = .ok (.goto 4, 3) := by decide +kernel
theorem d2_12 : decode jdk_43_method_3_code 12 = .ok (.ireturn, 1) := by decide +kernel
theorem own_pn97034 : plainName "java/lang/StringLatin1" = true := by first | (simp [plainName, overriddenIn]; done) | decide +kernel
theorem ef_2 (m : MethodId) (zc : Int32) : entryFrame m #[(.int zc)] 1 = mkF m 0 #[.val (.int zc)] [] := by first | (simp [entryFrame, mkF, argsToLocals, Value.category]; done) | rfl
def Q2 (Z : State) (zc : Int32) (h0 : Heap) (n0 : Nat) (v : Option Value) (h : Heap) (L : List Loc) : Prop := v = some (.int (1 : Int32)) ∧ Fr n0 L ∧ h = h0
set_option maxRecDepth 65536 in
set_option maxHeartbeats 40000000 in
theorem rm2 (l : Launch) (Z : State) (a0 : Array Value) (hw : ∀ d ∈ tables_1, d.before a0 Z = true) (ws : List Jvm.Cond) (zc : Int32) (h0 : Heap) (n0 : Nat) (Z0 : n0 ≤ h0.size) (hzc : ¬ (255 : Int32) < zc) :
    MetFree l (⟨"java/lang/StringLatin1", "canEncode", "(C)Z"⟩ : MethodName) (head1 (Jvm.Cond.code (⟨"java/lang/StringLatin1", "canEncode", "(C)Z"⟩ : MethodName) jdk_43_method_3_code 1 (some .boolean) :: ws) ({ frames := 0, cells := 0, slots := 0, locals := 0 } : Room)) (fun a U => a = #[(.int zc)] ∧ Z.Warmed39 U.vm ∧ U.heap = h0) (fun _ _ _ _ _ => True) (fun _ U o U' => ∃ v L, o = .returned v ∧ Q2 Z zc h0 n0 v U'.heap L ∧ FrameEnd U o U' L ({ frames := 0, cells := 0, slots := 0, locals := 0 } : Room).cells ({ frames := 0, cells := 0, slots := 0, locals := 0 } : Room).slots) := by
  refine MetFree.of_bodySF (plainFor_of_name own_pn97034) hisR ?_
  intro p e s m args below meth c s₁ Bd hml0 hP hK
  obtain ⟨rfl, hZ, hh⟩ := hP
  have hx := Bd.exec
  have hby := Bd.bytes
  have hml : c.maxLocals = 1 := hml0
  have hown : s.vm.findClass "java/lang/StringLatin1" = some m.cls := findClass_of_methodNamed Bd.named
  have hnm := (name_of_methodNamed Bd.named Bd.method).1
  have X0 : Stand p l e ({ frames := 0, cells := 0, slots := 0, locals := 0 } : Room) s m #[(.int zc)] below meth c s₁ [] 0 0 := Stand.of_body Bd
  have e0 : s₁.heap = h0 := by rw [← hh, Bd.state]; rfl
  have N0 := Fr.nil n0
  have K0 := Keep.refl h0 ([] : List Addr)
  show own_WP p e below (own_E s (Q2 Z zc h0 n0) 0 0) s₁ (entryFrame m #[(.int zc)] 1)
  rw [ef_2 m zc]
  show own_WP _ _ _ _ s₁ (mkF m 0 #[.val (.int zc)] [])
  refine own_go (fun t k => XS.iloadN X0.here hx rfl (hb hby d2_0) rfl  k) ?_
  show own_WP _ _ _ _ s₁ (mkF m 1 #[.val (.int zc)] [(.int zc)])
  refine own_go (fun t k => XS.sipush X0.here hx rfl (hb hby d2_1) k) ?_
  show own_WP _ _ _ _ s₁ (mkF m 4 #[.val (.int zc)] [(.int (255 : Int32)), (.int zc)])
  have hc4 : ¬ ((255 : Int32) < zc) := by
    exact hzc
  refine own_go (fun t k => XS.icmpNo X0.here hx rfl (hb hby d2_4) rfl (flt hc4).2.2.1 k) ?_
  show own_WP _ _ _ _ s₁ (mkF m 7 #[.val (.int zc)] [])
  refine own_go (fun t k => XS.iconst X0.here hx rfl (hb hby d2_7) k) ?_
  show own_WP _ _ _ _ s₁ (mkF m 8 #[.val (.int zc)] [(.int (1 : Int32))])
  refine own_go (fun t k => XS.goto X0.here hx rfl (pc0 := 8) (pc' := 12) rfl (hb hby d2_8) (by decide) (by decide) k) ?_
  show own_WP _ _ _ _ s₁ (mkF m 12 #[.val (.int zc)] [(.int (1 : Int32))])
  refine own_retN X0 hx Bd.notSynchronized (t := .boolean) (by simp) Bd.returns (hb hby d2_12) (by decide) (by decide) ?_
  rw [e0]
  exact ⟨(congrArg (fun z => some (Value.int z)) (show (nar .boolean (1 : Int32)) = (1 : Int32) from by first | (simp [nar, hc4]; done) | (simp only [if_true, if_false, eq_self, ↓reduceIte, hc4]; first | done | rfl | decide))), N0, rfl⟩
theorem d3_0 : decode jdk_43_method_46_code 0 = .ok (.iconst 1, 1) := by decide +kernel
theorem d3_1 : decode jdk_43_method_46_code 1 = .ok (.newarray .byte, 2) := by decide +kernel
theorem d3_3 : decode jdk_43_method_46_code 3 = .ok (.dup, 1) := by decide +kernel
theorem d3_4 : decode jdk_43_method_46_code 4 = .ok (.iconst 0, 1) := by decide +kernel
theorem d3_5 : decode jdk_43_method_46_code 5 = .ok (.iload_n 0, 1) := by decide +kernel
theorem d3_6 : decode jdk_43_method_46_code 6 = .ok (.i2b, 1) := by decide +kernel
theorem d3_7 : decode jdk_43_method_46_code 7 = .ok (.bastore, 1) := by decide +kernel
theorem d3_8 : decode jdk_43_method_46_code 8 = .ok (.areturn, 1) := by decide +kernel
theorem ef_3 (m : MethodId) (zc : Int32) : entryFrame m #[(.int zc)] 1 = mkF m 0 #[.val (.int zc)] [] := by first | (simp [entryFrame, mkF, argsToLocals, Value.category]; done) | rfl
def Q3 (Z : State) (zc : Int32) (h0 : Heap) (n0 : Nat) (v : Option Value) (h : Heap) (L : List Loc) : Prop := ∃ (rb : Addr), v = some (.ref rb) ∧ Fr n0 L ∧ Keep h0 h [] ∧ n0 ≤ rb ∧ h0.size ≤ rb
set_option maxRecDepth 65536 in
set_option maxHeartbeats 40000000 in
theorem rm3 (l : Launch) (Z : State) (a0 : Array Value) (hw : ∀ d ∈ tables_1, d.before a0 Z = true) (ws : List Jvm.Cond) (zc : Int32) (h0 : Heap) (n0 : Nat) (Z0 : n0 ≤ h0.size)  :
    MetFree l (⟨"java/lang/StringLatin1", "toBytes", "(C)[B"⟩ : MethodName) (head1 (Jvm.Cond.code (⟨"java/lang/StringLatin1", "toBytes", "(C)[B"⟩ : MethodName) jdk_43_method_46_code 1 (some (.array .byte)) :: ws) ({ frames := 0, cells := 1, slots := 1, locals := 0 } : Room)) (fun a U => a = #[(.int zc)] ∧ Z.Warmed39 U.vm ∧ U.heap = h0) (fun _ _ _ _ _ => True) (fun _ U o U' => ∃ v L, o = .returned v ∧ Q3 Z zc h0 n0 v U'.heap L ∧ FrameEnd U o U' L ({ frames := 0, cells := 1, slots := 1, locals := 0 } : Room).cells ({ frames := 0, cells := 1, slots := 1, locals := 0 } : Room).slots) := by
  refine MetFree.of_bodySF (plainFor_of_name own_pn97034) hisR ?_
  intro p e s m args below meth c s₁ Bd hml0 hP hK
  obtain ⟨rfl, hZ, hh⟩ := hP
  have hx := Bd.exec
  have hby := Bd.bytes
  have hml : c.maxLocals = 1 := hml0
  have hown : s.vm.findClass "java/lang/StringLatin1" = some m.cls := findClass_of_methodNamed Bd.named
  have hnm := (name_of_methodNamed Bd.named Bd.method).1
  have X0 : Stand p l e ({ frames := 0, cells := 1, slots := 1, locals := 0 } : Room) s m #[(.int zc)] below meth c s₁ [] 0 0 := Stand.of_body Bd
  have e0 : s₁.heap = h0 := by rw [← hh, Bd.state]; rfl
  have N0 := Fr.nil n0
  have K0 := Keep.refl h0 ([] : List Addr)
  show own_WP p e below (own_E s (Q3 Z zc h0 n0) 1 1) s₁ (entryFrame m #[(.int zc)] 1)
  rw [ef_3 m zc]
  show own_WP _ _ _ _ s₁ (mkF m 0 #[.val (.int zc)] [])
  refine own_go (fun t k => XS.iconst X0.here hx rfl (hb hby d3_0) k) ?_
  show own_WP _ _ _ _ s₁ (mkF m 1 #[.val (.int zc)] [(.int (1 : Int32))])
  obtain ⟨T1, h1, k1, X1, e1, E1, A1, G1, st1⟩ := newPE X0 hx hZ (hw _ (List.mem_of_getElem? (i := 15) rfl)) e0 (g := (mkF m 1 #[.val (.int zc)] [(.int (1 : Int32))])) rfl (hb hby d3_1) rfl (by decide) (cap := 1) (by decide) (by decide) (by decide) (by decide) (ad := "[B") rfl
  obtain ⟨zb, q1⟩ : ∃ z, z = h0.size := ⟨_, rfl⟩
  rw [← q1] at A1 G1 st1
  refine own_go st1 ?_
  have g_zb : n0 ≤ zb := Nat.le_trans (own_le Z0 K0) (Nat.le_of_eq q1.symm)
  have sz_zb : h0.size ≤ zb := Nat.le_trans K0.1 (Nat.le_of_eq q1.symm)
  have K2 : Keep h0 h1 [] := K0.ext E1
  have f3 : Arv Z h1 zb k1 .byte (1 : Int32) [(.int (0 : Int32))] (.int (0 : Int32)) := (Arv.new A1 (by decide)).pad (pad_rep [] (.int (0 : Int32)) 1)
  show own_WP _ _ _ _ T1 (mkF m 3 #[.val (.int zc)] [(.ref zb)])
  refine own_go (fun t k => XS.dup X1.here hx rfl (hb hby d3_3) rfl rfl k) ?_
  show own_WP _ _ _ _ T1 (mkF m 4 #[.val (.int zc)] [(.ref zb), (.ref zb)])
  refine own_go (fun t k => XS.iconst X1.here hx rfl (hb hby d3_4) k) ?_
  show own_WP _ _ _ _ T1 (mkF m 5 #[.val (.int zc)] [(.int (0 : Int32)), (.ref zb), (.ref zb)])
  refine own_go (fun t k => XS.iloadN X1.here hx rfl (hb hby d3_5) rfl  k) ?_
  show own_WP _ _ _ _ T1 (mkF m 6 #[.val (.int zc)] [(.int zc), (.int (0 : Int32)), (.ref zb), (.ref zb)])
  refine own_go (fun t k => XS.i2b X1.here hx rfl (hb hby d3_6) rfl k) ?_
  show own_WP _ _ _ _ T1 (mkF m 7 #[.val (.int zc)] [(.int (zc.toInt8.toInt32)), (.int (0 : Int32)), (.ref zb), (.ref zb)])
  refine own_stB X1 hx hZ e1 f3 (j := (0 : Int32)) ⟨by decide, by decide⟩ (i := 0) rfl (Nat.le_of_ble_eq_true rfl) (hb hby d3_7) ?_
  intro T4 h4 X4 e4 W4 V4
  have f5 : Arv Z h4 zb k1 .byte (1 : Int32) [(.int (nar .byte (zc.toInt8.toInt32)))] (.int (0 : Int32)) := V4
  have K7 : Keep h0 h4 [] := K2.wr W4 (Or.inr sz_zb)
  have N8 := Fr.snoc X4 N0 g_zb
  show own_WP _ _ _ _ T4 (mkF m 8 #[.val (.int zc)] [(.ref zb)])
  refine own_retA X4 hx Bd.notSynchronized rfl rfl Bd.returns (hb hby d3_8) (by decide) (by decide) ?_
  rw [e4]
  exact ⟨zb, rfl, N8, K7, g_zb, sz_zb⟩
theorem d4_0 : decode jdk_42_method_151_code 0 = .ok (.aload_n 0, 1) := by decide +kernel
theorem d4_1 : decode jdk_42_method_151_code 1 = .ok (.invokespecial 1, 3) := by decide +kernel
theorem d4_4 : decode jdk_42_method_151_code 4 = .ok (.aload_n 0, 1) := by decide +kernel
theorem d4_5 : decode jdk_42_method_151_code 5 = .ok (.aload_n 1, 1) := by decide +kernel
theorem d4_6 : decode jdk_42_method_151_code 6 = .ok (.putfield 9, 3) := by decide +kernel
theorem d4_9 : decode jdk_42_method_151_code 9 = .ok (.aload_n 0, 1) := by decide +kernel
theorem d4_10 : decode jdk_42_method_151_code 10 = .ok (.iload_n 2, 1) := by decide +kernel
theorem d4_11 : decode jdk_42_method_151_code 11 = .ok (.putfield 15, 3) := by decide +kernel
theorem d4_14 : decode jdk_42_method_151_code 14 = .ok (.return_, 1) := by decide +kernel
theorem own_pn55509 : plainName "java/lang/String" = true := by first | (simp [plainName, overriddenIn]; done) | decide +kernel
theorem ef_4 (m : MethodId) (zo : Addr) (zv : Addr) (zc : Int32) : entryFrame m #[(.ref zo), (.ref zv), (.int zc)] 3 = mkF m 0 #[.val (.ref zo), .val (.ref zv), .val (.int zc)] [] := by first | (simp [entryFrame, mkF, argsToLocals, Value.category]; done) | rfl
def Q4 (Z : State) (zo : Addr) (zv : Addr) (zc : Int32) (u0 : Value) (u1 : Value) (h0 : Heap) (n0 : Nat) (v : Option Value) (h : Heap) (L : List Loc) : Prop := v = none ∧ Fr n0 L ∧ Keep h0 h [zo] ∧ Exa Z h zo "java/lang/String"
set_option maxRecDepth 65536 in
set_option maxHeartbeats 40000000 in
theorem rm4 (l : Launch) (Z : State) (a0 : Array Value) (hw : ∀ d ∈ tables_1, d.before a0 Z = true) (ws : List Jvm.Cond) (zo : Addr) (zv : Addr) (zc : Int32) (u0 : Value) (u1 : Value) (h0 : Heap) (n0 : Nat) (Z0 : n0 ≤ h0.size) (P0 : Exa Z h0 zo "java/lang/String") (P1 : Fld Z h0 zo "java/lang/String" "value" "[B" u0) (P2 : Fld Z h0 zo "java/lang/String" "coder" "B" u1) (g_zo : n0 ≤ zo) :
    MetFree l (⟨"java/lang/String", "<init>", "([BB)V"⟩ : MethodName) (head1 (Jvm.Cond.code (⟨"java/lang/String", "<init>", "([BB)V"⟩ : MethodName) jdk_42_method_151_code 3 none :: ws) ({ frames := 1, cells := 0, slots := 0, locals := 12 } : Room)) (fun a U => a = #[(.ref zo), (.ref zv), (.int zc)] ∧ Z.Warmed39 U.vm ∧ U.heap = h0) (fun _ _ _ _ _ => True) (fun _ U o U' => ∃ v L, o = .returned v ∧ Q4 Z zo zv zc u0 u1 h0 n0 v U'.heap L ∧ FrameEnd U o U' L ({ frames := 1, cells := 0, slots := 0, locals := 12 } : Room).cells ({ frames := 1, cells := 0, slots := 0, locals := 12 } : Room).slots) := by
  refine MetFree.of_bodySF (plainFor_of_name own_pn55509) hisR ?_
  intro p e s m args below meth c s₁ Bd hml0 hP hK
  obtain ⟨rfl, hZ, hh⟩ := hP
  have hx := Bd.exec
  have hby := Bd.bytes
  have hml : c.maxLocals = 3 := hml0
  have hown : s.vm.findClass "java/lang/String" = some m.cls := findClass_of_methodNamed Bd.named
  have hnm := (name_of_methodNamed Bd.named Bd.method).1
  have X0 : Stand p l e ({ frames := 1, cells := 0, slots := 0, locals := 12 } : Room) s m #[(.ref zo), (.ref zv), (.int zc)] below meth c s₁ [] 0 0 := Stand.of_body Bd
  have e0 : s₁.heap = h0 := by rw [← hh, Bd.state]; rfl
  have N0 := Fr.nil n0
  have K0 := Keep.refl h0 [zo]
  show own_WP p e below (own_E s (Q4 Z zo zv zc u0 u1 h0 n0) 0 0) s₁ (entryFrame m #[(.ref zo), (.ref zv), (.int zc)] 3)
  rw [ef_4 m zo zv zc]
  show own_WP _ _ _ _ s₁ (mkF m 0 #[.val (.ref zo), .val (.ref zv), .val (.int zc)] [])
  refine own_go (fun t k => XS.aloadN X0.here hx rfl (hb hby d4_0) rfl rfl  k) ?_
  show own_WP _ _ _ _ s₁ (mkF m 1 #[.val (.ref zo), .val (.ref zv), .val (.int zc)] [(.ref zo)])
  obtain ⟨T1, X1, e1, st1⟩ := initO X0 hx hZ hown (hw _ (List.mem_of_getElem? (i := 20) rfl)) (hw _ (List.mem_of_getElem? (i := 21) rfl)) (hw _ (List.mem_of_getElem? (i := 22) rfl)) e0 (g := (mkF m 1 #[.val (.ref zo), .val (.ref zv), .val (.int zc)] [(.ref zo)])) rfl (by rw [hml]; rfl) rfl (hb hby d4_1) (by decide) (W := 0) (by show 2 * 0 + _ ≤ _; exact Nat.le_of_eq rfl) (by decide)
  refine own_go st1 ?_
  show own_WP _ _ _ _ T1 (mkF m 4 #[.val (.ref zo), .val (.ref zv), .val (.int zc)] [])
  refine own_go (fun t k => XS.aloadN X1.here hx rfl (hb hby d4_4) rfl rfl  k) ?_
  show own_WP _ _ _ _ T1 (mkF m 5 #[.val (.ref zo), .val (.ref zv), .val (.int zc)] [(.ref zo)])
  refine own_go (fun t k => XS.aloadN X1.here hx rfl (hb hby d4_5) rfl rfl  k) ?_
  show own_WP _ _ _ _ T1 (mkF m 6 #[.val (.ref zo), .val (.ref zv), .val (.int zc)] [(.ref zv), (.ref zo)])
  obtain ⟨T2, h2, X2, e2, W2, st2⟩ := putF X1 hx hZ hown (host := "") (Or.inl (hw _ (List.mem_of_getElem? (i := 23) rfl))) Via.refl e1 P1 P0 (Or.inr ⟨(hw _ (List.mem_of_getElem? (i := 24) rfl)), rfl, hnm⟩) (hw _ (List.mem_of_getElem? (i := 11) rfl)) (ty := (.array .byte)) (by decide) rfl rfl (g := (mkF m 6 #[.val (.ref zo), .val (.ref zv), .val (.int zc)] [(.ref zv), (.ref zo)])) rfl rfl (hb hby d4_6)
  refine own_go st2 ?_
  have f3 : Fld Z h2 zo "java/lang/String" "value" "[B" (.ref zv) := P1.same W2
  have f4 : Exa Z h2 zo "java/lang/String" := P0.wr W2
  have f6 : Fld Z h2 zo "java/lang/String" "coder" "B" u1 := P2.other W2 (Or.inr (slot_ne (Or.inr (hw _ (List.mem_of_getElem? (i := 26) rfl))) (Or.inr (hw _ (List.mem_of_getElem? (i := 24) rfl))) (by decide) (t := .byte) (t' := (.array .byte)) (by decide) (by decide)))
  have K7 : Keep h0 h2 [zo] := K0.wr W2 (Or.inl (List.mem_of_getElem? (i := 0) rfl))
  have N8 := Fr.snoc X2 N0 g_zo
  show own_WP _ _ _ _ T2 (mkF m 9 #[.val (.ref zo), .val (.ref zv), .val (.int zc)] [])
  refine own_go (fun t k => XS.aloadN X2.here hx rfl (hb hby d4_9) rfl rfl  k) ?_
  show own_WP _ _ _ _ T2 (mkF m 10 #[.val (.ref zo), .val (.ref zv), .val (.int zc)] [(.ref zo)])
  refine own_go (fun t k => XS.iloadN X2.here hx rfl (hb hby d4_10) rfl  k) ?_
  show own_WP _ _ _ _ T2 (mkF m 11 #[.val (.ref zo), .val (.ref zv), .val (.int zc)] [(.int zc), (.ref zo)])
  obtain ⟨T9, h9, X9, e9, W9, st9⟩ := putFN X2 hx hZ hown (hw _ (List.mem_of_getElem? (i := 25) rfl)) Via.refl e2 f6 f4 (Or.inr ⟨(hw _ (List.mem_of_getElem? (i := 26) rfl)), rfl, hnm⟩) (hw _ (List.mem_of_getElem? (i := 11) rfl)) (ty := .byte) (v' := (.int (nar .byte zc))) (by decide) rfl (fits_nar_byte _) (g := (mkF m 11 #[.val (.ref zo), .val (.ref zv), .val (.int zc)] [(.int zc), (.ref zo)])) rfl rfl (hb hby d4_11)
  refine own_go st9 ?_
  have f10 : Fld Z h9 zo "java/lang/String" "coder" "B" (.int (nar .byte zc)) := f6.same W9
  have f11 : Exa Z h9 zo "java/lang/String" := f4.wr W9
  have f13 : Fld Z h9 zo "java/lang/String" "value" "[B" (.ref zv) := f3.other W9 (Or.inr (slot_ne (Or.inr (hw _ (List.mem_of_getElem? (i := 24) rfl))) (Or.inr (hw _ (List.mem_of_getElem? (i := 26) rfl))) (by decide) (t := (.array .byte)) (t' := .byte) (by decide) (by decide)))
  have K14 : Keep h0 h9 [zo] := K7.wr W9 (Or.inl (List.mem_of_getElem? (i := 0) rfl))
  have N15 := Fr.snoc X9 N8 g_zo
  show own_WP _ _ _ _ T9 (mkF m 14 #[.val (.ref zo), .val (.ref zv), .val (.int zc)] [])
  refine own_retV X9 hx Bd.notSynchronized Bd.returns (hb hby d4_14) (by decide) (by decide) ?_
  rw [e9]
  exact ⟨rfl, N15, K14, f11⟩
theorem own_pd78888 : parseMethodDescriptor "(C)Z" = some ⟨[.char], some .boolean⟩ := by decide +kernel
theorem own_pd99933 : parseMethodDescriptor "(C)[B" = some ⟨[.char], some (.array .byte)⟩ := by decide +kernel
theorem own_pd27900 : parseMethodDescriptor "([BB)V" = some ⟨[(.array .byte), .byte], none⟩ := by decide +kernel
theorem d1_0 : decode jdk_42_method_139_code 0 = .ok (.getstatic 38, 3) := by decide +kernel
theorem d1_3 : decode jdk_42_method_139_code 3 = .ok (.ifCond .eq 23, 3) := by decide +kernel
theorem d1_6 : decode jdk_42_method_139_code 6 = .ok (.iload_n 0, 1) := by decide +kernel
theorem d1_7 : decode jdk_42_method_139_code 7 = .ok (.invokestatic 1015, 3) := by decide +kernel
theorem d1_10 : decode jdk_42_method_139_code 10 = .ok (.ifCond .eq 16, 3) := by decide +kernel
theorem d1_13 : decode jdk_42_method_139_code 13 = .ok (.new 10, 3) := by decide +kernel
theorem d1_16 : decode jdk_42_method_139_code 16 = .ok (.dup, 1) := by decide +kernel
theorem d1_17 : decode jdk_42_method_139_code 17 = .ok (.iload_n 0, 1) := by decide +kernel
theorem d1_18 : decode jdk_42_method_139_code 18 = .ok (.invokestatic 1018, 3) := by decide +kernel
theorem d1_21 : decode jdk_42_method_139_code 21 = .ok (.iconst 0, 1) := by decide +kernel
theorem d1_22 : decode jdk_42_method_139_code 22 = .ok (.invokespecial 209, 3) := by decide +kernel
theorem d1_25 : decode jdk_42_method_139_code 25 = .ok (.areturn, 1) := by decide +kernel
theorem ef_1 (m : MethodId) (zc : Int32) : entryFrame m #[(.int zc)] 1 = mkF m 0 #[.val (.int zc)] [] := by first | (simp [entryFrame, mkF, argsToLocals, Value.category]; done) | rfl
def Q1 (Z : State) (zc : Int32) (zC : Int32) (h0 : Heap) (n0 : Nat) (v : Option Value) (h : Heap) (L : List Loc) : Prop := ∃ (rb : Addr), v = some (.ref rb) ∧ Fr n0 L ∧ Keep h0 h [] ∧ n0 ≤ rb ∧ h0.size ≤ rb ∧ Exa Z h rb "java/lang/String"
set_option maxRecDepth 65536 in
set_option maxHeartbeats 40000000 in
theorem rm1 (l : Launch) (Z : State) (a0 : Array Value) (hw : ∀ d ∈ tables_1, d.before a0 Z = true) (ws : List Jvm.Cond) (zc : Int32) (zC : Int32) (h0 : Heap) (n0 : Nat) (Z0 : n0 ≤ h0.size) (P0 : Old Z n0 h0) (P1 : Sta Z Z.heap "java/lang/String" "COMPACT_STRINGS" "Z" (.int zC)) (hzC : ¬ zC = 0) (hzc : ¬ (255 : Int32) < zc) :
    MetFree l (⟨"java/lang/String", "valueOf", "(C)Ljava/lang/String;"⟩ : MethodName) (head1 (Jvm.Cond.code (⟨"java/lang/String", "valueOf", "(C)Ljava/lang/String;"⟩ : MethodName) jdk_42_method_139_code 1 (some (.object "java/lang/String")) :: ws) ({ frames := 2, cells := 2, slots := 5, locals := 27 } : Room)) (fun a U => a = #[(.int zc)] ∧ Z.Warmed39 U.vm ∧ U.heap = h0) (fun _ _ _ _ _ => True) (fun _ U o U' => ∃ v L, o = .returned v ∧ Q1 Z zc zC h0 n0 v U'.heap L ∧ FrameEnd U o U' L ({ frames := 2, cells := 2, slots := 5, locals := 27 } : Room).cells ({ frames := 2, cells := 2, slots := 5, locals := 27 } : Room).slots) := by
  refine MetFree.of_bodySF (plainFor_of_name own_pn55509) hisR ?_
  intro p e s m args below meth c s₁ Bd hml0 hP hK
  obtain ⟨rfl, hZ, hh⟩ := hP
  have hx := Bd.exec
  have hby := Bd.bytes
  have hml : c.maxLocals = 1 := hml0
  have hown : s.vm.findClass "java/lang/String" = some m.cls := findClass_of_methodNamed Bd.named
  have hnm := (name_of_methodNamed Bd.named Bd.method).1
  have X0 : Stand p l e ({ frames := 2, cells := 2, slots := 5, locals := 27 } : Room) s m #[(.int zc)] below meth c s₁ [] 0 0 := Stand.of_body Bd
  have e0 : s₁.heap = h0 := by rw [← hh, Bd.state]; rfl
  have N0 := Fr.nil n0
  have K0 := Keep.refl h0 ([] : List Addr)
  show own_WP p e below (own_E s (Q1 Z zc zC h0 n0) 2 5) s₁ (entryFrame m #[(.int zc)] 1)
  rw [ef_1 m zc]
  show own_WP _ _ _ _ s₁ (mkF m 0 #[.val (.int zc)] [])
  obtain ⟨T1, X1, e1, st1⟩ := getS2 X0 hx hZ hown (host := "") (Or.inl (hw _ (List.mem_of_getElem? (i := 5) rfl))) Via.refl e0 (P1.ext P0.2) (g := (mkF m 0 #[.val (.int zc)] [])) rfl (hb hby d1_0)
  refine own_go st1 ?_
  show own_WP _ _ _ _ T1 (mkF m 3 #[.val (.int zc)] [(.int zC)])
  have hc3 : ¬ (zC = (0 : Int32)) := by
    exact hzC
  refine own_go (fun t k => XS.ifNo X1.here hx rfl (hb hby d1_3) rfl ((if0 _ _).trans (feq hc3).1) k) ?_
  show own_WP _ _ _ _ T1 (mkF m 6 #[.val (.int zc)] [])
  refine own_go (fun t k => XS.iloadN X1.here hx rfl (hb hby d1_6) rfl  k) ?_
  show own_WP _ _ _ _ T1 (mkF m 7 #[.val (.int zc)] [(.int zc)])
  obtain ⟨_, _, ⟨T2, L2, k2, n2⟩, -, X2, ⟨Lc2, hQ2, l2, y2, z2⟩, st2⟩ := Jvm.LawKit.callS X1 hx (y := (⟨"java/lang/StringLatin1", "canEncode", "(C)Z"⟩ : MethodName)) hown (mvT hZ (hw _ (List.mem_of_getElem? (i := 6) rfl))) (mvT hZ (hw _ (List.mem_of_getElem? (i := 7) rfl))) (mvT hZ (hw _ (List.mem_of_getElem? (i := 8) rfl))) (mvT hZ (hw _ (List.mem_of_getElem? (i := 9) rfl))) (by decide) (backOf (W := 0) (rm2 l Z a0 hw [] zc  h0 n0 (own_le Z0 K0) (show ¬ (255 : Int32) < zc from by assumption)) hZ (hw _ (List.mem_of_getElem? (i := 9) rfl)) (hw _ (List.mem_of_getElem? (i := 8) rfl)) (by decide) (by decide)) (g := (mkF m 7 #[.val (.int zc)] [(.int zc)])) rfl (by rw [hml]; rfl) (argsL := [(.int zc)]) (rest := []) (lenOf own_pd78888 rfl) rfl (by show 2 * 0 + _ ≤ _; exact Nat.le_of_eq rfl) (hb hby d1_7) (fun _ _ => ⟨rfl, e1, (by decide : 0 + 0 ≤ _), (by decide : 0 + 0 ≤ _)⟩)
  dsimp only [Pt.U, Pt.locs, Pt.cells, Pt.slots] at X2 l2 y2 z2 st2 hQ2
  subst l2 y2 z2
  obtain ⟨rfl, N2q, eq2⟩ := hQ2
  have N2 := Fr.app N0 N2q
  refine own_go st2 ?_
  show own_WP _ _ _ _ T2 (mkF m 10 #[.val (.int zc)] [(.int (1 : Int32))])
  have hc10 : ¬ ((1 : Int32) = (0 : Int32)) := by decide
  refine own_go (fun t k => XS.ifNo X2.here hx rfl (hb hby d1_10) rfl ((if0 _ _).trans (feq hc10).1) k) ?_
  show own_WP _ _ _ _ T2 (mkF m 13 #[.val (.int zc)] [])
  obtain ⟨T3, h3, X3, e3, E3, A3, D3, -, st3⟩ := newO X2 hx hZ hown (hw _ (List.mem_of_getElem? (i := 10) rfl)) (hw _ (List.mem_of_getElem? (i := 11) rfl)) (hw _ (List.mem_of_getElem? (i := 3) rfl)) eq2 (g := (mkF m 13 #[.val (.int zc)] [])) rfl (hb hby d1_13) (by decide) (by decide)
  obtain ⟨zs, q3⟩ : ∃ z, z = h0.size := ⟨_, rfl⟩
  rw [← q3] at A3 D3 st3
  refine own_go st3 ?_
  have g_zs : n0 ≤ zs := Nat.le_trans (own_le Z0 K0) (Nat.le_of_eq q3.symm)
  have sz_zs : h0.size ≤ zs := Nat.le_trans K0.1 (Nat.le_of_eq q3.symm)
  have f4 : Old Z n0 h3 := P0.ext E3
  have K5 : Keep h0 h3 [] := K0.ext E3
  have f6 : Fld Z h3 zs "java/lang/String" "value" "[B" .null := D3 (Or.inr (hw _ (List.mem_of_getElem? (i := 24) rfl))) (ty := (.array .byte)) (by decide)
  have f7 : Fld Z h3 zs "java/lang/String" "coder" "B" (.int (0 : Int32)) := D3 (Or.inr (hw _ (List.mem_of_getElem? (i := 26) rfl))) (ty := .byte) (by decide)
  show own_WP _ _ _ _ T3 (mkF m 16 #[.val (.int zc)] [(.ref zs)])
  refine own_go (fun t k => XS.dup X3.here hx rfl (hb hby d1_16) rfl rfl k) ?_
  show own_WP _ _ _ _ T3 (mkF m 17 #[.val (.int zc)] [(.ref zs), (.ref zs)])
  refine own_go (fun t k => XS.iloadN X3.here hx rfl (hb hby d1_17) rfl  k) ?_
  show own_WP _ _ _ _ T3 (mkF m 18 #[.val (.int zc)] [(.int zc), (.ref zs), (.ref zs)])
  obtain ⟨_, _, ⟨T8, L8, k8, n8⟩, -, X8, ⟨Lc8, hQ8, l8, y8, z8⟩, st8⟩ := Jvm.LawKit.callS X3 hx (y := (⟨"java/lang/StringLatin1", "toBytes", "(C)[B"⟩ : MethodName)) hown (mvT hZ (hw _ (List.mem_of_getElem? (i := 12) rfl))) (mvT hZ (hw _ (List.mem_of_getElem? (i := 13) rfl))) (mvT hZ (hw _ (List.mem_of_getElem? (i := 8) rfl))) (mvT hZ (hw _ (List.mem_of_getElem? (i := 14) rfl))) (by decide) (backOf (W := 2) (rm3 l Z a0 hw [] zc  h3 n0 (own_le Z0 K5) ) hZ (hw _ (List.mem_of_getElem? (i := 14) rfl)) (hw _ (List.mem_of_getElem? (i := 8) rfl)) (by decide) (by decide)) (g := (mkF m 18 #[.val (.int zc)] [(.int zc), (.ref zs), (.ref zs)])) rfl (by rw [hml]; rfl) (argsL := [(.int zc)]) (rest := [(.ref zs), (.ref zs)]) (lenOf own_pd99933 rfl) rfl (by show 2 * 0 + _ ≤ _; exact Nat.le_of_eq rfl) (hb hby d1_18) (fun _ _ => ⟨rfl, e3, (by decide : 1 + 1 ≤ _), (by decide : 4 + 1 ≤ _)⟩)
  dsimp only [Pt.U, Pt.locs, Pt.cells, Pt.slots] at X8 l8 y8 z8 st8 hQ8
  subst l8 y8 z8
  obtain ⟨rb9, rfl, N8q, Kc8, g_rb9, szc_rb9⟩ := hQ8
  have N8 := Fr.app N2 N8q
  refine own_go st8 ?_
  have sz_rb9 : h0.size ≤ rb9 := Nat.le_trans K5.1 szc_rb9
  have ne_zs_rb9 : zs ≠ rb9 := Nat.ne_of_lt (Nat.lt_of_lt_of_le A3.lt szc_rb9)
  have f10 : Old Z n0 T8.heap := f4.keep Kc8 (fun x hx => by cases hx)
  have f11 : Exa Z T8.heap zs "java/lang/String" := A3.keep Kc8
  have f12 : Fld Z T8.heap zs "java/lang/String" "value" "[B" .null := f6.keep Kc8 own_nm0
  have f13 : Fld Z T8.heap zs "java/lang/String" "coder" "B" (.int (0 : Int32)) := f7.keep Kc8 own_nm0
  have K14 : Keep h0 T8.heap [] := K5.trans Kc8 (fun x hx => by cases hx)
  show own_WP _ _ _ _ T8 (mkF m 21 #[.val (.int zc)] [(.ref rb9), (.ref zs), (.ref zs)])
  refine own_go (fun t k => XS.iconst X8.here hx rfl (hb hby d1_21) k) ?_
  show own_WP _ _ _ _ T8 (mkF m 22 #[.val (.int zc)] [(.int (0 : Int32)), (.ref rb9), (.ref zs), (.ref zs)])
  obtain ⟨_, _, ⟨T15, L15, k15, n15⟩, -, X15, ⟨Lc15, hQ15, l15, y15, z15⟩, st15⟩ := X8.specialBack hx (y := (⟨"java/lang/String", "<init>", "([BB)V"⟩ : MethodName)) rfl hown (mvT hZ (hw _ (List.mem_of_getElem? (i := 16) rfl))) (mvT hZ (hw _ (List.mem_of_getElem? (i := 17) rfl))) (mvT hZ (hw _ (List.mem_of_getElem? (i := 19) rfl))) (by decide) (backOf (W := 1) (rm4 l Z a0 hw [] zs rb9 (0 : Int32) .null (.int (0 : Int32)) T8.heap n0 (own_le Z0 K14) f11 f12 f13 g_zs) hZ (hw _ (List.mem_of_getElem? (i := 19) rfl)) (hw _ (List.mem_of_getElem? (i := 3) rfl)) (by decide) (by decide)) (g := (mkF m 22 #[.val (.int zc)] [(.int (0 : Int32)), (.ref rb9), (.ref zs), (.ref zs)])) rfl (by rw [hml]; rfl) (Steps.refl _) (a := zs) (argsL := [(.ref rb9), (.int (0 : Int32))]) (rest := [(.ref zs)]) (lenOf own_pd27900 rfl) rfl (by show 2 * 0 + _ ≤ _; exact Nat.le_of_eq rfl) (hb hby d1_22) (fun _ _ => ⟨rfl, rfl, (by decide : 2 + 0 ≤ _), (by decide : 5 + 0 ≤ _)⟩)
  dsimp only [Pt.U, Pt.locs, Pt.cells, Pt.slots] at X15 l15 y15 z15 st15 hQ15
  subst l15 y15 z15
  obtain ⟨rfl, N15q, Kc15, f16⟩ := hQ15
  have N15 := Fr.app N8 N15q
  refine own_tr st15 ?_
  have f17 : Old Z n0 T15.heap := f10.keep Kc15 (fun x hx => by cases List.mem_singleton.mp hx; exact g_zs)
  have f18 : Exa Z T15.heap zs "java/lang/String" := f11.keep Kc15
  have K21 : Keep h0 T15.heap [] := K14.trans Kc15 (fun x hx => by cases List.mem_singleton.mp hx; exact Or.inr sz_zs)
  show own_WP _ _ _ _ T15 (mkF m 25 #[.val (.int zc)] [(.ref zs)])
  refine own_retA X15 hx Bd.notSynchronized rfl rfl Bd.returns (hb hby d1_25) (by decide) (by decide) ?_
  exact ⟨zs, rfl, N15, K21, g_zs, sz_zs, f16⟩
theorem d6_0 : decode prog_6_method_1_code 0 = .ok (.aload_n 0, 1) := by decide +kernel
theorem d6_1 : decode prog_6_method_1_code 1 = .ok (.invokespecial 1, 3) := by decide +kernel
theorem d6_4 : decode prog_6_method_1_code 4 = .ok (.aload_n 0, 1) := by decide +kernel
theorem d6_5 : decode prog_6_method_1_code 5 = .ok (.aload_n 1, 1) := by decide +kernel
theorem d6_6 : decode prog_6_method_1_code 6 = .ok (.putfield 7, 3) := by decide +kernel
theorem d6_9 : decode prog_6_method_1_code 9 = .ok (.aload_n 0, 1) := by decide +kernel
theorem d6_10 : decode prog_6_method_1_code 10 = .ok (.aload_n 2, 1) := by decide +kernel
theorem d6_11 : decode prog_6_method_1_code 11 = .ok (.putfield 13, 3) := by decide +kernel
theorem d6_14 : decode prog_6_method_1_code 14 = .ok (.return_, 1) := by decide +kernel
theorem own_pn79090 : plainName "branchwork/Arguments" = true := by first | (simp [plainName, overriddenIn]; done) | decide +kernel
theorem ef_6 (m : MethodId) (zo : Addr) (zc : Addr) (za : Addr) : entryFrame m #[(.ref zo), (.ref zc), (.ref za)] 3 = mkF m 0 #[.val (.ref zo), .val (.ref zc), .val (.ref za)] [] := by first | (simp [entryFrame, mkF, argsToLocals, Value.category]; done) | rfl
def Q6 (Z : State) (zo : Addr) (zc : Addr) (za : Addr) (u0 : Value) (u1 : Value) (u2 : Value) (h0 : Heap) (n0 : Nat) (v : Option Value) (h : Heap) (L : List Loc) : Prop := v = none ∧ Fr n0 L ∧ Keep h0 h [zo] ∧ Exa Z h zo "branchwork/Arguments" ∧ Fld Z h zo "branchwork/Arguments" "args" "[Ljava/lang/String;" (.ref za) ∧ Fld Z h zo "branchwork/Arguments" "next" "I" u2
set_option maxRecDepth 65536 in
set_option maxHeartbeats 40000000 in
theorem rm6 (l : Launch) (Z : State) (a0 : Array Value) (hw : ∀ d ∈ tables_1, d.before a0 Z = true) (ws : List Jvm.Cond) (zo : Addr) (zc : Addr) (za : Addr) (u0 : Value) (u1 : Value) (u2 : Value) (h0 : Heap) (n0 : Nat) (Z0 : n0 ≤ h0.size) (P0 : Exa Z h0 zo "branchwork/Arguments") (P1 : Fld Z h0 zo "branchwork/Arguments" "command" "Ljava/lang/String;" u0) (P2 : Fld Z h0 zo "branchwork/Arguments" "args" "[Ljava/lang/String;" u1) (P3 : Fld Z h0 zo "branchwork/Arguments" "next" "I" u2) (g_zo : n0 ≤ zo) :
    MetFree l (⟨"branchwork/Arguments", "<init>", "(Ljava/lang/String;[Ljava/lang/String;)V"⟩ : MethodName) (head1 (Jvm.Cond.code (⟨"branchwork/Arguments", "<init>", "(Ljava/lang/String;[Ljava/lang/String;)V"⟩ : MethodName) prog_6_method_1_code 3 none :: ws) ({ frames := 1, cells := 0, slots := 0, locals := 12 } : Room)) (fun a U => a = #[(.ref zo), (.ref zc), (.ref za)] ∧ Z.Warmed39 U.vm ∧ U.heap = h0) (fun _ _ _ _ _ => True) (fun _ U o U' => ∃ v L, o = .returned v ∧ Q6 Z zo zc za u0 u1 u2 h0 n0 v U'.heap L ∧ FrameEnd U o U' L ({ frames := 1, cells := 0, slots := 0, locals := 12 } : Room).cells ({ frames := 1, cells := 0, slots := 0, locals := 12 } : Room).slots) := by
  refine MetFree.of_bodySF (plainFor_of_name own_pn79090) hisR ?_
  intro p e s m args below meth c s₁ Bd hml0 hP hK
  obtain ⟨rfl, hZ, hh⟩ := hP
  have hx := Bd.exec
  have hby := Bd.bytes
  have hml : c.maxLocals = 3 := hml0
  have hown : s.vm.findClass "branchwork/Arguments" = some m.cls := findClass_of_methodNamed Bd.named
  have hnm := (name_of_methodNamed Bd.named Bd.method).1
  have X0 : Stand p l e ({ frames := 1, cells := 0, slots := 0, locals := 12 } : Room) s m #[(.ref zo), (.ref zc), (.ref za)] below meth c s₁ [] 0 0 := Stand.of_body Bd
  have e0 : s₁.heap = h0 := by rw [← hh, Bd.state]; rfl
  have N0 := Fr.nil n0
  have K0 := Keep.refl h0 [zo]
  show own_WP p e below (own_E s (Q6 Z zo zc za u0 u1 u2 h0 n0) 0 0) s₁ (entryFrame m #[(.ref zo), (.ref zc), (.ref za)] 3)
  rw [ef_6 m zo zc za]
  show own_WP _ _ _ _ s₁ (mkF m 0 #[.val (.ref zo), .val (.ref zc), .val (.ref za)] [])
  refine own_go (fun t k => XS.aloadN X0.here hx rfl (hb hby d6_0) rfl rfl  k) ?_
  show own_WP _ _ _ _ s₁ (mkF m 1 #[.val (.ref zo), .val (.ref zc), .val (.ref za)] [(.ref zo)])
  obtain ⟨T1, X1, e1, st1⟩ := initO X0 hx hZ hown (hw _ (List.mem_of_getElem? (i := 38) rfl)) (hw _ (List.mem_of_getElem? (i := 21) rfl)) (hw _ (List.mem_of_getElem? (i := 22) rfl)) e0 (g := (mkF m 1 #[.val (.ref zo), .val (.ref zc), .val (.ref za)] [(.ref zo)])) rfl (by rw [hml]; rfl) rfl (hb hby d6_1) (by decide) (W := 0) (by show 2 * 0 + _ ≤ _; exact Nat.le_of_eq rfl) (by decide)
  refine own_go st1 ?_
  show own_WP _ _ _ _ T1 (mkF m 4 #[.val (.ref zo), .val (.ref zc), .val (.ref za)] [])
  refine own_go (fun t k => XS.aloadN X1.here hx rfl (hb hby d6_4) rfl rfl  k) ?_
  show own_WP _ _ _ _ T1 (mkF m 5 #[.val (.ref zo), .val (.ref zc), .val (.ref za)] [(.ref zo)])
  refine own_go (fun t k => XS.aloadN X1.here hx rfl (hb hby d6_5) rfl rfl  k) ?_
  show own_WP _ _ _ _ T1 (mkF m 6 #[.val (.ref zo), .val (.ref zc), .val (.ref za)] [(.ref zc), (.ref zo)])
  obtain ⟨T2, h2, X2, e2, W2, st2⟩ := putF X1 hx hZ hown (host := "") (Or.inl (hw _ (List.mem_of_getElem? (i := 39) rfl))) Via.refl e1 P1 P0 (Or.inr ⟨(hw _ (List.mem_of_getElem? (i := 40) rfl)), rfl, hnm⟩) (hw _ (List.mem_of_getElem? (i := 30) rfl)) (ty := (.object "java/lang/String")) (by decide) rfl rfl (g := (mkF m 6 #[.val (.ref zo), .val (.ref zc), .val (.ref za)] [(.ref zc), (.ref zo)])) rfl rfl (hb hby d6_6)
  refine own_go st2 ?_
  have f3 : Fld Z h2 zo "branchwork/Arguments" "command" "Ljava/lang/String;" (.ref zc) := P1.same W2
  have f4 : Exa Z h2 zo "branchwork/Arguments" := P0.wr W2
  have f6 : Fld Z h2 zo "branchwork/Arguments" "args" "[Ljava/lang/String;" u1 := P2.other W2 (Or.inr (slot_ne (Or.inr (hw _ (List.mem_of_getElem? (i := 42) rfl))) (Or.inr (hw _ (List.mem_of_getElem? (i := 40) rfl))) (by decide) (t := (.array (.object "java/lang/String"))) (t' := (.object "java/lang/String")) (by decide) (by decide)))
  have f7 : Fld Z h2 zo "branchwork/Arguments" "next" "I" u2 := P3.other W2 (Or.inr (slot_ne (Or.inl (hw _ (List.mem_of_getElem? (i := 49) rfl))) (Or.inr (hw _ (List.mem_of_getElem? (i := 40) rfl))) (by decide) (t := .int) (t' := (.object "java/lang/String")) (by decide) (by decide)))
  have K8 : Keep h0 h2 [zo] := K0.wr W2 (Or.inl (List.mem_of_getElem? (i := 0) rfl))
  have N9 := Fr.snoc X2 N0 g_zo
  show own_WP _ _ _ _ T2 (mkF m 9 #[.val (.ref zo), .val (.ref zc), .val (.ref za)] [])
  refine own_go (fun t k => XS.aloadN X2.here hx rfl (hb hby d6_9) rfl rfl  k) ?_
  show own_WP _ _ _ _ T2 (mkF m 10 #[.val (.ref zo), .val (.ref zc), .val (.ref za)] [(.ref zo)])
  refine own_go (fun t k => XS.aloadN X2.here hx rfl (hb hby d6_10) rfl rfl  k) ?_
  show own_WP _ _ _ _ T2 (mkF m 11 #[.val (.ref zo), .val (.ref zc), .val (.ref za)] [(.ref za), (.ref zo)])
  obtain ⟨T10, h10, X10, e10, W10, st10⟩ := putF X2 hx hZ hown (host := "") (Or.inl (hw _ (List.mem_of_getElem? (i := 41) rfl))) Via.refl e2 f6 f4 (Or.inr ⟨(hw _ (List.mem_of_getElem? (i := 42) rfl)), rfl, hnm⟩) (hw _ (List.mem_of_getElem? (i := 30) rfl)) (ty := (.array (.object "java/lang/String"))) (by decide) rfl rfl (g := (mkF m 11 #[.val (.ref zo), .val (.ref zc), .val (.ref za)] [(.ref za), (.ref zo)])) rfl rfl (hb hby d6_11)
  refine own_go st10 ?_
  have f11 : Fld Z h10 zo "branchwork/Arguments" "args" "[Ljava/lang/String;" (.ref za) := f6.same W10
  have f12 : Exa Z h10 zo "branchwork/Arguments" := f4.wr W10
  have f14 : Fld Z h10 zo "branchwork/Arguments" "next" "I" u2 := f7.other W10 (Or.inr (slot_ne (Or.inl (hw _ (List.mem_of_getElem? (i := 49) rfl))) (Or.inr (hw _ (List.mem_of_getElem? (i := 42) rfl))) (by decide) (t := .int) (t' := (.array (.object "java/lang/String"))) (by decide) (by decide)))
  have f15 : Fld Z h10 zo "branchwork/Arguments" "command" "Ljava/lang/String;" (.ref zc) := f3.other W10 (Or.inr (slot_ne (Or.inr (hw _ (List.mem_of_getElem? (i := 40) rfl))) (Or.inr (hw _ (List.mem_of_getElem? (i := 42) rfl))) (by decide) (t := (.object "java/lang/String")) (t' := (.array (.object "java/lang/String"))) (by decide) (by decide)))
  have K16 : Keep h0 h10 [zo] := K8.wr W10 (Or.inl (List.mem_of_getElem? (i := 0) rfl))
  have N17 := Fr.snoc X10 N9 g_zo
  show own_WP _ _ _ _ T10 (mkF m 14 #[.val (.ref zo), .val (.ref zc), .val (.ref za)] [])
  refine own_retV X10 hx Bd.notSynchronized Bd.returns (hb hby d6_14) (by decide) (by decide) ?_
  rw [e10]
  exact ⟨rfl, N17, K16, f12, f11, f14⟩
theorem d7_0 : decode prog_6_method_2_code 0 = .ok (.aload_n 0, 1) := by decide +kernel
theorem d7_1 : decode prog_6_method_2_code 1 = .ok (.getfield 17, 3) := by decide +kernel
theorem d7_4 : decode prog_6_method_2_code 4 = .ok (.aload_n 0, 1) := by decide +kernel
theorem d7_5 : decode prog_6_method_2_code 5 = .ok (.getfield 13, 3) := by decide +kernel
theorem d7_8 : decode prog_6_method_2_code 8 = .ok (.arraylength, 1) := by decide +kernel
theorem d7_9 : decode prog_6_method_2_code 9 = .ok (.if_icmp .ge 7, 3) := by decide +kernel
theorem d7_12 : decode prog_6_method_2_code 12 = .ok (.iconst 1, 1) := by decide +kernel
theorem d7_13 : decode prog_6_method_2_code 13 = .ok (.goto 4, 3) := by decide +kernel
theorem d7_16 : decode prog_6_method_2_code 16 = .ok (.iconst 0, 1) := by decide +kernel
theorem d7_17 : decode prog_6_method_2_code 17 = .ok (.ireturn, 1) := by decide +kernel
theorem ef_7 (m : MethodId) (zo : Addr) : entryFrame m #[(.ref zo)] 1 = mkF m 0 #[.val (.ref zo)] [] := by first | (simp [entryFrame, mkF, argsToLocals, Value.category]; done) | rfl
def Q7 (Z : State) (zo : Addr) (za : Addr) (zk : ClassId) (zn : Int32) (zv : List Value) (zi : Int32) (h0 : Heap) (n0 : Nat) (v : Option Value) (h : Heap) (L : List Loc) : Prop := v = some (.int (own_hn zi zn)) ∧ Fr n0 L ∧ h = h0
set_option maxRecDepth 65536 in
set_option maxHeartbeats 40000000 in
theorem rm7 (l : Launch) (Z : State) (a0 : Array Value) (hw : ∀ d ∈ tables_1, d.before a0 Z = true) (ws : List Jvm.Cond) (zo : Addr) (za : Addr) (zk : ClassId) (zn : Int32) (zv : List Value) (zi : Int32) (h0 : Heap) (n0 : Nat) (Z0 : n0 ≤ h0.size) (P0 : Fld Z h0 zo "branchwork/Arguments" "args" "[Ljava/lang/String;" (.ref za)) (P1 : Fld Z h0 zo "branchwork/Arguments" "next" "I" (.int zi)) (P2 : Arv Z h0 za zk (.object "java/lang/String") zn zv .null) :
    MetFree l (⟨"branchwork/Arguments", "hasNext", "()Z"⟩ : MethodName) (head1 (Jvm.Cond.code (⟨"branchwork/Arguments", "hasNext", "()Z"⟩ : MethodName) prog_6_method_2_code 1 (some .boolean) :: ws) ({ frames := 0, cells := 0, slots := 0, locals := 0 } : Room)) (fun a U => a = #[(.ref zo)] ∧ Z.Warmed39 U.vm ∧ U.heap = h0) (fun _ _ _ _ _ => True) (fun _ U o U' => ∃ v L, o = .returned v ∧ Q7 Z zo za zk zn zv zi h0 n0 v U'.heap L ∧ FrameEnd U o U' L ({ frames := 0, cells := 0, slots := 0, locals := 0 } : Room).cells ({ frames := 0, cells := 0, slots := 0, locals := 0 } : Room).slots) := by
  refine MetFree.of_bodySF (plainFor_of_name own_pn79090) hisR ?_
  intro p e s m args below meth c s₁ Bd hml0 hP hK
  obtain ⟨rfl, hZ, hh⟩ := hP
  have hx := Bd.exec
  have hby := Bd.bytes
  have hml : c.maxLocals = 1 := hml0
  have hown : s.vm.findClass "branchwork/Arguments" = some m.cls := findClass_of_methodNamed Bd.named
  have hnm := (name_of_methodNamed Bd.named Bd.method).1
  have X0 : Stand p l e ({ frames := 0, cells := 0, slots := 0, locals := 0 } : Room) s m #[(.ref zo)] below meth c s₁ [] 0 0 := Stand.of_body Bd
  have e0 : s₁.heap = h0 := by rw [← hh, Bd.state]; rfl
  have N0 := Fr.nil n0
  have K0 := Keep.refl h0 ([] : List Addr)
  show own_WP p e below (own_E s (Q7 Z zo za zk zn zv zi h0 n0) 0 0) s₁ (entryFrame m #[(.ref zo)] 1)
  rw [ef_7 m zo]
  show own_WP _ _ _ _ s₁ (mkF m 0 #[.val (.ref zo)] [])
  refine own_go (fun t k => XS.aloadN X0.here hx rfl (hb hby d7_0) rfl rfl  k) ?_
  show own_WP _ _ _ _ s₁ (mkF m 1 #[.val (.ref zo)] [(.ref zo)])
  obtain ⟨T1, X1, e1, st1⟩ := getF X0 hx hZ hown (host := "") (Or.inl (hw _ (List.mem_of_getElem? (i := 48) rfl))) Via.refl e0 P1 (g := (mkF m 1 #[.val (.ref zo)] [(.ref zo)])) rfl rfl (hb hby d7_1)
  refine own_go st1 ?_
  show own_WP _ _ _ _ T1 (mkF m 4 #[.val (.ref zo)] [(.int zi)])
  refine own_go (fun t k => XS.aloadN X1.here hx rfl (hb hby d7_4) rfl rfl  k) ?_
  show own_WP _ _ _ _ T1 (mkF m 5 #[.val (.ref zo)] [(.ref zo), (.int zi)])
  obtain ⟨T2, X2, e2, st2⟩ := getF X1 hx hZ hown (host := "") (Or.inl (hw _ (List.mem_of_getElem? (i := 41) rfl))) Via.refl e1 P0 (g := (mkF m 5 #[.val (.ref zo)] [(.ref zo), (.int zi)])) rfl rfl (hb hby d7_5)
  refine own_go st2 ?_
  show own_WP _ _ _ _ T2 (mkF m 8 #[.val (.ref zo)] [(.ref za), (.int zi)])
  refine own_len X2 hx hZ e2 P2 (hb hby d7_8) ?_
  show own_WP _ _ _ _ T2 (mkF m 9 #[.val (.ref zo)] [(.int zn), (.int zi)])
  by_cases hc9 : zi < zn
  · refine own_go (fun t k => XS.icmpNo X2.here hx rfl (hb hby d7_9) rfl (tlt hc9).2.1 k) ?_
    show own_WP _ _ _ _ T2 (mkF m 12 #[.val (.ref zo)] [])
    refine own_go (fun t k => XS.iconst X2.here hx rfl (hb hby d7_12) k) ?_
    show own_WP _ _ _ _ T2 (mkF m 13 #[.val (.ref zo)] [(.int (1 : Int32))])
    refine own_go (fun t k => XS.goto X2.here hx rfl (pc0 := 13) (pc' := 17) rfl (hb hby d7_13) (by decide) (by decide) k) ?_
    show own_WP _ _ _ _ T2 (mkF m 17 #[.val (.ref zo)] [(.int (1 : Int32))])
    refine own_retN X2 hx Bd.notSynchronized (t := .boolean) (by simp) Bd.returns (hb hby d7_17) (by decide) (by decide) ?_
    rw [e2]
    exact ⟨(congrArg (fun z => some (Value.int z)) (show (nar .boolean (1 : Int32)) = (own_hn zi zn) from by first | (simp [nar, own_hn, hc9]; done) | (simp only [if_true, if_false, eq_self, ↓reduceIte, own_hn, hc9]; first | done | rfl | decide) | (unfold own_hn; rw [if_pos hc9]; first | done | rfl))), N0, rfl⟩
  · refine own_go (fun t k => XS.icmpYes X2.here hx rfl (pc0 := 9) (pc' := 16) rfl (hb hby d7_9) rfl (flt hc9).2.1 (by decide) (by decide) k) ?_
    show own_WP _ _ _ _ T2 (mkF m 16 #[.val (.ref zo)] [])
    refine own_go (fun t k => XS.iconst X2.here hx rfl (hb hby d7_16) k) ?_
    show own_WP _ _ _ _ T2 (mkF m 17 #[.val (.ref zo)] [(.int (0 : Int32))])
    refine own_retN X2 hx Bd.notSynchronized (t := .boolean) (by simp) Bd.returns (hb hby d7_17) (by decide) (by decide) ?_
    rw [e2]
    exact ⟨(congrArg (fun z => some (Value.int z)) (show (nar .boolean (0 : Int32)) = (own_hn zi zn) from by first | (simp [nar, own_hn, hc9]; done) | (simp only [if_true, if_false, eq_self, ↓reduceIte, own_hn, hc9]; first | done | rfl | decide) | (unfold own_hn; rw [if_neg hc9]; first | done | rfl))), N0, rfl⟩
theorem d8_0 : decode prog_6_method_3_code 0 = .ok (.aload_n 0, 1) := by decide +kernel
theorem d8_1 : decode prog_6_method_3_code 1 = .ok (.getfield 13, 3) := by decide +kernel
theorem d8_4 : decode prog_6_method_3_code 4 = .ok (.aload_n 0, 1) := by decide +kernel
theorem d8_5 : decode prog_6_method_3_code 5 = .ok (.dup, 1) := by decide +kernel
theorem d8_6 : decode prog_6_method_3_code 6 = .ok (.getfield 17, 3) := by decide +kernel
theorem d8_9 : decode prog_6_method_3_code 9 = .ok (.dup_x1, 1) := by decide +kernel
theorem d8_10 : decode prog_6_method_3_code 10 = .ok (.iconst 1, 1) := by decide +kernel
theorem d8_11 : decode prog_6_method_3_code 11 = .ok (.iadd, 1) := by decide +kernel
theorem d8_12 : decode prog_6_method_3_code 12 = .ok (.putfield 17, 3) := by decide +kernel
theorem d8_15 : decode prog_6_method_3_code 15 = .ok (.aaload, 1) := by decide +kernel
theorem d8_16 : decode prog_6_method_3_code 16 = .ok (.areturn, 1) := by decide +kernel
theorem ef_8 (m : MethodId) (zo : Addr) : entryFrame m #[(.ref zo)] 1 = mkF m 0 #[.val (.ref zo)] [] := by first | (simp [entryFrame, mkF, argsToLocals, Value.category]; done) | rfl
def Q8 (Z : State) (zo : Addr) (za : Addr) (zk : ClassId) (zn : Int32) (zv : List Value) (zi : Int32) (ze : Addr) (h0 : Heap) (n0 : Nat) (v : Option Value) (h : Heap) (L : List Loc) : Prop := v = some (.ref ze) ∧ Fr n0 L ∧ Keep h0 h [zo] ∧ Exa Z h zo "branchwork/Arguments" ∧ Fld Z h zo "branchwork/Arguments" "args" "[Ljava/lang/String;" (.ref za) ∧ Fld Z h zo "branchwork/Arguments" "next" "I" (.int (zi + (1 : Int32)))
set_option maxRecDepth 65536 in
set_option maxHeartbeats 40000000 in
theorem rm8 (l : Launch) (Z : State) (a0 : Array Value) (hw : ∀ d ∈ tables_1, d.before a0 Z = true) (ws : List Jvm.Cond) (zo : Addr) (za : Addr) (zk : ClassId) (zn : Int32) (zv : List Value) (zi : Int32) (ze : Addr) (h0 : Heap) (n0 : Nat) (Z0 : n0 ≤ h0.size) (P0 : Exa Z h0 zo "branchwork/Arguments") (P1 : Fld Z h0 zo "branchwork/Arguments" "args" "[Ljava/lang/String;" (.ref za)) (P2 : Fld Z h0 zo "branchwork/Arguments" "next" "I" (.int zi)) (P3 : Arv Z h0 za zk (.object "java/lang/String") zn zv .null) (g_zo : n0 ≤ zo) (hzo : zo ≠ za) (hj : ¬ zi < 0 ∧ zi < zn) (hv : List.getD (α := Value) zv zi.toNatClampNeg Value.null = Value.ref ze) :
    MetFree l (⟨"branchwork/Arguments", "next", "()Ljava/lang/String;"⟩ : MethodName) (head1 (Jvm.Cond.code (⟨"branchwork/Arguments", "next", "()Ljava/lang/String;"⟩ : MethodName) prog_6_method_3_code 1 (some (.object "java/lang/String")) :: ws) ({ frames := 0, cells := 0, slots := 0, locals := 0 } : Room)) (fun a U => a = #[(.ref zo)] ∧ Z.Warmed39 U.vm ∧ U.heap = h0) (fun _ _ _ _ _ => True) (fun _ U o U' => ∃ v L, o = .returned v ∧ Q8 Z zo za zk zn zv zi ze h0 n0 v U'.heap L ∧ FrameEnd U o U' L ({ frames := 0, cells := 0, slots := 0, locals := 0 } : Room).cells ({ frames := 0, cells := 0, slots := 0, locals := 0 } : Room).slots) := by
  refine MetFree.of_bodySF (plainFor_of_name own_pn79090) hisR ?_
  intro p e s m args below meth c s₁ Bd hml0 hP hK
  obtain ⟨rfl, hZ, hh⟩ := hP
  have hx := Bd.exec
  have hby := Bd.bytes
  have hml : c.maxLocals = 1 := hml0
  have hown : s.vm.findClass "branchwork/Arguments" = some m.cls := findClass_of_methodNamed Bd.named
  have hnm := (name_of_methodNamed Bd.named Bd.method).1
  have X0 : Stand p l e ({ frames := 0, cells := 0, slots := 0, locals := 0 } : Room) s m #[(.ref zo)] below meth c s₁ [] 0 0 := Stand.of_body Bd
  have e0 : s₁.heap = h0 := by rw [← hh, Bd.state]; rfl
  have N0 := Fr.nil n0
  have K0 := Keep.refl h0 [zo]
  show own_WP p e below (own_E s (Q8 Z zo za zk zn zv zi ze h0 n0) 0 0) s₁ (entryFrame m #[(.ref zo)] 1)
  rw [ef_8 m zo]
  show own_WP _ _ _ _ s₁ (mkF m 0 #[.val (.ref zo)] [])
  refine own_go (fun t k => XS.aloadN X0.here hx rfl (hb hby d8_0) rfl rfl  k) ?_
  show own_WP _ _ _ _ s₁ (mkF m 1 #[.val (.ref zo)] [(.ref zo)])
  obtain ⟨T1, X1, e1, st1⟩ := getF X0 hx hZ hown (host := "") (Or.inl (hw _ (List.mem_of_getElem? (i := 41) rfl))) Via.refl e0 P1 (g := (mkF m 1 #[.val (.ref zo)] [(.ref zo)])) rfl rfl (hb hby d8_1)
  refine own_go st1 ?_
  show own_WP _ _ _ _ T1 (mkF m 4 #[.val (.ref zo)] [(.ref za)])
  refine own_go (fun t k => XS.aloadN X1.here hx rfl (hb hby d8_4) rfl rfl  k) ?_
  show own_WP _ _ _ _ T1 (mkF m 5 #[.val (.ref zo)] [(.ref zo), (.ref za)])
  refine own_go (fun t k => XS.dup X1.here hx rfl (hb hby d8_5) rfl rfl k) ?_
  show own_WP _ _ _ _ T1 (mkF m 6 #[.val (.ref zo)] [(.ref zo), (.ref zo), (.ref za)])
  obtain ⟨T2, X2, e2, st2⟩ := getF X1 hx hZ hown (host := "") (Or.inl (hw _ (List.mem_of_getElem? (i := 48) rfl))) Via.refl e1 P2 (g := (mkF m 6 #[.val (.ref zo)] [(.ref zo), (.ref zo), (.ref za)])) rfl rfl (hb hby d8_6)
  refine own_go st2 ?_
  show own_WP _ _ _ _ T2 (mkF m 9 #[.val (.ref zo)] [(.int zi), (.ref zo), (.ref za)])
  refine own_go (fun t k => XS.dupX1 X2.here hx rfl (hb hby d8_9) rfl rfl rfl k) ?_
  show own_WP _ _ _ _ T2 (mkF m 10 #[.val (.ref zo)] [(.int zi), (.ref zo), (.int zi), (.ref za)])
  refine own_go (fun t k => XS.iconst X2.here hx rfl (hb hby d8_10) k) ?_
  show own_WP _ _ _ _ T2 (mkF m 11 #[.val (.ref zo)] [(.int (1 : Int32)), (.int zi), (.ref zo), (.int zi), (.ref za)])
  refine own_go (fun t k => XS.iadd X2.here hx rfl (hb hby d8_11) rfl k) ?_
  show own_WP _ _ _ _ T2 (mkF m 12 #[.val (.ref zo)] [(.int (zi + (1 : Int32))), (.ref zo), (.int zi), (.ref za)])
  obtain ⟨T3, h3, X3, e3, W3, st3⟩ := putF X2 hx hZ hown (host := "") (Or.inl (hw _ (List.mem_of_getElem? (i := 48) rfl))) Via.refl e2 P2 P0 (Or.inl (hw _ (List.mem_of_getElem? (i := 49) rfl))) (hw _ (List.mem_of_getElem? (i := 30) rfl)) (ty := .int) (by decide) rfl rfl (g := (mkF m 12 #[.val (.ref zo)] [(.int (zi + (1 : Int32))), (.ref zo), (.int zi), (.ref za)])) rfl rfl (hb hby d8_12)
  refine own_go st3 ?_
  have f4 : Fld Z h3 zo "branchwork/Arguments" "next" "I" (.int (zi + (1 : Int32))) := P2.same W3
  have f5 : Exa Z h3 zo "branchwork/Arguments" := P0.wr W3
  have f6 : Fld Z h3 zo "branchwork/Arguments" "args" "[Ljava/lang/String;" (.ref za) := P1.other W3 (Or.inr (slot_ne (Or.inr (hw _ (List.mem_of_getElem? (i := 42) rfl))) (Or.inl (hw _ (List.mem_of_getElem? (i := 49) rfl))) (by decide) (t := (.array (.object "java/lang/String"))) (t' := .int) (by decide) (by decide)))
  have f8 : Arv Z h3 za zk (.object "java/lang/String") zn zv .null := P3.other W3 (Ne.symm hzo)
  have K9 : Keep h0 h3 [zo] := K0.wr W3 (Or.inl (List.mem_of_getElem? (i := 0) rfl))
  have N10 := Fr.snoc X3 N0 g_zo
  show own_WP _ _ _ _ T3 (mkF m 15 #[.val (.ref zo)] [(.int zi), (.ref za)])
  refine own_ldR X3 hx hZ e3 rfl f8 (j := zi) (w := (.ref ze)) hj hv (hb hby d8_15) ?_
  show own_WP _ _ _ _ T3 (mkF m 16 #[.val (.ref zo)] [(.ref ze)])
  refine own_retA X3 hx Bd.notSynchronized rfl rfl Bd.returns (hb hby d8_16) (by decide) (by decide) ?_
  rw [e3]
  exact ⟨rfl, N10, K9, f5, f6, f4⟩
theorem own_pd33704 : parseMethodDescriptor "(C)Ljava/lang/String;" = some ⟨[.char], some (.object "java/lang/String")⟩ := by decide +kernel
theorem own_pd94204 : parseMethodDescriptor "(Ljava/lang/String;[Ljava/lang/String;)V" = some ⟨[(.object "java/lang/String"), (.array (.object "java/lang/String"))], none⟩ := by decide +kernel
theorem own_pd91901 : parseMethodDescriptor "()Z" = some ⟨[], some .boolean⟩ := by decide +kernel
theorem own_pd53319 : parseMethodDescriptor "()Ljava/lang/String;" = some ⟨[], some (.object "java/lang/String")⟩ := by decide +kernel
theorem own_pn3480 : plainName "branchwork/ArgumentsHasNextPinLaw" = true := by first | (simp [plainName, overriddenIn]; done) | decide +kernel
theorem ef_0 (m : MethodId) (x0 : Int32) (x1 : Int32) (x2 : Int32) (x3 : Int32) (x4 : Int32) : entryFrame m #[(.int x0), (.int x1), (.int x2), (.int x3), (.int x4)] maxLocals = mkF m 0 #[.val (.int x0), .val (.int x1), .val (.int x2), .val (.int x3), .val (.int x4), .unset, .unset, .unset, .unset, .unset, .unset, .unset, .unset, .unset, .unset, .unset] [] := by first | (simp [entryFrame, mkF, argsToLocals, Value.category, maxLocals]; done) | rfl
def Q0 (Z : State) (x0 : Int32) (x1 : Int32) (x2 : Int32) (x3 : Int32) (x4 : Int32) (zC : Int32) (h0 : Heap) (n0 : Nat) (v : Option Value) (h : Heap) (L : List Loc) : Prop := v = some (.int 1) ∧ Fr n0 L
set_option maxRecDepth 65536 in
set_option maxHeartbeats 40000000 in
theorem rm0 (l : Launch) (Z : State) (a0 : Array Value) (hw : ∀ d ∈ tables_1, d.before a0 Z = true) (ws : List Jvm.Cond) (x0 : Int32) (x1 : Int32) (x2 : Int32) (x3 : Int32) (x4 : Int32) (zC : Int32) (h0 : Heap) (n0 : Nat) (Z0 : n0 ≤ h0.size) (P0 : Old Z n0 h0) (P1 : Sta Z Z.heap "java/lang/String" "COMPACT_STRINGS" "Z" (.int zC)) (hzC : ¬ zC = 0) :
    MetFree l x (head1 (Jvm.Cond.code x code maxLocals ret :: ws) room_1) (fun a U => a = #[(.int x0), (.int x1), (.int x2), (.int x3), (.int x4)] ∧ Z.Warmed39 U.vm ∧ U.heap = h0) (fun _ _ _ _ _ => True) (fun _ U o U' => ∃ v L, o = .returned v ∧ Q0 Z x0 x1 x2 x3 x4 zC h0 n0 v U'.heap L ∧ ReturnedEndW U o U' L 10 37) := by
  refine MetFree.of_bodySF (plainFor_of_name own_pn3480) hisR ?_
  intro p e s m args below meth c s₁ Bd hml0 hP hK
  obtain ⟨rfl, hZ, hh⟩ := hP
  have hx := Bd.exec
  have hby := Bd.bytes
  have hml : c.maxLocals = 16 := hml0
  have hown : s.vm.findClass "branchwork/ArgumentsHasNextPinLaw" = some m.cls := findClass_of_methodNamed Bd.named
  have hnm := (name_of_methodNamed Bd.named Bd.method).1
  have X0 : Stand p l e room_1 s m #[(.int x0), (.int x1), (.int x2), (.int x3), (.int x4)] below meth c s₁ [] 0 0 := Stand.of_body Bd
  have e0 : s₁.heap = h0 := by rw [← hh, Bd.state]; rfl
  have N0 := Fr.nil n0
  have K0 := Keep.refl h0 ([] : List Addr)
  show own_WP p e below (own_EW s (Q0 Z x0 x1 x2 x3 x4 zC h0 n0) 10 37) s₁ (entryFrame m #[(.int x0), (.int x1), (.int x2), (.int x3), (.int x4)] maxLocals)
  rw [ef_0 m x0 x1 x2 x3 x4]
  show own_WP _ _ _ _ s₁ (mkF m 0 #[.val (.int x0), .val (.int x1), .val (.int x2), .val (.int x3), .val (.int x4), .unset, .unset, .unset, .unset, .unset, .unset, .unset, .unset, .unset, .unset, .unset] [])
  refine own_go (fun t k => XS.iloadN X0.here hx rfl (hb hby at_0) rfl  k) ?_
  show own_WP _ _ _ _ s₁ (mkF m 1 #[.val (.int x0), .val (.int x1), .val (.int x2), .val (.int x3), .val (.int x4), .unset, .unset, .unset, .unset, .unset, .unset, .unset, .unset, .unset, .unset, .unset] [(.int x0)])
  refine own_go (fun t k => XS.iconst X0.here hx rfl (hb hby at_1) k) ?_
  show own_WP _ _ _ _ s₁ (mkF m 2 #[.val (.int x0), .val (.int x1), .val (.int x2), .val (.int x3), .val (.int x4), .unset, .unset, .unset, .unset, .unset, .unset, .unset, .unset, .unset, .unset, .unset] [(.int (3 : Int32)), (.int x0)])
  refine own_go (fun t k => XS.iand X0.here hx rfl (hb hby at_2) rfl k) ?_
  show own_WP _ _ _ _ s₁ (mkF m 3 #[.val (.int x0), .val (.int x1), .val (.int x2), .val (.int x3), .val (.int x4), .unset, .unset, .unset, .unset, .unset, .unset, .unset, .unset, .unset, .unset, .unset] [(.int (x0 &&& (3 : Int32)))])
  generalize d_zn : (x0 &&& (3 : Int32)) = zn
  refine own_go (fun t k => XS.istore X0.here hx rfl (hb hby at_3) rfl (l' := #[.val (.int x0), .val (.int x1), .val (.int x2), .val (.int x3), .val (.int x4), .val (.int zn), .unset, .unset, .unset, .unset, .unset, .unset, .unset, .unset, .unset, .unset]) rfl k) ?_
  show own_WP _ _ _ _ s₁ (mkF m 5 #[.val (.int x0), .val (.int x1), .val (.int x2), .val (.int x3), .val (.int x4), .val (.int zn), .unset, .unset, .unset, .unset, .unset, .unset, .unset, .unset, .unset, .unset] [])
  refine own_go (fun t k => XS.iloadN X0.here hx rfl (hb hby at_5) rfl  k) ?_
  show own_WP _ _ _ _ s₁ (mkF m 6 #[.val (.int x0), .val (.int x1), .val (.int x2), .val (.int x3), .val (.int x4), .val (.int zn), .unset, .unset, .unset, .unset, .unset, .unset, .unset, .unset, .unset, .unset] [(.int x1)])
  refine own_go (fun t k => X0.ldcInt hx hown (mvT hZ (hw _ (List.mem_of_getElem? (i := 0) rfl))) (g := (mkF m 6 #[.val (.int x0), .val (.int x1), .val (.int x2), .val (.int x3), .val (.int x4), .val (.int zn), .unset, .unset, .unset, .unset, .unset, .unset, .unset, .unset, .unset, .unset] [(.int x1)])) rfl (hb hby at_6) t k) ?_
  show own_WP _ _ _ _ s₁ (mkF m 8 #[.val (.int x0), .val (.int x1), .val (.int x2), .val (.int x3), .val (.int x4), .val (.int zn), .unset, .unset, .unset, .unset, .unset, .unset, .unset, .unset, .unset, .unset] [(.int (2147483647 : Int32)), (.int x1)])
  refine own_go (fun t k => XS.iand X0.here hx rfl (hb hby at_8) rfl k) ?_
  show own_WP _ _ _ _ s₁ (mkF m 9 #[.val (.int x0), .val (.int x1), .val (.int x2), .val (.int x3), .val (.int x4), .val (.int zn), .unset, .unset, .unset, .unset, .unset, .unset, .unset, .unset, .unset, .unset] [(.int (x1 &&& (2147483647 : Int32)))])
  refine own_go (fun t k => XS.iload X0.here hx rfl (hb hby at_9) rfl  k) ?_
  show own_WP _ _ _ _ s₁ (mkF m 11 #[.val (.int x0), .val (.int x1), .val (.int x2), .val (.int x3), .val (.int x4), .val (.int zn), .unset, .unset, .unset, .unset, .unset, .unset, .unset, .unset, .unset, .unset] [(.int zn), (.int (x1 &&& (2147483647 : Int32)))])
  refine own_go (fun t k => XS.iconst X0.here hx rfl (hb hby at_11) k) ?_
  show own_WP _ _ _ _ s₁ (mkF m 12 #[.val (.int x0), .val (.int x1), .val (.int x2), .val (.int x3), .val (.int x4), .val (.int zn), .unset, .unset, .unset, .unset, .unset, .unset, .unset, .unset, .unset, .unset] [(.int (1 : Int32)), (.int zn), (.int (x1 &&& (2147483647 : Int32)))])
  refine own_go (fun t k => XS.iadd X0.here hx rfl (hb hby at_12) rfl k) ?_
  show own_WP _ _ _ _ s₁ (mkF m 13 #[.val (.int x0), .val (.int x1), .val (.int x2), .val (.int x3), .val (.int x4), .val (.int zn), .unset, .unset, .unset, .unset, .unset, .unset, .unset, .unset, .unset, .unset] [(.int (zn + (1 : Int32))), (.int (x1 &&& (2147483647 : Int32)))])
  have hnz13 : (zn + (1 : Int32)) ≠ 0 := own_n1 d_zn
  refine own_go (fun t k => iremM X0 hx rfl (hb hby at_13) rfl hnz13 k) ?_
  show own_WP _ _ _ _ s₁ (mkF m 14 #[.val (.int x0), .val (.int x1), .val (.int x2), .val (.int x3), .val (.int x4), .val (.int zn), .unset, .unset, .unset, .unset, .unset, .unset, .unset, .unset, .unset, .unset] [(.int ((x1 &&& (2147483647 : Int32)) % (zn + (1 : Int32))))])
  generalize d_zk : ((x1 &&& (2147483647 : Int32)) % (zn + (1 : Int32))) = zk
  refine own_go (fun t k => XS.istore X0.here hx rfl (hb hby at_14) rfl (l' := #[.val (.int x0), .val (.int x1), .val (.int x2), .val (.int x3), .val (.int x4), .val (.int zn), .val (.int zk), .unset, .unset, .unset, .unset, .unset, .unset, .unset, .unset, .unset]) rfl k) ?_
  show own_WP _ _ _ _ s₁ (mkF m 16 #[.val (.int x0), .val (.int x1), .val (.int x2), .val (.int x3), .val (.int x4), .val (.int zn), .val (.int zk), .unset, .unset, .unset, .unset, .unset, .unset, .unset, .unset, .unset] [])
  refine own_go (fun t k => XS.iloadN X0.here hx rfl (hb hby at_16) rfl  k) ?_
  show own_WP _ _ _ _ s₁ (mkF m 17 #[.val (.int x0), .val (.int x1), .val (.int x2), .val (.int x3), .val (.int x4), .val (.int zn), .val (.int zk), .unset, .unset, .unset, .unset, .unset, .unset, .unset, .unset, .unset] [(.int x2)])
  refine own_go (fun t k => XS.sipush X0.here hx rfl (hb hby at_17) k) ?_
  show own_WP _ _ _ _ s₁ (mkF m 20 #[.val (.int x0), .val (.int x1), .val (.int x2), .val (.int x3), .val (.int x4), .val (.int zn), .val (.int zk), .unset, .unset, .unset, .unset, .unset, .unset, .unset, .unset, .unset] [(.int (255 : Int32)), (.int x2)])
  refine own_go (fun t k => XS.iand X0.here hx rfl (hb hby at_20) rfl k) ?_
  show own_WP _ _ _ _ s₁ (mkF m 21 #[.val (.int x0), .val (.int x1), .val (.int x2), .val (.int x3), .val (.int x4), .val (.int zn), .val (.int zk), .unset, .unset, .unset, .unset, .unset, .unset, .unset, .unset, .unset] [(.int (x2 &&& (255 : Int32)))])
  refine own_go (fun t k => XS.i2c X0.here hx rfl (hb hby at_21) rfl k) ?_
  show own_WP _ _ _ _ s₁ (mkF m 22 #[.val (.int x0), .val (.int x1), .val (.int x2), .val (.int x3), .val (.int x4), .val (.int zn), .val (.int zk), .unset, .unset, .unset, .unset, .unset, .unset, .unset, .unset, .unset] [(.int ((x2 &&& (255 : Int32)).toUInt32.toUInt16.toUInt32.toInt32))])
  obtain ⟨_, _, ⟨T1, L1, k1, n1⟩, -, X1, ⟨Lc1, hQ1, l1, y1, z1⟩, st1⟩ := Jvm.LawKit.callS X0 hx (y := (⟨"java/lang/String", "valueOf", "(C)Ljava/lang/String;"⟩ : MethodName)) hown (mvT hZ (hw _ (List.mem_of_getElem? (i := 1) rfl))) (mvT hZ (hw _ (List.mem_of_getElem? (i := 2) rfl))) (mvT hZ (hw _ (List.mem_of_getElem? (i := 3) rfl))) (mvT hZ (hw _ (List.mem_of_getElem? (i := 4) rfl))) (by decide) (backOf (W := 0) (rm1 l Z a0 hw [] ((x2 &&& (255 : Int32)).toUInt32.toUInt16.toUInt32.toInt32) zC h0 n0 (own_le Z0 K0) P0 P1 (show ¬ zC = 0 from hzC) (show ¬ (255 : Int32) < ((x2 &&& (255 : Int32)).toUInt32.toUInt16.toUInt32.toInt32) from own_c255 _)) hZ (hw _ (List.mem_of_getElem? (i := 4) rfl)) (hw _ (List.mem_of_getElem? (i := 3) rfl)) (by decide) (by decide)) (g := (mkF m 22 #[.val (.int x0), .val (.int x1), .val (.int x2), .val (.int x3), .val (.int x4), .val (.int zn), .val (.int zk), .unset, .unset, .unset, .unset, .unset, .unset, .unset, .unset, .unset] [(.int ((x2 &&& (255 : Int32)).toUInt32.toUInt16.toUInt32.toInt32))])) rfl (by rw [hml]; rfl) (argsL := [(.int ((x2 &&& (255 : Int32)).toUInt32.toUInt16.toUInt32.toInt32))]) (rest := []) (lenOf own_pd33704 rfl) rfl (by show 2 * 0 + _ ≤ _; exact Nat.le_of_eq rfl) (hb hby at_22) (fun _ _ => ⟨rfl, e0, (by decide : 0 + 2 ≤ _), (by decide : 0 + 5 ≤ _)⟩)
  dsimp only [Pt.U, Pt.locs, Pt.cells, Pt.slots] at X1 l1 y1 z1 st1 hQ1
  subst l1 y1 z1
  obtain ⟨zs0, rfl, N1q, Kc1, g_zs0, szc_zs0, f2⟩ := hQ1
  have N1 := Fr.app N0 N1q
  refine own_go st1 ?_
  have sz_zs0 : h0.size ≤ zs0 := Nat.le_trans K0.1 szc_zs0
  have f3 : Old Z n0 T1.heap := P0.keep Kc1 (fun x hx => by cases hx)
  have K4 : Keep h0 T1.heap [] := K0.trans Kc1 (fun x hx => by cases hx)
  show own_WP _ _ _ _ T1 (mkF m 25 #[.val (.int x0), .val (.int x1), .val (.int x2), .val (.int x3), .val (.int x4), .val (.int zn), .val (.int zk), .unset, .unset, .unset, .unset, .unset, .unset, .unset, .unset, .unset] [(.ref zs0)])
  refine own_go (fun t k => XS.astore X1.here hx rfl (hb hby at_25) rfl rfl (l' := #[.val (.int x0), .val (.int x1), .val (.int x2), .val (.int x3), .val (.int x4), .val (.int zn), .val (.int zk), .val (.ref zs0), .unset, .unset, .unset, .unset, .unset, .unset, .unset, .unset]) rfl k) ?_
  show own_WP _ _ _ _ T1 (mkF m 27 #[.val (.int x0), .val (.int x1), .val (.int x2), .val (.int x3), .val (.int x4), .val (.int zn), .val (.int zk), .val (.ref zs0), .unset, .unset, .unset, .unset, .unset, .unset, .unset, .unset] [])
  refine own_go (fun t k => XS.iloadN X1.here hx rfl (hb hby at_27) rfl  k) ?_
  show own_WP _ _ _ _ T1 (mkF m 28 #[.val (.int x0), .val (.int x1), .val (.int x2), .val (.int x3), .val (.int x4), .val (.int zn), .val (.int zk), .val (.ref zs0), .unset, .unset, .unset, .unset, .unset, .unset, .unset, .unset] [(.int x3)])
  refine own_go (fun t k => XS.sipush X1.here hx rfl (hb hby at_28) k) ?_
  show own_WP _ _ _ _ T1 (mkF m 31 #[.val (.int x0), .val (.int x1), .val (.int x2), .val (.int x3), .val (.int x4), .val (.int zn), .val (.int zk), .val (.ref zs0), .unset, .unset, .unset, .unset, .unset, .unset, .unset, .unset] [(.int (255 : Int32)), (.int x3)])
  refine own_go (fun t k => XS.iand X1.here hx rfl (hb hby at_31) rfl k) ?_
  show own_WP _ _ _ _ T1 (mkF m 32 #[.val (.int x0), .val (.int x1), .val (.int x2), .val (.int x3), .val (.int x4), .val (.int zn), .val (.int zk), .val (.ref zs0), .unset, .unset, .unset, .unset, .unset, .unset, .unset, .unset] [(.int (x3 &&& (255 : Int32)))])
  refine own_go (fun t k => XS.i2c X1.here hx rfl (hb hby at_32) rfl k) ?_
  show own_WP _ _ _ _ T1 (mkF m 33 #[.val (.int x0), .val (.int x1), .val (.int x2), .val (.int x3), .val (.int x4), .val (.int zn), .val (.int zk), .val (.ref zs0), .unset, .unset, .unset, .unset, .unset, .unset, .unset, .unset] [(.int ((x3 &&& (255 : Int32)).toUInt32.toUInt16.toUInt32.toInt32))])
  obtain ⟨_, _, ⟨T5, L5, k5, n5⟩, -, X5, ⟨Lc5, hQ5, l5, y5, z5⟩, st5⟩ := Jvm.LawKit.callS X1 hx (y := (⟨"java/lang/String", "valueOf", "(C)Ljava/lang/String;"⟩ : MethodName)) hown (mvT hZ (hw _ (List.mem_of_getElem? (i := 1) rfl))) (mvT hZ (hw _ (List.mem_of_getElem? (i := 2) rfl))) (mvT hZ (hw _ (List.mem_of_getElem? (i := 3) rfl))) (mvT hZ (hw _ (List.mem_of_getElem? (i := 4) rfl))) (by decide) (backOf (W := 0) (rm1 l Z a0 hw [] ((x3 &&& (255 : Int32)).toUInt32.toUInt16.toUInt32.toInt32) zC T1.heap n0 (own_le Z0 K4) f3 P1 (show ¬ zC = 0 from hzC) (show ¬ (255 : Int32) < ((x3 &&& (255 : Int32)).toUInt32.toUInt16.toUInt32.toInt32) from own_c255 _)) hZ (hw _ (List.mem_of_getElem? (i := 4) rfl)) (hw _ (List.mem_of_getElem? (i := 3) rfl)) (by decide) (by decide)) (g := (mkF m 33 #[.val (.int x0), .val (.int x1), .val (.int x2), .val (.int x3), .val (.int x4), .val (.int zn), .val (.int zk), .val (.ref zs0), .unset, .unset, .unset, .unset, .unset, .unset, .unset, .unset] [(.int ((x3 &&& (255 : Int32)).toUInt32.toUInt16.toUInt32.toInt32))])) rfl (by rw [hml]; rfl) (argsL := [(.int ((x3 &&& (255 : Int32)).toUInt32.toUInt16.toUInt32.toInt32))]) (rest := []) (lenOf own_pd33704 rfl) rfl (by show 2 * 0 + _ ≤ _; exact Nat.le_of_eq rfl) (hb hby at_33) (fun _ _ => ⟨rfl, rfl, (by decide : 2 + 2 ≤ _), (by decide : 5 + 5 ≤ _)⟩)
  dsimp only [Pt.U, Pt.locs, Pt.cells, Pt.slots] at X5 l5 y5 z5 st5 hQ5
  subst l5 y5 z5
  obtain ⟨zs1, rfl, N5q, Kc5, g_zs1, szc_zs1, f6⟩ := hQ5
  have N5 := Fr.app N1 N5q
  refine own_go st5 ?_
  have sz_zs1 : h0.size ≤ zs1 := Nat.le_trans K4.1 szc_zs1
  have ne_zs0_zs1 : zs0 ≠ zs1 := Nat.ne_of_lt (Nat.lt_of_lt_of_le f2.lt szc_zs1)
  have f7 : Old Z n0 T5.heap := f3.keep Kc5 (fun x hx => by cases hx)
  have f8 : Exa Z T5.heap zs0 "java/lang/String" := f2.keep Kc5
  have K9 : Keep h0 T5.heap [] := K4.trans Kc5 (fun x hx => by cases hx)
  show own_WP _ _ _ _ T5 (mkF m 36 #[.val (.int x0), .val (.int x1), .val (.int x2), .val (.int x3), .val (.int x4), .val (.int zn), .val (.int zk), .val (.ref zs0), .unset, .unset, .unset, .unset, .unset, .unset, .unset, .unset] [(.ref zs1)])
  refine own_go (fun t k => XS.astore X5.here hx rfl (hb hby at_36) rfl rfl (l' := #[.val (.int x0), .val (.int x1), .val (.int x2), .val (.int x3), .val (.int x4), .val (.int zn), .val (.int zk), .val (.ref zs0), .val (.ref zs1), .unset, .unset, .unset, .unset, .unset, .unset, .unset]) rfl k) ?_
  show own_WP _ _ _ _ T5 (mkF m 38 #[.val (.int x0), .val (.int x1), .val (.int x2), .val (.int x3), .val (.int x4), .val (.int zn), .val (.int zk), .val (.ref zs0), .val (.ref zs1), .unset, .unset, .unset, .unset, .unset, .unset, .unset] [])
  refine own_go (fun t k => XS.iload X5.here hx rfl (hb hby at_38) rfl  k) ?_
  show own_WP _ _ _ _ T5 (mkF m 40 #[.val (.int x0), .val (.int x1), .val (.int x2), .val (.int x3), .val (.int x4), .val (.int zn), .val (.int zk), .val (.ref zs0), .val (.ref zs1), .unset, .unset, .unset, .unset, .unset, .unset, .unset] [(.int x4)])
  refine own_go (fun t k => XS.sipush X5.here hx rfl (hb hby at_40) k) ?_
  show own_WP _ _ _ _ T5 (mkF m 43 #[.val (.int x0), .val (.int x1), .val (.int x2), .val (.int x3), .val (.int x4), .val (.int zn), .val (.int zk), .val (.ref zs0), .val (.ref zs1), .unset, .unset, .unset, .unset, .unset, .unset, .unset] [(.int (255 : Int32)), (.int x4)])
  refine own_go (fun t k => XS.iand X5.here hx rfl (hb hby at_43) rfl k) ?_
  show own_WP _ _ _ _ T5 (mkF m 44 #[.val (.int x0), .val (.int x1), .val (.int x2), .val (.int x3), .val (.int x4), .val (.int zn), .val (.int zk), .val (.ref zs0), .val (.ref zs1), .unset, .unset, .unset, .unset, .unset, .unset, .unset] [(.int (x4 &&& (255 : Int32)))])
  refine own_go (fun t k => XS.i2c X5.here hx rfl (hb hby at_44) rfl k) ?_
  show own_WP _ _ _ _ T5 (mkF m 45 #[.val (.int x0), .val (.int x1), .val (.int x2), .val (.int x3), .val (.int x4), .val (.int zn), .val (.int zk), .val (.ref zs0), .val (.ref zs1), .unset, .unset, .unset, .unset, .unset, .unset, .unset] [(.int ((x4 &&& (255 : Int32)).toUInt32.toUInt16.toUInt32.toInt32))])
  obtain ⟨_, _, ⟨T10, L10, k10, n10⟩, -, X10, ⟨Lc10, hQ10, l10, y10, z10⟩, st10⟩ := Jvm.LawKit.callS X5 hx (y := (⟨"java/lang/String", "valueOf", "(C)Ljava/lang/String;"⟩ : MethodName)) hown (mvT hZ (hw _ (List.mem_of_getElem? (i := 1) rfl))) (mvT hZ (hw _ (List.mem_of_getElem? (i := 2) rfl))) (mvT hZ (hw _ (List.mem_of_getElem? (i := 3) rfl))) (mvT hZ (hw _ (List.mem_of_getElem? (i := 4) rfl))) (by decide) (backOf (W := 0) (rm1 l Z a0 hw [] ((x4 &&& (255 : Int32)).toUInt32.toUInt16.toUInt32.toInt32) zC T5.heap n0 (own_le Z0 K9) f7 P1 (show ¬ zC = 0 from hzC) (show ¬ (255 : Int32) < ((x4 &&& (255 : Int32)).toUInt32.toUInt16.toUInt32.toInt32) from own_c255 _)) hZ (hw _ (List.mem_of_getElem? (i := 4) rfl)) (hw _ (List.mem_of_getElem? (i := 3) rfl)) (by decide) (by decide)) (g := (mkF m 45 #[.val (.int x0), .val (.int x1), .val (.int x2), .val (.int x3), .val (.int x4), .val (.int zn), .val (.int zk), .val (.ref zs0), .val (.ref zs1), .unset, .unset, .unset, .unset, .unset, .unset, .unset] [(.int ((x4 &&& (255 : Int32)).toUInt32.toUInt16.toUInt32.toInt32))])) rfl (by rw [hml]; rfl) (argsL := [(.int ((x4 &&& (255 : Int32)).toUInt32.toUInt16.toUInt32.toInt32))]) (rest := []) (lenOf own_pd33704 rfl) rfl (by show 2 * 0 + _ ≤ _; exact Nat.le_of_eq rfl) (hb hby at_45) (fun _ _ => ⟨rfl, rfl, (by decide : 4 + 2 ≤ _), (by decide : 10 + 5 ≤ _)⟩)
  dsimp only [Pt.U, Pt.locs, Pt.cells, Pt.slots] at X10 l10 y10 z10 st10 hQ10
  subst l10 y10 z10
  obtain ⟨zs2, rfl, N10q, Kc10, g_zs2, szc_zs2, f11⟩ := hQ10
  have N10 := Fr.app N5 N10q
  refine own_go st10 ?_
  have sz_zs2 : h0.size ≤ zs2 := Nat.le_trans K9.1 szc_zs2
  have ne_zs0_zs2 : zs0 ≠ zs2 := Nat.ne_of_lt (Nat.lt_of_lt_of_le f8.lt szc_zs2)
  have ne_zs1_zs2 : zs1 ≠ zs2 := Nat.ne_of_lt (Nat.lt_of_lt_of_le f6.lt szc_zs2)
  have f12 : Old Z n0 T10.heap := f7.keep Kc10 (fun x hx => by cases hx)
  have f13 : Exa Z T10.heap zs0 "java/lang/String" := f8.keep Kc10
  have f14 : Exa Z T10.heap zs1 "java/lang/String" := f6.keep Kc10
  have K15 : Keep h0 T10.heap [] := K9.trans Kc10 (fun x hx => by cases hx)
  show own_WP _ _ _ _ T10 (mkF m 48 #[.val (.int x0), .val (.int x1), .val (.int x2), .val (.int x3), .val (.int x4), .val (.int zn), .val (.int zk), .val (.ref zs0), .val (.ref zs1), .unset, .unset, .unset, .unset, .unset, .unset, .unset] [(.ref zs2)])
  refine own_go (fun t k => XS.astore X10.here hx rfl (hb hby at_48) rfl rfl (l' := #[.val (.int x0), .val (.int x1), .val (.int x2), .val (.int x3), .val (.int x4), .val (.int zn), .val (.int zk), .val (.ref zs0), .val (.ref zs1), .val (.ref zs2), .unset, .unset, .unset, .unset, .unset, .unset]) rfl k) ?_
  rcases own_n4 d_zn with hn | hn | hn | hn
  · subst hn
    show own_WP _ _ _ _ T10 (mkF m 50 #[.val (.int x0), .val (.int x1), .val (.int x2), .val (.int x3), .val (.int x4), .val (.int (0 : Int32)), .val (.int zk), .val (.ref zs0), .val (.ref zs1), .val (.ref zs2), .unset, .unset, .unset, .unset, .unset, .unset] [])
    refine own_go (fun t k => XS.iload X10.here hx rfl (hb hby at_50) rfl  k) ?_
    show own_WP _ _ _ _ T10 (mkF m 52 #[.val (.int x0), .val (.int x1), .val (.int x2), .val (.int x3), .val (.int x4), .val (.int (0 : Int32)), .val (.int zk), .val (.ref zs0), .val (.ref zs1), .val (.ref zs2), .unset, .unset, .unset, .unset, .unset, .unset] [(.int (0 : Int32))])
    have hc52 : (0 : Int32) = (0 : Int32) := rfl
    refine own_go (fun t k => XS.ifNo X10.here hx rfl (hb hby at_52) rfl ((if0 _ _).trans (teq hc52).2) k) ?_
    show own_WP _ _ _ _ T10 (mkF m 55 #[.val (.int x0), .val (.int x1), .val (.int x2), .val (.int x3), .val (.int x4), .val (.int (0 : Int32)), .val (.int zk), .val (.ref zs0), .val (.ref zs1), .val (.ref zs2), .unset, .unset, .unset, .unset, .unset, .unset] [])
    refine own_go (fun t k => XS.iconst X10.here hx rfl (hb hby at_55) k) ?_
    show own_WP _ _ _ _ T10 (mkF m 56 #[.val (.int x0), .val (.int x1), .val (.int x2), .val (.int x3), .val (.int x4), .val (.int (0 : Int32)), .val (.int zk), .val (.ref zs0), .val (.ref zs1), .val (.ref zs2), .unset, .unset, .unset, .unset, .unset, .unset] [(.int (0 : Int32))])
    obtain ⟨T16, h16, k16, X16, e16, E16, A16, G16, O16, st16⟩ := newRE X10 hx hZ hown (hw _ (List.mem_of_getElem? (i := 27) rfl)) (hw _ (List.mem_of_getElem? (i := 28) rfl)) rfl (g := (mkF m 56 #[.val (.int x0), .val (.int x1), .val (.int x2), .val (.int x3), .val (.int x4), .val (.int (0 : Int32)), .val (.int zk), .val (.ref zs0), .val (.ref zs1), .val (.ref zs2), .unset, .unset, .unset, .unset, .unset, .unset] [(.int (0 : Int32))])) rfl (hb hby at_56) rfl (by decide) (cap := 0) (by decide) (by decide) (by decide) (by decide) (ad := "[Ljava/lang/String;") rfl
    obtain ⟨za, q16⟩ : ∃ z, z = T10.heap.size := ⟨_, rfl⟩
    rw [← q16] at A16 G16 st16
    refine own_go st16 ?_
    have g_za : n0 ≤ za := Nat.le_trans (own_le Z0 K15) (Nat.le_of_eq q16.symm)
    have sz_za : h0.size ≤ za := Nat.le_trans K15.1 (Nat.le_of_eq q16.symm)
    have ne_zs0_za : zs0 ≠ za := Nat.ne_of_lt (Nat.lt_of_lt_of_le f13.lt (Nat.le_of_eq q16.symm))
    have ne_zs1_za : zs1 ≠ za := Nat.ne_of_lt (Nat.lt_of_lt_of_le f14.lt (Nat.le_of_eq q16.symm))
    have ne_zs2_za : zs2 ≠ za := Nat.ne_of_lt (Nat.lt_of_lt_of_le f11.lt (Nat.le_of_eq q16.symm))
    have f17 : Exa Z h16 zs0 "java/lang/String" := f13.ext E16
    have f18 : Exa Z h16 zs1 "java/lang/String" := f14.ext E16
    have f19 : Exa Z h16 zs2 "java/lang/String" := f11.ext E16
    have K20 : Keep h0 h16 [] := K15.ext E16
    have f21 : Arv Z h16 za k16 (.object "java/lang/String") (0 : Int32) [] .null := (Arv.new A16 (by decide)).pad (pad_rep [] .null 0)
    show own_WP _ _ _ _ T16 (mkF m 59 #[.val (.int x0), .val (.int x1), .val (.int x2), .val (.int x3), .val (.int x4), .val (.int (0 : Int32)), .val (.int zk), .val (.ref zs0), .val (.ref zs1), .val (.ref zs2), .unset, .unset, .unset, .unset, .unset, .unset] [(.ref za)])
    refine own_go (fun t k => XS.astore X16.here hx rfl (hb hby at_59) rfl rfl (l' := #[.val (.int x0), .val (.int x1), .val (.int x2), .val (.int x3), .val (.int x4), .val (.int (0 : Int32)), .val (.int zk), .val (.ref zs0), .val (.ref zs1), .val (.ref zs2), .val (.ref za), .unset, .unset, .unset, .unset, .unset]) rfl k) ?_
    show own_WP _ _ _ _ T16 (mkF m 61 #[.val (.int x0), .val (.int x1), .val (.int x2), .val (.int x3), .val (.int x4), .val (.int (0 : Int32)), .val (.int zk), .val (.ref zs0), .val (.ref zs1), .val (.ref zs2), .val (.ref za), .unset, .unset, .unset, .unset, .unset] [])
    refine own_go (fun t k => XS.goto X16.here hx rfl (pc0 := 61) (pc' := 130) rfl (hb hby at_61) (by decide) (by decide) k) ?_
    show own_WP _ _ _ _ T16 (mkF m 130 #[.val (.int x0), .val (.int x1), .val (.int x2), .val (.int x3), .val (.int x4), .val (.int (0 : Int32)), .val (.int zk), .val (.ref zs0), .val (.ref zs1), .val (.ref zs2), .val (.ref za), .unset, .unset, .unset, .unset, .unset] [])
    obtain ⟨T22, h22, X22, e22, E22, A22, D22, -, st22⟩ := newO X16 hx hZ hown (hw _ (List.mem_of_getElem? (i := 29) rfl)) (hw _ (List.mem_of_getElem? (i := 30) rfl)) (hw _ (List.mem_of_getElem? (i := 31) rfl)) e16 (g := (mkF m 130 #[.val (.int x0), .val (.int x1), .val (.int x2), .val (.int x3), .val (.int x4), .val (.int (0 : Int32)), .val (.int zk), .val (.ref zs0), .val (.ref zs1), .val (.ref zs2), .val (.ref za), .unset, .unset, .unset, .unset, .unset] [])) rfl (hb hby at_130) (by decide) (by decide)
    obtain ⟨zo, q22⟩ : ∃ z, z = h16.size := ⟨_, rfl⟩
    rw [← q22] at A22 D22 st22
    refine own_go st22 ?_
    have g_zo : n0 ≤ zo := Nat.le_trans (own_le Z0 K20) (Nat.le_of_eq q22.symm)
    have sz_zo : h0.size ≤ zo := Nat.le_trans K20.1 (Nat.le_of_eq q22.symm)
    have ne_zs0_zo : zs0 ≠ zo := Nat.ne_of_lt (Nat.lt_of_lt_of_le f17.lt (Nat.le_of_eq q22.symm))
    have ne_zs1_zo : zs1 ≠ zo := Nat.ne_of_lt (Nat.lt_of_lt_of_le f18.lt (Nat.le_of_eq q22.symm))
    have ne_zs2_zo : zs2 ≠ zo := Nat.ne_of_lt (Nat.lt_of_lt_of_le f19.lt (Nat.le_of_eq q22.symm))
    have ne_za_zo : za ≠ zo := Nat.ne_of_lt (Nat.lt_of_lt_of_le f21.lt (Nat.le_of_eq q22.symm))
    have f23 : Exa Z h22 zs0 "java/lang/String" := f17.ext E22
    have f24 : Exa Z h22 zs1 "java/lang/String" := f18.ext E22
    have f25 : Exa Z h22 zs2 "java/lang/String" := f19.ext E22
    have f26 : Arv Z h22 za k16 (.object "java/lang/String") (0 : Int32) [] .null := f21.ext E22
    have K27 : Keep h0 h22 [] := K20.ext E22
    have f28 : Fld Z h22 zo "branchwork/Arguments" "command" "Ljava/lang/String;" .null := D22 (Or.inr (hw _ (List.mem_of_getElem? (i := 40) rfl))) (ty := (.object "java/lang/String")) (by decide)
    have f29 : Fld Z h22 zo "branchwork/Arguments" "args" "[Ljava/lang/String;" .null := D22 (Or.inr (hw _ (List.mem_of_getElem? (i := 42) rfl))) (ty := (.array (.object "java/lang/String"))) (by decide)
    have f30 : Fld Z h22 zo "branchwork/Arguments" "next" "I" (.int (0 : Int32)) := D22 (Or.inl (hw _ (List.mem_of_getElem? (i := 49) rfl))) (ty := .int) (by decide)
    show own_WP _ _ _ _ T22 (mkF m 133 #[.val (.int x0), .val (.int x1), .val (.int x2), .val (.int x3), .val (.int x4), .val (.int (0 : Int32)), .val (.int zk), .val (.ref zs0), .val (.ref zs1), .val (.ref zs2), .val (.ref za), .unset, .unset, .unset, .unset, .unset] [(.ref zo)])
    refine own_go (fun t k => XS.dup X22.here hx rfl (hb hby at_133) rfl rfl k) ?_
    show own_WP _ _ _ _ T22 (mkF m 134 #[.val (.int x0), .val (.int x1), .val (.int x2), .val (.int x3), .val (.int x4), .val (.int (0 : Int32)), .val (.int zk), .val (.ref zs0), .val (.ref zs1), .val (.ref zs2), .val (.ref za), .unset, .unset, .unset, .unset, .unset] [(.ref zo), (.ref zo)])
    obtain ⟨zt, T31, h31, k31, X31, e31, E31, hS31, hk31, hZ, hown, st31⟩ := ldcS (show Stand p l e room_1 (s.setVm s.vm) m #[(.int x0), (.int x1), (.int x2), (.int x3), (.int x4)] below meth c T22 _ _ _ from X22) hx hZ hown (hw _ (List.mem_of_getElem? (i := 32) rfl)) (own_sa hw) e22 ((State.WarmedH.refl s).since 0) (Nat.zero_le _) (g := (mkF m 134 #[.val (.int x0), .val (.int x1), .val (.int x2), .val (.int x3), .val (.int x4), .val (.int (0 : Int32)), .val (.int zk), .val (.ref zs0), .val (.ref zs1), .val (.ref zs2), .val (.ref za), .unset, .unset, .unset, .unset, .unset] [(.ref zo), (.ref zo)])) rfl (hb hby at_134) (n := 12) (by decide) (by decide) (by decide) (by decide)
    refine own_go st31 ?_
    have f32 : Exa Z h31 zs0 "java/lang/String" := f23.ext E31
    have f33 : Exa Z h31 zs1 "java/lang/String" := f24.ext E31
    have f34 : Exa Z h31 zs2 "java/lang/String" := f25.ext E31
    have f35 : Arv Z h31 za k16 (.object "java/lang/String") (0 : Int32) [] .null := f26.ext E31
    have f36 : Exa Z h31 zo "branchwork/Arguments" := A22.ext E31
    have f37 : Fld Z h31 zo "branchwork/Arguments" "command" "Ljava/lang/String;" .null := f28.ext E31
    have f38 : Fld Z h31 zo "branchwork/Arguments" "args" "[Ljava/lang/String;" .null := f29.ext E31
    have f39 : Fld Z h31 zo "branchwork/Arguments" "next" "I" (.int (0 : Int32)) := f30.ext E31
    have K40 : Keep h0 h31 [] := K27.ext E31
    show own_WP _ _ _ _ T31 (mkF m 136 #[.val (.int x0), .val (.int x1), .val (.int x2), .val (.int x3), .val (.int x4), .val (.int (0 : Int32)), .val (.int zk), .val (.ref zs0), .val (.ref zs1), .val (.ref zs2), .val (.ref za), .unset, .unset, .unset, .unset, .unset] [(.ref zt), (.ref zo), (.ref zo)])
    refine own_go (fun t k => XS.aload X31.here hx rfl (hb hby at_136) rfl rfl  k) ?_
    show own_WP _ _ _ _ T31 (mkF m 138 #[.val (.int x0), .val (.int x1), .val (.int x2), .val (.int x3), .val (.int x4), .val (.int (0 : Int32)), .val (.int zk), .val (.ref zs0), .val (.ref zs1), .val (.ref zs2), .val (.ref za), .unset, .unset, .unset, .unset, .unset] [(.ref za), (.ref zt), (.ref zo), (.ref zo)])
    obtain ⟨_, _, ⟨T41, L41, k41, n41⟩, -, X41, ⟨Lc41, hQ41, l41, y41, z41⟩, st41⟩ := X31.specialBack hx (y := (⟨"branchwork/Arguments", "<init>", "(Ljava/lang/String;[Ljava/lang/String;)V"⟩ : MethodName)) rfl hown (mvT hZ (hw _ (List.mem_of_getElem? (i := 35) rfl))) (mvT hZ (hw _ (List.mem_of_getElem? (i := 36) rfl))) (mvT hZ (hw _ (List.mem_of_getElem? (i := 37) rfl))) (by decide) (backOf (W := 1) (rm6 l Z a0 hw [] zo zt za .null .null (.int (0 : Int32)) h31 n0 (own_le Z0 K40) f36 f37 f38 f39 g_zo) hZ (hw _ (List.mem_of_getElem? (i := 37) rfl)) (hw _ (List.mem_of_getElem? (i := 31) rfl)) (by decide) (by decide)) (g := (mkF m 138 #[.val (.int x0), .val (.int x1), .val (.int x2), .val (.int x3), .val (.int x4), .val (.int (0 : Int32)), .val (.int zk), .val (.ref zs0), .val (.ref zs1), .val (.ref zs2), .val (.ref za), .unset, .unset, .unset, .unset, .unset] [(.ref za), (.ref zt), (.ref zo), (.ref zo)])) rfl (by rw [hml]; rfl) (Steps.refl _) (a := zo) (argsL := [(.ref zt), (.ref za)]) (rest := [(.ref zo)]) (lenOf own_pd94204 rfl) rfl (by show 2 * 0 + _ ≤ _; exact Nat.le_of_eq rfl) (hb hby at_138) (fun _ _ => ⟨rfl, e31, (by decide : 10 + 0 ≤ _), (by decide : 34 + 0 ≤ _)⟩)
    dsimp only [Pt.U, Pt.locs, Pt.cells, Pt.slots] at X41 l41 y41 z41 st41 hQ41
    subst l41 y41 z41
    obtain ⟨rfl, N41q, Kc41, f42, f43, f44⟩ := hQ41
    have N41 := Fr.app N10 N41q
    refine own_tr st41 ?_
    have f45 : Exa Z T41.heap zs0 "java/lang/String" := f32.keep Kc41
    have f46 : Exa Z T41.heap zs1 "java/lang/String" := f33.keep Kc41
    have f47 : Exa Z T41.heap zs2 "java/lang/String" := f34.keep Kc41
    have f48 : Arv Z T41.heap za k16 (.object "java/lang/String") (0 : Int32) [] .null := f35.keep Kc41 (own_nm ne_za_zo)
    have f49 : Exa Z T41.heap zo "branchwork/Arguments" := f36.keep Kc41
    have K53 : Keep h0 T41.heap [] := K40.trans Kc41 (fun x hx => by cases List.mem_singleton.mp hx; exact Or.inr sz_zo)
    have kz54 : k31 ≤ T41.heap.size := Nat.le_trans hk31 Kc41.1
    show own_WP _ _ _ _ T41 (mkF m 141 #[.val (.int x0), .val (.int x1), .val (.int x2), .val (.int x3), .val (.int x4), .val (.int (0 : Int32)), .val (.int zk), .val (.ref zs0), .val (.ref zs1), .val (.ref zs2), .val (.ref za), .unset, .unset, .unset, .unset, .unset] [(.ref zo)])
    refine own_go (fun t k => XS.astore X41.here hx rfl (hb hby at_141) rfl rfl (l' := #[.val (.int x0), .val (.int x1), .val (.int x2), .val (.int x3), .val (.int x4), .val (.int (0 : Int32)), .val (.int zk), .val (.ref zs0), .val (.ref zs1), .val (.ref zs2), .val (.ref za), .val (.ref zo), .unset, .unset, .unset, .unset]) rfl k) ?_
    show own_WP _ _ _ _ T41 (mkF m 143 #[.val (.int x0), .val (.int x1), .val (.int x2), .val (.int x3), .val (.int x4), .val (.int (0 : Int32)), .val (.int zk), .val (.ref zs0), .val (.ref zs1), .val (.ref zs2), .val (.ref za), .val (.ref zo), .unset, .unset, .unset, .unset] [])
    refine own_go (fun t k => XS.aload X41.here hx rfl (hb hby at_143) rfl rfl  k) ?_
    show own_WP _ _ _ _ T41 (mkF m 145 #[.val (.int x0), .val (.int x1), .val (.int x2), .val (.int x3), .val (.int x4), .val (.int (0 : Int32)), .val (.int zk), .val (.ref zs0), .val (.ref zs1), .val (.ref zs2), .val (.ref za), .val (.ref zo), .unset, .unset, .unset, .unset] [(.ref zo)])
    obtain ⟨cq55, kq55, q55a, q55b, q55c⟩ := isOf hZ rfl f42
    obtain ⟨_, _, ⟨T55, L55, k55, n55⟩, -, X55, ⟨Lc55, hQ55, l55, y55, z55⟩, st55⟩ := X41.virtualBack hx (y := (⟨"branchwork/Arguments", "hasNext", "()Z"⟩ : MethodName)) (z := (⟨"branchwork/Arguments", "hasNext", "()Z"⟩ : MethodName)) hown (mvT hZ (hw _ (List.mem_of_getElem? (i := 43) rfl))) (mvT hZ (hw _ (List.mem_of_getElem? (i := 44) rfl))) (notFace_of_selects (args := #[]) (mvT hZ (hw _ (List.mem_of_getElem? (i := 46) rfl)))) (mvT hZ (hw _ (List.mem_of_getElem? (i := 46) rfl))) (mvT hZ (hw _ (List.mem_of_getElem? (i := 45) rfl))) (by decide) (backOf (W := 0) (rm7 l Z a0 hw [] zo za k16 (0 : Int32) [] (0 : Int32) T41.heap n0 (own_le Z0 K53) f43 f44 f48) hZ (hw _ (List.mem_of_getElem? (i := 47) rfl)) (hw _ (List.mem_of_getElem? (i := 31) rfl)) (by decide) (by decide)) q55a q55c (g := (mkF m 145 #[.val (.int x0), .val (.int x1), .val (.int x2), .val (.int x3), .val (.int x4), .val (.int (0 : Int32)), .val (.int zk), .val (.ref zs0), .val (.ref zs1), .val (.ref zs2), .val (.ref za), .val (.ref zo), .unset, .unset, .unset, .unset] [(.ref zo)])) rfl (by rw [hml]; rfl) (Steps.refl _) (argsL := []) (rest := []) (lenOf own_pd91901 rfl) rfl (by show 2 * 0 + _ ≤ _; exact Nat.le_of_eq rfl) (hb hby at_145) (fun _ _ => ⟨rfl, rfl, (by decide : 10 + 0 ≤ _), (by decide : 34 + 0 ≤ _)⟩)
    dsimp only [Pt.U, Pt.locs, Pt.cells, Pt.slots] at X55 l55 y55 z55 st55 hQ55
    subst l55 y55 z55
    obtain ⟨rfl, N55q, eq55⟩ := hQ55
    have N55 := Fr.app N41 N55q
    refine own_tr st55 ?_
    show own_WP _ _ _ _ T55 (mkF m 148 #[.val (.int x0), .val (.int x1), .val (.int x2), .val (.int x3), .val (.int x4), .val (.int (0 : Int32)), .val (.int zk), .val (.ref zs0), .val (.ref zs1), .val (.ref zs2), .val (.ref za), .val (.ref zo), .unset, .unset, .unset, .unset] [(.int (own_hn (0 : Int32) (0 : Int32)))])
    refine own_go (fun t k => XS.iload X55.here hx rfl (hb hby at_148) rfl  k) ?_
    show own_WP _ _ _ _ T55 (mkF m 150 #[.val (.int x0), .val (.int x1), .val (.int x2), .val (.int x3), .val (.int x4), .val (.int (0 : Int32)), .val (.int zk), .val (.ref zs0), .val (.ref zs1), .val (.ref zs2), .val (.ref za), .val (.ref zo), .unset, .unset, .unset, .unset] [(.int (0 : Int32)), (.int (own_hn (0 : Int32) (0 : Int32)))])
    have hc150 : ¬ ((0 : Int32) < (0 : Int32)) := by decide
    refine own_go (fun t k => XS.ifYes X55.here hx rfl (pc0 := 150) (pc' := 157) rfl (hb hby at_150) rfl ((if0 _ _).trans (flt hc150).2.2.2) (by decide) (by decide) k) ?_
    show own_WP _ _ _ _ T55 (mkF m 157 #[.val (.int x0), .val (.int x1), .val (.int x2), .val (.int x3), .val (.int x4), .val (.int (0 : Int32)), .val (.int zk), .val (.ref zs0), .val (.ref zs1), .val (.ref zs2), .val (.ref za), .val (.ref zo), .unset, .unset, .unset, .unset] [(.int (own_hn (0 : Int32) (0 : Int32)))])
    refine own_go (fun t k => XS.iconst X55.here hx rfl (hb hby at_157) k) ?_
    show own_WP _ _ _ _ T55 (mkF m 158 #[.val (.int x0), .val (.int x1), .val (.int x2), .val (.int x3), .val (.int x4), .val (.int (0 : Int32)), .val (.int zk), .val (.ref zs0), .val (.ref zs1), .val (.ref zs2), .val (.ref za), .val (.ref zo), .unset, .unset, .unset, .unset] [(.int (0 : Int32)), (.int (own_hn (0 : Int32) (0 : Int32)))])
    have hc158 : (own_hn (0 : Int32) (0 : Int32)) = (0 : Int32) := by
      decide
    refine own_go (fun t k => XS.icmpNo X55.here hx rfl (hb hby at_158) rfl (teq hc158).2 k) ?_
    show own_WP _ _ _ _ T55 (mkF m 161 #[.val (.int x0), .val (.int x1), .val (.int x2), .val (.int x3), .val (.int x4), .val (.int (0 : Int32)), .val (.int zk), .val (.ref zs0), .val (.ref zs1), .val (.ref zs2), .val (.ref za), .val (.ref zo), .unset, .unset, .unset, .unset] [])
    refine own_go (fun t k => XS.iconst X55.here hx rfl (hb hby at_161) k) ?_
    show own_WP _ _ _ _ T55 (mkF m 162 #[.val (.int x0), .val (.int x1), .val (.int x2), .val (.int x3), .val (.int x4), .val (.int (0 : Int32)), .val (.int zk), .val (.ref zs0), .val (.ref zs1), .val (.ref zs2), .val (.ref za), .val (.ref zo), .unset, .unset, .unset, .unset] [(.int (1 : Int32))])
    refine own_go (fun t k => XS.goto X55.here hx rfl (pc0 := 162) (pc' := 166) rfl (hb hby at_162) (by decide) (by decide) k) ?_
    show own_WP _ _ _ _ T55 (mkF m 166 #[.val (.int x0), .val (.int x1), .val (.int x2), .val (.int x3), .val (.int x4), .val (.int (0 : Int32)), .val (.int zk), .val (.ref zs0), .val (.ref zs1), .val (.ref zs2), .val (.ref za), .val (.ref zo), .unset, .unset, .unset, .unset] [(.int (1 : Int32))])
    refine own_go (fun t k => XS.istore X55.here hx rfl (hb hby at_166) rfl (l' := #[.val (.int x0), .val (.int x1), .val (.int x2), .val (.int x3), .val (.int x4), .val (.int (0 : Int32)), .val (.int zk), .val (.ref zs0), .val (.ref zs1), .val (.ref zs2), .val (.ref za), .val (.ref zo), .val (.int (1 : Int32)), .unset, .unset, .unset]) rfl k) ?_
    rcases own_nk d_zn d_zk with ⟨hn, hk⟩ | ⟨hn, hk⟩ | ⟨hn, hk⟩ | ⟨hn, hk⟩ | ⟨hn, hk⟩ | ⟨hn, hk⟩ | ⟨hn, hk⟩ | ⟨hn, hk⟩ | ⟨hn, hk⟩ | ⟨hn, hk⟩
    · subst hk
      show own_WP _ _ _ _ T55 (mkF m 168 #[.val (.int x0), .val (.int x1), .val (.int x2), .val (.int x3), .val (.int x4), .val (.int (0 : Int32)), .val (.int (0 : Int32)), .val (.ref zs0), .val (.ref zs1), .val (.ref zs2), .val (.ref za), .val (.ref zo), .val (.int (1 : Int32)), .unset, .unset, .unset] [])
      refine own_go (fun t k => XS.iload X55.here hx rfl (hb hby at_168) rfl  k) ?_
      show own_WP _ _ _ _ T55 (mkF m 170 #[.val (.int x0), .val (.int x1), .val (.int x2), .val (.int x3), .val (.int x4), .val (.int (0 : Int32)), .val (.int (0 : Int32)), .val (.ref zs0), .val (.ref zs1), .val (.ref zs2), .val (.ref za), .val (.ref zo), .val (.int (1 : Int32)), .unset, .unset, .unset] [(.int (0 : Int32))])
      refine own_go (fun t k => XS.iconst X55.here hx rfl (hb hby at_170) k) ?_
      show own_WP _ _ _ _ T55 (mkF m 171 #[.val (.int x0), .val (.int x1), .val (.int x2), .val (.int x3), .val (.int x4), .val (.int (0 : Int32)), .val (.int (0 : Int32)), .val (.ref zs0), .val (.ref zs1), .val (.ref zs2), .val (.ref za), .val (.ref zo), .val (.int (1 : Int32)), .unset, .unset, .unset] [(.int (1 : Int32)), (.int (0 : Int32))])
      have hc171 : (0 : Int32) < (1 : Int32) := by decide
      refine own_go (fun t k => XS.icmpYes X55.here hx rfl (pc0 := 171) (pc' := 180) rfl (hb hby at_171) rfl (tlt hc171).1 (by decide) (by decide) k) ?_
      show own_WP _ _ _ _ T55 (mkF m 180 #[.val (.int x0), .val (.int x1), .val (.int x2), .val (.int x3), .val (.int x4), .val (.int (0 : Int32)), .val (.int (0 : Int32)), .val (.ref zs0), .val (.ref zs1), .val (.ref zs2), .val (.ref za), .val (.ref zo), .val (.int (1 : Int32)), .unset, .unset, .unset] [])
      refine own_go (fun t k => XS.iload X55.here hx rfl (hb hby at_180) rfl  k) ?_
      show own_WP _ _ _ _ T55 (mkF m 182 #[.val (.int x0), .val (.int x1), .val (.int x2), .val (.int x3), .val (.int x4), .val (.int (0 : Int32)), .val (.int (0 : Int32)), .val (.ref zs0), .val (.ref zs1), .val (.ref zs2), .val (.ref za), .val (.ref zo), .val (.int (1 : Int32)), .unset, .unset, .unset] [(.int (0 : Int32))])
      refine own_go (fun t k => XS.iconst X55.here hx rfl (hb hby at_182) k) ?_
      show own_WP _ _ _ _ T55 (mkF m 183 #[.val (.int x0), .val (.int x1), .val (.int x2), .val (.int x3), .val (.int x4), .val (.int (0 : Int32)), .val (.int (0 : Int32)), .val (.ref zs0), .val (.ref zs1), .val (.ref zs2), .val (.ref za), .val (.ref zo), .val (.int (1 : Int32)), .unset, .unset, .unset] [(.int (2 : Int32)), (.int (0 : Int32))])
      have hc183 : (0 : Int32) < (2 : Int32) := by decide
      refine own_go (fun t k => XS.icmpYes X55.here hx rfl (pc0 := 183) (pc' := 192) rfl (hb hby at_183) rfl (tlt hc183).1 (by decide) (by decide) k) ?_
      show own_WP _ _ _ _ T55 (mkF m 192 #[.val (.int x0), .val (.int x1), .val (.int x2), .val (.int x3), .val (.int x4), .val (.int (0 : Int32)), .val (.int (0 : Int32)), .val (.ref zs0), .val (.ref zs1), .val (.ref zs2), .val (.ref za), .val (.ref zo), .val (.int (1 : Int32)), .unset, .unset, .unset] [])
      refine own_go (fun t k => XS.iload X55.here hx rfl (hb hby at_192) rfl  k) ?_
      show own_WP _ _ _ _ T55 (mkF m 194 #[.val (.int x0), .val (.int x1), .val (.int x2), .val (.int x3), .val (.int x4), .val (.int (0 : Int32)), .val (.int (0 : Int32)), .val (.ref zs0), .val (.ref zs1), .val (.ref zs2), .val (.ref za), .val (.ref zo), .val (.int (1 : Int32)), .unset, .unset, .unset] [(.int (0 : Int32))])
      refine own_go (fun t k => XS.iconst X55.here hx rfl (hb hby at_194) k) ?_
      show own_WP _ _ _ _ T55 (mkF m 195 #[.val (.int x0), .val (.int x1), .val (.int x2), .val (.int x3), .val (.int x4), .val (.int (0 : Int32)), .val (.int (0 : Int32)), .val (.ref zs0), .val (.ref zs1), .val (.ref zs2), .val (.ref za), .val (.ref zo), .val (.int (1 : Int32)), .unset, .unset, .unset] [(.int (3 : Int32)), (.int (0 : Int32))])
      have hc195 : (0 : Int32) < (3 : Int32) := by decide
      refine own_go (fun t k => XS.icmpYes X55.here hx rfl (pc0 := 195) (pc' := 204) rfl (hb hby at_195) rfl (tlt hc195).1 (by decide) (by decide) k) ?_
      show own_WP _ _ _ _ T55 (mkF m 204 #[.val (.int x0), .val (.int x1), .val (.int x2), .val (.int x3), .val (.int x4), .val (.int (0 : Int32)), .val (.int (0 : Int32)), .val (.ref zs0), .val (.ref zs1), .val (.ref zs2), .val (.ref za), .val (.ref zo), .val (.int (1 : Int32)), .unset, .unset, .unset] [])
      refine own_go (fun t k => XS.aload X55.here hx rfl (hb hby at_204) rfl rfl  k) ?_
      show own_WP _ _ _ _ T55 (mkF m 206 #[.val (.int x0), .val (.int x1), .val (.int x2), .val (.int x3), .val (.int x4), .val (.int (0 : Int32)), .val (.int (0 : Int32)), .val (.ref zs0), .val (.ref zs1), .val (.ref zs2), .val (.ref za), .val (.ref zo), .val (.int (1 : Int32)), .unset, .unset, .unset] [(.ref zo)])
      obtain ⟨cq56, kq56, q56a, q56b, q56c⟩ := isOf hZ eq55 f42
      obtain ⟨_, _, ⟨T56, L56, k56, n56⟩, -, X56, ⟨Lc56, hQ56, l56, y56, z56⟩, st56⟩ := X55.virtualBack hx (y := (⟨"branchwork/Arguments", "hasNext", "()Z"⟩ : MethodName)) (z := (⟨"branchwork/Arguments", "hasNext", "()Z"⟩ : MethodName)) hown (mvT hZ (hw _ (List.mem_of_getElem? (i := 43) rfl))) (mvT hZ (hw _ (List.mem_of_getElem? (i := 44) rfl))) (notFace_of_selects (args := #[]) (mvT hZ (hw _ (List.mem_of_getElem? (i := 46) rfl)))) (mvT hZ (hw _ (List.mem_of_getElem? (i := 46) rfl))) (mvT hZ (hw _ (List.mem_of_getElem? (i := 45) rfl))) (by decide) (backOf (W := 0) (rm7 l Z a0 hw [] zo za k16 (0 : Int32) [] (0 : Int32) T41.heap n0 (own_le Z0 K53) f43 f44 f48) hZ (hw _ (List.mem_of_getElem? (i := 47) rfl)) (hw _ (List.mem_of_getElem? (i := 31) rfl)) (by decide) (by decide)) q56a q56c (g := (mkF m 206 #[.val (.int x0), .val (.int x1), .val (.int x2), .val (.int x3), .val (.int x4), .val (.int (0 : Int32)), .val (.int (0 : Int32)), .val (.ref zs0), .val (.ref zs1), .val (.ref zs2), .val (.ref za), .val (.ref zo), .val (.int (1 : Int32)), .unset, .unset, .unset] [(.ref zo)])) rfl (by rw [hml]; rfl) (Steps.refl _) (argsL := []) (rest := []) (lenOf own_pd91901 rfl) rfl (by show 2 * 0 + _ ≤ _; exact Nat.le_of_eq rfl) (hb hby at_206) (fun _ _ => ⟨rfl, eq55, (by decide : 10 + 0 ≤ _), (by decide : 34 + 0 ≤ _)⟩)
      dsimp only [Pt.U, Pt.locs, Pt.cells, Pt.slots] at X56 l56 y56 z56 st56 hQ56
      subst l56 y56 z56
      obtain ⟨rfl, N56q, eq56⟩ := hQ56
      have N56 := Fr.app N55 N56q
      refine own_tr st56 ?_
      show own_WP _ _ _ _ T56 (mkF m 209 #[.val (.int x0), .val (.int x1), .val (.int x2), .val (.int x3), .val (.int x4), .val (.int (0 : Int32)), .val (.int (0 : Int32)), .val (.ref zs0), .val (.ref zs1), .val (.ref zs2), .val (.ref za), .val (.ref zo), .val (.int (1 : Int32)), .unset, .unset, .unset] [(.int (own_hn (0 : Int32) (0 : Int32)))])
      refine own_go (fun t k => XS.istore X56.here hx rfl (hb hby at_209) rfl (l' := #[.val (.int x0), .val (.int x1), .val (.int x2), .val (.int x3), .val (.int x4), .val (.int (0 : Int32)), .val (.int (0 : Int32)), .val (.ref zs0), .val (.ref zs1), .val (.ref zs2), .val (.ref za), .val (.ref zo), .val (.int (1 : Int32)), .val (.int (own_hn (0 : Int32) (0 : Int32))), .unset, .unset]) rfl k) ?_
      show own_WP _ _ _ _ T56 (mkF m 211 #[.val (.int x0), .val (.int x1), .val (.int x2), .val (.int x3), .val (.int x4), .val (.int (0 : Int32)), .val (.int (0 : Int32)), .val (.ref zs0), .val (.ref zs1), .val (.ref zs2), .val (.ref za), .val (.ref zo), .val (.int (1 : Int32)), .val (.int (own_hn (0 : Int32) (0 : Int32))), .unset, .unset] [])
      refine own_go (fun t k => XS.aload X56.here hx rfl (hb hby at_211) rfl rfl  k) ?_
      show own_WP _ _ _ _ T56 (mkF m 213 #[.val (.int x0), .val (.int x1), .val (.int x2), .val (.int x3), .val (.int x4), .val (.int (0 : Int32)), .val (.int (0 : Int32)), .val (.ref zs0), .val (.ref zs1), .val (.ref zs2), .val (.ref za), .val (.ref zo), .val (.int (1 : Int32)), .val (.int (own_hn (0 : Int32) (0 : Int32))), .unset, .unset] [(.ref zo)])
      obtain ⟨cq57, kq57, q57a, q57b, q57c⟩ := isOf hZ eq56 f42
      obtain ⟨_, _, ⟨T57, L57, k57, n57⟩, -, X57, ⟨Lc57, hQ57, l57, y57, z57⟩, st57⟩ := X56.virtualBack hx (y := (⟨"branchwork/Arguments", "hasNext", "()Z"⟩ : MethodName)) (z := (⟨"branchwork/Arguments", "hasNext", "()Z"⟩ : MethodName)) hown (mvT hZ (hw _ (List.mem_of_getElem? (i := 43) rfl))) (mvT hZ (hw _ (List.mem_of_getElem? (i := 44) rfl))) (notFace_of_selects (args := #[]) (mvT hZ (hw _ (List.mem_of_getElem? (i := 46) rfl)))) (mvT hZ (hw _ (List.mem_of_getElem? (i := 46) rfl))) (mvT hZ (hw _ (List.mem_of_getElem? (i := 45) rfl))) (by decide) (backOf (W := 0) (rm7 l Z a0 hw [] zo za k16 (0 : Int32) [] (0 : Int32) T41.heap n0 (own_le Z0 K53) f43 f44 f48) hZ (hw _ (List.mem_of_getElem? (i := 47) rfl)) (hw _ (List.mem_of_getElem? (i := 31) rfl)) (by decide) (by decide)) q57a q57c (g := (mkF m 213 #[.val (.int x0), .val (.int x1), .val (.int x2), .val (.int x3), .val (.int x4), .val (.int (0 : Int32)), .val (.int (0 : Int32)), .val (.ref zs0), .val (.ref zs1), .val (.ref zs2), .val (.ref za), .val (.ref zo), .val (.int (1 : Int32)), .val (.int (own_hn (0 : Int32) (0 : Int32))), .unset, .unset] [(.ref zo)])) rfl (by rw [hml]; rfl) (Steps.refl _) (argsL := []) (rest := []) (lenOf own_pd91901 rfl) rfl (by show 2 * 0 + _ ≤ _; exact Nat.le_of_eq rfl) (hb hby at_213) (fun _ _ => ⟨rfl, eq56, (by decide : 10 + 0 ≤ _), (by decide : 34 + 0 ≤ _)⟩)
      dsimp only [Pt.U, Pt.locs, Pt.cells, Pt.slots] at X57 l57 y57 z57 st57 hQ57
      subst l57 y57 z57
      obtain ⟨rfl, N57q, eq57⟩ := hQ57
      have N57 := Fr.app N56 N57q
      refine own_tr st57 ?_
      show own_WP _ _ _ _ T57 (mkF m 216 #[.val (.int x0), .val (.int x1), .val (.int x2), .val (.int x3), .val (.int x4), .val (.int (0 : Int32)), .val (.int (0 : Int32)), .val (.ref zs0), .val (.ref zs1), .val (.ref zs2), .val (.ref za), .val (.ref zo), .val (.int (1 : Int32)), .val (.int (own_hn (0 : Int32) (0 : Int32))), .unset, .unset] [(.int (own_hn (0 : Int32) (0 : Int32)))])
      refine own_go (fun t k => XS.istore X57.here hx rfl (hb hby at_216) rfl (l' := #[.val (.int x0), .val (.int x1), .val (.int x2), .val (.int x3), .val (.int x4), .val (.int (0 : Int32)), .val (.int (0 : Int32)), .val (.ref zs0), .val (.ref zs1), .val (.ref zs2), .val (.ref za), .val (.ref zo), .val (.int (1 : Int32)), .val (.int (own_hn (0 : Int32) (0 : Int32))), .val (.int (own_hn (0 : Int32) (0 : Int32))), .unset]) rfl k) ?_
      show own_WP _ _ _ _ T57 (mkF m 218 #[.val (.int x0), .val (.int x1), .val (.int x2), .val (.int x3), .val (.int x4), .val (.int (0 : Int32)), .val (.int (0 : Int32)), .val (.ref zs0), .val (.ref zs1), .val (.ref zs2), .val (.ref za), .val (.ref zo), .val (.int (1 : Int32)), .val (.int (own_hn (0 : Int32) (0 : Int32))), .val (.int (own_hn (0 : Int32) (0 : Int32))), .unset] [])
      refine own_go (fun t k => XS.iload X57.here hx rfl (hb hby at_218) rfl  k) ?_
      show own_WP _ _ _ _ T57 (mkF m 220 #[.val (.int x0), .val (.int x1), .val (.int x2), .val (.int x3), .val (.int x4), .val (.int (0 : Int32)), .val (.int (0 : Int32)), .val (.ref zs0), .val (.ref zs1), .val (.ref zs2), .val (.ref za), .val (.ref zo), .val (.int (1 : Int32)), .val (.int (own_hn (0 : Int32) (0 : Int32))), .val (.int (own_hn (0 : Int32) (0 : Int32))), .unset] [(.int (1 : Int32))])
      have hc220 : ¬ ((1 : Int32) = (0 : Int32)) := by decide
      refine own_go (fun t k => XS.ifNo X57.here hx rfl (hb hby at_220) rfl ((if0 _ _).trans (feq hc220).1) k) ?_
      show own_WP _ _ _ _ T57 (mkF m 223 #[.val (.int x0), .val (.int x1), .val (.int x2), .val (.int x3), .val (.int x4), .val (.int (0 : Int32)), .val (.int (0 : Int32)), .val (.ref zs0), .val (.ref zs1), .val (.ref zs2), .val (.ref za), .val (.ref zo), .val (.int (1 : Int32)), .val (.int (own_hn (0 : Int32) (0 : Int32))), .val (.int (own_hn (0 : Int32) (0 : Int32))), .unset] [])
      refine own_go (fun t k => XS.iload X57.here hx rfl (hb hby at_223) rfl  k) ?_
      show own_WP _ _ _ _ T57 (mkF m 225 #[.val (.int x0), .val (.int x1), .val (.int x2), .val (.int x3), .val (.int x4), .val (.int (0 : Int32)), .val (.int (0 : Int32)), .val (.ref zs0), .val (.ref zs1), .val (.ref zs2), .val (.ref za), .val (.ref zo), .val (.int (1 : Int32)), .val (.int (own_hn (0 : Int32) (0 : Int32))), .val (.int (own_hn (0 : Int32) (0 : Int32))), .unset] [(.int (own_hn (0 : Int32) (0 : Int32)))])
      refine own_go (fun t k => XS.iload X57.here hx rfl (hb hby at_225) rfl  k) ?_
      show own_WP _ _ _ _ T57 (mkF m 227 #[.val (.int x0), .val (.int x1), .val (.int x2), .val (.int x3), .val (.int x4), .val (.int (0 : Int32)), .val (.int (0 : Int32)), .val (.ref zs0), .val (.ref zs1), .val (.ref zs2), .val (.ref za), .val (.ref zo), .val (.int (1 : Int32)), .val (.int (own_hn (0 : Int32) (0 : Int32))), .val (.int (own_hn (0 : Int32) (0 : Int32))), .unset] [(.int (0 : Int32)), (.int (own_hn (0 : Int32) (0 : Int32)))])
      refine own_go (fun t k => XS.iload X57.here hx rfl (hb hby at_227) rfl  k) ?_
      show own_WP _ _ _ _ T57 (mkF m 229 #[.val (.int x0), .val (.int x1), .val (.int x2), .val (.int x3), .val (.int x4), .val (.int (0 : Int32)), .val (.int (0 : Int32)), .val (.ref zs0), .val (.ref zs1), .val (.ref zs2), .val (.ref za), .val (.ref zo), .val (.int (1 : Int32)), .val (.int (own_hn (0 : Int32) (0 : Int32))), .val (.int (own_hn (0 : Int32) (0 : Int32))), .unset] [(.int (0 : Int32)), (.int (0 : Int32)), (.int (own_hn (0 : Int32) (0 : Int32)))])
      have hc229 : ¬ ((0 : Int32) < (0 : Int32)) := by decide
      refine own_go (fun t k => XS.icmpYes X57.here hx rfl (pc0 := 229) (pc' := 236) rfl (hb hby at_229) rfl (flt hc229).2.1 (by decide) (by decide) k) ?_
      show own_WP _ _ _ _ T57 (mkF m 236 #[.val (.int x0), .val (.int x1), .val (.int x2), .val (.int x3), .val (.int x4), .val (.int (0 : Int32)), .val (.int (0 : Int32)), .val (.ref zs0), .val (.ref zs1), .val (.ref zs2), .val (.ref za), .val (.ref zo), .val (.int (1 : Int32)), .val (.int (own_hn (0 : Int32) (0 : Int32))), .val (.int (own_hn (0 : Int32) (0 : Int32))), .unset] [(.int (own_hn (0 : Int32) (0 : Int32)))])
      refine own_go (fun t k => XS.iconst X57.here hx rfl (hb hby at_236) k) ?_
      show own_WP _ _ _ _ T57 (mkF m 237 #[.val (.int x0), .val (.int x1), .val (.int x2), .val (.int x3), .val (.int x4), .val (.int (0 : Int32)), .val (.int (0 : Int32)), .val (.ref zs0), .val (.ref zs1), .val (.ref zs2), .val (.ref za), .val (.ref zo), .val (.int (1 : Int32)), .val (.int (own_hn (0 : Int32) (0 : Int32))), .val (.int (own_hn (0 : Int32) (0 : Int32))), .unset] [(.int (0 : Int32)), (.int (own_hn (0 : Int32) (0 : Int32)))])
      refine own_go (fun t k => XS.icmpNo X57.here hx rfl (hb hby at_237) rfl (teq hc158).2 k) ?_
      show own_WP _ _ _ _ T57 (mkF m 240 #[.val (.int x0), .val (.int x1), .val (.int x2), .val (.int x3), .val (.int x4), .val (.int (0 : Int32)), .val (.int (0 : Int32)), .val (.ref zs0), .val (.ref zs1), .val (.ref zs2), .val (.ref za), .val (.ref zo), .val (.int (1 : Int32)), .val (.int (own_hn (0 : Int32) (0 : Int32))), .val (.int (own_hn (0 : Int32) (0 : Int32))), .unset] [])
      refine own_go (fun t k => XS.iload X57.here hx rfl (hb hby at_240) rfl  k) ?_
      show own_WP _ _ _ _ T57 (mkF m 242 #[.val (.int x0), .val (.int x1), .val (.int x2), .val (.int x3), .val (.int x4), .val (.int (0 : Int32)), .val (.int (0 : Int32)), .val (.ref zs0), .val (.ref zs1), .val (.ref zs2), .val (.ref za), .val (.ref zo), .val (.int (1 : Int32)), .val (.int (own_hn (0 : Int32) (0 : Int32))), .val (.int (own_hn (0 : Int32) (0 : Int32))), .unset] [(.int (own_hn (0 : Int32) (0 : Int32)))])
      refine own_go (fun t k => XS.iload X57.here hx rfl (hb hby at_242) rfl  k) ?_
      show own_WP _ _ _ _ T57 (mkF m 244 #[.val (.int x0), .val (.int x1), .val (.int x2), .val (.int x3), .val (.int x4), .val (.int (0 : Int32)), .val (.int (0 : Int32)), .val (.ref zs0), .val (.ref zs1), .val (.ref zs2), .val (.ref za), .val (.ref zo), .val (.int (1 : Int32)), .val (.int (own_hn (0 : Int32) (0 : Int32))), .val (.int (own_hn (0 : Int32) (0 : Int32))), .unset] [(.int (own_hn (0 : Int32) (0 : Int32))), (.int (own_hn (0 : Int32) (0 : Int32)))])
      have hc244 : (own_hn (0 : Int32) (0 : Int32)) = (own_hn (0 : Int32) (0 : Int32)) := rfl
      refine own_go (fun t k => XS.icmpNo X57.here hx rfl (hb hby at_244) rfl (teq hc244).2 k) ?_
      show own_WP _ _ _ _ T57 (mkF m 247 #[.val (.int x0), .val (.int x1), .val (.int x2), .val (.int x3), .val (.int x4), .val (.int (0 : Int32)), .val (.int (0 : Int32)), .val (.ref zs0), .val (.ref zs1), .val (.ref zs2), .val (.ref za), .val (.ref zo), .val (.int (1 : Int32)), .val (.int (own_hn (0 : Int32) (0 : Int32))), .val (.int (own_hn (0 : Int32) (0 : Int32))), .unset] [])
      refine own_go (fun t k => XS.iconst X57.here hx rfl (hb hby at_247) k) ?_
      show own_WP _ _ _ _ T57 (mkF m 248 #[.val (.int x0), .val (.int x1), .val (.int x2), .val (.int x3), .val (.int x4), .val (.int (0 : Int32)), .val (.int (0 : Int32)), .val (.ref zs0), .val (.ref zs1), .val (.ref zs2), .val (.ref za), .val (.ref zo), .val (.int (1 : Int32)), .val (.int (own_hn (0 : Int32) (0 : Int32))), .val (.int (own_hn (0 : Int32) (0 : Int32))), .unset] [(.int (1 : Int32))])
      refine own_go (fun t k => XS.goto X57.here hx rfl (pc0 := 248) (pc' := 252) rfl (hb hby at_248) (by decide) (by decide) k) ?_
      show own_WP _ _ _ _ T57 (mkF m 252 #[.val (.int x0), .val (.int x1), .val (.int x2), .val (.int x3), .val (.int x4), .val (.int (0 : Int32)), .val (.int (0 : Int32)), .val (.ref zs0), .val (.ref zs1), .val (.ref zs2), .val (.ref za), .val (.ref zo), .val (.int (1 : Int32)), .val (.int (own_hn (0 : Int32) (0 : Int32))), .val (.int (own_hn (0 : Int32) (0 : Int32))), .unset] [(.int (1 : Int32))])
      refine own_go (fun t k => XS.istore X57.here hx rfl (hb hby at_252) rfl (l' := #[.val (.int x0), .val (.int x1), .val (.int x2), .val (.int x3), .val (.int x4), .val (.int (0 : Int32)), .val (.int (0 : Int32)), .val (.ref zs0), .val (.ref zs1), .val (.ref zs2), .val (.ref za), .val (.ref zo), .val (.int (1 : Int32)), .val (.int (own_hn (0 : Int32) (0 : Int32))), .val (.int (own_hn (0 : Int32) (0 : Int32))), .unset]) rfl k) ?_
      show own_WP _ _ _ _ T57 (mkF m 254 #[.val (.int x0), .val (.int x1), .val (.int x2), .val (.int x3), .val (.int x4), .val (.int (0 : Int32)), .val (.int (0 : Int32)), .val (.ref zs0), .val (.ref zs1), .val (.ref zs2), .val (.ref za), .val (.ref zo), .val (.int (1 : Int32)), .val (.int (own_hn (0 : Int32) (0 : Int32))), .val (.int (own_hn (0 : Int32) (0 : Int32))), .unset] [])
      refine own_go (fun t k => XS.iload X57.here hx rfl (hb hby at_254) rfl  k) ?_
      show own_WP _ _ _ _ T57 (mkF m 256 #[.val (.int x0), .val (.int x1), .val (.int x2), .val (.int x3), .val (.int x4), .val (.int (0 : Int32)), .val (.int (0 : Int32)), .val (.ref zs0), .val (.ref zs1), .val (.ref zs2), .val (.ref za), .val (.ref zo), .val (.int (1 : Int32)), .val (.int (own_hn (0 : Int32) (0 : Int32))), .val (.int (own_hn (0 : Int32) (0 : Int32))), .unset] [(.int (0 : Int32))])
      refine own_go (fun t k => XS.iload X57.here hx rfl (hb hby at_256) rfl  k) ?_
      show own_WP _ _ _ _ T57 (mkF m 258 #[.val (.int x0), .val (.int x1), .val (.int x2), .val (.int x3), .val (.int x4), .val (.int (0 : Int32)), .val (.int (0 : Int32)), .val (.ref zs0), .val (.ref zs1), .val (.ref zs2), .val (.ref za), .val (.ref zo), .val (.int (1 : Int32)), .val (.int (own_hn (0 : Int32) (0 : Int32))), .val (.int (own_hn (0 : Int32) (0 : Int32))), .unset] [(.int (0 : Int32)), (.int (0 : Int32))])
      have hc258 : ¬ ((0 : Int32) < (0 : Int32)) := by decide
      refine own_go (fun t k => XS.icmpYes X57.here hx rfl (pc0 := 258) (pc' := 312) rfl (hb hby at_258) rfl (flt hc258).2.1 (by decide) (by decide) k) ?_
      show own_WP _ _ _ _ T57 (mkF m 312 #[.val (.int x0), .val (.int x1), .val (.int x2), .val (.int x3), .val (.int x4), .val (.int (0 : Int32)), .val (.int (0 : Int32)), .val (.ref zs0), .val (.ref zs1), .val (.ref zs2), .val (.ref za), .val (.ref zo), .val (.int (1 : Int32)), .val (.int (own_hn (0 : Int32) (0 : Int32))), .val (.int (own_hn (0 : Int32) (0 : Int32))), .unset] [])
      refine own_go (fun t k => XS.iload X57.here hx rfl (hb hby at_312) rfl  k) ?_
      show own_WP _ _ _ _ T57 (mkF m 314 #[.val (.int x0), .val (.int x1), .val (.int x2), .val (.int x3), .val (.int x4), .val (.int (0 : Int32)), .val (.int (0 : Int32)), .val (.ref zs0), .val (.ref zs1), .val (.ref zs2), .val (.ref za), .val (.ref zo), .val (.int (1 : Int32)), .val (.int (own_hn (0 : Int32) (0 : Int32))), .val (.int (own_hn (0 : Int32) (0 : Int32))), .unset] [(.int (1 : Int32))])
      refine own_retNW X57 hS31 (by rw [eq57]; exact kz54) hx Bd.notSynchronized (t := .boolean) (by simp) Bd.returns (hb hby at_314) (by decide) (by decide) ?_
      rw [eq57]
      exact ⟨rfl, N57⟩
    · exact absurd hn (by decide)
    · exact absurd hn (by decide)
    · exact absurd hn (by decide)
    · exact absurd hn (by decide)
    · exact absurd hn (by decide)
    · exact absurd hn (by decide)
    · exact absurd hn (by decide)
    · exact absurd hn (by decide)
    · exact absurd hn (by decide)
  · subst hn
    show own_WP _ _ _ _ T10 (mkF m 50 #[.val (.int x0), .val (.int x1), .val (.int x2), .val (.int x3), .val (.int x4), .val (.int (1 : Int32)), .val (.int zk), .val (.ref zs0), .val (.ref zs1), .val (.ref zs2), .unset, .unset, .unset, .unset, .unset, .unset] [])
    refine own_go (fun t k => XS.iload X10.here hx rfl (hb hby at_50) rfl  k) ?_
    show own_WP _ _ _ _ T10 (mkF m 52 #[.val (.int x0), .val (.int x1), .val (.int x2), .val (.int x3), .val (.int x4), .val (.int (1 : Int32)), .val (.int zk), .val (.ref zs0), .val (.ref zs1), .val (.ref zs2), .unset, .unset, .unset, .unset, .unset, .unset] [(.int (1 : Int32))])
    have hc52 : ¬ ((1 : Int32) = (0 : Int32)) := by decide
    refine own_go (fun t k => XS.ifYes X10.here hx rfl (pc0 := 52) (pc' := 64) rfl (hb hby at_52) rfl ((if0 _ _).trans (feq hc52).2) (by decide) (by decide) k) ?_
    show own_WP _ _ _ _ T10 (mkF m 64 #[.val (.int x0), .val (.int x1), .val (.int x2), .val (.int x3), .val (.int x4), .val (.int (1 : Int32)), .val (.int zk), .val (.ref zs0), .val (.ref zs1), .val (.ref zs2), .unset, .unset, .unset, .unset, .unset, .unset] [])
    refine own_go (fun t k => XS.iload X10.here hx rfl (hb hby at_64) rfl  k) ?_
    show own_WP _ _ _ _ T10 (mkF m 66 #[.val (.int x0), .val (.int x1), .val (.int x2), .val (.int x3), .val (.int x4), .val (.int (1 : Int32)), .val (.int zk), .val (.ref zs0), .val (.ref zs1), .val (.ref zs2), .unset, .unset, .unset, .unset, .unset, .unset] [(.int (1 : Int32))])
    refine own_go (fun t k => XS.iconst X10.here hx rfl (hb hby at_66) k) ?_
    show own_WP _ _ _ _ T10 (mkF m 67 #[.val (.int x0), .val (.int x1), .val (.int x2), .val (.int x3), .val (.int x4), .val (.int (1 : Int32)), .val (.int zk), .val (.ref zs0), .val (.ref zs1), .val (.ref zs2), .unset, .unset, .unset, .unset, .unset, .unset] [(.int (1 : Int32)), (.int (1 : Int32))])
    have hc67 : (1 : Int32) = (1 : Int32) := rfl
    refine own_go (fun t k => XS.icmpNo X10.here hx rfl (hb hby at_67) rfl (teq hc67).2 k) ?_
    show own_WP _ _ _ _ T10 (mkF m 70 #[.val (.int x0), .val (.int x1), .val (.int x2), .val (.int x3), .val (.int x4), .val (.int (1 : Int32)), .val (.int zk), .val (.ref zs0), .val (.ref zs1), .val (.ref zs2), .unset, .unset, .unset, .unset, .unset, .unset] [])
    refine own_go (fun t k => XS.iconst X10.here hx rfl (hb hby at_70) k) ?_
    show own_WP _ _ _ _ T10 (mkF m 71 #[.val (.int x0), .val (.int x1), .val (.int x2), .val (.int x3), .val (.int x4), .val (.int (1 : Int32)), .val (.int zk), .val (.ref zs0), .val (.ref zs1), .val (.ref zs2), .unset, .unset, .unset, .unset, .unset, .unset] [(.int (1 : Int32))])
    obtain ⟨T58, h58, k58, X58, e58, E58, A58, G58, O58, st58⟩ := newRE X10 hx hZ hown (hw _ (List.mem_of_getElem? (i := 27) rfl)) (hw _ (List.mem_of_getElem? (i := 28) rfl)) rfl (g := (mkF m 71 #[.val (.int x0), .val (.int x1), .val (.int x2), .val (.int x3), .val (.int x4), .val (.int (1 : Int32)), .val (.int zk), .val (.ref zs0), .val (.ref zs1), .val (.ref zs2), .unset, .unset, .unset, .unset, .unset, .unset] [(.int (1 : Int32))])) rfl (hb hby at_71) rfl (by decide) (cap := 1) (by decide) (by decide) (by decide) (by decide) (ad := "[Ljava/lang/String;") rfl
    obtain ⟨za, q58⟩ : ∃ z, z = T10.heap.size := ⟨_, rfl⟩
    rw [← q58] at A58 G58 st58
    refine own_go st58 ?_
    have g_za : n0 ≤ za := Nat.le_trans (own_le Z0 K15) (Nat.le_of_eq q58.symm)
    have sz_za : h0.size ≤ za := Nat.le_trans K15.1 (Nat.le_of_eq q58.symm)
    have ne_zs0_za : zs0 ≠ za := Nat.ne_of_lt (Nat.lt_of_lt_of_le f13.lt (Nat.le_of_eq q58.symm))
    have ne_zs1_za : zs1 ≠ za := Nat.ne_of_lt (Nat.lt_of_lt_of_le f14.lt (Nat.le_of_eq q58.symm))
    have ne_zs2_za : zs2 ≠ za := Nat.ne_of_lt (Nat.lt_of_lt_of_le f11.lt (Nat.le_of_eq q58.symm))
    have f59 : Exa Z h58 zs0 "java/lang/String" := f13.ext E58
    have f60 : Exa Z h58 zs1 "java/lang/String" := f14.ext E58
    have f61 : Exa Z h58 zs2 "java/lang/String" := f11.ext E58
    have K62 : Keep h0 h58 [] := K15.ext E58
    have f63 : Arv Z h58 za k58 (.object "java/lang/String") (1 : Int32) [.null] .null := (Arv.new A58 (by decide)).pad (pad_rep [] .null 1)
    show own_WP _ _ _ _ T58 (mkF m 74 #[.val (.int x0), .val (.int x1), .val (.int x2), .val (.int x3), .val (.int x4), .val (.int (1 : Int32)), .val (.int zk), .val (.ref zs0), .val (.ref zs1), .val (.ref zs2), .unset, .unset, .unset, .unset, .unset, .unset] [(.ref za)])
    refine own_go (fun t k => XS.dup X58.here hx rfl (hb hby at_74) rfl rfl k) ?_
    show own_WP _ _ _ _ T58 (mkF m 75 #[.val (.int x0), .val (.int x1), .val (.int x2), .val (.int x3), .val (.int x4), .val (.int (1 : Int32)), .val (.int zk), .val (.ref zs0), .val (.ref zs1), .val (.ref zs2), .unset, .unset, .unset, .unset, .unset, .unset] [(.ref za), (.ref za)])
    refine own_go (fun t k => XS.iconst X58.here hx rfl (hb hby at_75) k) ?_
    show own_WP _ _ _ _ T58 (mkF m 76 #[.val (.int x0), .val (.int x1), .val (.int x2), .val (.int x3), .val (.int x4), .val (.int (1 : Int32)), .val (.int zk), .val (.ref zs0), .val (.ref zs1), .val (.ref zs2), .unset, .unset, .unset, .unset, .unset, .unset] [(.int (0 : Int32)), (.ref za), (.ref za)])
    refine own_go (fun t k => XS.aload X58.here hx rfl (hb hby at_76) rfl rfl  k) ?_
    show own_WP _ _ _ _ T58 (mkF m 78 #[.val (.int x0), .val (.int x1), .val (.int x2), .val (.int x3), .val (.int x4), .val (.int (1 : Int32)), .val (.int zk), .val (.ref zs0), .val (.ref zs1), .val (.ref zs2), .unset, .unset, .unset, .unset, .unset, .unset] [(.ref zs0), (.int (0 : Int32)), (.ref za), (.ref za)])
    refine own_stR X58 hx hZ e58 f63 O58 (Ins.self f59) (j := (0 : Int32)) ⟨by decide, by decide⟩ (i := 0) rfl (Nat.le_of_ble_eq_true rfl) (hb hby at_78) ?_
    intro T64 h64 X64 e64 W64 V64
    have f65 : Arv Z h64 za k58 (.object "java/lang/String") (1 : Int32) [(.ref zs0)] .null := V64
    have f66 : Exa Z h64 zs0 "java/lang/String" := f59.wr W64
    have f67 : Exa Z h64 zs1 "java/lang/String" := f60.wr W64
    have f68 : Exa Z h64 zs2 "java/lang/String" := f61.wr W64
    have K70 : Keep h0 h64 [] := K62.wr W64 (Or.inr sz_za)
    have N71 := Fr.snoc X64 N10 g_za
    show own_WP _ _ _ _ T64 (mkF m 79 #[.val (.int x0), .val (.int x1), .val (.int x2), .val (.int x3), .val (.int x4), .val (.int (1 : Int32)), .val (.int zk), .val (.ref zs0), .val (.ref zs1), .val (.ref zs2), .unset, .unset, .unset, .unset, .unset, .unset] [(.ref za)])
    refine own_go (fun t k => XS.astore X64.here hx rfl (hb hby at_79) rfl rfl (l' := #[.val (.int x0), .val (.int x1), .val (.int x2), .val (.int x3), .val (.int x4), .val (.int (1 : Int32)), .val (.int zk), .val (.ref zs0), .val (.ref zs1), .val (.ref zs2), .val (.ref za), .unset, .unset, .unset, .unset, .unset]) rfl k) ?_
    show own_WP _ _ _ _ T64 (mkF m 81 #[.val (.int x0), .val (.int x1), .val (.int x2), .val (.int x3), .val (.int x4), .val (.int (1 : Int32)), .val (.int zk), .val (.ref zs0), .val (.ref zs1), .val (.ref zs2), .val (.ref za), .unset, .unset, .unset, .unset, .unset] [])
    refine own_go (fun t k => XS.goto X64.here hx rfl (pc0 := 81) (pc' := 130) rfl (hb hby at_81) (by decide) (by decide) k) ?_
    show own_WP _ _ _ _ T64 (mkF m 130 #[.val (.int x0), .val (.int x1), .val (.int x2), .val (.int x3), .val (.int x4), .val (.int (1 : Int32)), .val (.int zk), .val (.ref zs0), .val (.ref zs1), .val (.ref zs2), .val (.ref za), .unset, .unset, .unset, .unset, .unset] [])
    obtain ⟨T72, h72, X72, e72, E72, A72, D72, -, st72⟩ := newO X64 hx hZ hown (hw _ (List.mem_of_getElem? (i := 29) rfl)) (hw _ (List.mem_of_getElem? (i := 30) rfl)) (hw _ (List.mem_of_getElem? (i := 31) rfl)) e64 (g := (mkF m 130 #[.val (.int x0), .val (.int x1), .val (.int x2), .val (.int x3), .val (.int x4), .val (.int (1 : Int32)), .val (.int zk), .val (.ref zs0), .val (.ref zs1), .val (.ref zs2), .val (.ref za), .unset, .unset, .unset, .unset, .unset] [])) rfl (hb hby at_130) (by decide) (by decide)
    obtain ⟨zo, q72⟩ : ∃ z, z = h64.size := ⟨_, rfl⟩
    rw [← q72] at A72 D72 st72
    refine own_go st72 ?_
    have g_zo : n0 ≤ zo := Nat.le_trans (own_le Z0 K70) (Nat.le_of_eq q72.symm)
    have sz_zo : h0.size ≤ zo := Nat.le_trans K70.1 (Nat.le_of_eq q72.symm)
    have ne_zs0_zo : zs0 ≠ zo := Nat.ne_of_lt (Nat.lt_of_lt_of_le f66.lt (Nat.le_of_eq q72.symm))
    have ne_zs1_zo : zs1 ≠ zo := Nat.ne_of_lt (Nat.lt_of_lt_of_le f67.lt (Nat.le_of_eq q72.symm))
    have ne_zs2_zo : zs2 ≠ zo := Nat.ne_of_lt (Nat.lt_of_lt_of_le f68.lt (Nat.le_of_eq q72.symm))
    have ne_za_zo : za ≠ zo := Nat.ne_of_lt (Nat.lt_of_lt_of_le f65.lt (Nat.le_of_eq q72.symm))
    have f73 : Exa Z h72 zs0 "java/lang/String" := f66.ext E72
    have f74 : Exa Z h72 zs1 "java/lang/String" := f67.ext E72
    have f75 : Exa Z h72 zs2 "java/lang/String" := f68.ext E72
    have f76 : Arv Z h72 za k58 (.object "java/lang/String") (1 : Int32) [(.ref zs0)] .null := f65.ext E72
    have K77 : Keep h0 h72 [] := K70.ext E72
    have f78 : Fld Z h72 zo "branchwork/Arguments" "command" "Ljava/lang/String;" .null := D72 (Or.inr (hw _ (List.mem_of_getElem? (i := 40) rfl))) (ty := (.object "java/lang/String")) (by decide)
    have f79 : Fld Z h72 zo "branchwork/Arguments" "args" "[Ljava/lang/String;" .null := D72 (Or.inr (hw _ (List.mem_of_getElem? (i := 42) rfl))) (ty := (.array (.object "java/lang/String"))) (by decide)
    have f80 : Fld Z h72 zo "branchwork/Arguments" "next" "I" (.int (0 : Int32)) := D72 (Or.inl (hw _ (List.mem_of_getElem? (i := 49) rfl))) (ty := .int) (by decide)
    show own_WP _ _ _ _ T72 (mkF m 133 #[.val (.int x0), .val (.int x1), .val (.int x2), .val (.int x3), .val (.int x4), .val (.int (1 : Int32)), .val (.int zk), .val (.ref zs0), .val (.ref zs1), .val (.ref zs2), .val (.ref za), .unset, .unset, .unset, .unset, .unset] [(.ref zo)])
    refine own_go (fun t k => XS.dup X72.here hx rfl (hb hby at_133) rfl rfl k) ?_
    show own_WP _ _ _ _ T72 (mkF m 134 #[.val (.int x0), .val (.int x1), .val (.int x2), .val (.int x3), .val (.int x4), .val (.int (1 : Int32)), .val (.int zk), .val (.ref zs0), .val (.ref zs1), .val (.ref zs2), .val (.ref za), .unset, .unset, .unset, .unset, .unset] [(.ref zo), (.ref zo)])
    obtain ⟨zt, T81, h81, k81, X81, e81, E81, hS81, hk81, hZ, hown, st81⟩ := ldcS (show Stand p l e room_1 (s.setVm s.vm) m #[(.int x0), (.int x1), (.int x2), (.int x3), (.int x4)] below meth c T72 _ _ _ from X72) hx hZ hown (hw _ (List.mem_of_getElem? (i := 32) rfl)) (own_sa hw) e72 ((State.WarmedH.refl s).since 0) (Nat.zero_le _) (g := (mkF m 134 #[.val (.int x0), .val (.int x1), .val (.int x2), .val (.int x3), .val (.int x4), .val (.int (1 : Int32)), .val (.int zk), .val (.ref zs0), .val (.ref zs1), .val (.ref zs2), .val (.ref za), .unset, .unset, .unset, .unset, .unset] [(.ref zo), (.ref zo)])) rfl (hb hby at_134) (n := 12) (by decide) (by decide) (by decide) (by decide)
    refine own_go st81 ?_
    have f82 : Exa Z h81 zs0 "java/lang/String" := f73.ext E81
    have f83 : Exa Z h81 zs1 "java/lang/String" := f74.ext E81
    have f84 : Exa Z h81 zs2 "java/lang/String" := f75.ext E81
    have f85 : Arv Z h81 za k58 (.object "java/lang/String") (1 : Int32) [(.ref zs0)] .null := f76.ext E81
    have f86 : Exa Z h81 zo "branchwork/Arguments" := A72.ext E81
    have f87 : Fld Z h81 zo "branchwork/Arguments" "command" "Ljava/lang/String;" .null := f78.ext E81
    have f88 : Fld Z h81 zo "branchwork/Arguments" "args" "[Ljava/lang/String;" .null := f79.ext E81
    have f89 : Fld Z h81 zo "branchwork/Arguments" "next" "I" (.int (0 : Int32)) := f80.ext E81
    have K90 : Keep h0 h81 [] := K77.ext E81
    show own_WP _ _ _ _ T81 (mkF m 136 #[.val (.int x0), .val (.int x1), .val (.int x2), .val (.int x3), .val (.int x4), .val (.int (1 : Int32)), .val (.int zk), .val (.ref zs0), .val (.ref zs1), .val (.ref zs2), .val (.ref za), .unset, .unset, .unset, .unset, .unset] [(.ref zt), (.ref zo), (.ref zo)])
    refine own_go (fun t k => XS.aload X81.here hx rfl (hb hby at_136) rfl rfl  k) ?_
    show own_WP _ _ _ _ T81 (mkF m 138 #[.val (.int x0), .val (.int x1), .val (.int x2), .val (.int x3), .val (.int x4), .val (.int (1 : Int32)), .val (.int zk), .val (.ref zs0), .val (.ref zs1), .val (.ref zs2), .val (.ref za), .unset, .unset, .unset, .unset, .unset] [(.ref za), (.ref zt), (.ref zo), (.ref zo)])
    obtain ⟨_, _, ⟨T91, L91, k91, n91⟩, -, X91, ⟨Lc91, hQ91, l91, y91, z91⟩, st91⟩ := X81.specialBack hx (y := (⟨"branchwork/Arguments", "<init>", "(Ljava/lang/String;[Ljava/lang/String;)V"⟩ : MethodName)) rfl hown (mvT hZ (hw _ (List.mem_of_getElem? (i := 35) rfl))) (mvT hZ (hw _ (List.mem_of_getElem? (i := 36) rfl))) (mvT hZ (hw _ (List.mem_of_getElem? (i := 37) rfl))) (by decide) (backOf (W := 1) (rm6 l Z a0 hw [] zo zt za .null .null (.int (0 : Int32)) h81 n0 (own_le Z0 K90) f86 f87 f88 f89 g_zo) hZ (hw _ (List.mem_of_getElem? (i := 37) rfl)) (hw _ (List.mem_of_getElem? (i := 31) rfl)) (by decide) (by decide)) (g := (mkF m 138 #[.val (.int x0), .val (.int x1), .val (.int x2), .val (.int x3), .val (.int x4), .val (.int (1 : Int32)), .val (.int zk), .val (.ref zs0), .val (.ref zs1), .val (.ref zs2), .val (.ref za), .unset, .unset, .unset, .unset, .unset] [(.ref za), (.ref zt), (.ref zo), (.ref zo)])) rfl (by rw [hml]; rfl) (Steps.refl _) (a := zo) (argsL := [(.ref zt), (.ref za)]) (rest := [(.ref zo)]) (lenOf own_pd94204 rfl) rfl (by show 2 * 0 + _ ≤ _; exact Nat.le_of_eq rfl) (hb hby at_138) (fun _ _ => ⟨rfl, e81, (by decide : 10 + 0 ≤ _), (by decide : 35 + 0 ≤ _)⟩)
    dsimp only [Pt.U, Pt.locs, Pt.cells, Pt.slots] at X91 l91 y91 z91 st91 hQ91
    subst l91 y91 z91
    obtain ⟨rfl, N91q, Kc91, f92, f93, f94⟩ := hQ91
    have N91 := Fr.app N71 N91q
    refine own_tr st91 ?_
    have f95 : Exa Z T91.heap zs0 "java/lang/String" := f82.keep Kc91
    have f96 : Exa Z T91.heap zs1 "java/lang/String" := f83.keep Kc91
    have f97 : Exa Z T91.heap zs2 "java/lang/String" := f84.keep Kc91
    have f98 : Arv Z T91.heap za k58 (.object "java/lang/String") (1 : Int32) [(.ref zs0)] .null := f85.keep Kc91 (own_nm ne_za_zo)
    have f99 : Exa Z T91.heap zo "branchwork/Arguments" := f86.keep Kc91
    have K103 : Keep h0 T91.heap [] := K90.trans Kc91 (fun x hx => by cases List.mem_singleton.mp hx; exact Or.inr sz_zo)
    have kz104 : k81 ≤ T91.heap.size := Nat.le_trans hk81 Kc91.1
    show own_WP _ _ _ _ T91 (mkF m 141 #[.val (.int x0), .val (.int x1), .val (.int x2), .val (.int x3), .val (.int x4), .val (.int (1 : Int32)), .val (.int zk), .val (.ref zs0), .val (.ref zs1), .val (.ref zs2), .val (.ref za), .unset, .unset, .unset, .unset, .unset] [(.ref zo)])
    refine own_go (fun t k => XS.astore X91.here hx rfl (hb hby at_141) rfl rfl (l' := #[.val (.int x0), .val (.int x1), .val (.int x2), .val (.int x3), .val (.int x4), .val (.int (1 : Int32)), .val (.int zk), .val (.ref zs0), .val (.ref zs1), .val (.ref zs2), .val (.ref za), .val (.ref zo), .unset, .unset, .unset, .unset]) rfl k) ?_
    show own_WP _ _ _ _ T91 (mkF m 143 #[.val (.int x0), .val (.int x1), .val (.int x2), .val (.int x3), .val (.int x4), .val (.int (1 : Int32)), .val (.int zk), .val (.ref zs0), .val (.ref zs1), .val (.ref zs2), .val (.ref za), .val (.ref zo), .unset, .unset, .unset, .unset] [])
    refine own_go (fun t k => XS.aload X91.here hx rfl (hb hby at_143) rfl rfl  k) ?_
    show own_WP _ _ _ _ T91 (mkF m 145 #[.val (.int x0), .val (.int x1), .val (.int x2), .val (.int x3), .val (.int x4), .val (.int (1 : Int32)), .val (.int zk), .val (.ref zs0), .val (.ref zs1), .val (.ref zs2), .val (.ref za), .val (.ref zo), .unset, .unset, .unset, .unset] [(.ref zo)])
    obtain ⟨cq105, kq105, q105a, q105b, q105c⟩ := isOf hZ rfl f92
    obtain ⟨_, _, ⟨T105, L105, k105, n105⟩, -, X105, ⟨Lc105, hQ105, l105, y105, z105⟩, st105⟩ := X91.virtualBack hx (y := (⟨"branchwork/Arguments", "hasNext", "()Z"⟩ : MethodName)) (z := (⟨"branchwork/Arguments", "hasNext", "()Z"⟩ : MethodName)) hown (mvT hZ (hw _ (List.mem_of_getElem? (i := 43) rfl))) (mvT hZ (hw _ (List.mem_of_getElem? (i := 44) rfl))) (notFace_of_selects (args := #[]) (mvT hZ (hw _ (List.mem_of_getElem? (i := 46) rfl)))) (mvT hZ (hw _ (List.mem_of_getElem? (i := 46) rfl))) (mvT hZ (hw _ (List.mem_of_getElem? (i := 45) rfl))) (by decide) (backOf (W := 0) (rm7 l Z a0 hw [] zo za k58 (1 : Int32) [(.ref zs0)] (0 : Int32) T91.heap n0 (own_le Z0 K103) f93 f94 f98) hZ (hw _ (List.mem_of_getElem? (i := 47) rfl)) (hw _ (List.mem_of_getElem? (i := 31) rfl)) (by decide) (by decide)) q105a q105c (g := (mkF m 145 #[.val (.int x0), .val (.int x1), .val (.int x2), .val (.int x3), .val (.int x4), .val (.int (1 : Int32)), .val (.int zk), .val (.ref zs0), .val (.ref zs1), .val (.ref zs2), .val (.ref za), .val (.ref zo), .unset, .unset, .unset, .unset] [(.ref zo)])) rfl (by rw [hml]; rfl) (Steps.refl _) (argsL := []) (rest := []) (lenOf own_pd91901 rfl) rfl (by show 2 * 0 + _ ≤ _; exact Nat.le_of_eq rfl) (hb hby at_145) (fun _ _ => ⟨rfl, rfl, (by decide : 10 + 0 ≤ _), (by decide : 35 + 0 ≤ _)⟩)
    dsimp only [Pt.U, Pt.locs, Pt.cells, Pt.slots] at X105 l105 y105 z105 st105 hQ105
    subst l105 y105 z105
    obtain ⟨rfl, N105q, eq105⟩ := hQ105
    have N105 := Fr.app N91 N105q
    refine own_tr st105 ?_
    show own_WP _ _ _ _ T105 (mkF m 148 #[.val (.int x0), .val (.int x1), .val (.int x2), .val (.int x3), .val (.int x4), .val (.int (1 : Int32)), .val (.int zk), .val (.ref zs0), .val (.ref zs1), .val (.ref zs2), .val (.ref za), .val (.ref zo), .unset, .unset, .unset, .unset] [(.int (own_hn (0 : Int32) (1 : Int32)))])
    refine own_go (fun t k => XS.iload X105.here hx rfl (hb hby at_148) rfl  k) ?_
    show own_WP _ _ _ _ T105 (mkF m 150 #[.val (.int x0), .val (.int x1), .val (.int x2), .val (.int x3), .val (.int x4), .val (.int (1 : Int32)), .val (.int zk), .val (.ref zs0), .val (.ref zs1), .val (.ref zs2), .val (.ref za), .val (.ref zo), .unset, .unset, .unset, .unset] [(.int (1 : Int32)), (.int (own_hn (0 : Int32) (1 : Int32)))])
    have hc150 : (0 : Int32) < (1 : Int32) := by decide
    refine own_go (fun t k => XS.ifNo X105.here hx rfl (hb hby at_150) rfl ((if0 _ _).trans (tlt hc150).2.2.2) k) ?_
    show own_WP _ _ _ _ T105 (mkF m 153 #[.val (.int x0), .val (.int x1), .val (.int x2), .val (.int x3), .val (.int x4), .val (.int (1 : Int32)), .val (.int zk), .val (.ref zs0), .val (.ref zs1), .val (.ref zs2), .val (.ref za), .val (.ref zo), .unset, .unset, .unset, .unset] [(.int (own_hn (0 : Int32) (1 : Int32)))])
    refine own_go (fun t k => XS.iconst X105.here hx rfl (hb hby at_153) k) ?_
    show own_WP _ _ _ _ T105 (mkF m 154 #[.val (.int x0), .val (.int x1), .val (.int x2), .val (.int x3), .val (.int x4), .val (.int (1 : Int32)), .val (.int zk), .val (.ref zs0), .val (.ref zs1), .val (.ref zs2), .val (.ref za), .val (.ref zo), .unset, .unset, .unset, .unset] [(.int (1 : Int32)), (.int (own_hn (0 : Int32) (1 : Int32)))])
    refine own_go (fun t k => XS.goto X105.here hx rfl (pc0 := 154) (pc' := 158) rfl (hb hby at_154) (by decide) (by decide) k) ?_
    show own_WP _ _ _ _ T105 (mkF m 158 #[.val (.int x0), .val (.int x1), .val (.int x2), .val (.int x3), .val (.int x4), .val (.int (1 : Int32)), .val (.int zk), .val (.ref zs0), .val (.ref zs1), .val (.ref zs2), .val (.ref za), .val (.ref zo), .unset, .unset, .unset, .unset] [(.int (1 : Int32)), (.int (own_hn (0 : Int32) (1 : Int32)))])
    have hc158 : (own_hn (0 : Int32) (1 : Int32)) = (1 : Int32) := by
      decide
    refine own_go (fun t k => XS.icmpNo X105.here hx rfl (hb hby at_158) rfl (teq hc158).2 k) ?_
    show own_WP _ _ _ _ T105 (mkF m 161 #[.val (.int x0), .val (.int x1), .val (.int x2), .val (.int x3), .val (.int x4), .val (.int (1 : Int32)), .val (.int zk), .val (.ref zs0), .val (.ref zs1), .val (.ref zs2), .val (.ref za), .val (.ref zo), .unset, .unset, .unset, .unset] [])
    refine own_go (fun t k => XS.iconst X105.here hx rfl (hb hby at_161) k) ?_
    show own_WP _ _ _ _ T105 (mkF m 162 #[.val (.int x0), .val (.int x1), .val (.int x2), .val (.int x3), .val (.int x4), .val (.int (1 : Int32)), .val (.int zk), .val (.ref zs0), .val (.ref zs1), .val (.ref zs2), .val (.ref za), .val (.ref zo), .unset, .unset, .unset, .unset] [(.int (1 : Int32))])
    refine own_go (fun t k => XS.goto X105.here hx rfl (pc0 := 162) (pc' := 166) rfl (hb hby at_162) (by decide) (by decide) k) ?_
    show own_WP _ _ _ _ T105 (mkF m 166 #[.val (.int x0), .val (.int x1), .val (.int x2), .val (.int x3), .val (.int x4), .val (.int (1 : Int32)), .val (.int zk), .val (.ref zs0), .val (.ref zs1), .val (.ref zs2), .val (.ref za), .val (.ref zo), .unset, .unset, .unset, .unset] [(.int (1 : Int32))])
    refine own_go (fun t k => XS.istore X105.here hx rfl (hb hby at_166) rfl (l' := #[.val (.int x0), .val (.int x1), .val (.int x2), .val (.int x3), .val (.int x4), .val (.int (1 : Int32)), .val (.int zk), .val (.ref zs0), .val (.ref zs1), .val (.ref zs2), .val (.ref za), .val (.ref zo), .val (.int (1 : Int32)), .unset, .unset, .unset]) rfl k) ?_
    rcases own_nk d_zn d_zk with ⟨hn, hk⟩ | ⟨hn, hk⟩ | ⟨hn, hk⟩ | ⟨hn, hk⟩ | ⟨hn, hk⟩ | ⟨hn, hk⟩ | ⟨hn, hk⟩ | ⟨hn, hk⟩ | ⟨hn, hk⟩ | ⟨hn, hk⟩
    · exact absurd hn (by decide)
    · subst hk
      show own_WP _ _ _ _ T105 (mkF m 168 #[.val (.int x0), .val (.int x1), .val (.int x2), .val (.int x3), .val (.int x4), .val (.int (1 : Int32)), .val (.int (0 : Int32)), .val (.ref zs0), .val (.ref zs1), .val (.ref zs2), .val (.ref za), .val (.ref zo), .val (.int (1 : Int32)), .unset, .unset, .unset] [])
      refine own_go (fun t k => XS.iload X105.here hx rfl (hb hby at_168) rfl  k) ?_
      show own_WP _ _ _ _ T105 (mkF m 170 #[.val (.int x0), .val (.int x1), .val (.int x2), .val (.int x3), .val (.int x4), .val (.int (1 : Int32)), .val (.int (0 : Int32)), .val (.ref zs0), .val (.ref zs1), .val (.ref zs2), .val (.ref za), .val (.ref zo), .val (.int (1 : Int32)), .unset, .unset, .unset] [(.int (0 : Int32))])
      refine own_go (fun t k => XS.iconst X105.here hx rfl (hb hby at_170) k) ?_
      show own_WP _ _ _ _ T105 (mkF m 171 #[.val (.int x0), .val (.int x1), .val (.int x2), .val (.int x3), .val (.int x4), .val (.int (1 : Int32)), .val (.int (0 : Int32)), .val (.ref zs0), .val (.ref zs1), .val (.ref zs2), .val (.ref za), .val (.ref zo), .val (.int (1 : Int32)), .unset, .unset, .unset] [(.int (1 : Int32)), (.int (0 : Int32))])
      have hc171 : (0 : Int32) < (1 : Int32) := by decide
      refine own_go (fun t k => XS.icmpYes X105.here hx rfl (pc0 := 171) (pc' := 180) rfl (hb hby at_171) rfl (tlt hc171).1 (by decide) (by decide) k) ?_
      show own_WP _ _ _ _ T105 (mkF m 180 #[.val (.int x0), .val (.int x1), .val (.int x2), .val (.int x3), .val (.int x4), .val (.int (1 : Int32)), .val (.int (0 : Int32)), .val (.ref zs0), .val (.ref zs1), .val (.ref zs2), .val (.ref za), .val (.ref zo), .val (.int (1 : Int32)), .unset, .unset, .unset] [])
      refine own_go (fun t k => XS.iload X105.here hx rfl (hb hby at_180) rfl  k) ?_
      show own_WP _ _ _ _ T105 (mkF m 182 #[.val (.int x0), .val (.int x1), .val (.int x2), .val (.int x3), .val (.int x4), .val (.int (1 : Int32)), .val (.int (0 : Int32)), .val (.ref zs0), .val (.ref zs1), .val (.ref zs2), .val (.ref za), .val (.ref zo), .val (.int (1 : Int32)), .unset, .unset, .unset] [(.int (0 : Int32))])
      refine own_go (fun t k => XS.iconst X105.here hx rfl (hb hby at_182) k) ?_
      show own_WP _ _ _ _ T105 (mkF m 183 #[.val (.int x0), .val (.int x1), .val (.int x2), .val (.int x3), .val (.int x4), .val (.int (1 : Int32)), .val (.int (0 : Int32)), .val (.ref zs0), .val (.ref zs1), .val (.ref zs2), .val (.ref za), .val (.ref zo), .val (.int (1 : Int32)), .unset, .unset, .unset] [(.int (2 : Int32)), (.int (0 : Int32))])
      have hc183 : (0 : Int32) < (2 : Int32) := by decide
      refine own_go (fun t k => XS.icmpYes X105.here hx rfl (pc0 := 183) (pc' := 192) rfl (hb hby at_183) rfl (tlt hc183).1 (by decide) (by decide) k) ?_
      show own_WP _ _ _ _ T105 (mkF m 192 #[.val (.int x0), .val (.int x1), .val (.int x2), .val (.int x3), .val (.int x4), .val (.int (1 : Int32)), .val (.int (0 : Int32)), .val (.ref zs0), .val (.ref zs1), .val (.ref zs2), .val (.ref za), .val (.ref zo), .val (.int (1 : Int32)), .unset, .unset, .unset] [])
      refine own_go (fun t k => XS.iload X105.here hx rfl (hb hby at_192) rfl  k) ?_
      show own_WP _ _ _ _ T105 (mkF m 194 #[.val (.int x0), .val (.int x1), .val (.int x2), .val (.int x3), .val (.int x4), .val (.int (1 : Int32)), .val (.int (0 : Int32)), .val (.ref zs0), .val (.ref zs1), .val (.ref zs2), .val (.ref za), .val (.ref zo), .val (.int (1 : Int32)), .unset, .unset, .unset] [(.int (0 : Int32))])
      refine own_go (fun t k => XS.iconst X105.here hx rfl (hb hby at_194) k) ?_
      show own_WP _ _ _ _ T105 (mkF m 195 #[.val (.int x0), .val (.int x1), .val (.int x2), .val (.int x3), .val (.int x4), .val (.int (1 : Int32)), .val (.int (0 : Int32)), .val (.ref zs0), .val (.ref zs1), .val (.ref zs2), .val (.ref za), .val (.ref zo), .val (.int (1 : Int32)), .unset, .unset, .unset] [(.int (3 : Int32)), (.int (0 : Int32))])
      have hc195 : (0 : Int32) < (3 : Int32) := by decide
      refine own_go (fun t k => XS.icmpYes X105.here hx rfl (pc0 := 195) (pc' := 204) rfl (hb hby at_195) rfl (tlt hc195).1 (by decide) (by decide) k) ?_
      show own_WP _ _ _ _ T105 (mkF m 204 #[.val (.int x0), .val (.int x1), .val (.int x2), .val (.int x3), .val (.int x4), .val (.int (1 : Int32)), .val (.int (0 : Int32)), .val (.ref zs0), .val (.ref zs1), .val (.ref zs2), .val (.ref za), .val (.ref zo), .val (.int (1 : Int32)), .unset, .unset, .unset] [])
      refine own_go (fun t k => XS.aload X105.here hx rfl (hb hby at_204) rfl rfl  k) ?_
      show own_WP _ _ _ _ T105 (mkF m 206 #[.val (.int x0), .val (.int x1), .val (.int x2), .val (.int x3), .val (.int x4), .val (.int (1 : Int32)), .val (.int (0 : Int32)), .val (.ref zs0), .val (.ref zs1), .val (.ref zs2), .val (.ref za), .val (.ref zo), .val (.int (1 : Int32)), .unset, .unset, .unset] [(.ref zo)])
      obtain ⟨cq106, kq106, q106a, q106b, q106c⟩ := isOf hZ eq105 f92
      obtain ⟨_, _, ⟨T106, L106, k106, n106⟩, -, X106, ⟨Lc106, hQ106, l106, y106, z106⟩, st106⟩ := X105.virtualBack hx (y := (⟨"branchwork/Arguments", "hasNext", "()Z"⟩ : MethodName)) (z := (⟨"branchwork/Arguments", "hasNext", "()Z"⟩ : MethodName)) hown (mvT hZ (hw _ (List.mem_of_getElem? (i := 43) rfl))) (mvT hZ (hw _ (List.mem_of_getElem? (i := 44) rfl))) (notFace_of_selects (args := #[]) (mvT hZ (hw _ (List.mem_of_getElem? (i := 46) rfl)))) (mvT hZ (hw _ (List.mem_of_getElem? (i := 46) rfl))) (mvT hZ (hw _ (List.mem_of_getElem? (i := 45) rfl))) (by decide) (backOf (W := 0) (rm7 l Z a0 hw [] zo za k58 (1 : Int32) [(.ref zs0)] (0 : Int32) T91.heap n0 (own_le Z0 K103) f93 f94 f98) hZ (hw _ (List.mem_of_getElem? (i := 47) rfl)) (hw _ (List.mem_of_getElem? (i := 31) rfl)) (by decide) (by decide)) q106a q106c (g := (mkF m 206 #[.val (.int x0), .val (.int x1), .val (.int x2), .val (.int x3), .val (.int x4), .val (.int (1 : Int32)), .val (.int (0 : Int32)), .val (.ref zs0), .val (.ref zs1), .val (.ref zs2), .val (.ref za), .val (.ref zo), .val (.int (1 : Int32)), .unset, .unset, .unset] [(.ref zo)])) rfl (by rw [hml]; rfl) (Steps.refl _) (argsL := []) (rest := []) (lenOf own_pd91901 rfl) rfl (by show 2 * 0 + _ ≤ _; exact Nat.le_of_eq rfl) (hb hby at_206) (fun _ _ => ⟨rfl, eq105, (by decide : 10 + 0 ≤ _), (by decide : 35 + 0 ≤ _)⟩)
      dsimp only [Pt.U, Pt.locs, Pt.cells, Pt.slots] at X106 l106 y106 z106 st106 hQ106
      subst l106 y106 z106
      obtain ⟨rfl, N106q, eq106⟩ := hQ106
      have N106 := Fr.app N105 N106q
      refine own_tr st106 ?_
      show own_WP _ _ _ _ T106 (mkF m 209 #[.val (.int x0), .val (.int x1), .val (.int x2), .val (.int x3), .val (.int x4), .val (.int (1 : Int32)), .val (.int (0 : Int32)), .val (.ref zs0), .val (.ref zs1), .val (.ref zs2), .val (.ref za), .val (.ref zo), .val (.int (1 : Int32)), .unset, .unset, .unset] [(.int (own_hn (0 : Int32) (1 : Int32)))])
      refine own_go (fun t k => XS.istore X106.here hx rfl (hb hby at_209) rfl (l' := #[.val (.int x0), .val (.int x1), .val (.int x2), .val (.int x3), .val (.int x4), .val (.int (1 : Int32)), .val (.int (0 : Int32)), .val (.ref zs0), .val (.ref zs1), .val (.ref zs2), .val (.ref za), .val (.ref zo), .val (.int (1 : Int32)), .val (.int (own_hn (0 : Int32) (1 : Int32))), .unset, .unset]) rfl k) ?_
      show own_WP _ _ _ _ T106 (mkF m 211 #[.val (.int x0), .val (.int x1), .val (.int x2), .val (.int x3), .val (.int x4), .val (.int (1 : Int32)), .val (.int (0 : Int32)), .val (.ref zs0), .val (.ref zs1), .val (.ref zs2), .val (.ref za), .val (.ref zo), .val (.int (1 : Int32)), .val (.int (own_hn (0 : Int32) (1 : Int32))), .unset, .unset] [])
      refine own_go (fun t k => XS.aload X106.here hx rfl (hb hby at_211) rfl rfl  k) ?_
      show own_WP _ _ _ _ T106 (mkF m 213 #[.val (.int x0), .val (.int x1), .val (.int x2), .val (.int x3), .val (.int x4), .val (.int (1 : Int32)), .val (.int (0 : Int32)), .val (.ref zs0), .val (.ref zs1), .val (.ref zs2), .val (.ref za), .val (.ref zo), .val (.int (1 : Int32)), .val (.int (own_hn (0 : Int32) (1 : Int32))), .unset, .unset] [(.ref zo)])
      obtain ⟨cq107, kq107, q107a, q107b, q107c⟩ := isOf hZ eq106 f92
      obtain ⟨_, _, ⟨T107, L107, k107, n107⟩, -, X107, ⟨Lc107, hQ107, l107, y107, z107⟩, st107⟩ := X106.virtualBack hx (y := (⟨"branchwork/Arguments", "hasNext", "()Z"⟩ : MethodName)) (z := (⟨"branchwork/Arguments", "hasNext", "()Z"⟩ : MethodName)) hown (mvT hZ (hw _ (List.mem_of_getElem? (i := 43) rfl))) (mvT hZ (hw _ (List.mem_of_getElem? (i := 44) rfl))) (notFace_of_selects (args := #[]) (mvT hZ (hw _ (List.mem_of_getElem? (i := 46) rfl)))) (mvT hZ (hw _ (List.mem_of_getElem? (i := 46) rfl))) (mvT hZ (hw _ (List.mem_of_getElem? (i := 45) rfl))) (by decide) (backOf (W := 0) (rm7 l Z a0 hw [] zo za k58 (1 : Int32) [(.ref zs0)] (0 : Int32) T91.heap n0 (own_le Z0 K103) f93 f94 f98) hZ (hw _ (List.mem_of_getElem? (i := 47) rfl)) (hw _ (List.mem_of_getElem? (i := 31) rfl)) (by decide) (by decide)) q107a q107c (g := (mkF m 213 #[.val (.int x0), .val (.int x1), .val (.int x2), .val (.int x3), .val (.int x4), .val (.int (1 : Int32)), .val (.int (0 : Int32)), .val (.ref zs0), .val (.ref zs1), .val (.ref zs2), .val (.ref za), .val (.ref zo), .val (.int (1 : Int32)), .val (.int (own_hn (0 : Int32) (1 : Int32))), .unset, .unset] [(.ref zo)])) rfl (by rw [hml]; rfl) (Steps.refl _) (argsL := []) (rest := []) (lenOf own_pd91901 rfl) rfl (by show 2 * 0 + _ ≤ _; exact Nat.le_of_eq rfl) (hb hby at_213) (fun _ _ => ⟨rfl, eq106, (by decide : 10 + 0 ≤ _), (by decide : 35 + 0 ≤ _)⟩)
      dsimp only [Pt.U, Pt.locs, Pt.cells, Pt.slots] at X107 l107 y107 z107 st107 hQ107
      subst l107 y107 z107
      obtain ⟨rfl, N107q, eq107⟩ := hQ107
      have N107 := Fr.app N106 N107q
      refine own_tr st107 ?_
      show own_WP _ _ _ _ T107 (mkF m 216 #[.val (.int x0), .val (.int x1), .val (.int x2), .val (.int x3), .val (.int x4), .val (.int (1 : Int32)), .val (.int (0 : Int32)), .val (.ref zs0), .val (.ref zs1), .val (.ref zs2), .val (.ref za), .val (.ref zo), .val (.int (1 : Int32)), .val (.int (own_hn (0 : Int32) (1 : Int32))), .unset, .unset] [(.int (own_hn (0 : Int32) (1 : Int32)))])
      refine own_go (fun t k => XS.istore X107.here hx rfl (hb hby at_216) rfl (l' := #[.val (.int x0), .val (.int x1), .val (.int x2), .val (.int x3), .val (.int x4), .val (.int (1 : Int32)), .val (.int (0 : Int32)), .val (.ref zs0), .val (.ref zs1), .val (.ref zs2), .val (.ref za), .val (.ref zo), .val (.int (1 : Int32)), .val (.int (own_hn (0 : Int32) (1 : Int32))), .val (.int (own_hn (0 : Int32) (1 : Int32))), .unset]) rfl k) ?_
      show own_WP _ _ _ _ T107 (mkF m 218 #[.val (.int x0), .val (.int x1), .val (.int x2), .val (.int x3), .val (.int x4), .val (.int (1 : Int32)), .val (.int (0 : Int32)), .val (.ref zs0), .val (.ref zs1), .val (.ref zs2), .val (.ref za), .val (.ref zo), .val (.int (1 : Int32)), .val (.int (own_hn (0 : Int32) (1 : Int32))), .val (.int (own_hn (0 : Int32) (1 : Int32))), .unset] [])
      refine own_go (fun t k => XS.iload X107.here hx rfl (hb hby at_218) rfl  k) ?_
      show own_WP _ _ _ _ T107 (mkF m 220 #[.val (.int x0), .val (.int x1), .val (.int x2), .val (.int x3), .val (.int x4), .val (.int (1 : Int32)), .val (.int (0 : Int32)), .val (.ref zs0), .val (.ref zs1), .val (.ref zs2), .val (.ref za), .val (.ref zo), .val (.int (1 : Int32)), .val (.int (own_hn (0 : Int32) (1 : Int32))), .val (.int (own_hn (0 : Int32) (1 : Int32))), .unset] [(.int (1 : Int32))])
      have hc220 : ¬ ((1 : Int32) = (0 : Int32)) := by decide
      refine own_go (fun t k => XS.ifNo X107.here hx rfl (hb hby at_220) rfl ((if0 _ _).trans (feq hc220).1) k) ?_
      show own_WP _ _ _ _ T107 (mkF m 223 #[.val (.int x0), .val (.int x1), .val (.int x2), .val (.int x3), .val (.int x4), .val (.int (1 : Int32)), .val (.int (0 : Int32)), .val (.ref zs0), .val (.ref zs1), .val (.ref zs2), .val (.ref za), .val (.ref zo), .val (.int (1 : Int32)), .val (.int (own_hn (0 : Int32) (1 : Int32))), .val (.int (own_hn (0 : Int32) (1 : Int32))), .unset] [])
      refine own_go (fun t k => XS.iload X107.here hx rfl (hb hby at_223) rfl  k) ?_
      show own_WP _ _ _ _ T107 (mkF m 225 #[.val (.int x0), .val (.int x1), .val (.int x2), .val (.int x3), .val (.int x4), .val (.int (1 : Int32)), .val (.int (0 : Int32)), .val (.ref zs0), .val (.ref zs1), .val (.ref zs2), .val (.ref za), .val (.ref zo), .val (.int (1 : Int32)), .val (.int (own_hn (0 : Int32) (1 : Int32))), .val (.int (own_hn (0 : Int32) (1 : Int32))), .unset] [(.int (own_hn (0 : Int32) (1 : Int32)))])
      refine own_go (fun t k => XS.iload X107.here hx rfl (hb hby at_225) rfl  k) ?_
      show own_WP _ _ _ _ T107 (mkF m 227 #[.val (.int x0), .val (.int x1), .val (.int x2), .val (.int x3), .val (.int x4), .val (.int (1 : Int32)), .val (.int (0 : Int32)), .val (.ref zs0), .val (.ref zs1), .val (.ref zs2), .val (.ref za), .val (.ref zo), .val (.int (1 : Int32)), .val (.int (own_hn (0 : Int32) (1 : Int32))), .val (.int (own_hn (0 : Int32) (1 : Int32))), .unset] [(.int (0 : Int32)), (.int (own_hn (0 : Int32) (1 : Int32)))])
      refine own_go (fun t k => XS.iload X107.here hx rfl (hb hby at_227) rfl  k) ?_
      show own_WP _ _ _ _ T107 (mkF m 229 #[.val (.int x0), .val (.int x1), .val (.int x2), .val (.int x3), .val (.int x4), .val (.int (1 : Int32)), .val (.int (0 : Int32)), .val (.ref zs0), .val (.ref zs1), .val (.ref zs2), .val (.ref za), .val (.ref zo), .val (.int (1 : Int32)), .val (.int (own_hn (0 : Int32) (1 : Int32))), .val (.int (own_hn (0 : Int32) (1 : Int32))), .unset] [(.int (1 : Int32)), (.int (0 : Int32)), (.int (own_hn (0 : Int32) (1 : Int32)))])
      have hc229 : (0 : Int32) < (1 : Int32) := by decide
      refine own_go (fun t k => XS.icmpNo X107.here hx rfl (hb hby at_229) rfl (tlt hc229).2.1 k) ?_
      show own_WP _ _ _ _ T107 (mkF m 232 #[.val (.int x0), .val (.int x1), .val (.int x2), .val (.int x3), .val (.int x4), .val (.int (1 : Int32)), .val (.int (0 : Int32)), .val (.ref zs0), .val (.ref zs1), .val (.ref zs2), .val (.ref za), .val (.ref zo), .val (.int (1 : Int32)), .val (.int (own_hn (0 : Int32) (1 : Int32))), .val (.int (own_hn (0 : Int32) (1 : Int32))), .unset] [(.int (own_hn (0 : Int32) (1 : Int32)))])
      refine own_go (fun t k => XS.iconst X107.here hx rfl (hb hby at_232) k) ?_
      show own_WP _ _ _ _ T107 (mkF m 233 #[.val (.int x0), .val (.int x1), .val (.int x2), .val (.int x3), .val (.int x4), .val (.int (1 : Int32)), .val (.int (0 : Int32)), .val (.ref zs0), .val (.ref zs1), .val (.ref zs2), .val (.ref za), .val (.ref zo), .val (.int (1 : Int32)), .val (.int (own_hn (0 : Int32) (1 : Int32))), .val (.int (own_hn (0 : Int32) (1 : Int32))), .unset] [(.int (1 : Int32)), (.int (own_hn (0 : Int32) (1 : Int32)))])
      refine own_go (fun t k => XS.goto X107.here hx rfl (pc0 := 233) (pc' := 237) rfl (hb hby at_233) (by decide) (by decide) k) ?_
      show own_WP _ _ _ _ T107 (mkF m 237 #[.val (.int x0), .val (.int x1), .val (.int x2), .val (.int x3), .val (.int x4), .val (.int (1 : Int32)), .val (.int (0 : Int32)), .val (.ref zs0), .val (.ref zs1), .val (.ref zs2), .val (.ref za), .val (.ref zo), .val (.int (1 : Int32)), .val (.int (own_hn (0 : Int32) (1 : Int32))), .val (.int (own_hn (0 : Int32) (1 : Int32))), .unset] [(.int (1 : Int32)), (.int (own_hn (0 : Int32) (1 : Int32)))])
      refine own_go (fun t k => XS.icmpNo X107.here hx rfl (hb hby at_237) rfl (teq hc158).2 k) ?_
      show own_WP _ _ _ _ T107 (mkF m 240 #[.val (.int x0), .val (.int x1), .val (.int x2), .val (.int x3), .val (.int x4), .val (.int (1 : Int32)), .val (.int (0 : Int32)), .val (.ref zs0), .val (.ref zs1), .val (.ref zs2), .val (.ref za), .val (.ref zo), .val (.int (1 : Int32)), .val (.int (own_hn (0 : Int32) (1 : Int32))), .val (.int (own_hn (0 : Int32) (1 : Int32))), .unset] [])
      refine own_go (fun t k => XS.iload X107.here hx rfl (hb hby at_240) rfl  k) ?_
      show own_WP _ _ _ _ T107 (mkF m 242 #[.val (.int x0), .val (.int x1), .val (.int x2), .val (.int x3), .val (.int x4), .val (.int (1 : Int32)), .val (.int (0 : Int32)), .val (.ref zs0), .val (.ref zs1), .val (.ref zs2), .val (.ref za), .val (.ref zo), .val (.int (1 : Int32)), .val (.int (own_hn (0 : Int32) (1 : Int32))), .val (.int (own_hn (0 : Int32) (1 : Int32))), .unset] [(.int (own_hn (0 : Int32) (1 : Int32)))])
      refine own_go (fun t k => XS.iload X107.here hx rfl (hb hby at_242) rfl  k) ?_
      show own_WP _ _ _ _ T107 (mkF m 244 #[.val (.int x0), .val (.int x1), .val (.int x2), .val (.int x3), .val (.int x4), .val (.int (1 : Int32)), .val (.int (0 : Int32)), .val (.ref zs0), .val (.ref zs1), .val (.ref zs2), .val (.ref za), .val (.ref zo), .val (.int (1 : Int32)), .val (.int (own_hn (0 : Int32) (1 : Int32))), .val (.int (own_hn (0 : Int32) (1 : Int32))), .unset] [(.int (own_hn (0 : Int32) (1 : Int32))), (.int (own_hn (0 : Int32) (1 : Int32)))])
      have hc244 : (own_hn (0 : Int32) (1 : Int32)) = (own_hn (0 : Int32) (1 : Int32)) := rfl
      refine own_go (fun t k => XS.icmpNo X107.here hx rfl (hb hby at_244) rfl (teq hc244).2 k) ?_
      show own_WP _ _ _ _ T107 (mkF m 247 #[.val (.int x0), .val (.int x1), .val (.int x2), .val (.int x3), .val (.int x4), .val (.int (1 : Int32)), .val (.int (0 : Int32)), .val (.ref zs0), .val (.ref zs1), .val (.ref zs2), .val (.ref za), .val (.ref zo), .val (.int (1 : Int32)), .val (.int (own_hn (0 : Int32) (1 : Int32))), .val (.int (own_hn (0 : Int32) (1 : Int32))), .unset] [])
      refine own_go (fun t k => XS.iconst X107.here hx rfl (hb hby at_247) k) ?_
      show own_WP _ _ _ _ T107 (mkF m 248 #[.val (.int x0), .val (.int x1), .val (.int x2), .val (.int x3), .val (.int x4), .val (.int (1 : Int32)), .val (.int (0 : Int32)), .val (.ref zs0), .val (.ref zs1), .val (.ref zs2), .val (.ref za), .val (.ref zo), .val (.int (1 : Int32)), .val (.int (own_hn (0 : Int32) (1 : Int32))), .val (.int (own_hn (0 : Int32) (1 : Int32))), .unset] [(.int (1 : Int32))])
      refine own_go (fun t k => XS.goto X107.here hx rfl (pc0 := 248) (pc' := 252) rfl (hb hby at_248) (by decide) (by decide) k) ?_
      show own_WP _ _ _ _ T107 (mkF m 252 #[.val (.int x0), .val (.int x1), .val (.int x2), .val (.int x3), .val (.int x4), .val (.int (1 : Int32)), .val (.int (0 : Int32)), .val (.ref zs0), .val (.ref zs1), .val (.ref zs2), .val (.ref za), .val (.ref zo), .val (.int (1 : Int32)), .val (.int (own_hn (0 : Int32) (1 : Int32))), .val (.int (own_hn (0 : Int32) (1 : Int32))), .unset] [(.int (1 : Int32))])
      refine own_go (fun t k => XS.istore X107.here hx rfl (hb hby at_252) rfl (l' := #[.val (.int x0), .val (.int x1), .val (.int x2), .val (.int x3), .val (.int x4), .val (.int (1 : Int32)), .val (.int (0 : Int32)), .val (.ref zs0), .val (.ref zs1), .val (.ref zs2), .val (.ref za), .val (.ref zo), .val (.int (1 : Int32)), .val (.int (own_hn (0 : Int32) (1 : Int32))), .val (.int (own_hn (0 : Int32) (1 : Int32))), .unset]) rfl k) ?_
      show own_WP _ _ _ _ T107 (mkF m 254 #[.val (.int x0), .val (.int x1), .val (.int x2), .val (.int x3), .val (.int x4), .val (.int (1 : Int32)), .val (.int (0 : Int32)), .val (.ref zs0), .val (.ref zs1), .val (.ref zs2), .val (.ref za), .val (.ref zo), .val (.int (1 : Int32)), .val (.int (own_hn (0 : Int32) (1 : Int32))), .val (.int (own_hn (0 : Int32) (1 : Int32))), .unset] [])
      refine own_go (fun t k => XS.iload X107.here hx rfl (hb hby at_254) rfl  k) ?_
      show own_WP _ _ _ _ T107 (mkF m 256 #[.val (.int x0), .val (.int x1), .val (.int x2), .val (.int x3), .val (.int x4), .val (.int (1 : Int32)), .val (.int (0 : Int32)), .val (.ref zs0), .val (.ref zs1), .val (.ref zs2), .val (.ref za), .val (.ref zo), .val (.int (1 : Int32)), .val (.int (own_hn (0 : Int32) (1 : Int32))), .val (.int (own_hn (0 : Int32) (1 : Int32))), .unset] [(.int (0 : Int32))])
      refine own_go (fun t k => XS.iload X107.here hx rfl (hb hby at_256) rfl  k) ?_
      show own_WP _ _ _ _ T107 (mkF m 258 #[.val (.int x0), .val (.int x1), .val (.int x2), .val (.int x3), .val (.int x4), .val (.int (1 : Int32)), .val (.int (0 : Int32)), .val (.ref zs0), .val (.ref zs1), .val (.ref zs2), .val (.ref za), .val (.ref zo), .val (.int (1 : Int32)), .val (.int (own_hn (0 : Int32) (1 : Int32))), .val (.int (own_hn (0 : Int32) (1 : Int32))), .unset] [(.int (1 : Int32)), (.int (0 : Int32))])
      have hc258 : (0 : Int32) < (1 : Int32) := by decide
      refine own_go (fun t k => XS.icmpNo X107.here hx rfl (hb hby at_258) rfl (tlt hc258).2.1 k) ?_
      show own_WP _ _ _ _ T107 (mkF m 261 #[.val (.int x0), .val (.int x1), .val (.int x2), .val (.int x3), .val (.int x4), .val (.int (1 : Int32)), .val (.int (0 : Int32)), .val (.ref zs0), .val (.ref zs1), .val (.ref zs2), .val (.ref za), .val (.ref zo), .val (.int (1 : Int32)), .val (.int (own_hn (0 : Int32) (1 : Int32))), .val (.int (own_hn (0 : Int32) (1 : Int32))), .unset] [])
      refine own_go (fun t k => XS.aload X107.here hx rfl (hb hby at_261) rfl rfl  k) ?_
      show own_WP _ _ _ _ T107 (mkF m 263 #[.val (.int x0), .val (.int x1), .val (.int x2), .val (.int x3), .val (.int x4), .val (.int (1 : Int32)), .val (.int (0 : Int32)), .val (.ref zs0), .val (.ref zs1), .val (.ref zs2), .val (.ref za), .val (.ref zo), .val (.int (1 : Int32)), .val (.int (own_hn (0 : Int32) (1 : Int32))), .val (.int (own_hn (0 : Int32) (1 : Int32))), .unset] [(.ref zo)])
      obtain ⟨cq108, kq108, q108a, q108b, q108c⟩ := isOf hZ eq107 f92
      obtain ⟨_, _, ⟨T108, L108, k108, n108⟩, -, X108, ⟨Lc108, hQ108, l108, y108, z108⟩, st108⟩ := X107.virtualBack hx (y := (⟨"branchwork/Arguments", "next", "()Ljava/lang/String;"⟩ : MethodName)) (z := (⟨"branchwork/Arguments", "next", "()Ljava/lang/String;"⟩ : MethodName)) hown (mvT hZ (hw _ (List.mem_of_getElem? (i := 50) rfl))) (mvT hZ (hw _ (List.mem_of_getElem? (i := 51) rfl))) (notFace_of_selects (args := #[]) (mvT hZ (hw _ (List.mem_of_getElem? (i := 53) rfl)))) (mvT hZ (hw _ (List.mem_of_getElem? (i := 53) rfl))) (mvT hZ (hw _ (List.mem_of_getElem? (i := 52) rfl))) (by decide) (backOf (W := 0) (rm8 l Z a0 hw [] zo za k58 (1 : Int32) [(.ref zs0)] (0 : Int32) zs0 T91.heap n0 (own_le Z0 K103) f92 f93 f94 f98 g_zo (Ne.symm ne_za_zo) (show ¬ (0 : Int32) < 0 ∧ (0 : Int32) < (1 : Int32) from ⟨by decide, by decide⟩) (show List.getD (α := Value) [(.ref zs0)] (0 : Int32).toNatClampNeg Value.null = Value.ref zs0 from rfl)) hZ (hw _ (List.mem_of_getElem? (i := 54) rfl)) (hw _ (List.mem_of_getElem? (i := 31) rfl)) (by decide) (by decide)) q108a q108c (g := (mkF m 263 #[.val (.int x0), .val (.int x1), .val (.int x2), .val (.int x3), .val (.int x4), .val (.int (1 : Int32)), .val (.int (0 : Int32)), .val (.ref zs0), .val (.ref zs1), .val (.ref zs2), .val (.ref za), .val (.ref zo), .val (.int (1 : Int32)), .val (.int (own_hn (0 : Int32) (1 : Int32))), .val (.int (own_hn (0 : Int32) (1 : Int32))), .unset] [(.ref zo)])) rfl (by rw [hml]; rfl) (Steps.refl _) (argsL := []) (rest := []) (lenOf own_pd53319 rfl) rfl (by show 2 * 0 + _ ≤ _; exact Nat.le_of_eq rfl) (hb hby at_263) (fun _ _ => ⟨rfl, eq107, (by decide : 10 + 0 ≤ _), (by decide : 35 + 0 ≤ _)⟩)
      dsimp only [Pt.U, Pt.locs, Pt.cells, Pt.slots] at X108 l108 y108 z108 st108 hQ108
      subst l108 y108 z108
      obtain ⟨rfl, N108q, Kc108, f109, f110, f111⟩ := hQ108
      have N108 := Fr.app N107 N108q
      refine own_tr st108 ?_
      have f112 : Arv Z T108.heap za k58 (.object "java/lang/String") (1 : Int32) [(.ref zs0)] .null := f98.keep Kc108 (own_nm ne_za_zo)
      have f113 : Exa Z T108.heap zo "branchwork/Arguments" := f92.keep Kc108
      have K116 : Keep h0 T108.heap [] := K103.trans Kc108 (fun x hx => by cases List.mem_singleton.mp hx; exact Or.inr sz_zo)
      have kz117 : k81 ≤ T108.heap.size := Nat.le_trans kz104 Kc108.1
      have f118 : Fld Z T108.heap zo "branchwork/Arguments" "next" "I" (.int (1 : Int32)) := f111
      show own_WP _ _ _ _ T108 (mkF m 266 #[.val (.int x0), .val (.int x1), .val (.int x2), .val (.int x3), .val (.int x4), .val (.int (1 : Int32)), .val (.int (0 : Int32)), .val (.ref zs0), .val (.ref zs1), .val (.ref zs2), .val (.ref za), .val (.ref zo), .val (.int (1 : Int32)), .val (.int (own_hn (0 : Int32) (1 : Int32))), .val (.int (own_hn (0 : Int32) (1 : Int32))), .unset] [(.ref zs0)])
      refine own_go (fun t k => XS.astore X108.here hx rfl (hb hby at_266) rfl rfl (l' := #[.val (.int x0), .val (.int x1), .val (.int x2), .val (.int x3), .val (.int x4), .val (.int (1 : Int32)), .val (.int (0 : Int32)), .val (.ref zs0), .val (.ref zs1), .val (.ref zs2), .val (.ref za), .val (.ref zo), .val (.int (1 : Int32)), .val (.int (own_hn (0 : Int32) (1 : Int32))), .val (.int (own_hn (0 : Int32) (1 : Int32))), .val (.ref zs0)]) rfl k) ?_
      show own_WP _ _ _ _ T108 (mkF m 268 #[.val (.int x0), .val (.int x1), .val (.int x2), .val (.int x3), .val (.int x4), .val (.int (1 : Int32)), .val (.int (0 : Int32)), .val (.ref zs0), .val (.ref zs1), .val (.ref zs2), .val (.ref za), .val (.ref zo), .val (.int (1 : Int32)), .val (.int (own_hn (0 : Int32) (1 : Int32))), .val (.int (own_hn (0 : Int32) (1 : Int32))), .val (.ref zs0)] [])
      refine own_go (fun t k => XS.iload X108.here hx rfl (hb hby at_268) rfl  k) ?_
      show own_WP _ _ _ _ T108 (mkF m 270 #[.val (.int x0), .val (.int x1), .val (.int x2), .val (.int x3), .val (.int x4), .val (.int (1 : Int32)), .val (.int (0 : Int32)), .val (.ref zs0), .val (.ref zs1), .val (.ref zs2), .val (.ref za), .val (.ref zo), .val (.int (1 : Int32)), .val (.int (own_hn (0 : Int32) (1 : Int32))), .val (.int (own_hn (0 : Int32) (1 : Int32))), .val (.ref zs0)] [(.int (1 : Int32))])
      have hc270 : ¬ ((1 : Int32) = (0 : Int32)) := by decide
      refine own_go (fun t k => XS.ifNo X108.here hx rfl (hb hby at_270) rfl ((if0 _ _).trans (feq hc270).1) k) ?_
      show own_WP _ _ _ _ T108 (mkF m 273 #[.val (.int x0), .val (.int x1), .val (.int x2), .val (.int x3), .val (.int x4), .val (.int (1 : Int32)), .val (.int (0 : Int32)), .val (.ref zs0), .val (.ref zs1), .val (.ref zs2), .val (.ref za), .val (.ref zo), .val (.int (1 : Int32)), .val (.int (own_hn (0 : Int32) (1 : Int32))), .val (.int (own_hn (0 : Int32) (1 : Int32))), .val (.ref zs0)] [])
      refine own_go (fun t k => XS.aload X108.here hx rfl (hb hby at_273) rfl rfl  k) ?_
      show own_WP _ _ _ _ T108 (mkF m 275 #[.val (.int x0), .val (.int x1), .val (.int x2), .val (.int x3), .val (.int x4), .val (.int (1 : Int32)), .val (.int (0 : Int32)), .val (.ref zs0), .val (.ref zs1), .val (.ref zs2), .val (.ref za), .val (.ref zo), .val (.int (1 : Int32)), .val (.int (own_hn (0 : Int32) (1 : Int32))), .val (.int (own_hn (0 : Int32) (1 : Int32))), .val (.ref zs0)] [(.ref zs0)])
      refine own_go (fun t k => XS.aload X108.here hx rfl (hb hby at_275) rfl rfl  k) ?_
      show own_WP _ _ _ _ T108 (mkF m 277 #[.val (.int x0), .val (.int x1), .val (.int x2), .val (.int x3), .val (.int x4), .val (.int (1 : Int32)), .val (.int (0 : Int32)), .val (.ref zs0), .val (.ref zs1), .val (.ref zs2), .val (.ref za), .val (.ref zo), .val (.int (1 : Int32)), .val (.int (own_hn (0 : Int32) (1 : Int32))), .val (.int (own_hn (0 : Int32) (1 : Int32))), .val (.ref zs0)] [(.ref za), (.ref zs0)])
      refine own_go (fun t k => XS.iload X108.here hx rfl (hb hby at_277) rfl  k) ?_
      show own_WP _ _ _ _ T108 (mkF m 279 #[.val (.int x0), .val (.int x1), .val (.int x2), .val (.int x3), .val (.int x4), .val (.int (1 : Int32)), .val (.int (0 : Int32)), .val (.ref zs0), .val (.ref zs1), .val (.ref zs2), .val (.ref za), .val (.ref zo), .val (.int (1 : Int32)), .val (.int (own_hn (0 : Int32) (1 : Int32))), .val (.int (own_hn (0 : Int32) (1 : Int32))), .val (.ref zs0)] [(.int (0 : Int32)), (.ref za), (.ref zs0)])
      refine own_ldR X108 hx hZ rfl rfl f112 (j := (0 : Int32)) (w := (.ref zs0)) ⟨by decide, by decide⟩ rfl (hb hby at_279) ?_
      show own_WP _ _ _ _ T108 (mkF m 280 #[.val (.int x0), .val (.int x1), .val (.int x2), .val (.int x3), .val (.int x4), .val (.int (1 : Int32)), .val (.int (0 : Int32)), .val (.ref zs0), .val (.ref zs1), .val (.ref zs2), .val (.ref za), .val (.ref zo), .val (.int (1 : Int32)), .val (.int (own_hn (0 : Int32) (1 : Int32))), .val (.int (own_hn (0 : Int32) (1 : Int32))), .val (.ref zs0)] [(.ref zs0), (.ref zs0)])
      refine own_go (fun t k => Jvm.RoadKit.acmp (g := (mkF m 280 #[.val (.int x0), .val (.int x1), .val (.int x2), .val (.int x3), .val (.int x4), .val (.int (1 : Int32)), .val (.int (0 : Int32)), .val (.ref zs0), .val (.ref zs1), .val (.ref zs2), .val (.ref za), .val (.ref zo), .val (.int (1 : Int32)), .val (.int (own_hn (0 : Int32) (1 : Int32))), .val (.int (own_hn (0 : Int32) (1 : Int32))), .val (.ref zs0)] [(.ref zs0), (.ref zs0)])) X108 hx rfl rfl rfl (pc0 := 280) (pc' := 283) (same := true) rfl (hb hby at_280) rfl (decide_eq_true rfl) (by decide) (by decide) k) ?_
      show own_WP _ _ _ _ T108 (mkF m 283 #[.val (.int x0), .val (.int x1), .val (.int x2), .val (.int x3), .val (.int x4), .val (.int (1 : Int32)), .val (.int (0 : Int32)), .val (.ref zs0), .val (.ref zs1), .val (.ref zs2), .val (.ref za), .val (.ref zo), .val (.int (1 : Int32)), .val (.int (own_hn (0 : Int32) (1 : Int32))), .val (.int (own_hn (0 : Int32) (1 : Int32))), .val (.ref zs0)] [])
      refine own_go (fun t k => XS.aload X108.here hx rfl (hb hby at_283) rfl rfl  k) ?_
      show own_WP _ _ _ _ T108 (mkF m 285 #[.val (.int x0), .val (.int x1), .val (.int x2), .val (.int x3), .val (.int x4), .val (.int (1 : Int32)), .val (.int (0 : Int32)), .val (.ref zs0), .val (.ref zs1), .val (.ref zs2), .val (.ref za), .val (.ref zo), .val (.int (1 : Int32)), .val (.int (own_hn (0 : Int32) (1 : Int32))), .val (.int (own_hn (0 : Int32) (1 : Int32))), .val (.ref zs0)] [(.ref zo)])
      obtain ⟨cq119, kq119, q119a, q119b, q119c⟩ := isOf hZ rfl f109
      obtain ⟨_, _, ⟨T119, L119, k119, n119⟩, -, X119, ⟨Lc119, hQ119, l119, y119, z119⟩, st119⟩ := X108.virtualBack hx (y := (⟨"branchwork/Arguments", "hasNext", "()Z"⟩ : MethodName)) (z := (⟨"branchwork/Arguments", "hasNext", "()Z"⟩ : MethodName)) hown (mvT hZ (hw _ (List.mem_of_getElem? (i := 43) rfl))) (mvT hZ (hw _ (List.mem_of_getElem? (i := 44) rfl))) (notFace_of_selects (args := #[]) (mvT hZ (hw _ (List.mem_of_getElem? (i := 46) rfl)))) (mvT hZ (hw _ (List.mem_of_getElem? (i := 46) rfl))) (mvT hZ (hw _ (List.mem_of_getElem? (i := 45) rfl))) (by decide) (backOf (W := 0) (rm7 l Z a0 hw [] zo za k58 (1 : Int32) [(.ref zs0)] (1 : Int32) T108.heap n0 (own_le Z0 K116) f110 f118 f112) hZ (hw _ (List.mem_of_getElem? (i := 47) rfl)) (hw _ (List.mem_of_getElem? (i := 31) rfl)) (by decide) (by decide)) q119a q119c (g := (mkF m 285 #[.val (.int x0), .val (.int x1), .val (.int x2), .val (.int x3), .val (.int x4), .val (.int (1 : Int32)), .val (.int (0 : Int32)), .val (.ref zs0), .val (.ref zs1), .val (.ref zs2), .val (.ref za), .val (.ref zo), .val (.int (1 : Int32)), .val (.int (own_hn (0 : Int32) (1 : Int32))), .val (.int (own_hn (0 : Int32) (1 : Int32))), .val (.ref zs0)] [(.ref zo)])) rfl (by rw [hml]; rfl) (Steps.refl _) (argsL := []) (rest := []) (lenOf own_pd91901 rfl) rfl (by show 2 * 0 + _ ≤ _; exact Nat.le_of_eq rfl) (hb hby at_285) (fun _ _ => ⟨rfl, rfl, (by decide : 10 + 0 ≤ _), (by decide : 35 + 0 ≤ _)⟩)
      dsimp only [Pt.U, Pt.locs, Pt.cells, Pt.slots] at X119 l119 y119 z119 st119 hQ119
      subst l119 y119 z119
      obtain ⟨rfl, N119q, eq119⟩ := hQ119
      have N119 := Fr.app N108 N119q
      refine own_tr st119 ?_
      show own_WP _ _ _ _ T119 (mkF m 288 #[.val (.int x0), .val (.int x1), .val (.int x2), .val (.int x3), .val (.int x4), .val (.int (1 : Int32)), .val (.int (0 : Int32)), .val (.ref zs0), .val (.ref zs1), .val (.ref zs2), .val (.ref za), .val (.ref zo), .val (.int (1 : Int32)), .val (.int (own_hn (0 : Int32) (1 : Int32))), .val (.int (own_hn (0 : Int32) (1 : Int32))), .val (.ref zs0)] [(.int (own_hn (1 : Int32) (1 : Int32)))])
      refine own_go (fun t k => XS.iload X119.here hx rfl (hb hby at_288) rfl  k) ?_
      show own_WP _ _ _ _ T119 (mkF m 290 #[.val (.int x0), .val (.int x1), .val (.int x2), .val (.int x3), .val (.int x4), .val (.int (1 : Int32)), .val (.int (0 : Int32)), .val (.ref zs0), .val (.ref zs1), .val (.ref zs2), .val (.ref za), .val (.ref zo), .val (.int (1 : Int32)), .val (.int (own_hn (0 : Int32) (1 : Int32))), .val (.int (own_hn (0 : Int32) (1 : Int32))), .val (.ref zs0)] [(.int (0 : Int32)), (.int (own_hn (1 : Int32) (1 : Int32)))])
      refine own_go (fun t k => XS.iconst X119.here hx rfl (hb hby at_290) k) ?_
      show own_WP _ _ _ _ T119 (mkF m 291 #[.val (.int x0), .val (.int x1), .val (.int x2), .val (.int x3), .val (.int x4), .val (.int (1 : Int32)), .val (.int (0 : Int32)), .val (.ref zs0), .val (.ref zs1), .val (.ref zs2), .val (.ref za), .val (.ref zo), .val (.int (1 : Int32)), .val (.int (own_hn (0 : Int32) (1 : Int32))), .val (.int (own_hn (0 : Int32) (1 : Int32))), .val (.ref zs0)] [(.int (1 : Int32)), (.int (0 : Int32)), (.int (own_hn (1 : Int32) (1 : Int32)))])
      refine own_go (fun t k => XS.iadd X119.here hx rfl (hb hby at_291) rfl k) ?_
      show own_WP _ _ _ _ T119 (mkF m 292 #[.val (.int x0), .val (.int x1), .val (.int x2), .val (.int x3), .val (.int x4), .val (.int (1 : Int32)), .val (.int (0 : Int32)), .val (.ref zs0), .val (.ref zs1), .val (.ref zs2), .val (.ref za), .val (.ref zo), .val (.int (1 : Int32)), .val (.int (own_hn (0 : Int32) (1 : Int32))), .val (.int (own_hn (0 : Int32) (1 : Int32))), .val (.ref zs0)] [(.int ((0 : Int32) + (1 : Int32))), (.int (own_hn (1 : Int32) (1 : Int32)))])
      rw [show ((0 : Int32) + (1 : Int32)) = (1 : Int32) from by decide]
      show own_WP _ _ _ _ T119 (mkF m 292 #[.val (.int x0), .val (.int x1), .val (.int x2), .val (.int x3), .val (.int x4), .val (.int (1 : Int32)), .val (.int (0 : Int32)), .val (.ref zs0), .val (.ref zs1), .val (.ref zs2), .val (.ref za), .val (.ref zo), .val (.int (1 : Int32)), .val (.int (own_hn (0 : Int32) (1 : Int32))), .val (.int (own_hn (0 : Int32) (1 : Int32))), .val (.ref zs0)] [(.int (1 : Int32)), (.int (own_hn (1 : Int32) (1 : Int32)))])
      refine own_go (fun t k => XS.iload X119.here hx rfl (hb hby at_292) rfl  k) ?_
      show own_WP _ _ _ _ T119 (mkF m 294 #[.val (.int x0), .val (.int x1), .val (.int x2), .val (.int x3), .val (.int x4), .val (.int (1 : Int32)), .val (.int (0 : Int32)), .val (.ref zs0), .val (.ref zs1), .val (.ref zs2), .val (.ref za), .val (.ref zo), .val (.int (1 : Int32)), .val (.int (own_hn (0 : Int32) (1 : Int32))), .val (.int (own_hn (0 : Int32) (1 : Int32))), .val (.ref zs0)] [(.int (1 : Int32)), (.int (1 : Int32)), (.int (own_hn (1 : Int32) (1 : Int32)))])
      have hc294 : ¬ ((1 : Int32) < (1 : Int32)) := by decide
      refine own_go (fun t k => XS.icmpYes X119.here hx rfl (pc0 := 294) (pc' := 301) rfl (hb hby at_294) rfl (flt hc294).2.1 (by decide) (by decide) k) ?_
      show own_WP _ _ _ _ T119 (mkF m 301 #[.val (.int x0), .val (.int x1), .val (.int x2), .val (.int x3), .val (.int x4), .val (.int (1 : Int32)), .val (.int (0 : Int32)), .val (.ref zs0), .val (.ref zs1), .val (.ref zs2), .val (.ref za), .val (.ref zo), .val (.int (1 : Int32)), .val (.int (own_hn (0 : Int32) (1 : Int32))), .val (.int (own_hn (0 : Int32) (1 : Int32))), .val (.ref zs0)] [(.int (own_hn (1 : Int32) (1 : Int32)))])
      refine own_go (fun t k => XS.iconst X119.here hx rfl (hb hby at_301) k) ?_
      show own_WP _ _ _ _ T119 (mkF m 302 #[.val (.int x0), .val (.int x1), .val (.int x2), .val (.int x3), .val (.int x4), .val (.int (1 : Int32)), .val (.int (0 : Int32)), .val (.ref zs0), .val (.ref zs1), .val (.ref zs2), .val (.ref za), .val (.ref zo), .val (.int (1 : Int32)), .val (.int (own_hn (0 : Int32) (1 : Int32))), .val (.int (own_hn (0 : Int32) (1 : Int32))), .val (.ref zs0)] [(.int (0 : Int32)), (.int (own_hn (1 : Int32) (1 : Int32)))])
      have hc302 : (own_hn (1 : Int32) (1 : Int32)) = (0 : Int32) := by
        decide
      refine own_go (fun t k => XS.icmpNo X119.here hx rfl (hb hby at_302) rfl (teq hc302).2 k) ?_
      show own_WP _ _ _ _ T119 (mkF m 305 #[.val (.int x0), .val (.int x1), .val (.int x2), .val (.int x3), .val (.int x4), .val (.int (1 : Int32)), .val (.int (0 : Int32)), .val (.ref zs0), .val (.ref zs1), .val (.ref zs2), .val (.ref za), .val (.ref zo), .val (.int (1 : Int32)), .val (.int (own_hn (0 : Int32) (1 : Int32))), .val (.int (own_hn (0 : Int32) (1 : Int32))), .val (.ref zs0)] [])
      refine own_go (fun t k => XS.iconst X119.here hx rfl (hb hby at_305) k) ?_
      show own_WP _ _ _ _ T119 (mkF m 306 #[.val (.int x0), .val (.int x1), .val (.int x2), .val (.int x3), .val (.int x4), .val (.int (1 : Int32)), .val (.int (0 : Int32)), .val (.ref zs0), .val (.ref zs1), .val (.ref zs2), .val (.ref za), .val (.ref zo), .val (.int (1 : Int32)), .val (.int (own_hn (0 : Int32) (1 : Int32))), .val (.int (own_hn (0 : Int32) (1 : Int32))), .val (.ref zs0)] [(.int (1 : Int32))])
      refine own_go (fun t k => XS.goto X119.here hx rfl (pc0 := 306) (pc' := 310) rfl (hb hby at_306) (by decide) (by decide) k) ?_
      show own_WP _ _ _ _ T119 (mkF m 310 #[.val (.int x0), .val (.int x1), .val (.int x2), .val (.int x3), .val (.int x4), .val (.int (1 : Int32)), .val (.int (0 : Int32)), .val (.ref zs0), .val (.ref zs1), .val (.ref zs2), .val (.ref za), .val (.ref zo), .val (.int (1 : Int32)), .val (.int (own_hn (0 : Int32) (1 : Int32))), .val (.int (own_hn (0 : Int32) (1 : Int32))), .val (.ref zs0)] [(.int (1 : Int32))])
      refine own_go (fun t k => XS.istore X119.here hx rfl (hb hby at_310) rfl (l' := #[.val (.int x0), .val (.int x1), .val (.int x2), .val (.int x3), .val (.int x4), .val (.int (1 : Int32)), .val (.int (0 : Int32)), .val (.ref zs0), .val (.ref zs1), .val (.ref zs2), .val (.ref za), .val (.ref zo), .val (.int (1 : Int32)), .val (.int (own_hn (0 : Int32) (1 : Int32))), .val (.int (own_hn (0 : Int32) (1 : Int32))), .val (.ref zs0)]) rfl k) ?_
      show own_WP _ _ _ _ T119 (mkF m 312 #[.val (.int x0), .val (.int x1), .val (.int x2), .val (.int x3), .val (.int x4), .val (.int (1 : Int32)), .val (.int (0 : Int32)), .val (.ref zs0), .val (.ref zs1), .val (.ref zs2), .val (.ref za), .val (.ref zo), .val (.int (1 : Int32)), .val (.int (own_hn (0 : Int32) (1 : Int32))), .val (.int (own_hn (0 : Int32) (1 : Int32))), .val (.ref zs0)] [])
      refine own_go (fun t k => XS.iload X119.here hx rfl (hb hby at_312) rfl  k) ?_
      show own_WP _ _ _ _ T119 (mkF m 314 #[.val (.int x0), .val (.int x1), .val (.int x2), .val (.int x3), .val (.int x4), .val (.int (1 : Int32)), .val (.int (0 : Int32)), .val (.ref zs0), .val (.ref zs1), .val (.ref zs2), .val (.ref za), .val (.ref zo), .val (.int (1 : Int32)), .val (.int (own_hn (0 : Int32) (1 : Int32))), .val (.int (own_hn (0 : Int32) (1 : Int32))), .val (.ref zs0)] [(.int (1 : Int32))])
      refine own_retNW X119 hS81 (by rw [eq119]; exact kz117) hx Bd.notSynchronized (t := .boolean) (by simp) Bd.returns (hb hby at_314) (by decide) (by decide) ?_
      rw [eq119]
      exact ⟨rfl, N119⟩
    · subst hk
      show own_WP _ _ _ _ T105 (mkF m 168 #[.val (.int x0), .val (.int x1), .val (.int x2), .val (.int x3), .val (.int x4), .val (.int (1 : Int32)), .val (.int (1 : Int32)), .val (.ref zs0), .val (.ref zs1), .val (.ref zs2), .val (.ref za), .val (.ref zo), .val (.int (1 : Int32)), .unset, .unset, .unset] [])
      refine own_go (fun t k => XS.iload X105.here hx rfl (hb hby at_168) rfl  k) ?_
      show own_WP _ _ _ _ T105 (mkF m 170 #[.val (.int x0), .val (.int x1), .val (.int x2), .val (.int x3), .val (.int x4), .val (.int (1 : Int32)), .val (.int (1 : Int32)), .val (.ref zs0), .val (.ref zs1), .val (.ref zs2), .val (.ref za), .val (.ref zo), .val (.int (1 : Int32)), .unset, .unset, .unset] [(.int (1 : Int32))])
      refine own_go (fun t k => XS.iconst X105.here hx rfl (hb hby at_170) k) ?_
      show own_WP _ _ _ _ T105 (mkF m 171 #[.val (.int x0), .val (.int x1), .val (.int x2), .val (.int x3), .val (.int x4), .val (.int (1 : Int32)), .val (.int (1 : Int32)), .val (.ref zs0), .val (.ref zs1), .val (.ref zs2), .val (.ref za), .val (.ref zo), .val (.int (1 : Int32)), .unset, .unset, .unset] [(.int (1 : Int32)), (.int (1 : Int32))])
      have hc171 : ¬ ((1 : Int32) < (1 : Int32)) := by decide
      refine own_go (fun t k => XS.icmpNo X105.here hx rfl (hb hby at_171) rfl (flt hc171).1 k) ?_
      show own_WP _ _ _ _ T105 (mkF m 174 #[.val (.int x0), .val (.int x1), .val (.int x2), .val (.int x3), .val (.int x4), .val (.int (1 : Int32)), .val (.int (1 : Int32)), .val (.ref zs0), .val (.ref zs1), .val (.ref zs2), .val (.ref za), .val (.ref zo), .val (.int (1 : Int32)), .unset, .unset, .unset] [])
      refine own_go (fun t k => XS.aload X105.here hx rfl (hb hby at_174) rfl rfl  k) ?_
      show own_WP _ _ _ _ T105 (mkF m 176 #[.val (.int x0), .val (.int x1), .val (.int x2), .val (.int x3), .val (.int x4), .val (.int (1 : Int32)), .val (.int (1 : Int32)), .val (.ref zs0), .val (.ref zs1), .val (.ref zs2), .val (.ref za), .val (.ref zo), .val (.int (1 : Int32)), .unset, .unset, .unset] [(.ref zo)])
      obtain ⟨cq120, kq120, q120a, q120b, q120c⟩ := isOf hZ eq105 f92
      obtain ⟨_, _, ⟨T120, L120, k120, n120⟩, -, X120, ⟨Lc120, hQ120, l120, y120, z120⟩, st120⟩ := X105.virtualBack hx (y := (⟨"branchwork/Arguments", "next", "()Ljava/lang/String;"⟩ : MethodName)) (z := (⟨"branchwork/Arguments", "next", "()Ljava/lang/String;"⟩ : MethodName)) hown (mvT hZ (hw _ (List.mem_of_getElem? (i := 50) rfl))) (mvT hZ (hw _ (List.mem_of_getElem? (i := 51) rfl))) (notFace_of_selects (args := #[]) (mvT hZ (hw _ (List.mem_of_getElem? (i := 53) rfl)))) (mvT hZ (hw _ (List.mem_of_getElem? (i := 53) rfl))) (mvT hZ (hw _ (List.mem_of_getElem? (i := 52) rfl))) (by decide) (backOf (W := 0) (rm8 l Z a0 hw [] zo za k58 (1 : Int32) [(.ref zs0)] (0 : Int32) zs0 T91.heap n0 (own_le Z0 K103) f92 f93 f94 f98 g_zo (Ne.symm ne_za_zo) (show ¬ (0 : Int32) < 0 ∧ (0 : Int32) < (1 : Int32) from ⟨by decide, by decide⟩) (show List.getD (α := Value) [(.ref zs0)] (0 : Int32).toNatClampNeg Value.null = Value.ref zs0 from rfl)) hZ (hw _ (List.mem_of_getElem? (i := 54) rfl)) (hw _ (List.mem_of_getElem? (i := 31) rfl)) (by decide) (by decide)) q120a q120c (g := (mkF m 176 #[.val (.int x0), .val (.int x1), .val (.int x2), .val (.int x3), .val (.int x4), .val (.int (1 : Int32)), .val (.int (1 : Int32)), .val (.ref zs0), .val (.ref zs1), .val (.ref zs2), .val (.ref za), .val (.ref zo), .val (.int (1 : Int32)), .unset, .unset, .unset] [(.ref zo)])) rfl (by rw [hml]; rfl) (Steps.refl _) (argsL := []) (rest := []) (lenOf own_pd53319 rfl) rfl (by show 2 * 0 + _ ≤ _; exact Nat.le_of_eq rfl) (hb hby at_176) (fun _ _ => ⟨rfl, eq105, (by decide : 10 + 0 ≤ _), (by decide : 35 + 0 ≤ _)⟩)
      dsimp only [Pt.U, Pt.locs, Pt.cells, Pt.slots] at X120 l120 y120 z120 st120 hQ120
      subst l120 y120 z120
      obtain ⟨rfl, N120q, Kc120, f121, f122, f123⟩ := hQ120
      have N120 := Fr.app N105 N120q
      refine own_tr st120 ?_
      have f124 : Arv Z T120.heap za k58 (.object "java/lang/String") (1 : Int32) [(.ref zs0)] .null := f98.keep Kc120 (own_nm ne_za_zo)
      have f125 : Exa Z T120.heap zo "branchwork/Arguments" := f92.keep Kc120
      have K128 : Keep h0 T120.heap [] := K103.trans Kc120 (fun x hx => by cases List.mem_singleton.mp hx; exact Or.inr sz_zo)
      have kz129 : k81 ≤ T120.heap.size := Nat.le_trans kz104 Kc120.1
      have f130 : Fld Z T120.heap zo "branchwork/Arguments" "next" "I" (.int (1 : Int32)) := f123
      show own_WP _ _ _ _ T120 (mkF m 179 #[.val (.int x0), .val (.int x1), .val (.int x2), .val (.int x3), .val (.int x4), .val (.int (1 : Int32)), .val (.int (1 : Int32)), .val (.ref zs0), .val (.ref zs1), .val (.ref zs2), .val (.ref za), .val (.ref zo), .val (.int (1 : Int32)), .unset, .unset, .unset] [(.ref zs0)])
      refine own_go (fun t k => XS.pop X120.here hx rfl (hb hby at_179) rfl rfl k) ?_
      show own_WP _ _ _ _ T120 (mkF m 180 #[.val (.int x0), .val (.int x1), .val (.int x2), .val (.int x3), .val (.int x4), .val (.int (1 : Int32)), .val (.int (1 : Int32)), .val (.ref zs0), .val (.ref zs1), .val (.ref zs2), .val (.ref za), .val (.ref zo), .val (.int (1 : Int32)), .unset, .unset, .unset] [])
      refine own_go (fun t k => XS.iload X120.here hx rfl (hb hby at_180) rfl  k) ?_
      show own_WP _ _ _ _ T120 (mkF m 182 #[.val (.int x0), .val (.int x1), .val (.int x2), .val (.int x3), .val (.int x4), .val (.int (1 : Int32)), .val (.int (1 : Int32)), .val (.ref zs0), .val (.ref zs1), .val (.ref zs2), .val (.ref za), .val (.ref zo), .val (.int (1 : Int32)), .unset, .unset, .unset] [(.int (1 : Int32))])
      refine own_go (fun t k => XS.iconst X120.here hx rfl (hb hby at_182) k) ?_
      show own_WP _ _ _ _ T120 (mkF m 183 #[.val (.int x0), .val (.int x1), .val (.int x2), .val (.int x3), .val (.int x4), .val (.int (1 : Int32)), .val (.int (1 : Int32)), .val (.ref zs0), .val (.ref zs1), .val (.ref zs2), .val (.ref za), .val (.ref zo), .val (.int (1 : Int32)), .unset, .unset, .unset] [(.int (2 : Int32)), (.int (1 : Int32))])
      have hc183 : (1 : Int32) < (2 : Int32) := by decide
      refine own_go (fun t k => XS.icmpYes X120.here hx rfl (pc0 := 183) (pc' := 192) rfl (hb hby at_183) rfl (tlt hc183).1 (by decide) (by decide) k) ?_
      show own_WP _ _ _ _ T120 (mkF m 192 #[.val (.int x0), .val (.int x1), .val (.int x2), .val (.int x3), .val (.int x4), .val (.int (1 : Int32)), .val (.int (1 : Int32)), .val (.ref zs0), .val (.ref zs1), .val (.ref zs2), .val (.ref za), .val (.ref zo), .val (.int (1 : Int32)), .unset, .unset, .unset] [])
      refine own_go (fun t k => XS.iload X120.here hx rfl (hb hby at_192) rfl  k) ?_
      show own_WP _ _ _ _ T120 (mkF m 194 #[.val (.int x0), .val (.int x1), .val (.int x2), .val (.int x3), .val (.int x4), .val (.int (1 : Int32)), .val (.int (1 : Int32)), .val (.ref zs0), .val (.ref zs1), .val (.ref zs2), .val (.ref za), .val (.ref zo), .val (.int (1 : Int32)), .unset, .unset, .unset] [(.int (1 : Int32))])
      refine own_go (fun t k => XS.iconst X120.here hx rfl (hb hby at_194) k) ?_
      show own_WP _ _ _ _ T120 (mkF m 195 #[.val (.int x0), .val (.int x1), .val (.int x2), .val (.int x3), .val (.int x4), .val (.int (1 : Int32)), .val (.int (1 : Int32)), .val (.ref zs0), .val (.ref zs1), .val (.ref zs2), .val (.ref za), .val (.ref zo), .val (.int (1 : Int32)), .unset, .unset, .unset] [(.int (3 : Int32)), (.int (1 : Int32))])
      have hc195 : (1 : Int32) < (3 : Int32) := by decide
      refine own_go (fun t k => XS.icmpYes X120.here hx rfl (pc0 := 195) (pc' := 204) rfl (hb hby at_195) rfl (tlt hc195).1 (by decide) (by decide) k) ?_
      show own_WP _ _ _ _ T120 (mkF m 204 #[.val (.int x0), .val (.int x1), .val (.int x2), .val (.int x3), .val (.int x4), .val (.int (1 : Int32)), .val (.int (1 : Int32)), .val (.ref zs0), .val (.ref zs1), .val (.ref zs2), .val (.ref za), .val (.ref zo), .val (.int (1 : Int32)), .unset, .unset, .unset] [])
      refine own_go (fun t k => XS.aload X120.here hx rfl (hb hby at_204) rfl rfl  k) ?_
      show own_WP _ _ _ _ T120 (mkF m 206 #[.val (.int x0), .val (.int x1), .val (.int x2), .val (.int x3), .val (.int x4), .val (.int (1 : Int32)), .val (.int (1 : Int32)), .val (.ref zs0), .val (.ref zs1), .val (.ref zs2), .val (.ref za), .val (.ref zo), .val (.int (1 : Int32)), .unset, .unset, .unset] [(.ref zo)])
      obtain ⟨cq131, kq131, q131a, q131b, q131c⟩ := isOf hZ rfl f121
      obtain ⟨_, _, ⟨T131, L131, k131, n131⟩, -, X131, ⟨Lc131, hQ131, l131, y131, z131⟩, st131⟩ := X120.virtualBack hx (y := (⟨"branchwork/Arguments", "hasNext", "()Z"⟩ : MethodName)) (z := (⟨"branchwork/Arguments", "hasNext", "()Z"⟩ : MethodName)) hown (mvT hZ (hw _ (List.mem_of_getElem? (i := 43) rfl))) (mvT hZ (hw _ (List.mem_of_getElem? (i := 44) rfl))) (notFace_of_selects (args := #[]) (mvT hZ (hw _ (List.mem_of_getElem? (i := 46) rfl)))) (mvT hZ (hw _ (List.mem_of_getElem? (i := 46) rfl))) (mvT hZ (hw _ (List.mem_of_getElem? (i := 45) rfl))) (by decide) (backOf (W := 0) (rm7 l Z a0 hw [] zo za k58 (1 : Int32) [(.ref zs0)] (1 : Int32) T120.heap n0 (own_le Z0 K128) f122 f130 f124) hZ (hw _ (List.mem_of_getElem? (i := 47) rfl)) (hw _ (List.mem_of_getElem? (i := 31) rfl)) (by decide) (by decide)) q131a q131c (g := (mkF m 206 #[.val (.int x0), .val (.int x1), .val (.int x2), .val (.int x3), .val (.int x4), .val (.int (1 : Int32)), .val (.int (1 : Int32)), .val (.ref zs0), .val (.ref zs1), .val (.ref zs2), .val (.ref za), .val (.ref zo), .val (.int (1 : Int32)), .unset, .unset, .unset] [(.ref zo)])) rfl (by rw [hml]; rfl) (Steps.refl _) (argsL := []) (rest := []) (lenOf own_pd91901 rfl) rfl (by show 2 * 0 + _ ≤ _; exact Nat.le_of_eq rfl) (hb hby at_206) (fun _ _ => ⟨rfl, rfl, (by decide : 10 + 0 ≤ _), (by decide : 35 + 0 ≤ _)⟩)
      dsimp only [Pt.U, Pt.locs, Pt.cells, Pt.slots] at X131 l131 y131 z131 st131 hQ131
      subst l131 y131 z131
      obtain ⟨rfl, N131q, eq131⟩ := hQ131
      have N131 := Fr.app N120 N131q
      refine own_tr st131 ?_
      show own_WP _ _ _ _ T131 (mkF m 209 #[.val (.int x0), .val (.int x1), .val (.int x2), .val (.int x3), .val (.int x4), .val (.int (1 : Int32)), .val (.int (1 : Int32)), .val (.ref zs0), .val (.ref zs1), .val (.ref zs2), .val (.ref za), .val (.ref zo), .val (.int (1 : Int32)), .unset, .unset, .unset] [(.int (own_hn (1 : Int32) (1 : Int32)))])
      refine own_go (fun t k => XS.istore X131.here hx rfl (hb hby at_209) rfl (l' := #[.val (.int x0), .val (.int x1), .val (.int x2), .val (.int x3), .val (.int x4), .val (.int (1 : Int32)), .val (.int (1 : Int32)), .val (.ref zs0), .val (.ref zs1), .val (.ref zs2), .val (.ref za), .val (.ref zo), .val (.int (1 : Int32)), .val (.int (own_hn (1 : Int32) (1 : Int32))), .unset, .unset]) rfl k) ?_
      show own_WP _ _ _ _ T131 (mkF m 211 #[.val (.int x0), .val (.int x1), .val (.int x2), .val (.int x3), .val (.int x4), .val (.int (1 : Int32)), .val (.int (1 : Int32)), .val (.ref zs0), .val (.ref zs1), .val (.ref zs2), .val (.ref za), .val (.ref zo), .val (.int (1 : Int32)), .val (.int (own_hn (1 : Int32) (1 : Int32))), .unset, .unset] [])
      refine own_go (fun t k => XS.aload X131.here hx rfl (hb hby at_211) rfl rfl  k) ?_
      show own_WP _ _ _ _ T131 (mkF m 213 #[.val (.int x0), .val (.int x1), .val (.int x2), .val (.int x3), .val (.int x4), .val (.int (1 : Int32)), .val (.int (1 : Int32)), .val (.ref zs0), .val (.ref zs1), .val (.ref zs2), .val (.ref za), .val (.ref zo), .val (.int (1 : Int32)), .val (.int (own_hn (1 : Int32) (1 : Int32))), .unset, .unset] [(.ref zo)])
      obtain ⟨cq132, kq132, q132a, q132b, q132c⟩ := isOf hZ eq131 f121
      obtain ⟨_, _, ⟨T132, L132, k132, n132⟩, -, X132, ⟨Lc132, hQ132, l132, y132, z132⟩, st132⟩ := X131.virtualBack hx (y := (⟨"branchwork/Arguments", "hasNext", "()Z"⟩ : MethodName)) (z := (⟨"branchwork/Arguments", "hasNext", "()Z"⟩ : MethodName)) hown (mvT hZ (hw _ (List.mem_of_getElem? (i := 43) rfl))) (mvT hZ (hw _ (List.mem_of_getElem? (i := 44) rfl))) (notFace_of_selects (args := #[]) (mvT hZ (hw _ (List.mem_of_getElem? (i := 46) rfl)))) (mvT hZ (hw _ (List.mem_of_getElem? (i := 46) rfl))) (mvT hZ (hw _ (List.mem_of_getElem? (i := 45) rfl))) (by decide) (backOf (W := 0) (rm7 l Z a0 hw [] zo za k58 (1 : Int32) [(.ref zs0)] (1 : Int32) T120.heap n0 (own_le Z0 K128) f122 f130 f124) hZ (hw _ (List.mem_of_getElem? (i := 47) rfl)) (hw _ (List.mem_of_getElem? (i := 31) rfl)) (by decide) (by decide)) q132a q132c (g := (mkF m 213 #[.val (.int x0), .val (.int x1), .val (.int x2), .val (.int x3), .val (.int x4), .val (.int (1 : Int32)), .val (.int (1 : Int32)), .val (.ref zs0), .val (.ref zs1), .val (.ref zs2), .val (.ref za), .val (.ref zo), .val (.int (1 : Int32)), .val (.int (own_hn (1 : Int32) (1 : Int32))), .unset, .unset] [(.ref zo)])) rfl (by rw [hml]; rfl) (Steps.refl _) (argsL := []) (rest := []) (lenOf own_pd91901 rfl) rfl (by show 2 * 0 + _ ≤ _; exact Nat.le_of_eq rfl) (hb hby at_213) (fun _ _ => ⟨rfl, eq131, (by decide : 10 + 0 ≤ _), (by decide : 35 + 0 ≤ _)⟩)
      dsimp only [Pt.U, Pt.locs, Pt.cells, Pt.slots] at X132 l132 y132 z132 st132 hQ132
      subst l132 y132 z132
      obtain ⟨rfl, N132q, eq132⟩ := hQ132
      have N132 := Fr.app N131 N132q
      refine own_tr st132 ?_
      show own_WP _ _ _ _ T132 (mkF m 216 #[.val (.int x0), .val (.int x1), .val (.int x2), .val (.int x3), .val (.int x4), .val (.int (1 : Int32)), .val (.int (1 : Int32)), .val (.ref zs0), .val (.ref zs1), .val (.ref zs2), .val (.ref za), .val (.ref zo), .val (.int (1 : Int32)), .val (.int (own_hn (1 : Int32) (1 : Int32))), .unset, .unset] [(.int (own_hn (1 : Int32) (1 : Int32)))])
      refine own_go (fun t k => XS.istore X132.here hx rfl (hb hby at_216) rfl (l' := #[.val (.int x0), .val (.int x1), .val (.int x2), .val (.int x3), .val (.int x4), .val (.int (1 : Int32)), .val (.int (1 : Int32)), .val (.ref zs0), .val (.ref zs1), .val (.ref zs2), .val (.ref za), .val (.ref zo), .val (.int (1 : Int32)), .val (.int (own_hn (1 : Int32) (1 : Int32))), .val (.int (own_hn (1 : Int32) (1 : Int32))), .unset]) rfl k) ?_
      show own_WP _ _ _ _ T132 (mkF m 218 #[.val (.int x0), .val (.int x1), .val (.int x2), .val (.int x3), .val (.int x4), .val (.int (1 : Int32)), .val (.int (1 : Int32)), .val (.ref zs0), .val (.ref zs1), .val (.ref zs2), .val (.ref za), .val (.ref zo), .val (.int (1 : Int32)), .val (.int (own_hn (1 : Int32) (1 : Int32))), .val (.int (own_hn (1 : Int32) (1 : Int32))), .unset] [])
      refine own_go (fun t k => XS.iload X132.here hx rfl (hb hby at_218) rfl  k) ?_
      show own_WP _ _ _ _ T132 (mkF m 220 #[.val (.int x0), .val (.int x1), .val (.int x2), .val (.int x3), .val (.int x4), .val (.int (1 : Int32)), .val (.int (1 : Int32)), .val (.ref zs0), .val (.ref zs1), .val (.ref zs2), .val (.ref za), .val (.ref zo), .val (.int (1 : Int32)), .val (.int (own_hn (1 : Int32) (1 : Int32))), .val (.int (own_hn (1 : Int32) (1 : Int32))), .unset] [(.int (1 : Int32))])
      have hc220 : ¬ ((1 : Int32) = (0 : Int32)) := by decide
      refine own_go (fun t k => XS.ifNo X132.here hx rfl (hb hby at_220) rfl ((if0 _ _).trans (feq hc220).1) k) ?_
      show own_WP _ _ _ _ T132 (mkF m 223 #[.val (.int x0), .val (.int x1), .val (.int x2), .val (.int x3), .val (.int x4), .val (.int (1 : Int32)), .val (.int (1 : Int32)), .val (.ref zs0), .val (.ref zs1), .val (.ref zs2), .val (.ref za), .val (.ref zo), .val (.int (1 : Int32)), .val (.int (own_hn (1 : Int32) (1 : Int32))), .val (.int (own_hn (1 : Int32) (1 : Int32))), .unset] [])
      refine own_go (fun t k => XS.iload X132.here hx rfl (hb hby at_223) rfl  k) ?_
      show own_WP _ _ _ _ T132 (mkF m 225 #[.val (.int x0), .val (.int x1), .val (.int x2), .val (.int x3), .val (.int x4), .val (.int (1 : Int32)), .val (.int (1 : Int32)), .val (.ref zs0), .val (.ref zs1), .val (.ref zs2), .val (.ref za), .val (.ref zo), .val (.int (1 : Int32)), .val (.int (own_hn (1 : Int32) (1 : Int32))), .val (.int (own_hn (1 : Int32) (1 : Int32))), .unset] [(.int (own_hn (1 : Int32) (1 : Int32)))])
      refine own_go (fun t k => XS.iload X132.here hx rfl (hb hby at_225) rfl  k) ?_
      show own_WP _ _ _ _ T132 (mkF m 227 #[.val (.int x0), .val (.int x1), .val (.int x2), .val (.int x3), .val (.int x4), .val (.int (1 : Int32)), .val (.int (1 : Int32)), .val (.ref zs0), .val (.ref zs1), .val (.ref zs2), .val (.ref za), .val (.ref zo), .val (.int (1 : Int32)), .val (.int (own_hn (1 : Int32) (1 : Int32))), .val (.int (own_hn (1 : Int32) (1 : Int32))), .unset] [(.int (1 : Int32)), (.int (own_hn (1 : Int32) (1 : Int32)))])
      refine own_go (fun t k => XS.iload X132.here hx rfl (hb hby at_227) rfl  k) ?_
      show own_WP _ _ _ _ T132 (mkF m 229 #[.val (.int x0), .val (.int x1), .val (.int x2), .val (.int x3), .val (.int x4), .val (.int (1 : Int32)), .val (.int (1 : Int32)), .val (.ref zs0), .val (.ref zs1), .val (.ref zs2), .val (.ref za), .val (.ref zo), .val (.int (1 : Int32)), .val (.int (own_hn (1 : Int32) (1 : Int32))), .val (.int (own_hn (1 : Int32) (1 : Int32))), .unset] [(.int (1 : Int32)), (.int (1 : Int32)), (.int (own_hn (1 : Int32) (1 : Int32)))])
      have hc229 : ¬ ((1 : Int32) < (1 : Int32)) := by decide
      refine own_go (fun t k => XS.icmpYes X132.here hx rfl (pc0 := 229) (pc' := 236) rfl (hb hby at_229) rfl (flt hc229).2.1 (by decide) (by decide) k) ?_
      show own_WP _ _ _ _ T132 (mkF m 236 #[.val (.int x0), .val (.int x1), .val (.int x2), .val (.int x3), .val (.int x4), .val (.int (1 : Int32)), .val (.int (1 : Int32)), .val (.ref zs0), .val (.ref zs1), .val (.ref zs2), .val (.ref za), .val (.ref zo), .val (.int (1 : Int32)), .val (.int (own_hn (1 : Int32) (1 : Int32))), .val (.int (own_hn (1 : Int32) (1 : Int32))), .unset] [(.int (own_hn (1 : Int32) (1 : Int32)))])
      refine own_go (fun t k => XS.iconst X132.here hx rfl (hb hby at_236) k) ?_
      show own_WP _ _ _ _ T132 (mkF m 237 #[.val (.int x0), .val (.int x1), .val (.int x2), .val (.int x3), .val (.int x4), .val (.int (1 : Int32)), .val (.int (1 : Int32)), .val (.ref zs0), .val (.ref zs1), .val (.ref zs2), .val (.ref za), .val (.ref zo), .val (.int (1 : Int32)), .val (.int (own_hn (1 : Int32) (1 : Int32))), .val (.int (own_hn (1 : Int32) (1 : Int32))), .unset] [(.int (0 : Int32)), (.int (own_hn (1 : Int32) (1 : Int32)))])
      have hc237 : (own_hn (1 : Int32) (1 : Int32)) = (0 : Int32) := by
        decide
      refine own_go (fun t k => XS.icmpNo X132.here hx rfl (hb hby at_237) rfl (teq hc237).2 k) ?_
      show own_WP _ _ _ _ T132 (mkF m 240 #[.val (.int x0), .val (.int x1), .val (.int x2), .val (.int x3), .val (.int x4), .val (.int (1 : Int32)), .val (.int (1 : Int32)), .val (.ref zs0), .val (.ref zs1), .val (.ref zs2), .val (.ref za), .val (.ref zo), .val (.int (1 : Int32)), .val (.int (own_hn (1 : Int32) (1 : Int32))), .val (.int (own_hn (1 : Int32) (1 : Int32))), .unset] [])
      refine own_go (fun t k => XS.iload X132.here hx rfl (hb hby at_240) rfl  k) ?_
      show own_WP _ _ _ _ T132 (mkF m 242 #[.val (.int x0), .val (.int x1), .val (.int x2), .val (.int x3), .val (.int x4), .val (.int (1 : Int32)), .val (.int (1 : Int32)), .val (.ref zs0), .val (.ref zs1), .val (.ref zs2), .val (.ref za), .val (.ref zo), .val (.int (1 : Int32)), .val (.int (own_hn (1 : Int32) (1 : Int32))), .val (.int (own_hn (1 : Int32) (1 : Int32))), .unset] [(.int (own_hn (1 : Int32) (1 : Int32)))])
      refine own_go (fun t k => XS.iload X132.here hx rfl (hb hby at_242) rfl  k) ?_
      show own_WP _ _ _ _ T132 (mkF m 244 #[.val (.int x0), .val (.int x1), .val (.int x2), .val (.int x3), .val (.int x4), .val (.int (1 : Int32)), .val (.int (1 : Int32)), .val (.ref zs0), .val (.ref zs1), .val (.ref zs2), .val (.ref za), .val (.ref zo), .val (.int (1 : Int32)), .val (.int (own_hn (1 : Int32) (1 : Int32))), .val (.int (own_hn (1 : Int32) (1 : Int32))), .unset] [(.int (own_hn (1 : Int32) (1 : Int32))), (.int (own_hn (1 : Int32) (1 : Int32)))])
      have hc244 : (own_hn (1 : Int32) (1 : Int32)) = (own_hn (1 : Int32) (1 : Int32)) := rfl
      refine own_go (fun t k => XS.icmpNo X132.here hx rfl (hb hby at_244) rfl (teq hc244).2 k) ?_
      show own_WP _ _ _ _ T132 (mkF m 247 #[.val (.int x0), .val (.int x1), .val (.int x2), .val (.int x3), .val (.int x4), .val (.int (1 : Int32)), .val (.int (1 : Int32)), .val (.ref zs0), .val (.ref zs1), .val (.ref zs2), .val (.ref za), .val (.ref zo), .val (.int (1 : Int32)), .val (.int (own_hn (1 : Int32) (1 : Int32))), .val (.int (own_hn (1 : Int32) (1 : Int32))), .unset] [])
      refine own_go (fun t k => XS.iconst X132.here hx rfl (hb hby at_247) k) ?_
      show own_WP _ _ _ _ T132 (mkF m 248 #[.val (.int x0), .val (.int x1), .val (.int x2), .val (.int x3), .val (.int x4), .val (.int (1 : Int32)), .val (.int (1 : Int32)), .val (.ref zs0), .val (.ref zs1), .val (.ref zs2), .val (.ref za), .val (.ref zo), .val (.int (1 : Int32)), .val (.int (own_hn (1 : Int32) (1 : Int32))), .val (.int (own_hn (1 : Int32) (1 : Int32))), .unset] [(.int (1 : Int32))])
      refine own_go (fun t k => XS.goto X132.here hx rfl (pc0 := 248) (pc' := 252) rfl (hb hby at_248) (by decide) (by decide) k) ?_
      show own_WP _ _ _ _ T132 (mkF m 252 #[.val (.int x0), .val (.int x1), .val (.int x2), .val (.int x3), .val (.int x4), .val (.int (1 : Int32)), .val (.int (1 : Int32)), .val (.ref zs0), .val (.ref zs1), .val (.ref zs2), .val (.ref za), .val (.ref zo), .val (.int (1 : Int32)), .val (.int (own_hn (1 : Int32) (1 : Int32))), .val (.int (own_hn (1 : Int32) (1 : Int32))), .unset] [(.int (1 : Int32))])
      refine own_go (fun t k => XS.istore X132.here hx rfl (hb hby at_252) rfl (l' := #[.val (.int x0), .val (.int x1), .val (.int x2), .val (.int x3), .val (.int x4), .val (.int (1 : Int32)), .val (.int (1 : Int32)), .val (.ref zs0), .val (.ref zs1), .val (.ref zs2), .val (.ref za), .val (.ref zo), .val (.int (1 : Int32)), .val (.int (own_hn (1 : Int32) (1 : Int32))), .val (.int (own_hn (1 : Int32) (1 : Int32))), .unset]) rfl k) ?_
      show own_WP _ _ _ _ T132 (mkF m 254 #[.val (.int x0), .val (.int x1), .val (.int x2), .val (.int x3), .val (.int x4), .val (.int (1 : Int32)), .val (.int (1 : Int32)), .val (.ref zs0), .val (.ref zs1), .val (.ref zs2), .val (.ref za), .val (.ref zo), .val (.int (1 : Int32)), .val (.int (own_hn (1 : Int32) (1 : Int32))), .val (.int (own_hn (1 : Int32) (1 : Int32))), .unset] [])
      refine own_go (fun t k => XS.iload X132.here hx rfl (hb hby at_254) rfl  k) ?_
      show own_WP _ _ _ _ T132 (mkF m 256 #[.val (.int x0), .val (.int x1), .val (.int x2), .val (.int x3), .val (.int x4), .val (.int (1 : Int32)), .val (.int (1 : Int32)), .val (.ref zs0), .val (.ref zs1), .val (.ref zs2), .val (.ref za), .val (.ref zo), .val (.int (1 : Int32)), .val (.int (own_hn (1 : Int32) (1 : Int32))), .val (.int (own_hn (1 : Int32) (1 : Int32))), .unset] [(.int (1 : Int32))])
      refine own_go (fun t k => XS.iload X132.here hx rfl (hb hby at_256) rfl  k) ?_
      show own_WP _ _ _ _ T132 (mkF m 258 #[.val (.int x0), .val (.int x1), .val (.int x2), .val (.int x3), .val (.int x4), .val (.int (1 : Int32)), .val (.int (1 : Int32)), .val (.ref zs0), .val (.ref zs1), .val (.ref zs2), .val (.ref za), .val (.ref zo), .val (.int (1 : Int32)), .val (.int (own_hn (1 : Int32) (1 : Int32))), .val (.int (own_hn (1 : Int32) (1 : Int32))), .unset] [(.int (1 : Int32)), (.int (1 : Int32))])
      have hc258 : ¬ ((1 : Int32) < (1 : Int32)) := by decide
      refine own_go (fun t k => XS.icmpYes X132.here hx rfl (pc0 := 258) (pc' := 312) rfl (hb hby at_258) rfl (flt hc258).2.1 (by decide) (by decide) k) ?_
      show own_WP _ _ _ _ T132 (mkF m 312 #[.val (.int x0), .val (.int x1), .val (.int x2), .val (.int x3), .val (.int x4), .val (.int (1 : Int32)), .val (.int (1 : Int32)), .val (.ref zs0), .val (.ref zs1), .val (.ref zs2), .val (.ref za), .val (.ref zo), .val (.int (1 : Int32)), .val (.int (own_hn (1 : Int32) (1 : Int32))), .val (.int (own_hn (1 : Int32) (1 : Int32))), .unset] [])
      refine own_go (fun t k => XS.iload X132.here hx rfl (hb hby at_312) rfl  k) ?_
      show own_WP _ _ _ _ T132 (mkF m 314 #[.val (.int x0), .val (.int x1), .val (.int x2), .val (.int x3), .val (.int x4), .val (.int (1 : Int32)), .val (.int (1 : Int32)), .val (.ref zs0), .val (.ref zs1), .val (.ref zs2), .val (.ref za), .val (.ref zo), .val (.int (1 : Int32)), .val (.int (own_hn (1 : Int32) (1 : Int32))), .val (.int (own_hn (1 : Int32) (1 : Int32))), .unset] [(.int (1 : Int32))])
      refine own_retNW X132 hS81 (by rw [eq132]; exact kz129) hx Bd.notSynchronized (t := .boolean) (by simp) Bd.returns (hb hby at_314) (by decide) (by decide) ?_
      rw [eq132]
      exact ⟨rfl, N132⟩
    · exact absurd hn (by decide)
    · exact absurd hn (by decide)
    · exact absurd hn (by decide)
    · exact absurd hn (by decide)
    · exact absurd hn (by decide)
    · exact absurd hn (by decide)
    · exact absurd hn (by decide)
  · subst hn
    show own_WP _ _ _ _ T10 (mkF m 50 #[.val (.int x0), .val (.int x1), .val (.int x2), .val (.int x3), .val (.int x4), .val (.int (2 : Int32)), .val (.int zk), .val (.ref zs0), .val (.ref zs1), .val (.ref zs2), .unset, .unset, .unset, .unset, .unset, .unset] [])
    refine own_go (fun t k => XS.iload X10.here hx rfl (hb hby at_50) rfl  k) ?_
    show own_WP _ _ _ _ T10 (mkF m 52 #[.val (.int x0), .val (.int x1), .val (.int x2), .val (.int x3), .val (.int x4), .val (.int (2 : Int32)), .val (.int zk), .val (.ref zs0), .val (.ref zs1), .val (.ref zs2), .unset, .unset, .unset, .unset, .unset, .unset] [(.int (2 : Int32))])
    have hc52 : ¬ ((2 : Int32) = (0 : Int32)) := by decide
    refine own_go (fun t k => XS.ifYes X10.here hx rfl (pc0 := 52) (pc' := 64) rfl (hb hby at_52) rfl ((if0 _ _).trans (feq hc52).2) (by decide) (by decide) k) ?_
    show own_WP _ _ _ _ T10 (mkF m 64 #[.val (.int x0), .val (.int x1), .val (.int x2), .val (.int x3), .val (.int x4), .val (.int (2 : Int32)), .val (.int zk), .val (.ref zs0), .val (.ref zs1), .val (.ref zs2), .unset, .unset, .unset, .unset, .unset, .unset] [])
    refine own_go (fun t k => XS.iload X10.here hx rfl (hb hby at_64) rfl  k) ?_
    show own_WP _ _ _ _ T10 (mkF m 66 #[.val (.int x0), .val (.int x1), .val (.int x2), .val (.int x3), .val (.int x4), .val (.int (2 : Int32)), .val (.int zk), .val (.ref zs0), .val (.ref zs1), .val (.ref zs2), .unset, .unset, .unset, .unset, .unset, .unset] [(.int (2 : Int32))])
    refine own_go (fun t k => XS.iconst X10.here hx rfl (hb hby at_66) k) ?_
    show own_WP _ _ _ _ T10 (mkF m 67 #[.val (.int x0), .val (.int x1), .val (.int x2), .val (.int x3), .val (.int x4), .val (.int (2 : Int32)), .val (.int zk), .val (.ref zs0), .val (.ref zs1), .val (.ref zs2), .unset, .unset, .unset, .unset, .unset, .unset] [(.int (1 : Int32)), (.int (2 : Int32))])
    have hc67 : ¬ ((2 : Int32) = (1 : Int32)) := by decide
    refine own_go (fun t k => XS.icmpYes X10.here hx rfl (pc0 := 67) (pc' := 84) rfl (hb hby at_67) rfl (feq hc67).2 (by decide) (by decide) k) ?_
    show own_WP _ _ _ _ T10 (mkF m 84 #[.val (.int x0), .val (.int x1), .val (.int x2), .val (.int x3), .val (.int x4), .val (.int (2 : Int32)), .val (.int zk), .val (.ref zs0), .val (.ref zs1), .val (.ref zs2), .unset, .unset, .unset, .unset, .unset, .unset] [])
    refine own_go (fun t k => XS.iload X10.here hx rfl (hb hby at_84) rfl  k) ?_
    show own_WP _ _ _ _ T10 (mkF m 86 #[.val (.int x0), .val (.int x1), .val (.int x2), .val (.int x3), .val (.int x4), .val (.int (2 : Int32)), .val (.int zk), .val (.ref zs0), .val (.ref zs1), .val (.ref zs2), .unset, .unset, .unset, .unset, .unset, .unset] [(.int (2 : Int32))])
    refine own_go (fun t k => XS.iconst X10.here hx rfl (hb hby at_86) k) ?_
    show own_WP _ _ _ _ T10 (mkF m 87 #[.val (.int x0), .val (.int x1), .val (.int x2), .val (.int x3), .val (.int x4), .val (.int (2 : Int32)), .val (.int zk), .val (.ref zs0), .val (.ref zs1), .val (.ref zs2), .unset, .unset, .unset, .unset, .unset, .unset] [(.int (2 : Int32)), (.int (2 : Int32))])
    have hc87 : (2 : Int32) = (2 : Int32) := rfl
    refine own_go (fun t k => XS.icmpNo X10.here hx rfl (hb hby at_87) rfl (teq hc87).2 k) ?_
    show own_WP _ _ _ _ T10 (mkF m 90 #[.val (.int x0), .val (.int x1), .val (.int x2), .val (.int x3), .val (.int x4), .val (.int (2 : Int32)), .val (.int zk), .val (.ref zs0), .val (.ref zs1), .val (.ref zs2), .unset, .unset, .unset, .unset, .unset, .unset] [])
    refine own_go (fun t k => XS.iconst X10.here hx rfl (hb hby at_90) k) ?_
    show own_WP _ _ _ _ T10 (mkF m 91 #[.val (.int x0), .val (.int x1), .val (.int x2), .val (.int x3), .val (.int x4), .val (.int (2 : Int32)), .val (.int zk), .val (.ref zs0), .val (.ref zs1), .val (.ref zs2), .unset, .unset, .unset, .unset, .unset, .unset] [(.int (2 : Int32))])
    obtain ⟨T133, h133, k133, X133, e133, E133, A133, G133, O133, st133⟩ := newRE X10 hx hZ hown (hw _ (List.mem_of_getElem? (i := 27) rfl)) (hw _ (List.mem_of_getElem? (i := 28) rfl)) rfl (g := (mkF m 91 #[.val (.int x0), .val (.int x1), .val (.int x2), .val (.int x3), .val (.int x4), .val (.int (2 : Int32)), .val (.int zk), .val (.ref zs0), .val (.ref zs1), .val (.ref zs2), .unset, .unset, .unset, .unset, .unset, .unset] [(.int (2 : Int32))])) rfl (hb hby at_91) rfl (by decide) (cap := 2) (by decide) (by decide) (by decide) (by decide) (ad := "[Ljava/lang/String;") rfl
    obtain ⟨za, q133⟩ : ∃ z, z = T10.heap.size := ⟨_, rfl⟩
    rw [← q133] at A133 G133 st133
    refine own_go st133 ?_
    have g_za : n0 ≤ za := Nat.le_trans (own_le Z0 K15) (Nat.le_of_eq q133.symm)
    have sz_za : h0.size ≤ za := Nat.le_trans K15.1 (Nat.le_of_eq q133.symm)
    have ne_zs0_za : zs0 ≠ za := Nat.ne_of_lt (Nat.lt_of_lt_of_le f13.lt (Nat.le_of_eq q133.symm))
    have ne_zs1_za : zs1 ≠ za := Nat.ne_of_lt (Nat.lt_of_lt_of_le f14.lt (Nat.le_of_eq q133.symm))
    have ne_zs2_za : zs2 ≠ za := Nat.ne_of_lt (Nat.lt_of_lt_of_le f11.lt (Nat.le_of_eq q133.symm))
    have f134 : Exa Z h133 zs0 "java/lang/String" := f13.ext E133
    have f135 : Exa Z h133 zs1 "java/lang/String" := f14.ext E133
    have f136 : Exa Z h133 zs2 "java/lang/String" := f11.ext E133
    have K137 : Keep h0 h133 [] := K15.ext E133
    have f138 : Arv Z h133 za k133 (.object "java/lang/String") (2 : Int32) [.null, .null] .null := (Arv.new A133 (by decide)).pad (pad_rep [] .null 2)
    show own_WP _ _ _ _ T133 (mkF m 94 #[.val (.int x0), .val (.int x1), .val (.int x2), .val (.int x3), .val (.int x4), .val (.int (2 : Int32)), .val (.int zk), .val (.ref zs0), .val (.ref zs1), .val (.ref zs2), .unset, .unset, .unset, .unset, .unset, .unset] [(.ref za)])
    refine own_go (fun t k => XS.dup X133.here hx rfl (hb hby at_94) rfl rfl k) ?_
    show own_WP _ _ _ _ T133 (mkF m 95 #[.val (.int x0), .val (.int x1), .val (.int x2), .val (.int x3), .val (.int x4), .val (.int (2 : Int32)), .val (.int zk), .val (.ref zs0), .val (.ref zs1), .val (.ref zs2), .unset, .unset, .unset, .unset, .unset, .unset] [(.ref za), (.ref za)])
    refine own_go (fun t k => XS.iconst X133.here hx rfl (hb hby at_95) k) ?_
    show own_WP _ _ _ _ T133 (mkF m 96 #[.val (.int x0), .val (.int x1), .val (.int x2), .val (.int x3), .val (.int x4), .val (.int (2 : Int32)), .val (.int zk), .val (.ref zs0), .val (.ref zs1), .val (.ref zs2), .unset, .unset, .unset, .unset, .unset, .unset] [(.int (0 : Int32)), (.ref za), (.ref za)])
    refine own_go (fun t k => XS.aload X133.here hx rfl (hb hby at_96) rfl rfl  k) ?_
    show own_WP _ _ _ _ T133 (mkF m 98 #[.val (.int x0), .val (.int x1), .val (.int x2), .val (.int x3), .val (.int x4), .val (.int (2 : Int32)), .val (.int zk), .val (.ref zs0), .val (.ref zs1), .val (.ref zs2), .unset, .unset, .unset, .unset, .unset, .unset] [(.ref zs0), (.int (0 : Int32)), (.ref za), (.ref za)])
    refine own_stR X133 hx hZ e133 f138 O133 (Ins.self f134) (j := (0 : Int32)) ⟨by decide, by decide⟩ (i := 0) rfl (Nat.le_of_ble_eq_true rfl) (hb hby at_98) ?_
    intro T139 h139 X139 e139 W139 V139
    have f140 : Arv Z h139 za k133 (.object "java/lang/String") (2 : Int32) [(.ref zs0), .null] .null := V139
    have f141 : Exa Z h139 zs0 "java/lang/String" := f134.wr W139
    have f142 : Exa Z h139 zs1 "java/lang/String" := f135.wr W139
    have f143 : Exa Z h139 zs2 "java/lang/String" := f136.wr W139
    have K145 : Keep h0 h139 [] := K137.wr W139 (Or.inr sz_za)
    have N146 := Fr.snoc X139 N10 g_za
    show own_WP _ _ _ _ T139 (mkF m 99 #[.val (.int x0), .val (.int x1), .val (.int x2), .val (.int x3), .val (.int x4), .val (.int (2 : Int32)), .val (.int zk), .val (.ref zs0), .val (.ref zs1), .val (.ref zs2), .unset, .unset, .unset, .unset, .unset, .unset] [(.ref za)])
    refine own_go (fun t k => XS.dup X139.here hx rfl (hb hby at_99) rfl rfl k) ?_
    show own_WP _ _ _ _ T139 (mkF m 100 #[.val (.int x0), .val (.int x1), .val (.int x2), .val (.int x3), .val (.int x4), .val (.int (2 : Int32)), .val (.int zk), .val (.ref zs0), .val (.ref zs1), .val (.ref zs2), .unset, .unset, .unset, .unset, .unset, .unset] [(.ref za), (.ref za)])
    refine own_go (fun t k => XS.iconst X139.here hx rfl (hb hby at_100) k) ?_
    show own_WP _ _ _ _ T139 (mkF m 101 #[.val (.int x0), .val (.int x1), .val (.int x2), .val (.int x3), .val (.int x4), .val (.int (2 : Int32)), .val (.int zk), .val (.ref zs0), .val (.ref zs1), .val (.ref zs2), .unset, .unset, .unset, .unset, .unset, .unset] [(.int (1 : Int32)), (.ref za), (.ref za)])
    refine own_go (fun t k => XS.aload X139.here hx rfl (hb hby at_101) rfl rfl  k) ?_
    show own_WP _ _ _ _ T139 (mkF m 103 #[.val (.int x0), .val (.int x1), .val (.int x2), .val (.int x3), .val (.int x4), .val (.int (2 : Int32)), .val (.int zk), .val (.ref zs0), .val (.ref zs1), .val (.ref zs2), .unset, .unset, .unset, .unset, .unset, .unset] [(.ref zs1), (.int (1 : Int32)), (.ref za), (.ref za)])
    refine own_stR X139 hx hZ e139 f140 O133 (Ins.self f142) (j := (1 : Int32)) ⟨by decide, by decide⟩ (i := 1) rfl (Nat.le_of_ble_eq_true rfl) (hb hby at_103) ?_
    intro T147 h147 X147 e147 W147 V147
    have f148 : Arv Z h147 za k133 (.object "java/lang/String") (2 : Int32) [(.ref zs0), (.ref zs1)] .null := V147
    have f149 : Exa Z h147 zs0 "java/lang/String" := f141.wr W147
    have f150 : Exa Z h147 zs1 "java/lang/String" := f142.wr W147
    have f151 : Exa Z h147 zs2 "java/lang/String" := f143.wr W147
    have K153 : Keep h0 h147 [] := K145.wr W147 (Or.inr sz_za)
    have N154 := Fr.snoc X147 N146 g_za
    show own_WP _ _ _ _ T147 (mkF m 104 #[.val (.int x0), .val (.int x1), .val (.int x2), .val (.int x3), .val (.int x4), .val (.int (2 : Int32)), .val (.int zk), .val (.ref zs0), .val (.ref zs1), .val (.ref zs2), .unset, .unset, .unset, .unset, .unset, .unset] [(.ref za)])
    refine own_go (fun t k => XS.astore X147.here hx rfl (hb hby at_104) rfl rfl (l' := #[.val (.int x0), .val (.int x1), .val (.int x2), .val (.int x3), .val (.int x4), .val (.int (2 : Int32)), .val (.int zk), .val (.ref zs0), .val (.ref zs1), .val (.ref zs2), .val (.ref za), .unset, .unset, .unset, .unset, .unset]) rfl k) ?_
    show own_WP _ _ _ _ T147 (mkF m 106 #[.val (.int x0), .val (.int x1), .val (.int x2), .val (.int x3), .val (.int x4), .val (.int (2 : Int32)), .val (.int zk), .val (.ref zs0), .val (.ref zs1), .val (.ref zs2), .val (.ref za), .unset, .unset, .unset, .unset, .unset] [])
    refine own_go (fun t k => XS.goto X147.here hx rfl (pc0 := 106) (pc' := 130) rfl (hb hby at_106) (by decide) (by decide) k) ?_
    show own_WP _ _ _ _ T147 (mkF m 130 #[.val (.int x0), .val (.int x1), .val (.int x2), .val (.int x3), .val (.int x4), .val (.int (2 : Int32)), .val (.int zk), .val (.ref zs0), .val (.ref zs1), .val (.ref zs2), .val (.ref za), .unset, .unset, .unset, .unset, .unset] [])
    obtain ⟨T155, h155, X155, e155, E155, A155, D155, -, st155⟩ := newO X147 hx hZ hown (hw _ (List.mem_of_getElem? (i := 29) rfl)) (hw _ (List.mem_of_getElem? (i := 30) rfl)) (hw _ (List.mem_of_getElem? (i := 31) rfl)) e147 (g := (mkF m 130 #[.val (.int x0), .val (.int x1), .val (.int x2), .val (.int x3), .val (.int x4), .val (.int (2 : Int32)), .val (.int zk), .val (.ref zs0), .val (.ref zs1), .val (.ref zs2), .val (.ref za), .unset, .unset, .unset, .unset, .unset] [])) rfl (hb hby at_130) (by decide) (by decide)
    obtain ⟨zo, q155⟩ : ∃ z, z = h147.size := ⟨_, rfl⟩
    rw [← q155] at A155 D155 st155
    refine own_go st155 ?_
    have g_zo : n0 ≤ zo := Nat.le_trans (own_le Z0 K153) (Nat.le_of_eq q155.symm)
    have sz_zo : h0.size ≤ zo := Nat.le_trans K153.1 (Nat.le_of_eq q155.symm)
    have ne_zs0_zo : zs0 ≠ zo := Nat.ne_of_lt (Nat.lt_of_lt_of_le f149.lt (Nat.le_of_eq q155.symm))
    have ne_zs1_zo : zs1 ≠ zo := Nat.ne_of_lt (Nat.lt_of_lt_of_le f150.lt (Nat.le_of_eq q155.symm))
    have ne_zs2_zo : zs2 ≠ zo := Nat.ne_of_lt (Nat.lt_of_lt_of_le f151.lt (Nat.le_of_eq q155.symm))
    have ne_za_zo : za ≠ zo := Nat.ne_of_lt (Nat.lt_of_lt_of_le f148.lt (Nat.le_of_eq q155.symm))
    have f156 : Exa Z h155 zs0 "java/lang/String" := f149.ext E155
    have f157 : Exa Z h155 zs1 "java/lang/String" := f150.ext E155
    have f158 : Exa Z h155 zs2 "java/lang/String" := f151.ext E155
    have f159 : Arv Z h155 za k133 (.object "java/lang/String") (2 : Int32) [(.ref zs0), (.ref zs1)] .null := f148.ext E155
    have K160 : Keep h0 h155 [] := K153.ext E155
    have f161 : Fld Z h155 zo "branchwork/Arguments" "command" "Ljava/lang/String;" .null := D155 (Or.inr (hw _ (List.mem_of_getElem? (i := 40) rfl))) (ty := (.object "java/lang/String")) (by decide)
    have f162 : Fld Z h155 zo "branchwork/Arguments" "args" "[Ljava/lang/String;" .null := D155 (Or.inr (hw _ (List.mem_of_getElem? (i := 42) rfl))) (ty := (.array (.object "java/lang/String"))) (by decide)
    have f163 : Fld Z h155 zo "branchwork/Arguments" "next" "I" (.int (0 : Int32)) := D155 (Or.inl (hw _ (List.mem_of_getElem? (i := 49) rfl))) (ty := .int) (by decide)
    show own_WP _ _ _ _ T155 (mkF m 133 #[.val (.int x0), .val (.int x1), .val (.int x2), .val (.int x3), .val (.int x4), .val (.int (2 : Int32)), .val (.int zk), .val (.ref zs0), .val (.ref zs1), .val (.ref zs2), .val (.ref za), .unset, .unset, .unset, .unset, .unset] [(.ref zo)])
    refine own_go (fun t k => XS.dup X155.here hx rfl (hb hby at_133) rfl rfl k) ?_
    show own_WP _ _ _ _ T155 (mkF m 134 #[.val (.int x0), .val (.int x1), .val (.int x2), .val (.int x3), .val (.int x4), .val (.int (2 : Int32)), .val (.int zk), .val (.ref zs0), .val (.ref zs1), .val (.ref zs2), .val (.ref za), .unset, .unset, .unset, .unset, .unset] [(.ref zo), (.ref zo)])
    obtain ⟨zt, T164, h164, k164, X164, e164, E164, hS164, hk164, hZ, hown, st164⟩ := ldcS (show Stand p l e room_1 (s.setVm s.vm) m #[(.int x0), (.int x1), (.int x2), (.int x3), (.int x4)] below meth c T155 _ _ _ from X155) hx hZ hown (hw _ (List.mem_of_getElem? (i := 32) rfl)) (own_sa hw) e155 ((State.WarmedH.refl s).since 0) (Nat.zero_le _) (g := (mkF m 134 #[.val (.int x0), .val (.int x1), .val (.int x2), .val (.int x3), .val (.int x4), .val (.int (2 : Int32)), .val (.int zk), .val (.ref zs0), .val (.ref zs1), .val (.ref zs2), .val (.ref za), .unset, .unset, .unset, .unset, .unset] [(.ref zo), (.ref zo)])) rfl (hb hby at_134) (n := 12) (by decide) (by decide) (by decide) (by decide)
    refine own_go st164 ?_
    have f165 : Exa Z h164 zs0 "java/lang/String" := f156.ext E164
    have f166 : Exa Z h164 zs1 "java/lang/String" := f157.ext E164
    have f167 : Exa Z h164 zs2 "java/lang/String" := f158.ext E164
    have f168 : Arv Z h164 za k133 (.object "java/lang/String") (2 : Int32) [(.ref zs0), (.ref zs1)] .null := f159.ext E164
    have f169 : Exa Z h164 zo "branchwork/Arguments" := A155.ext E164
    have f170 : Fld Z h164 zo "branchwork/Arguments" "command" "Ljava/lang/String;" .null := f161.ext E164
    have f171 : Fld Z h164 zo "branchwork/Arguments" "args" "[Ljava/lang/String;" .null := f162.ext E164
    have f172 : Fld Z h164 zo "branchwork/Arguments" "next" "I" (.int (0 : Int32)) := f163.ext E164
    have K173 : Keep h0 h164 [] := K160.ext E164
    show own_WP _ _ _ _ T164 (mkF m 136 #[.val (.int x0), .val (.int x1), .val (.int x2), .val (.int x3), .val (.int x4), .val (.int (2 : Int32)), .val (.int zk), .val (.ref zs0), .val (.ref zs1), .val (.ref zs2), .val (.ref za), .unset, .unset, .unset, .unset, .unset] [(.ref zt), (.ref zo), (.ref zo)])
    refine own_go (fun t k => XS.aload X164.here hx rfl (hb hby at_136) rfl rfl  k) ?_
    show own_WP _ _ _ _ T164 (mkF m 138 #[.val (.int x0), .val (.int x1), .val (.int x2), .val (.int x3), .val (.int x4), .val (.int (2 : Int32)), .val (.int zk), .val (.ref zs0), .val (.ref zs1), .val (.ref zs2), .val (.ref za), .unset, .unset, .unset, .unset, .unset] [(.ref za), (.ref zt), (.ref zo), (.ref zo)])
    obtain ⟨_, _, ⟨T174, L174, k174, n174⟩, -, X174, ⟨Lc174, hQ174, l174, y174, z174⟩, st174⟩ := X164.specialBack hx (y := (⟨"branchwork/Arguments", "<init>", "(Ljava/lang/String;[Ljava/lang/String;)V"⟩ : MethodName)) rfl hown (mvT hZ (hw _ (List.mem_of_getElem? (i := 35) rfl))) (mvT hZ (hw _ (List.mem_of_getElem? (i := 36) rfl))) (mvT hZ (hw _ (List.mem_of_getElem? (i := 37) rfl))) (by decide) (backOf (W := 1) (rm6 l Z a0 hw [] zo zt za .null .null (.int (0 : Int32)) h164 n0 (own_le Z0 K173) f169 f170 f171 f172 g_zo) hZ (hw _ (List.mem_of_getElem? (i := 37) rfl)) (hw _ (List.mem_of_getElem? (i := 31) rfl)) (by decide) (by decide)) (g := (mkF m 138 #[.val (.int x0), .val (.int x1), .val (.int x2), .val (.int x3), .val (.int x4), .val (.int (2 : Int32)), .val (.int zk), .val (.ref zs0), .val (.ref zs1), .val (.ref zs2), .val (.ref za), .unset, .unset, .unset, .unset, .unset] [(.ref za), (.ref zt), (.ref zo), (.ref zo)])) rfl (by rw [hml]; rfl) (Steps.refl _) (a := zo) (argsL := [(.ref zt), (.ref za)]) (rest := [(.ref zo)]) (lenOf own_pd94204 rfl) rfl (by show 2 * 0 + _ ≤ _; exact Nat.le_of_eq rfl) (hb hby at_138) (fun _ _ => ⟨rfl, e164, (by decide : 10 + 0 ≤ _), (by decide : 36 + 0 ≤ _)⟩)
    dsimp only [Pt.U, Pt.locs, Pt.cells, Pt.slots] at X174 l174 y174 z174 st174 hQ174
    subst l174 y174 z174
    obtain ⟨rfl, N174q, Kc174, f175, f176, f177⟩ := hQ174
    have N174 := Fr.app N154 N174q
    refine own_tr st174 ?_
    have f178 : Exa Z T174.heap zs0 "java/lang/String" := f165.keep Kc174
    have f179 : Exa Z T174.heap zs1 "java/lang/String" := f166.keep Kc174
    have f180 : Exa Z T174.heap zs2 "java/lang/String" := f167.keep Kc174
    have f181 : Arv Z T174.heap za k133 (.object "java/lang/String") (2 : Int32) [(.ref zs0), (.ref zs1)] .null := f168.keep Kc174 (own_nm ne_za_zo)
    have f182 : Exa Z T174.heap zo "branchwork/Arguments" := f169.keep Kc174
    have K186 : Keep h0 T174.heap [] := K173.trans Kc174 (fun x hx => by cases List.mem_singleton.mp hx; exact Or.inr sz_zo)
    have kz187 : k164 ≤ T174.heap.size := Nat.le_trans hk164 Kc174.1
    show own_WP _ _ _ _ T174 (mkF m 141 #[.val (.int x0), .val (.int x1), .val (.int x2), .val (.int x3), .val (.int x4), .val (.int (2 : Int32)), .val (.int zk), .val (.ref zs0), .val (.ref zs1), .val (.ref zs2), .val (.ref za), .unset, .unset, .unset, .unset, .unset] [(.ref zo)])
    refine own_go (fun t k => XS.astore X174.here hx rfl (hb hby at_141) rfl rfl (l' := #[.val (.int x0), .val (.int x1), .val (.int x2), .val (.int x3), .val (.int x4), .val (.int (2 : Int32)), .val (.int zk), .val (.ref zs0), .val (.ref zs1), .val (.ref zs2), .val (.ref za), .val (.ref zo), .unset, .unset, .unset, .unset]) rfl k) ?_
    show own_WP _ _ _ _ T174 (mkF m 143 #[.val (.int x0), .val (.int x1), .val (.int x2), .val (.int x3), .val (.int x4), .val (.int (2 : Int32)), .val (.int zk), .val (.ref zs0), .val (.ref zs1), .val (.ref zs2), .val (.ref za), .val (.ref zo), .unset, .unset, .unset, .unset] [])
    refine own_go (fun t k => XS.aload X174.here hx rfl (hb hby at_143) rfl rfl  k) ?_
    show own_WP _ _ _ _ T174 (mkF m 145 #[.val (.int x0), .val (.int x1), .val (.int x2), .val (.int x3), .val (.int x4), .val (.int (2 : Int32)), .val (.int zk), .val (.ref zs0), .val (.ref zs1), .val (.ref zs2), .val (.ref za), .val (.ref zo), .unset, .unset, .unset, .unset] [(.ref zo)])
    obtain ⟨cq188, kq188, q188a, q188b, q188c⟩ := isOf hZ rfl f175
    obtain ⟨_, _, ⟨T188, L188, k188, n188⟩, -, X188, ⟨Lc188, hQ188, l188, y188, z188⟩, st188⟩ := X174.virtualBack hx (y := (⟨"branchwork/Arguments", "hasNext", "()Z"⟩ : MethodName)) (z := (⟨"branchwork/Arguments", "hasNext", "()Z"⟩ : MethodName)) hown (mvT hZ (hw _ (List.mem_of_getElem? (i := 43) rfl))) (mvT hZ (hw _ (List.mem_of_getElem? (i := 44) rfl))) (notFace_of_selects (args := #[]) (mvT hZ (hw _ (List.mem_of_getElem? (i := 46) rfl)))) (mvT hZ (hw _ (List.mem_of_getElem? (i := 46) rfl))) (mvT hZ (hw _ (List.mem_of_getElem? (i := 45) rfl))) (by decide) (backOf (W := 0) (rm7 l Z a0 hw [] zo za k133 (2 : Int32) [(.ref zs0), (.ref zs1)] (0 : Int32) T174.heap n0 (own_le Z0 K186) f176 f177 f181) hZ (hw _ (List.mem_of_getElem? (i := 47) rfl)) (hw _ (List.mem_of_getElem? (i := 31) rfl)) (by decide) (by decide)) q188a q188c (g := (mkF m 145 #[.val (.int x0), .val (.int x1), .val (.int x2), .val (.int x3), .val (.int x4), .val (.int (2 : Int32)), .val (.int zk), .val (.ref zs0), .val (.ref zs1), .val (.ref zs2), .val (.ref za), .val (.ref zo), .unset, .unset, .unset, .unset] [(.ref zo)])) rfl (by rw [hml]; rfl) (Steps.refl _) (argsL := []) (rest := []) (lenOf own_pd91901 rfl) rfl (by show 2 * 0 + _ ≤ _; exact Nat.le_of_eq rfl) (hb hby at_145) (fun _ _ => ⟨rfl, rfl, (by decide : 10 + 0 ≤ _), (by decide : 36 + 0 ≤ _)⟩)
    dsimp only [Pt.U, Pt.locs, Pt.cells, Pt.slots] at X188 l188 y188 z188 st188 hQ188
    subst l188 y188 z188
    obtain ⟨rfl, N188q, eq188⟩ := hQ188
    have N188 := Fr.app N174 N188q
    refine own_tr st188 ?_
    show own_WP _ _ _ _ T188 (mkF m 148 #[.val (.int x0), .val (.int x1), .val (.int x2), .val (.int x3), .val (.int x4), .val (.int (2 : Int32)), .val (.int zk), .val (.ref zs0), .val (.ref zs1), .val (.ref zs2), .val (.ref za), .val (.ref zo), .unset, .unset, .unset, .unset] [(.int (own_hn (0 : Int32) (2 : Int32)))])
    refine own_go (fun t k => XS.iload X188.here hx rfl (hb hby at_148) rfl  k) ?_
    show own_WP _ _ _ _ T188 (mkF m 150 #[.val (.int x0), .val (.int x1), .val (.int x2), .val (.int x3), .val (.int x4), .val (.int (2 : Int32)), .val (.int zk), .val (.ref zs0), .val (.ref zs1), .val (.ref zs2), .val (.ref za), .val (.ref zo), .unset, .unset, .unset, .unset] [(.int (2 : Int32)), (.int (own_hn (0 : Int32) (2 : Int32)))])
    have hc150 : (0 : Int32) < (2 : Int32) := by decide
    refine own_go (fun t k => XS.ifNo X188.here hx rfl (hb hby at_150) rfl ((if0 _ _).trans (tlt hc150).2.2.2) k) ?_
    show own_WP _ _ _ _ T188 (mkF m 153 #[.val (.int x0), .val (.int x1), .val (.int x2), .val (.int x3), .val (.int x4), .val (.int (2 : Int32)), .val (.int zk), .val (.ref zs0), .val (.ref zs1), .val (.ref zs2), .val (.ref za), .val (.ref zo), .unset, .unset, .unset, .unset] [(.int (own_hn (0 : Int32) (2 : Int32)))])
    refine own_go (fun t k => XS.iconst X188.here hx rfl (hb hby at_153) k) ?_
    show own_WP _ _ _ _ T188 (mkF m 154 #[.val (.int x0), .val (.int x1), .val (.int x2), .val (.int x3), .val (.int x4), .val (.int (2 : Int32)), .val (.int zk), .val (.ref zs0), .val (.ref zs1), .val (.ref zs2), .val (.ref za), .val (.ref zo), .unset, .unset, .unset, .unset] [(.int (1 : Int32)), (.int (own_hn (0 : Int32) (2 : Int32)))])
    refine own_go (fun t k => XS.goto X188.here hx rfl (pc0 := 154) (pc' := 158) rfl (hb hby at_154) (by decide) (by decide) k) ?_
    show own_WP _ _ _ _ T188 (mkF m 158 #[.val (.int x0), .val (.int x1), .val (.int x2), .val (.int x3), .val (.int x4), .val (.int (2 : Int32)), .val (.int zk), .val (.ref zs0), .val (.ref zs1), .val (.ref zs2), .val (.ref za), .val (.ref zo), .unset, .unset, .unset, .unset] [(.int (1 : Int32)), (.int (own_hn (0 : Int32) (2 : Int32)))])
    have hc158 : (own_hn (0 : Int32) (2 : Int32)) = (1 : Int32) := by
      decide
    refine own_go (fun t k => XS.icmpNo X188.here hx rfl (hb hby at_158) rfl (teq hc158).2 k) ?_
    show own_WP _ _ _ _ T188 (mkF m 161 #[.val (.int x0), .val (.int x1), .val (.int x2), .val (.int x3), .val (.int x4), .val (.int (2 : Int32)), .val (.int zk), .val (.ref zs0), .val (.ref zs1), .val (.ref zs2), .val (.ref za), .val (.ref zo), .unset, .unset, .unset, .unset] [])
    refine own_go (fun t k => XS.iconst X188.here hx rfl (hb hby at_161) k) ?_
    show own_WP _ _ _ _ T188 (mkF m 162 #[.val (.int x0), .val (.int x1), .val (.int x2), .val (.int x3), .val (.int x4), .val (.int (2 : Int32)), .val (.int zk), .val (.ref zs0), .val (.ref zs1), .val (.ref zs2), .val (.ref za), .val (.ref zo), .unset, .unset, .unset, .unset] [(.int (1 : Int32))])
    refine own_go (fun t k => XS.goto X188.here hx rfl (pc0 := 162) (pc' := 166) rfl (hb hby at_162) (by decide) (by decide) k) ?_
    show own_WP _ _ _ _ T188 (mkF m 166 #[.val (.int x0), .val (.int x1), .val (.int x2), .val (.int x3), .val (.int x4), .val (.int (2 : Int32)), .val (.int zk), .val (.ref zs0), .val (.ref zs1), .val (.ref zs2), .val (.ref za), .val (.ref zo), .unset, .unset, .unset, .unset] [(.int (1 : Int32))])
    refine own_go (fun t k => XS.istore X188.here hx rfl (hb hby at_166) rfl (l' := #[.val (.int x0), .val (.int x1), .val (.int x2), .val (.int x3), .val (.int x4), .val (.int (2 : Int32)), .val (.int zk), .val (.ref zs0), .val (.ref zs1), .val (.ref zs2), .val (.ref za), .val (.ref zo), .val (.int (1 : Int32)), .unset, .unset, .unset]) rfl k) ?_
    rcases own_nk d_zn d_zk with ⟨hn, hk⟩ | ⟨hn, hk⟩ | ⟨hn, hk⟩ | ⟨hn, hk⟩ | ⟨hn, hk⟩ | ⟨hn, hk⟩ | ⟨hn, hk⟩ | ⟨hn, hk⟩ | ⟨hn, hk⟩ | ⟨hn, hk⟩
    · exact absurd hn (by decide)
    · exact absurd hn (by decide)
    · exact absurd hn (by decide)
    · subst hk
      show own_WP _ _ _ _ T188 (mkF m 168 #[.val (.int x0), .val (.int x1), .val (.int x2), .val (.int x3), .val (.int x4), .val (.int (2 : Int32)), .val (.int (0 : Int32)), .val (.ref zs0), .val (.ref zs1), .val (.ref zs2), .val (.ref za), .val (.ref zo), .val (.int (1 : Int32)), .unset, .unset, .unset] [])
      refine own_go (fun t k => XS.iload X188.here hx rfl (hb hby at_168) rfl  k) ?_
      show own_WP _ _ _ _ T188 (mkF m 170 #[.val (.int x0), .val (.int x1), .val (.int x2), .val (.int x3), .val (.int x4), .val (.int (2 : Int32)), .val (.int (0 : Int32)), .val (.ref zs0), .val (.ref zs1), .val (.ref zs2), .val (.ref za), .val (.ref zo), .val (.int (1 : Int32)), .unset, .unset, .unset] [(.int (0 : Int32))])
      refine own_go (fun t k => XS.iconst X188.here hx rfl (hb hby at_170) k) ?_
      show own_WP _ _ _ _ T188 (mkF m 171 #[.val (.int x0), .val (.int x1), .val (.int x2), .val (.int x3), .val (.int x4), .val (.int (2 : Int32)), .val (.int (0 : Int32)), .val (.ref zs0), .val (.ref zs1), .val (.ref zs2), .val (.ref za), .val (.ref zo), .val (.int (1 : Int32)), .unset, .unset, .unset] [(.int (1 : Int32)), (.int (0 : Int32))])
      have hc171 : (0 : Int32) < (1 : Int32) := by decide
      refine own_go (fun t k => XS.icmpYes X188.here hx rfl (pc0 := 171) (pc' := 180) rfl (hb hby at_171) rfl (tlt hc171).1 (by decide) (by decide) k) ?_
      show own_WP _ _ _ _ T188 (mkF m 180 #[.val (.int x0), .val (.int x1), .val (.int x2), .val (.int x3), .val (.int x4), .val (.int (2 : Int32)), .val (.int (0 : Int32)), .val (.ref zs0), .val (.ref zs1), .val (.ref zs2), .val (.ref za), .val (.ref zo), .val (.int (1 : Int32)), .unset, .unset, .unset] [])
      refine own_go (fun t k => XS.iload X188.here hx rfl (hb hby at_180) rfl  k) ?_
      show own_WP _ _ _ _ T188 (mkF m 182 #[.val (.int x0), .val (.int x1), .val (.int x2), .val (.int x3), .val (.int x4), .val (.int (2 : Int32)), .val (.int (0 : Int32)), .val (.ref zs0), .val (.ref zs1), .val (.ref zs2), .val (.ref za), .val (.ref zo), .val (.int (1 : Int32)), .unset, .unset, .unset] [(.int (0 : Int32))])
      refine own_go (fun t k => XS.iconst X188.here hx rfl (hb hby at_182) k) ?_
      show own_WP _ _ _ _ T188 (mkF m 183 #[.val (.int x0), .val (.int x1), .val (.int x2), .val (.int x3), .val (.int x4), .val (.int (2 : Int32)), .val (.int (0 : Int32)), .val (.ref zs0), .val (.ref zs1), .val (.ref zs2), .val (.ref za), .val (.ref zo), .val (.int (1 : Int32)), .unset, .unset, .unset] [(.int (2 : Int32)), (.int (0 : Int32))])
      have hc183 : (0 : Int32) < (2 : Int32) := by decide
      refine own_go (fun t k => XS.icmpYes X188.here hx rfl (pc0 := 183) (pc' := 192) rfl (hb hby at_183) rfl (tlt hc183).1 (by decide) (by decide) k) ?_
      show own_WP _ _ _ _ T188 (mkF m 192 #[.val (.int x0), .val (.int x1), .val (.int x2), .val (.int x3), .val (.int x4), .val (.int (2 : Int32)), .val (.int (0 : Int32)), .val (.ref zs0), .val (.ref zs1), .val (.ref zs2), .val (.ref za), .val (.ref zo), .val (.int (1 : Int32)), .unset, .unset, .unset] [])
      refine own_go (fun t k => XS.iload X188.here hx rfl (hb hby at_192) rfl  k) ?_
      show own_WP _ _ _ _ T188 (mkF m 194 #[.val (.int x0), .val (.int x1), .val (.int x2), .val (.int x3), .val (.int x4), .val (.int (2 : Int32)), .val (.int (0 : Int32)), .val (.ref zs0), .val (.ref zs1), .val (.ref zs2), .val (.ref za), .val (.ref zo), .val (.int (1 : Int32)), .unset, .unset, .unset] [(.int (0 : Int32))])
      refine own_go (fun t k => XS.iconst X188.here hx rfl (hb hby at_194) k) ?_
      show own_WP _ _ _ _ T188 (mkF m 195 #[.val (.int x0), .val (.int x1), .val (.int x2), .val (.int x3), .val (.int x4), .val (.int (2 : Int32)), .val (.int (0 : Int32)), .val (.ref zs0), .val (.ref zs1), .val (.ref zs2), .val (.ref za), .val (.ref zo), .val (.int (1 : Int32)), .unset, .unset, .unset] [(.int (3 : Int32)), (.int (0 : Int32))])
      have hc195 : (0 : Int32) < (3 : Int32) := by decide
      refine own_go (fun t k => XS.icmpYes X188.here hx rfl (pc0 := 195) (pc' := 204) rfl (hb hby at_195) rfl (tlt hc195).1 (by decide) (by decide) k) ?_
      show own_WP _ _ _ _ T188 (mkF m 204 #[.val (.int x0), .val (.int x1), .val (.int x2), .val (.int x3), .val (.int x4), .val (.int (2 : Int32)), .val (.int (0 : Int32)), .val (.ref zs0), .val (.ref zs1), .val (.ref zs2), .val (.ref za), .val (.ref zo), .val (.int (1 : Int32)), .unset, .unset, .unset] [])
      refine own_go (fun t k => XS.aload X188.here hx rfl (hb hby at_204) rfl rfl  k) ?_
      show own_WP _ _ _ _ T188 (mkF m 206 #[.val (.int x0), .val (.int x1), .val (.int x2), .val (.int x3), .val (.int x4), .val (.int (2 : Int32)), .val (.int (0 : Int32)), .val (.ref zs0), .val (.ref zs1), .val (.ref zs2), .val (.ref za), .val (.ref zo), .val (.int (1 : Int32)), .unset, .unset, .unset] [(.ref zo)])
      obtain ⟨cq189, kq189, q189a, q189b, q189c⟩ := isOf hZ eq188 f175
      obtain ⟨_, _, ⟨T189, L189, k189, n189⟩, -, X189, ⟨Lc189, hQ189, l189, y189, z189⟩, st189⟩ := X188.virtualBack hx (y := (⟨"branchwork/Arguments", "hasNext", "()Z"⟩ : MethodName)) (z := (⟨"branchwork/Arguments", "hasNext", "()Z"⟩ : MethodName)) hown (mvT hZ (hw _ (List.mem_of_getElem? (i := 43) rfl))) (mvT hZ (hw _ (List.mem_of_getElem? (i := 44) rfl))) (notFace_of_selects (args := #[]) (mvT hZ (hw _ (List.mem_of_getElem? (i := 46) rfl)))) (mvT hZ (hw _ (List.mem_of_getElem? (i := 46) rfl))) (mvT hZ (hw _ (List.mem_of_getElem? (i := 45) rfl))) (by decide) (backOf (W := 0) (rm7 l Z a0 hw [] zo za k133 (2 : Int32) [(.ref zs0), (.ref zs1)] (0 : Int32) T174.heap n0 (own_le Z0 K186) f176 f177 f181) hZ (hw _ (List.mem_of_getElem? (i := 47) rfl)) (hw _ (List.mem_of_getElem? (i := 31) rfl)) (by decide) (by decide)) q189a q189c (g := (mkF m 206 #[.val (.int x0), .val (.int x1), .val (.int x2), .val (.int x3), .val (.int x4), .val (.int (2 : Int32)), .val (.int (0 : Int32)), .val (.ref zs0), .val (.ref zs1), .val (.ref zs2), .val (.ref za), .val (.ref zo), .val (.int (1 : Int32)), .unset, .unset, .unset] [(.ref zo)])) rfl (by rw [hml]; rfl) (Steps.refl _) (argsL := []) (rest := []) (lenOf own_pd91901 rfl) rfl (by show 2 * 0 + _ ≤ _; exact Nat.le_of_eq rfl) (hb hby at_206) (fun _ _ => ⟨rfl, eq188, (by decide : 10 + 0 ≤ _), (by decide : 36 + 0 ≤ _)⟩)
      dsimp only [Pt.U, Pt.locs, Pt.cells, Pt.slots] at X189 l189 y189 z189 st189 hQ189
      subst l189 y189 z189
      obtain ⟨rfl, N189q, eq189⟩ := hQ189
      have N189 := Fr.app N188 N189q
      refine own_tr st189 ?_
      show own_WP _ _ _ _ T189 (mkF m 209 #[.val (.int x0), .val (.int x1), .val (.int x2), .val (.int x3), .val (.int x4), .val (.int (2 : Int32)), .val (.int (0 : Int32)), .val (.ref zs0), .val (.ref zs1), .val (.ref zs2), .val (.ref za), .val (.ref zo), .val (.int (1 : Int32)), .unset, .unset, .unset] [(.int (own_hn (0 : Int32) (2 : Int32)))])
      refine own_go (fun t k => XS.istore X189.here hx rfl (hb hby at_209) rfl (l' := #[.val (.int x0), .val (.int x1), .val (.int x2), .val (.int x3), .val (.int x4), .val (.int (2 : Int32)), .val (.int (0 : Int32)), .val (.ref zs0), .val (.ref zs1), .val (.ref zs2), .val (.ref za), .val (.ref zo), .val (.int (1 : Int32)), .val (.int (own_hn (0 : Int32) (2 : Int32))), .unset, .unset]) rfl k) ?_
      show own_WP _ _ _ _ T189 (mkF m 211 #[.val (.int x0), .val (.int x1), .val (.int x2), .val (.int x3), .val (.int x4), .val (.int (2 : Int32)), .val (.int (0 : Int32)), .val (.ref zs0), .val (.ref zs1), .val (.ref zs2), .val (.ref za), .val (.ref zo), .val (.int (1 : Int32)), .val (.int (own_hn (0 : Int32) (2 : Int32))), .unset, .unset] [])
      refine own_go (fun t k => XS.aload X189.here hx rfl (hb hby at_211) rfl rfl  k) ?_
      show own_WP _ _ _ _ T189 (mkF m 213 #[.val (.int x0), .val (.int x1), .val (.int x2), .val (.int x3), .val (.int x4), .val (.int (2 : Int32)), .val (.int (0 : Int32)), .val (.ref zs0), .val (.ref zs1), .val (.ref zs2), .val (.ref za), .val (.ref zo), .val (.int (1 : Int32)), .val (.int (own_hn (0 : Int32) (2 : Int32))), .unset, .unset] [(.ref zo)])
      obtain ⟨cq190, kq190, q190a, q190b, q190c⟩ := isOf hZ eq189 f175
      obtain ⟨_, _, ⟨T190, L190, k190, n190⟩, -, X190, ⟨Lc190, hQ190, l190, y190, z190⟩, st190⟩ := X189.virtualBack hx (y := (⟨"branchwork/Arguments", "hasNext", "()Z"⟩ : MethodName)) (z := (⟨"branchwork/Arguments", "hasNext", "()Z"⟩ : MethodName)) hown (mvT hZ (hw _ (List.mem_of_getElem? (i := 43) rfl))) (mvT hZ (hw _ (List.mem_of_getElem? (i := 44) rfl))) (notFace_of_selects (args := #[]) (mvT hZ (hw _ (List.mem_of_getElem? (i := 46) rfl)))) (mvT hZ (hw _ (List.mem_of_getElem? (i := 46) rfl))) (mvT hZ (hw _ (List.mem_of_getElem? (i := 45) rfl))) (by decide) (backOf (W := 0) (rm7 l Z a0 hw [] zo za k133 (2 : Int32) [(.ref zs0), (.ref zs1)] (0 : Int32) T174.heap n0 (own_le Z0 K186) f176 f177 f181) hZ (hw _ (List.mem_of_getElem? (i := 47) rfl)) (hw _ (List.mem_of_getElem? (i := 31) rfl)) (by decide) (by decide)) q190a q190c (g := (mkF m 213 #[.val (.int x0), .val (.int x1), .val (.int x2), .val (.int x3), .val (.int x4), .val (.int (2 : Int32)), .val (.int (0 : Int32)), .val (.ref zs0), .val (.ref zs1), .val (.ref zs2), .val (.ref za), .val (.ref zo), .val (.int (1 : Int32)), .val (.int (own_hn (0 : Int32) (2 : Int32))), .unset, .unset] [(.ref zo)])) rfl (by rw [hml]; rfl) (Steps.refl _) (argsL := []) (rest := []) (lenOf own_pd91901 rfl) rfl (by show 2 * 0 + _ ≤ _; exact Nat.le_of_eq rfl) (hb hby at_213) (fun _ _ => ⟨rfl, eq189, (by decide : 10 + 0 ≤ _), (by decide : 36 + 0 ≤ _)⟩)
      dsimp only [Pt.U, Pt.locs, Pt.cells, Pt.slots] at X190 l190 y190 z190 st190 hQ190
      subst l190 y190 z190
      obtain ⟨rfl, N190q, eq190⟩ := hQ190
      have N190 := Fr.app N189 N190q
      refine own_tr st190 ?_
      show own_WP _ _ _ _ T190 (mkF m 216 #[.val (.int x0), .val (.int x1), .val (.int x2), .val (.int x3), .val (.int x4), .val (.int (2 : Int32)), .val (.int (0 : Int32)), .val (.ref zs0), .val (.ref zs1), .val (.ref zs2), .val (.ref za), .val (.ref zo), .val (.int (1 : Int32)), .val (.int (own_hn (0 : Int32) (2 : Int32))), .unset, .unset] [(.int (own_hn (0 : Int32) (2 : Int32)))])
      refine own_go (fun t k => XS.istore X190.here hx rfl (hb hby at_216) rfl (l' := #[.val (.int x0), .val (.int x1), .val (.int x2), .val (.int x3), .val (.int x4), .val (.int (2 : Int32)), .val (.int (0 : Int32)), .val (.ref zs0), .val (.ref zs1), .val (.ref zs2), .val (.ref za), .val (.ref zo), .val (.int (1 : Int32)), .val (.int (own_hn (0 : Int32) (2 : Int32))), .val (.int (own_hn (0 : Int32) (2 : Int32))), .unset]) rfl k) ?_
      show own_WP _ _ _ _ T190 (mkF m 218 #[.val (.int x0), .val (.int x1), .val (.int x2), .val (.int x3), .val (.int x4), .val (.int (2 : Int32)), .val (.int (0 : Int32)), .val (.ref zs0), .val (.ref zs1), .val (.ref zs2), .val (.ref za), .val (.ref zo), .val (.int (1 : Int32)), .val (.int (own_hn (0 : Int32) (2 : Int32))), .val (.int (own_hn (0 : Int32) (2 : Int32))), .unset] [])
      refine own_go (fun t k => XS.iload X190.here hx rfl (hb hby at_218) rfl  k) ?_
      show own_WP _ _ _ _ T190 (mkF m 220 #[.val (.int x0), .val (.int x1), .val (.int x2), .val (.int x3), .val (.int x4), .val (.int (2 : Int32)), .val (.int (0 : Int32)), .val (.ref zs0), .val (.ref zs1), .val (.ref zs2), .val (.ref za), .val (.ref zo), .val (.int (1 : Int32)), .val (.int (own_hn (0 : Int32) (2 : Int32))), .val (.int (own_hn (0 : Int32) (2 : Int32))), .unset] [(.int (1 : Int32))])
      have hc220 : ¬ ((1 : Int32) = (0 : Int32)) := by decide
      refine own_go (fun t k => XS.ifNo X190.here hx rfl (hb hby at_220) rfl ((if0 _ _).trans (feq hc220).1) k) ?_
      show own_WP _ _ _ _ T190 (mkF m 223 #[.val (.int x0), .val (.int x1), .val (.int x2), .val (.int x3), .val (.int x4), .val (.int (2 : Int32)), .val (.int (0 : Int32)), .val (.ref zs0), .val (.ref zs1), .val (.ref zs2), .val (.ref za), .val (.ref zo), .val (.int (1 : Int32)), .val (.int (own_hn (0 : Int32) (2 : Int32))), .val (.int (own_hn (0 : Int32) (2 : Int32))), .unset] [])
      refine own_go (fun t k => XS.iload X190.here hx rfl (hb hby at_223) rfl  k) ?_
      show own_WP _ _ _ _ T190 (mkF m 225 #[.val (.int x0), .val (.int x1), .val (.int x2), .val (.int x3), .val (.int x4), .val (.int (2 : Int32)), .val (.int (0 : Int32)), .val (.ref zs0), .val (.ref zs1), .val (.ref zs2), .val (.ref za), .val (.ref zo), .val (.int (1 : Int32)), .val (.int (own_hn (0 : Int32) (2 : Int32))), .val (.int (own_hn (0 : Int32) (2 : Int32))), .unset] [(.int (own_hn (0 : Int32) (2 : Int32)))])
      refine own_go (fun t k => XS.iload X190.here hx rfl (hb hby at_225) rfl  k) ?_
      show own_WP _ _ _ _ T190 (mkF m 227 #[.val (.int x0), .val (.int x1), .val (.int x2), .val (.int x3), .val (.int x4), .val (.int (2 : Int32)), .val (.int (0 : Int32)), .val (.ref zs0), .val (.ref zs1), .val (.ref zs2), .val (.ref za), .val (.ref zo), .val (.int (1 : Int32)), .val (.int (own_hn (0 : Int32) (2 : Int32))), .val (.int (own_hn (0 : Int32) (2 : Int32))), .unset] [(.int (0 : Int32)), (.int (own_hn (0 : Int32) (2 : Int32)))])
      refine own_go (fun t k => XS.iload X190.here hx rfl (hb hby at_227) rfl  k) ?_
      show own_WP _ _ _ _ T190 (mkF m 229 #[.val (.int x0), .val (.int x1), .val (.int x2), .val (.int x3), .val (.int x4), .val (.int (2 : Int32)), .val (.int (0 : Int32)), .val (.ref zs0), .val (.ref zs1), .val (.ref zs2), .val (.ref za), .val (.ref zo), .val (.int (1 : Int32)), .val (.int (own_hn (0 : Int32) (2 : Int32))), .val (.int (own_hn (0 : Int32) (2 : Int32))), .unset] [(.int (2 : Int32)), (.int (0 : Int32)), (.int (own_hn (0 : Int32) (2 : Int32)))])
      have hc229 : (0 : Int32) < (2 : Int32) := by decide
      refine own_go (fun t k => XS.icmpNo X190.here hx rfl (hb hby at_229) rfl (tlt hc229).2.1 k) ?_
      show own_WP _ _ _ _ T190 (mkF m 232 #[.val (.int x0), .val (.int x1), .val (.int x2), .val (.int x3), .val (.int x4), .val (.int (2 : Int32)), .val (.int (0 : Int32)), .val (.ref zs0), .val (.ref zs1), .val (.ref zs2), .val (.ref za), .val (.ref zo), .val (.int (1 : Int32)), .val (.int (own_hn (0 : Int32) (2 : Int32))), .val (.int (own_hn (0 : Int32) (2 : Int32))), .unset] [(.int (own_hn (0 : Int32) (2 : Int32)))])
      refine own_go (fun t k => XS.iconst X190.here hx rfl (hb hby at_232) k) ?_
      show own_WP _ _ _ _ T190 (mkF m 233 #[.val (.int x0), .val (.int x1), .val (.int x2), .val (.int x3), .val (.int x4), .val (.int (2 : Int32)), .val (.int (0 : Int32)), .val (.ref zs0), .val (.ref zs1), .val (.ref zs2), .val (.ref za), .val (.ref zo), .val (.int (1 : Int32)), .val (.int (own_hn (0 : Int32) (2 : Int32))), .val (.int (own_hn (0 : Int32) (2 : Int32))), .unset] [(.int (1 : Int32)), (.int (own_hn (0 : Int32) (2 : Int32)))])
      refine own_go (fun t k => XS.goto X190.here hx rfl (pc0 := 233) (pc' := 237) rfl (hb hby at_233) (by decide) (by decide) k) ?_
      show own_WP _ _ _ _ T190 (mkF m 237 #[.val (.int x0), .val (.int x1), .val (.int x2), .val (.int x3), .val (.int x4), .val (.int (2 : Int32)), .val (.int (0 : Int32)), .val (.ref zs0), .val (.ref zs1), .val (.ref zs2), .val (.ref za), .val (.ref zo), .val (.int (1 : Int32)), .val (.int (own_hn (0 : Int32) (2 : Int32))), .val (.int (own_hn (0 : Int32) (2 : Int32))), .unset] [(.int (1 : Int32)), (.int (own_hn (0 : Int32) (2 : Int32)))])
      refine own_go (fun t k => XS.icmpNo X190.here hx rfl (hb hby at_237) rfl (teq hc158).2 k) ?_
      show own_WP _ _ _ _ T190 (mkF m 240 #[.val (.int x0), .val (.int x1), .val (.int x2), .val (.int x3), .val (.int x4), .val (.int (2 : Int32)), .val (.int (0 : Int32)), .val (.ref zs0), .val (.ref zs1), .val (.ref zs2), .val (.ref za), .val (.ref zo), .val (.int (1 : Int32)), .val (.int (own_hn (0 : Int32) (2 : Int32))), .val (.int (own_hn (0 : Int32) (2 : Int32))), .unset] [])
      refine own_go (fun t k => XS.iload X190.here hx rfl (hb hby at_240) rfl  k) ?_
      show own_WP _ _ _ _ T190 (mkF m 242 #[.val (.int x0), .val (.int x1), .val (.int x2), .val (.int x3), .val (.int x4), .val (.int (2 : Int32)), .val (.int (0 : Int32)), .val (.ref zs0), .val (.ref zs1), .val (.ref zs2), .val (.ref za), .val (.ref zo), .val (.int (1 : Int32)), .val (.int (own_hn (0 : Int32) (2 : Int32))), .val (.int (own_hn (0 : Int32) (2 : Int32))), .unset] [(.int (own_hn (0 : Int32) (2 : Int32)))])
      refine own_go (fun t k => XS.iload X190.here hx rfl (hb hby at_242) rfl  k) ?_
      show own_WP _ _ _ _ T190 (mkF m 244 #[.val (.int x0), .val (.int x1), .val (.int x2), .val (.int x3), .val (.int x4), .val (.int (2 : Int32)), .val (.int (0 : Int32)), .val (.ref zs0), .val (.ref zs1), .val (.ref zs2), .val (.ref za), .val (.ref zo), .val (.int (1 : Int32)), .val (.int (own_hn (0 : Int32) (2 : Int32))), .val (.int (own_hn (0 : Int32) (2 : Int32))), .unset] [(.int (own_hn (0 : Int32) (2 : Int32))), (.int (own_hn (0 : Int32) (2 : Int32)))])
      have hc244 : (own_hn (0 : Int32) (2 : Int32)) = (own_hn (0 : Int32) (2 : Int32)) := rfl
      refine own_go (fun t k => XS.icmpNo X190.here hx rfl (hb hby at_244) rfl (teq hc244).2 k) ?_
      show own_WP _ _ _ _ T190 (mkF m 247 #[.val (.int x0), .val (.int x1), .val (.int x2), .val (.int x3), .val (.int x4), .val (.int (2 : Int32)), .val (.int (0 : Int32)), .val (.ref zs0), .val (.ref zs1), .val (.ref zs2), .val (.ref za), .val (.ref zo), .val (.int (1 : Int32)), .val (.int (own_hn (0 : Int32) (2 : Int32))), .val (.int (own_hn (0 : Int32) (2 : Int32))), .unset] [])
      refine own_go (fun t k => XS.iconst X190.here hx rfl (hb hby at_247) k) ?_
      show own_WP _ _ _ _ T190 (mkF m 248 #[.val (.int x0), .val (.int x1), .val (.int x2), .val (.int x3), .val (.int x4), .val (.int (2 : Int32)), .val (.int (0 : Int32)), .val (.ref zs0), .val (.ref zs1), .val (.ref zs2), .val (.ref za), .val (.ref zo), .val (.int (1 : Int32)), .val (.int (own_hn (0 : Int32) (2 : Int32))), .val (.int (own_hn (0 : Int32) (2 : Int32))), .unset] [(.int (1 : Int32))])
      refine own_go (fun t k => XS.goto X190.here hx rfl (pc0 := 248) (pc' := 252) rfl (hb hby at_248) (by decide) (by decide) k) ?_
      show own_WP _ _ _ _ T190 (mkF m 252 #[.val (.int x0), .val (.int x1), .val (.int x2), .val (.int x3), .val (.int x4), .val (.int (2 : Int32)), .val (.int (0 : Int32)), .val (.ref zs0), .val (.ref zs1), .val (.ref zs2), .val (.ref za), .val (.ref zo), .val (.int (1 : Int32)), .val (.int (own_hn (0 : Int32) (2 : Int32))), .val (.int (own_hn (0 : Int32) (2 : Int32))), .unset] [(.int (1 : Int32))])
      refine own_go (fun t k => XS.istore X190.here hx rfl (hb hby at_252) rfl (l' := #[.val (.int x0), .val (.int x1), .val (.int x2), .val (.int x3), .val (.int x4), .val (.int (2 : Int32)), .val (.int (0 : Int32)), .val (.ref zs0), .val (.ref zs1), .val (.ref zs2), .val (.ref za), .val (.ref zo), .val (.int (1 : Int32)), .val (.int (own_hn (0 : Int32) (2 : Int32))), .val (.int (own_hn (0 : Int32) (2 : Int32))), .unset]) rfl k) ?_
      show own_WP _ _ _ _ T190 (mkF m 254 #[.val (.int x0), .val (.int x1), .val (.int x2), .val (.int x3), .val (.int x4), .val (.int (2 : Int32)), .val (.int (0 : Int32)), .val (.ref zs0), .val (.ref zs1), .val (.ref zs2), .val (.ref za), .val (.ref zo), .val (.int (1 : Int32)), .val (.int (own_hn (0 : Int32) (2 : Int32))), .val (.int (own_hn (0 : Int32) (2 : Int32))), .unset] [])
      refine own_go (fun t k => XS.iload X190.here hx rfl (hb hby at_254) rfl  k) ?_
      show own_WP _ _ _ _ T190 (mkF m 256 #[.val (.int x0), .val (.int x1), .val (.int x2), .val (.int x3), .val (.int x4), .val (.int (2 : Int32)), .val (.int (0 : Int32)), .val (.ref zs0), .val (.ref zs1), .val (.ref zs2), .val (.ref za), .val (.ref zo), .val (.int (1 : Int32)), .val (.int (own_hn (0 : Int32) (2 : Int32))), .val (.int (own_hn (0 : Int32) (2 : Int32))), .unset] [(.int (0 : Int32))])
      refine own_go (fun t k => XS.iload X190.here hx rfl (hb hby at_256) rfl  k) ?_
      show own_WP _ _ _ _ T190 (mkF m 258 #[.val (.int x0), .val (.int x1), .val (.int x2), .val (.int x3), .val (.int x4), .val (.int (2 : Int32)), .val (.int (0 : Int32)), .val (.ref zs0), .val (.ref zs1), .val (.ref zs2), .val (.ref za), .val (.ref zo), .val (.int (1 : Int32)), .val (.int (own_hn (0 : Int32) (2 : Int32))), .val (.int (own_hn (0 : Int32) (2 : Int32))), .unset] [(.int (2 : Int32)), (.int (0 : Int32))])
      have hc258 : (0 : Int32) < (2 : Int32) := by decide
      refine own_go (fun t k => XS.icmpNo X190.here hx rfl (hb hby at_258) rfl (tlt hc258).2.1 k) ?_
      show own_WP _ _ _ _ T190 (mkF m 261 #[.val (.int x0), .val (.int x1), .val (.int x2), .val (.int x3), .val (.int x4), .val (.int (2 : Int32)), .val (.int (0 : Int32)), .val (.ref zs0), .val (.ref zs1), .val (.ref zs2), .val (.ref za), .val (.ref zo), .val (.int (1 : Int32)), .val (.int (own_hn (0 : Int32) (2 : Int32))), .val (.int (own_hn (0 : Int32) (2 : Int32))), .unset] [])
      refine own_go (fun t k => XS.aload X190.here hx rfl (hb hby at_261) rfl rfl  k) ?_
      show own_WP _ _ _ _ T190 (mkF m 263 #[.val (.int x0), .val (.int x1), .val (.int x2), .val (.int x3), .val (.int x4), .val (.int (2 : Int32)), .val (.int (0 : Int32)), .val (.ref zs0), .val (.ref zs1), .val (.ref zs2), .val (.ref za), .val (.ref zo), .val (.int (1 : Int32)), .val (.int (own_hn (0 : Int32) (2 : Int32))), .val (.int (own_hn (0 : Int32) (2 : Int32))), .unset] [(.ref zo)])
      obtain ⟨cq191, kq191, q191a, q191b, q191c⟩ := isOf hZ eq190 f175
      obtain ⟨_, _, ⟨T191, L191, k191, n191⟩, -, X191, ⟨Lc191, hQ191, l191, y191, z191⟩, st191⟩ := X190.virtualBack hx (y := (⟨"branchwork/Arguments", "next", "()Ljava/lang/String;"⟩ : MethodName)) (z := (⟨"branchwork/Arguments", "next", "()Ljava/lang/String;"⟩ : MethodName)) hown (mvT hZ (hw _ (List.mem_of_getElem? (i := 50) rfl))) (mvT hZ (hw _ (List.mem_of_getElem? (i := 51) rfl))) (notFace_of_selects (args := #[]) (mvT hZ (hw _ (List.mem_of_getElem? (i := 53) rfl)))) (mvT hZ (hw _ (List.mem_of_getElem? (i := 53) rfl))) (mvT hZ (hw _ (List.mem_of_getElem? (i := 52) rfl))) (by decide) (backOf (W := 0) (rm8 l Z a0 hw [] zo za k133 (2 : Int32) [(.ref zs0), (.ref zs1)] (0 : Int32) zs0 T174.heap n0 (own_le Z0 K186) f175 f176 f177 f181 g_zo (Ne.symm ne_za_zo) (show ¬ (0 : Int32) < 0 ∧ (0 : Int32) < (2 : Int32) from ⟨by decide, by decide⟩) (show List.getD (α := Value) [(.ref zs0), (.ref zs1)] (0 : Int32).toNatClampNeg Value.null = Value.ref zs0 from rfl)) hZ (hw _ (List.mem_of_getElem? (i := 54) rfl)) (hw _ (List.mem_of_getElem? (i := 31) rfl)) (by decide) (by decide)) q191a q191c (g := (mkF m 263 #[.val (.int x0), .val (.int x1), .val (.int x2), .val (.int x3), .val (.int x4), .val (.int (2 : Int32)), .val (.int (0 : Int32)), .val (.ref zs0), .val (.ref zs1), .val (.ref zs2), .val (.ref za), .val (.ref zo), .val (.int (1 : Int32)), .val (.int (own_hn (0 : Int32) (2 : Int32))), .val (.int (own_hn (0 : Int32) (2 : Int32))), .unset] [(.ref zo)])) rfl (by rw [hml]; rfl) (Steps.refl _) (argsL := []) (rest := []) (lenOf own_pd53319 rfl) rfl (by show 2 * 0 + _ ≤ _; exact Nat.le_of_eq rfl) (hb hby at_263) (fun _ _ => ⟨rfl, eq190, (by decide : 10 + 0 ≤ _), (by decide : 36 + 0 ≤ _)⟩)
      dsimp only [Pt.U, Pt.locs, Pt.cells, Pt.slots] at X191 l191 y191 z191 st191 hQ191
      subst l191 y191 z191
      obtain ⟨rfl, N191q, Kc191, f192, f193, f194⟩ := hQ191
      have N191 := Fr.app N190 N191q
      refine own_tr st191 ?_
      have f195 : Arv Z T191.heap za k133 (.object "java/lang/String") (2 : Int32) [(.ref zs0), (.ref zs1)] .null := f181.keep Kc191 (own_nm ne_za_zo)
      have f196 : Exa Z T191.heap zo "branchwork/Arguments" := f175.keep Kc191
      have K199 : Keep h0 T191.heap [] := K186.trans Kc191 (fun x hx => by cases List.mem_singleton.mp hx; exact Or.inr sz_zo)
      have kz200 : k164 ≤ T191.heap.size := Nat.le_trans kz187 Kc191.1
      have f201 : Fld Z T191.heap zo "branchwork/Arguments" "next" "I" (.int (1 : Int32)) := f194
      show own_WP _ _ _ _ T191 (mkF m 266 #[.val (.int x0), .val (.int x1), .val (.int x2), .val (.int x3), .val (.int x4), .val (.int (2 : Int32)), .val (.int (0 : Int32)), .val (.ref zs0), .val (.ref zs1), .val (.ref zs2), .val (.ref za), .val (.ref zo), .val (.int (1 : Int32)), .val (.int (own_hn (0 : Int32) (2 : Int32))), .val (.int (own_hn (0 : Int32) (2 : Int32))), .unset] [(.ref zs0)])
      refine own_go (fun t k => XS.astore X191.here hx rfl (hb hby at_266) rfl rfl (l' := #[.val (.int x0), .val (.int x1), .val (.int x2), .val (.int x3), .val (.int x4), .val (.int (2 : Int32)), .val (.int (0 : Int32)), .val (.ref zs0), .val (.ref zs1), .val (.ref zs2), .val (.ref za), .val (.ref zo), .val (.int (1 : Int32)), .val (.int (own_hn (0 : Int32) (2 : Int32))), .val (.int (own_hn (0 : Int32) (2 : Int32))), .val (.ref zs0)]) rfl k) ?_
      show own_WP _ _ _ _ T191 (mkF m 268 #[.val (.int x0), .val (.int x1), .val (.int x2), .val (.int x3), .val (.int x4), .val (.int (2 : Int32)), .val (.int (0 : Int32)), .val (.ref zs0), .val (.ref zs1), .val (.ref zs2), .val (.ref za), .val (.ref zo), .val (.int (1 : Int32)), .val (.int (own_hn (0 : Int32) (2 : Int32))), .val (.int (own_hn (0 : Int32) (2 : Int32))), .val (.ref zs0)] [])
      refine own_go (fun t k => XS.iload X191.here hx rfl (hb hby at_268) rfl  k) ?_
      show own_WP _ _ _ _ T191 (mkF m 270 #[.val (.int x0), .val (.int x1), .val (.int x2), .val (.int x3), .val (.int x4), .val (.int (2 : Int32)), .val (.int (0 : Int32)), .val (.ref zs0), .val (.ref zs1), .val (.ref zs2), .val (.ref za), .val (.ref zo), .val (.int (1 : Int32)), .val (.int (own_hn (0 : Int32) (2 : Int32))), .val (.int (own_hn (0 : Int32) (2 : Int32))), .val (.ref zs0)] [(.int (1 : Int32))])
      have hc270 : ¬ ((1 : Int32) = (0 : Int32)) := by decide
      refine own_go (fun t k => XS.ifNo X191.here hx rfl (hb hby at_270) rfl ((if0 _ _).trans (feq hc270).1) k) ?_
      show own_WP _ _ _ _ T191 (mkF m 273 #[.val (.int x0), .val (.int x1), .val (.int x2), .val (.int x3), .val (.int x4), .val (.int (2 : Int32)), .val (.int (0 : Int32)), .val (.ref zs0), .val (.ref zs1), .val (.ref zs2), .val (.ref za), .val (.ref zo), .val (.int (1 : Int32)), .val (.int (own_hn (0 : Int32) (2 : Int32))), .val (.int (own_hn (0 : Int32) (2 : Int32))), .val (.ref zs0)] [])
      refine own_go (fun t k => XS.aload X191.here hx rfl (hb hby at_273) rfl rfl  k) ?_
      show own_WP _ _ _ _ T191 (mkF m 275 #[.val (.int x0), .val (.int x1), .val (.int x2), .val (.int x3), .val (.int x4), .val (.int (2 : Int32)), .val (.int (0 : Int32)), .val (.ref zs0), .val (.ref zs1), .val (.ref zs2), .val (.ref za), .val (.ref zo), .val (.int (1 : Int32)), .val (.int (own_hn (0 : Int32) (2 : Int32))), .val (.int (own_hn (0 : Int32) (2 : Int32))), .val (.ref zs0)] [(.ref zs0)])
      refine own_go (fun t k => XS.aload X191.here hx rfl (hb hby at_275) rfl rfl  k) ?_
      show own_WP _ _ _ _ T191 (mkF m 277 #[.val (.int x0), .val (.int x1), .val (.int x2), .val (.int x3), .val (.int x4), .val (.int (2 : Int32)), .val (.int (0 : Int32)), .val (.ref zs0), .val (.ref zs1), .val (.ref zs2), .val (.ref za), .val (.ref zo), .val (.int (1 : Int32)), .val (.int (own_hn (0 : Int32) (2 : Int32))), .val (.int (own_hn (0 : Int32) (2 : Int32))), .val (.ref zs0)] [(.ref za), (.ref zs0)])
      refine own_go (fun t k => XS.iload X191.here hx rfl (hb hby at_277) rfl  k) ?_
      show own_WP _ _ _ _ T191 (mkF m 279 #[.val (.int x0), .val (.int x1), .val (.int x2), .val (.int x3), .val (.int x4), .val (.int (2 : Int32)), .val (.int (0 : Int32)), .val (.ref zs0), .val (.ref zs1), .val (.ref zs2), .val (.ref za), .val (.ref zo), .val (.int (1 : Int32)), .val (.int (own_hn (0 : Int32) (2 : Int32))), .val (.int (own_hn (0 : Int32) (2 : Int32))), .val (.ref zs0)] [(.int (0 : Int32)), (.ref za), (.ref zs0)])
      refine own_ldR X191 hx hZ rfl rfl f195 (j := (0 : Int32)) (w := (.ref zs0)) ⟨by decide, by decide⟩ rfl (hb hby at_279) ?_
      show own_WP _ _ _ _ T191 (mkF m 280 #[.val (.int x0), .val (.int x1), .val (.int x2), .val (.int x3), .val (.int x4), .val (.int (2 : Int32)), .val (.int (0 : Int32)), .val (.ref zs0), .val (.ref zs1), .val (.ref zs2), .val (.ref za), .val (.ref zo), .val (.int (1 : Int32)), .val (.int (own_hn (0 : Int32) (2 : Int32))), .val (.int (own_hn (0 : Int32) (2 : Int32))), .val (.ref zs0)] [(.ref zs0), (.ref zs0)])
      refine own_go (fun t k => Jvm.RoadKit.acmp (g := (mkF m 280 #[.val (.int x0), .val (.int x1), .val (.int x2), .val (.int x3), .val (.int x4), .val (.int (2 : Int32)), .val (.int (0 : Int32)), .val (.ref zs0), .val (.ref zs1), .val (.ref zs2), .val (.ref za), .val (.ref zo), .val (.int (1 : Int32)), .val (.int (own_hn (0 : Int32) (2 : Int32))), .val (.int (own_hn (0 : Int32) (2 : Int32))), .val (.ref zs0)] [(.ref zs0), (.ref zs0)])) X191 hx rfl rfl rfl (pc0 := 280) (pc' := 283) (same := true) rfl (hb hby at_280) rfl (decide_eq_true rfl) (by decide) (by decide) k) ?_
      show own_WP _ _ _ _ T191 (mkF m 283 #[.val (.int x0), .val (.int x1), .val (.int x2), .val (.int x3), .val (.int x4), .val (.int (2 : Int32)), .val (.int (0 : Int32)), .val (.ref zs0), .val (.ref zs1), .val (.ref zs2), .val (.ref za), .val (.ref zo), .val (.int (1 : Int32)), .val (.int (own_hn (0 : Int32) (2 : Int32))), .val (.int (own_hn (0 : Int32) (2 : Int32))), .val (.ref zs0)] [])
      refine own_go (fun t k => XS.aload X191.here hx rfl (hb hby at_283) rfl rfl  k) ?_
      show own_WP _ _ _ _ T191 (mkF m 285 #[.val (.int x0), .val (.int x1), .val (.int x2), .val (.int x3), .val (.int x4), .val (.int (2 : Int32)), .val (.int (0 : Int32)), .val (.ref zs0), .val (.ref zs1), .val (.ref zs2), .val (.ref za), .val (.ref zo), .val (.int (1 : Int32)), .val (.int (own_hn (0 : Int32) (2 : Int32))), .val (.int (own_hn (0 : Int32) (2 : Int32))), .val (.ref zs0)] [(.ref zo)])
      obtain ⟨cq202, kq202, q202a, q202b, q202c⟩ := isOf hZ rfl f192
      obtain ⟨_, _, ⟨T202, L202, k202, n202⟩, -, X202, ⟨Lc202, hQ202, l202, y202, z202⟩, st202⟩ := X191.virtualBack hx (y := (⟨"branchwork/Arguments", "hasNext", "()Z"⟩ : MethodName)) (z := (⟨"branchwork/Arguments", "hasNext", "()Z"⟩ : MethodName)) hown (mvT hZ (hw _ (List.mem_of_getElem? (i := 43) rfl))) (mvT hZ (hw _ (List.mem_of_getElem? (i := 44) rfl))) (notFace_of_selects (args := #[]) (mvT hZ (hw _ (List.mem_of_getElem? (i := 46) rfl)))) (mvT hZ (hw _ (List.mem_of_getElem? (i := 46) rfl))) (mvT hZ (hw _ (List.mem_of_getElem? (i := 45) rfl))) (by decide) (backOf (W := 0) (rm7 l Z a0 hw [] zo za k133 (2 : Int32) [(.ref zs0), (.ref zs1)] (1 : Int32) T191.heap n0 (own_le Z0 K199) f193 f201 f195) hZ (hw _ (List.mem_of_getElem? (i := 47) rfl)) (hw _ (List.mem_of_getElem? (i := 31) rfl)) (by decide) (by decide)) q202a q202c (g := (mkF m 285 #[.val (.int x0), .val (.int x1), .val (.int x2), .val (.int x3), .val (.int x4), .val (.int (2 : Int32)), .val (.int (0 : Int32)), .val (.ref zs0), .val (.ref zs1), .val (.ref zs2), .val (.ref za), .val (.ref zo), .val (.int (1 : Int32)), .val (.int (own_hn (0 : Int32) (2 : Int32))), .val (.int (own_hn (0 : Int32) (2 : Int32))), .val (.ref zs0)] [(.ref zo)])) rfl (by rw [hml]; rfl) (Steps.refl _) (argsL := []) (rest := []) (lenOf own_pd91901 rfl) rfl (by show 2 * 0 + _ ≤ _; exact Nat.le_of_eq rfl) (hb hby at_285) (fun _ _ => ⟨rfl, rfl, (by decide : 10 + 0 ≤ _), (by decide : 36 + 0 ≤ _)⟩)
      dsimp only [Pt.U, Pt.locs, Pt.cells, Pt.slots] at X202 l202 y202 z202 st202 hQ202
      subst l202 y202 z202
      obtain ⟨rfl, N202q, eq202⟩ := hQ202
      have N202 := Fr.app N191 N202q
      refine own_tr st202 ?_
      show own_WP _ _ _ _ T202 (mkF m 288 #[.val (.int x0), .val (.int x1), .val (.int x2), .val (.int x3), .val (.int x4), .val (.int (2 : Int32)), .val (.int (0 : Int32)), .val (.ref zs0), .val (.ref zs1), .val (.ref zs2), .val (.ref za), .val (.ref zo), .val (.int (1 : Int32)), .val (.int (own_hn (0 : Int32) (2 : Int32))), .val (.int (own_hn (0 : Int32) (2 : Int32))), .val (.ref zs0)] [(.int (own_hn (1 : Int32) (2 : Int32)))])
      refine own_go (fun t k => XS.iload X202.here hx rfl (hb hby at_288) rfl  k) ?_
      show own_WP _ _ _ _ T202 (mkF m 290 #[.val (.int x0), .val (.int x1), .val (.int x2), .val (.int x3), .val (.int x4), .val (.int (2 : Int32)), .val (.int (0 : Int32)), .val (.ref zs0), .val (.ref zs1), .val (.ref zs2), .val (.ref za), .val (.ref zo), .val (.int (1 : Int32)), .val (.int (own_hn (0 : Int32) (2 : Int32))), .val (.int (own_hn (0 : Int32) (2 : Int32))), .val (.ref zs0)] [(.int (0 : Int32)), (.int (own_hn (1 : Int32) (2 : Int32)))])
      refine own_go (fun t k => XS.iconst X202.here hx rfl (hb hby at_290) k) ?_
      show own_WP _ _ _ _ T202 (mkF m 291 #[.val (.int x0), .val (.int x1), .val (.int x2), .val (.int x3), .val (.int x4), .val (.int (2 : Int32)), .val (.int (0 : Int32)), .val (.ref zs0), .val (.ref zs1), .val (.ref zs2), .val (.ref za), .val (.ref zo), .val (.int (1 : Int32)), .val (.int (own_hn (0 : Int32) (2 : Int32))), .val (.int (own_hn (0 : Int32) (2 : Int32))), .val (.ref zs0)] [(.int (1 : Int32)), (.int (0 : Int32)), (.int (own_hn (1 : Int32) (2 : Int32)))])
      refine own_go (fun t k => XS.iadd X202.here hx rfl (hb hby at_291) rfl k) ?_
      show own_WP _ _ _ _ T202 (mkF m 292 #[.val (.int x0), .val (.int x1), .val (.int x2), .val (.int x3), .val (.int x4), .val (.int (2 : Int32)), .val (.int (0 : Int32)), .val (.ref zs0), .val (.ref zs1), .val (.ref zs2), .val (.ref za), .val (.ref zo), .val (.int (1 : Int32)), .val (.int (own_hn (0 : Int32) (2 : Int32))), .val (.int (own_hn (0 : Int32) (2 : Int32))), .val (.ref zs0)] [(.int ((0 : Int32) + (1 : Int32))), (.int (own_hn (1 : Int32) (2 : Int32)))])
      rw [show ((0 : Int32) + (1 : Int32)) = (1 : Int32) from by decide]
      show own_WP _ _ _ _ T202 (mkF m 292 #[.val (.int x0), .val (.int x1), .val (.int x2), .val (.int x3), .val (.int x4), .val (.int (2 : Int32)), .val (.int (0 : Int32)), .val (.ref zs0), .val (.ref zs1), .val (.ref zs2), .val (.ref za), .val (.ref zo), .val (.int (1 : Int32)), .val (.int (own_hn (0 : Int32) (2 : Int32))), .val (.int (own_hn (0 : Int32) (2 : Int32))), .val (.ref zs0)] [(.int (1 : Int32)), (.int (own_hn (1 : Int32) (2 : Int32)))])
      refine own_go (fun t k => XS.iload X202.here hx rfl (hb hby at_292) rfl  k) ?_
      show own_WP _ _ _ _ T202 (mkF m 294 #[.val (.int x0), .val (.int x1), .val (.int x2), .val (.int x3), .val (.int x4), .val (.int (2 : Int32)), .val (.int (0 : Int32)), .val (.ref zs0), .val (.ref zs1), .val (.ref zs2), .val (.ref za), .val (.ref zo), .val (.int (1 : Int32)), .val (.int (own_hn (0 : Int32) (2 : Int32))), .val (.int (own_hn (0 : Int32) (2 : Int32))), .val (.ref zs0)] [(.int (2 : Int32)), (.int (1 : Int32)), (.int (own_hn (1 : Int32) (2 : Int32)))])
      have hc294 : (1 : Int32) < (2 : Int32) := by decide
      refine own_go (fun t k => XS.icmpNo X202.here hx rfl (hb hby at_294) rfl (tlt hc294).2.1 k) ?_
      show own_WP _ _ _ _ T202 (mkF m 297 #[.val (.int x0), .val (.int x1), .val (.int x2), .val (.int x3), .val (.int x4), .val (.int (2 : Int32)), .val (.int (0 : Int32)), .val (.ref zs0), .val (.ref zs1), .val (.ref zs2), .val (.ref za), .val (.ref zo), .val (.int (1 : Int32)), .val (.int (own_hn (0 : Int32) (2 : Int32))), .val (.int (own_hn (0 : Int32) (2 : Int32))), .val (.ref zs0)] [(.int (own_hn (1 : Int32) (2 : Int32)))])
      refine own_go (fun t k => XS.iconst X202.here hx rfl (hb hby at_297) k) ?_
      show own_WP _ _ _ _ T202 (mkF m 298 #[.val (.int x0), .val (.int x1), .val (.int x2), .val (.int x3), .val (.int x4), .val (.int (2 : Int32)), .val (.int (0 : Int32)), .val (.ref zs0), .val (.ref zs1), .val (.ref zs2), .val (.ref za), .val (.ref zo), .val (.int (1 : Int32)), .val (.int (own_hn (0 : Int32) (2 : Int32))), .val (.int (own_hn (0 : Int32) (2 : Int32))), .val (.ref zs0)] [(.int (1 : Int32)), (.int (own_hn (1 : Int32) (2 : Int32)))])
      refine own_go (fun t k => XS.goto X202.here hx rfl (pc0 := 298) (pc' := 302) rfl (hb hby at_298) (by decide) (by decide) k) ?_
      show own_WP _ _ _ _ T202 (mkF m 302 #[.val (.int x0), .val (.int x1), .val (.int x2), .val (.int x3), .val (.int x4), .val (.int (2 : Int32)), .val (.int (0 : Int32)), .val (.ref zs0), .val (.ref zs1), .val (.ref zs2), .val (.ref za), .val (.ref zo), .val (.int (1 : Int32)), .val (.int (own_hn (0 : Int32) (2 : Int32))), .val (.int (own_hn (0 : Int32) (2 : Int32))), .val (.ref zs0)] [(.int (1 : Int32)), (.int (own_hn (1 : Int32) (2 : Int32)))])
      have hc302 : (own_hn (1 : Int32) (2 : Int32)) = (1 : Int32) := by
        decide
      refine own_go (fun t k => XS.icmpNo X202.here hx rfl (hb hby at_302) rfl (teq hc302).2 k) ?_
      show own_WP _ _ _ _ T202 (mkF m 305 #[.val (.int x0), .val (.int x1), .val (.int x2), .val (.int x3), .val (.int x4), .val (.int (2 : Int32)), .val (.int (0 : Int32)), .val (.ref zs0), .val (.ref zs1), .val (.ref zs2), .val (.ref za), .val (.ref zo), .val (.int (1 : Int32)), .val (.int (own_hn (0 : Int32) (2 : Int32))), .val (.int (own_hn (0 : Int32) (2 : Int32))), .val (.ref zs0)] [])
      refine own_go (fun t k => XS.iconst X202.here hx rfl (hb hby at_305) k) ?_
      show own_WP _ _ _ _ T202 (mkF m 306 #[.val (.int x0), .val (.int x1), .val (.int x2), .val (.int x3), .val (.int x4), .val (.int (2 : Int32)), .val (.int (0 : Int32)), .val (.ref zs0), .val (.ref zs1), .val (.ref zs2), .val (.ref za), .val (.ref zo), .val (.int (1 : Int32)), .val (.int (own_hn (0 : Int32) (2 : Int32))), .val (.int (own_hn (0 : Int32) (2 : Int32))), .val (.ref zs0)] [(.int (1 : Int32))])
      refine own_go (fun t k => XS.goto X202.here hx rfl (pc0 := 306) (pc' := 310) rfl (hb hby at_306) (by decide) (by decide) k) ?_
      show own_WP _ _ _ _ T202 (mkF m 310 #[.val (.int x0), .val (.int x1), .val (.int x2), .val (.int x3), .val (.int x4), .val (.int (2 : Int32)), .val (.int (0 : Int32)), .val (.ref zs0), .val (.ref zs1), .val (.ref zs2), .val (.ref za), .val (.ref zo), .val (.int (1 : Int32)), .val (.int (own_hn (0 : Int32) (2 : Int32))), .val (.int (own_hn (0 : Int32) (2 : Int32))), .val (.ref zs0)] [(.int (1 : Int32))])
      refine own_go (fun t k => XS.istore X202.here hx rfl (hb hby at_310) rfl (l' := #[.val (.int x0), .val (.int x1), .val (.int x2), .val (.int x3), .val (.int x4), .val (.int (2 : Int32)), .val (.int (0 : Int32)), .val (.ref zs0), .val (.ref zs1), .val (.ref zs2), .val (.ref za), .val (.ref zo), .val (.int (1 : Int32)), .val (.int (own_hn (0 : Int32) (2 : Int32))), .val (.int (own_hn (0 : Int32) (2 : Int32))), .val (.ref zs0)]) rfl k) ?_
      show own_WP _ _ _ _ T202 (mkF m 312 #[.val (.int x0), .val (.int x1), .val (.int x2), .val (.int x3), .val (.int x4), .val (.int (2 : Int32)), .val (.int (0 : Int32)), .val (.ref zs0), .val (.ref zs1), .val (.ref zs2), .val (.ref za), .val (.ref zo), .val (.int (1 : Int32)), .val (.int (own_hn (0 : Int32) (2 : Int32))), .val (.int (own_hn (0 : Int32) (2 : Int32))), .val (.ref zs0)] [])
      refine own_go (fun t k => XS.iload X202.here hx rfl (hb hby at_312) rfl  k) ?_
      show own_WP _ _ _ _ T202 (mkF m 314 #[.val (.int x0), .val (.int x1), .val (.int x2), .val (.int x3), .val (.int x4), .val (.int (2 : Int32)), .val (.int (0 : Int32)), .val (.ref zs0), .val (.ref zs1), .val (.ref zs2), .val (.ref za), .val (.ref zo), .val (.int (1 : Int32)), .val (.int (own_hn (0 : Int32) (2 : Int32))), .val (.int (own_hn (0 : Int32) (2 : Int32))), .val (.ref zs0)] [(.int (1 : Int32))])
      refine own_retNW X202 hS164 (by rw [eq202]; exact kz200) hx Bd.notSynchronized (t := .boolean) (by simp) Bd.returns (hb hby at_314) (by decide) (by decide) ?_
      rw [eq202]
      exact ⟨rfl, N202⟩
    · subst hk
      show own_WP _ _ _ _ T188 (mkF m 168 #[.val (.int x0), .val (.int x1), .val (.int x2), .val (.int x3), .val (.int x4), .val (.int (2 : Int32)), .val (.int (1 : Int32)), .val (.ref zs0), .val (.ref zs1), .val (.ref zs2), .val (.ref za), .val (.ref zo), .val (.int (1 : Int32)), .unset, .unset, .unset] [])
      refine own_go (fun t k => XS.iload X188.here hx rfl (hb hby at_168) rfl  k) ?_
      show own_WP _ _ _ _ T188 (mkF m 170 #[.val (.int x0), .val (.int x1), .val (.int x2), .val (.int x3), .val (.int x4), .val (.int (2 : Int32)), .val (.int (1 : Int32)), .val (.ref zs0), .val (.ref zs1), .val (.ref zs2), .val (.ref za), .val (.ref zo), .val (.int (1 : Int32)), .unset, .unset, .unset] [(.int (1 : Int32))])
      refine own_go (fun t k => XS.iconst X188.here hx rfl (hb hby at_170) k) ?_
      show own_WP _ _ _ _ T188 (mkF m 171 #[.val (.int x0), .val (.int x1), .val (.int x2), .val (.int x3), .val (.int x4), .val (.int (2 : Int32)), .val (.int (1 : Int32)), .val (.ref zs0), .val (.ref zs1), .val (.ref zs2), .val (.ref za), .val (.ref zo), .val (.int (1 : Int32)), .unset, .unset, .unset] [(.int (1 : Int32)), (.int (1 : Int32))])
      have hc171 : ¬ ((1 : Int32) < (1 : Int32)) := by decide
      refine own_go (fun t k => XS.icmpNo X188.here hx rfl (hb hby at_171) rfl (flt hc171).1 k) ?_
      show own_WP _ _ _ _ T188 (mkF m 174 #[.val (.int x0), .val (.int x1), .val (.int x2), .val (.int x3), .val (.int x4), .val (.int (2 : Int32)), .val (.int (1 : Int32)), .val (.ref zs0), .val (.ref zs1), .val (.ref zs2), .val (.ref za), .val (.ref zo), .val (.int (1 : Int32)), .unset, .unset, .unset] [])
      refine own_go (fun t k => XS.aload X188.here hx rfl (hb hby at_174) rfl rfl  k) ?_
      show own_WP _ _ _ _ T188 (mkF m 176 #[.val (.int x0), .val (.int x1), .val (.int x2), .val (.int x3), .val (.int x4), .val (.int (2 : Int32)), .val (.int (1 : Int32)), .val (.ref zs0), .val (.ref zs1), .val (.ref zs2), .val (.ref za), .val (.ref zo), .val (.int (1 : Int32)), .unset, .unset, .unset] [(.ref zo)])
      obtain ⟨cq203, kq203, q203a, q203b, q203c⟩ := isOf hZ eq188 f175
      obtain ⟨_, _, ⟨T203, L203, k203, n203⟩, -, X203, ⟨Lc203, hQ203, l203, y203, z203⟩, st203⟩ := X188.virtualBack hx (y := (⟨"branchwork/Arguments", "next", "()Ljava/lang/String;"⟩ : MethodName)) (z := (⟨"branchwork/Arguments", "next", "()Ljava/lang/String;"⟩ : MethodName)) hown (mvT hZ (hw _ (List.mem_of_getElem? (i := 50) rfl))) (mvT hZ (hw _ (List.mem_of_getElem? (i := 51) rfl))) (notFace_of_selects (args := #[]) (mvT hZ (hw _ (List.mem_of_getElem? (i := 53) rfl)))) (mvT hZ (hw _ (List.mem_of_getElem? (i := 53) rfl))) (mvT hZ (hw _ (List.mem_of_getElem? (i := 52) rfl))) (by decide) (backOf (W := 0) (rm8 l Z a0 hw [] zo za k133 (2 : Int32) [(.ref zs0), (.ref zs1)] (0 : Int32) zs0 T174.heap n0 (own_le Z0 K186) f175 f176 f177 f181 g_zo (Ne.symm ne_za_zo) (show ¬ (0 : Int32) < 0 ∧ (0 : Int32) < (2 : Int32) from ⟨by decide, by decide⟩) (show List.getD (α := Value) [(.ref zs0), (.ref zs1)] (0 : Int32).toNatClampNeg Value.null = Value.ref zs0 from rfl)) hZ (hw _ (List.mem_of_getElem? (i := 54) rfl)) (hw _ (List.mem_of_getElem? (i := 31) rfl)) (by decide) (by decide)) q203a q203c (g := (mkF m 176 #[.val (.int x0), .val (.int x1), .val (.int x2), .val (.int x3), .val (.int x4), .val (.int (2 : Int32)), .val (.int (1 : Int32)), .val (.ref zs0), .val (.ref zs1), .val (.ref zs2), .val (.ref za), .val (.ref zo), .val (.int (1 : Int32)), .unset, .unset, .unset] [(.ref zo)])) rfl (by rw [hml]; rfl) (Steps.refl _) (argsL := []) (rest := []) (lenOf own_pd53319 rfl) rfl (by show 2 * 0 + _ ≤ _; exact Nat.le_of_eq rfl) (hb hby at_176) (fun _ _ => ⟨rfl, eq188, (by decide : 10 + 0 ≤ _), (by decide : 36 + 0 ≤ _)⟩)
      dsimp only [Pt.U, Pt.locs, Pt.cells, Pt.slots] at X203 l203 y203 z203 st203 hQ203
      subst l203 y203 z203
      obtain ⟨rfl, N203q, Kc203, f204, f205, f206⟩ := hQ203
      have N203 := Fr.app N188 N203q
      refine own_tr st203 ?_
      have f207 : Arv Z T203.heap za k133 (.object "java/lang/String") (2 : Int32) [(.ref zs0), (.ref zs1)] .null := f181.keep Kc203 (own_nm ne_za_zo)
      have f208 : Exa Z T203.heap zo "branchwork/Arguments" := f175.keep Kc203
      have K211 : Keep h0 T203.heap [] := K186.trans Kc203 (fun x hx => by cases List.mem_singleton.mp hx; exact Or.inr sz_zo)
      have kz212 : k164 ≤ T203.heap.size := Nat.le_trans kz187 Kc203.1
      have f213 : Fld Z T203.heap zo "branchwork/Arguments" "next" "I" (.int (1 : Int32)) := f206
      show own_WP _ _ _ _ T203 (mkF m 179 #[.val (.int x0), .val (.int x1), .val (.int x2), .val (.int x3), .val (.int x4), .val (.int (2 : Int32)), .val (.int (1 : Int32)), .val (.ref zs0), .val (.ref zs1), .val (.ref zs2), .val (.ref za), .val (.ref zo), .val (.int (1 : Int32)), .unset, .unset, .unset] [(.ref zs0)])
      refine own_go (fun t k => XS.pop X203.here hx rfl (hb hby at_179) rfl rfl k) ?_
      show own_WP _ _ _ _ T203 (mkF m 180 #[.val (.int x0), .val (.int x1), .val (.int x2), .val (.int x3), .val (.int x4), .val (.int (2 : Int32)), .val (.int (1 : Int32)), .val (.ref zs0), .val (.ref zs1), .val (.ref zs2), .val (.ref za), .val (.ref zo), .val (.int (1 : Int32)), .unset, .unset, .unset] [])
      refine own_go (fun t k => XS.iload X203.here hx rfl (hb hby at_180) rfl  k) ?_
      show own_WP _ _ _ _ T203 (mkF m 182 #[.val (.int x0), .val (.int x1), .val (.int x2), .val (.int x3), .val (.int x4), .val (.int (2 : Int32)), .val (.int (1 : Int32)), .val (.ref zs0), .val (.ref zs1), .val (.ref zs2), .val (.ref za), .val (.ref zo), .val (.int (1 : Int32)), .unset, .unset, .unset] [(.int (1 : Int32))])
      refine own_go (fun t k => XS.iconst X203.here hx rfl (hb hby at_182) k) ?_
      show own_WP _ _ _ _ T203 (mkF m 183 #[.val (.int x0), .val (.int x1), .val (.int x2), .val (.int x3), .val (.int x4), .val (.int (2 : Int32)), .val (.int (1 : Int32)), .val (.ref zs0), .val (.ref zs1), .val (.ref zs2), .val (.ref za), .val (.ref zo), .val (.int (1 : Int32)), .unset, .unset, .unset] [(.int (2 : Int32)), (.int (1 : Int32))])
      have hc183 : (1 : Int32) < (2 : Int32) := by decide
      refine own_go (fun t k => XS.icmpYes X203.here hx rfl (pc0 := 183) (pc' := 192) rfl (hb hby at_183) rfl (tlt hc183).1 (by decide) (by decide) k) ?_
      show own_WP _ _ _ _ T203 (mkF m 192 #[.val (.int x0), .val (.int x1), .val (.int x2), .val (.int x3), .val (.int x4), .val (.int (2 : Int32)), .val (.int (1 : Int32)), .val (.ref zs0), .val (.ref zs1), .val (.ref zs2), .val (.ref za), .val (.ref zo), .val (.int (1 : Int32)), .unset, .unset, .unset] [])
      refine own_go (fun t k => XS.iload X203.here hx rfl (hb hby at_192) rfl  k) ?_
      show own_WP _ _ _ _ T203 (mkF m 194 #[.val (.int x0), .val (.int x1), .val (.int x2), .val (.int x3), .val (.int x4), .val (.int (2 : Int32)), .val (.int (1 : Int32)), .val (.ref zs0), .val (.ref zs1), .val (.ref zs2), .val (.ref za), .val (.ref zo), .val (.int (1 : Int32)), .unset, .unset, .unset] [(.int (1 : Int32))])
      refine own_go (fun t k => XS.iconst X203.here hx rfl (hb hby at_194) k) ?_
      show own_WP _ _ _ _ T203 (mkF m 195 #[.val (.int x0), .val (.int x1), .val (.int x2), .val (.int x3), .val (.int x4), .val (.int (2 : Int32)), .val (.int (1 : Int32)), .val (.ref zs0), .val (.ref zs1), .val (.ref zs2), .val (.ref za), .val (.ref zo), .val (.int (1 : Int32)), .unset, .unset, .unset] [(.int (3 : Int32)), (.int (1 : Int32))])
      have hc195 : (1 : Int32) < (3 : Int32) := by decide
      refine own_go (fun t k => XS.icmpYes X203.here hx rfl (pc0 := 195) (pc' := 204) rfl (hb hby at_195) rfl (tlt hc195).1 (by decide) (by decide) k) ?_
      show own_WP _ _ _ _ T203 (mkF m 204 #[.val (.int x0), .val (.int x1), .val (.int x2), .val (.int x3), .val (.int x4), .val (.int (2 : Int32)), .val (.int (1 : Int32)), .val (.ref zs0), .val (.ref zs1), .val (.ref zs2), .val (.ref za), .val (.ref zo), .val (.int (1 : Int32)), .unset, .unset, .unset] [])
      refine own_go (fun t k => XS.aload X203.here hx rfl (hb hby at_204) rfl rfl  k) ?_
      show own_WP _ _ _ _ T203 (mkF m 206 #[.val (.int x0), .val (.int x1), .val (.int x2), .val (.int x3), .val (.int x4), .val (.int (2 : Int32)), .val (.int (1 : Int32)), .val (.ref zs0), .val (.ref zs1), .val (.ref zs2), .val (.ref za), .val (.ref zo), .val (.int (1 : Int32)), .unset, .unset, .unset] [(.ref zo)])
      obtain ⟨cq214, kq214, q214a, q214b, q214c⟩ := isOf hZ rfl f204
      obtain ⟨_, _, ⟨T214, L214, k214, n214⟩, -, X214, ⟨Lc214, hQ214, l214, y214, z214⟩, st214⟩ := X203.virtualBack hx (y := (⟨"branchwork/Arguments", "hasNext", "()Z"⟩ : MethodName)) (z := (⟨"branchwork/Arguments", "hasNext", "()Z"⟩ : MethodName)) hown (mvT hZ (hw _ (List.mem_of_getElem? (i := 43) rfl))) (mvT hZ (hw _ (List.mem_of_getElem? (i := 44) rfl))) (notFace_of_selects (args := #[]) (mvT hZ (hw _ (List.mem_of_getElem? (i := 46) rfl)))) (mvT hZ (hw _ (List.mem_of_getElem? (i := 46) rfl))) (mvT hZ (hw _ (List.mem_of_getElem? (i := 45) rfl))) (by decide) (backOf (W := 0) (rm7 l Z a0 hw [] zo za k133 (2 : Int32) [(.ref zs0), (.ref zs1)] (1 : Int32) T203.heap n0 (own_le Z0 K211) f205 f213 f207) hZ (hw _ (List.mem_of_getElem? (i := 47) rfl)) (hw _ (List.mem_of_getElem? (i := 31) rfl)) (by decide) (by decide)) q214a q214c (g := (mkF m 206 #[.val (.int x0), .val (.int x1), .val (.int x2), .val (.int x3), .val (.int x4), .val (.int (2 : Int32)), .val (.int (1 : Int32)), .val (.ref zs0), .val (.ref zs1), .val (.ref zs2), .val (.ref za), .val (.ref zo), .val (.int (1 : Int32)), .unset, .unset, .unset] [(.ref zo)])) rfl (by rw [hml]; rfl) (Steps.refl _) (argsL := []) (rest := []) (lenOf own_pd91901 rfl) rfl (by show 2 * 0 + _ ≤ _; exact Nat.le_of_eq rfl) (hb hby at_206) (fun _ _ => ⟨rfl, rfl, (by decide : 10 + 0 ≤ _), (by decide : 36 + 0 ≤ _)⟩)
      dsimp only [Pt.U, Pt.locs, Pt.cells, Pt.slots] at X214 l214 y214 z214 st214 hQ214
      subst l214 y214 z214
      obtain ⟨rfl, N214q, eq214⟩ := hQ214
      have N214 := Fr.app N203 N214q
      refine own_tr st214 ?_
      show own_WP _ _ _ _ T214 (mkF m 209 #[.val (.int x0), .val (.int x1), .val (.int x2), .val (.int x3), .val (.int x4), .val (.int (2 : Int32)), .val (.int (1 : Int32)), .val (.ref zs0), .val (.ref zs1), .val (.ref zs2), .val (.ref za), .val (.ref zo), .val (.int (1 : Int32)), .unset, .unset, .unset] [(.int (own_hn (1 : Int32) (2 : Int32)))])
      refine own_go (fun t k => XS.istore X214.here hx rfl (hb hby at_209) rfl (l' := #[.val (.int x0), .val (.int x1), .val (.int x2), .val (.int x3), .val (.int x4), .val (.int (2 : Int32)), .val (.int (1 : Int32)), .val (.ref zs0), .val (.ref zs1), .val (.ref zs2), .val (.ref za), .val (.ref zo), .val (.int (1 : Int32)), .val (.int (own_hn (1 : Int32) (2 : Int32))), .unset, .unset]) rfl k) ?_
      show own_WP _ _ _ _ T214 (mkF m 211 #[.val (.int x0), .val (.int x1), .val (.int x2), .val (.int x3), .val (.int x4), .val (.int (2 : Int32)), .val (.int (1 : Int32)), .val (.ref zs0), .val (.ref zs1), .val (.ref zs2), .val (.ref za), .val (.ref zo), .val (.int (1 : Int32)), .val (.int (own_hn (1 : Int32) (2 : Int32))), .unset, .unset] [])
      refine own_go (fun t k => XS.aload X214.here hx rfl (hb hby at_211) rfl rfl  k) ?_
      show own_WP _ _ _ _ T214 (mkF m 213 #[.val (.int x0), .val (.int x1), .val (.int x2), .val (.int x3), .val (.int x4), .val (.int (2 : Int32)), .val (.int (1 : Int32)), .val (.ref zs0), .val (.ref zs1), .val (.ref zs2), .val (.ref za), .val (.ref zo), .val (.int (1 : Int32)), .val (.int (own_hn (1 : Int32) (2 : Int32))), .unset, .unset] [(.ref zo)])
      obtain ⟨cq215, kq215, q215a, q215b, q215c⟩ := isOf hZ eq214 f204
      obtain ⟨_, _, ⟨T215, L215, k215, n215⟩, -, X215, ⟨Lc215, hQ215, l215, y215, z215⟩, st215⟩ := X214.virtualBack hx (y := (⟨"branchwork/Arguments", "hasNext", "()Z"⟩ : MethodName)) (z := (⟨"branchwork/Arguments", "hasNext", "()Z"⟩ : MethodName)) hown (mvT hZ (hw _ (List.mem_of_getElem? (i := 43) rfl))) (mvT hZ (hw _ (List.mem_of_getElem? (i := 44) rfl))) (notFace_of_selects (args := #[]) (mvT hZ (hw _ (List.mem_of_getElem? (i := 46) rfl)))) (mvT hZ (hw _ (List.mem_of_getElem? (i := 46) rfl))) (mvT hZ (hw _ (List.mem_of_getElem? (i := 45) rfl))) (by decide) (backOf (W := 0) (rm7 l Z a0 hw [] zo za k133 (2 : Int32) [(.ref zs0), (.ref zs1)] (1 : Int32) T203.heap n0 (own_le Z0 K211) f205 f213 f207) hZ (hw _ (List.mem_of_getElem? (i := 47) rfl)) (hw _ (List.mem_of_getElem? (i := 31) rfl)) (by decide) (by decide)) q215a q215c (g := (mkF m 213 #[.val (.int x0), .val (.int x1), .val (.int x2), .val (.int x3), .val (.int x4), .val (.int (2 : Int32)), .val (.int (1 : Int32)), .val (.ref zs0), .val (.ref zs1), .val (.ref zs2), .val (.ref za), .val (.ref zo), .val (.int (1 : Int32)), .val (.int (own_hn (1 : Int32) (2 : Int32))), .unset, .unset] [(.ref zo)])) rfl (by rw [hml]; rfl) (Steps.refl _) (argsL := []) (rest := []) (lenOf own_pd91901 rfl) rfl (by show 2 * 0 + _ ≤ _; exact Nat.le_of_eq rfl) (hb hby at_213) (fun _ _ => ⟨rfl, eq214, (by decide : 10 + 0 ≤ _), (by decide : 36 + 0 ≤ _)⟩)
      dsimp only [Pt.U, Pt.locs, Pt.cells, Pt.slots] at X215 l215 y215 z215 st215 hQ215
      subst l215 y215 z215
      obtain ⟨rfl, N215q, eq215⟩ := hQ215
      have N215 := Fr.app N214 N215q
      refine own_tr st215 ?_
      show own_WP _ _ _ _ T215 (mkF m 216 #[.val (.int x0), .val (.int x1), .val (.int x2), .val (.int x3), .val (.int x4), .val (.int (2 : Int32)), .val (.int (1 : Int32)), .val (.ref zs0), .val (.ref zs1), .val (.ref zs2), .val (.ref za), .val (.ref zo), .val (.int (1 : Int32)), .val (.int (own_hn (1 : Int32) (2 : Int32))), .unset, .unset] [(.int (own_hn (1 : Int32) (2 : Int32)))])
      refine own_go (fun t k => XS.istore X215.here hx rfl (hb hby at_216) rfl (l' := #[.val (.int x0), .val (.int x1), .val (.int x2), .val (.int x3), .val (.int x4), .val (.int (2 : Int32)), .val (.int (1 : Int32)), .val (.ref zs0), .val (.ref zs1), .val (.ref zs2), .val (.ref za), .val (.ref zo), .val (.int (1 : Int32)), .val (.int (own_hn (1 : Int32) (2 : Int32))), .val (.int (own_hn (1 : Int32) (2 : Int32))), .unset]) rfl k) ?_
      show own_WP _ _ _ _ T215 (mkF m 218 #[.val (.int x0), .val (.int x1), .val (.int x2), .val (.int x3), .val (.int x4), .val (.int (2 : Int32)), .val (.int (1 : Int32)), .val (.ref zs0), .val (.ref zs1), .val (.ref zs2), .val (.ref za), .val (.ref zo), .val (.int (1 : Int32)), .val (.int (own_hn (1 : Int32) (2 : Int32))), .val (.int (own_hn (1 : Int32) (2 : Int32))), .unset] [])
      refine own_go (fun t k => XS.iload X215.here hx rfl (hb hby at_218) rfl  k) ?_
      show own_WP _ _ _ _ T215 (mkF m 220 #[.val (.int x0), .val (.int x1), .val (.int x2), .val (.int x3), .val (.int x4), .val (.int (2 : Int32)), .val (.int (1 : Int32)), .val (.ref zs0), .val (.ref zs1), .val (.ref zs2), .val (.ref za), .val (.ref zo), .val (.int (1 : Int32)), .val (.int (own_hn (1 : Int32) (2 : Int32))), .val (.int (own_hn (1 : Int32) (2 : Int32))), .unset] [(.int (1 : Int32))])
      have hc220 : ¬ ((1 : Int32) = (0 : Int32)) := by decide
      refine own_go (fun t k => XS.ifNo X215.here hx rfl (hb hby at_220) rfl ((if0 _ _).trans (feq hc220).1) k) ?_
      show own_WP _ _ _ _ T215 (mkF m 223 #[.val (.int x0), .val (.int x1), .val (.int x2), .val (.int x3), .val (.int x4), .val (.int (2 : Int32)), .val (.int (1 : Int32)), .val (.ref zs0), .val (.ref zs1), .val (.ref zs2), .val (.ref za), .val (.ref zo), .val (.int (1 : Int32)), .val (.int (own_hn (1 : Int32) (2 : Int32))), .val (.int (own_hn (1 : Int32) (2 : Int32))), .unset] [])
      refine own_go (fun t k => XS.iload X215.here hx rfl (hb hby at_223) rfl  k) ?_
      show own_WP _ _ _ _ T215 (mkF m 225 #[.val (.int x0), .val (.int x1), .val (.int x2), .val (.int x3), .val (.int x4), .val (.int (2 : Int32)), .val (.int (1 : Int32)), .val (.ref zs0), .val (.ref zs1), .val (.ref zs2), .val (.ref za), .val (.ref zo), .val (.int (1 : Int32)), .val (.int (own_hn (1 : Int32) (2 : Int32))), .val (.int (own_hn (1 : Int32) (2 : Int32))), .unset] [(.int (own_hn (1 : Int32) (2 : Int32)))])
      refine own_go (fun t k => XS.iload X215.here hx rfl (hb hby at_225) rfl  k) ?_
      show own_WP _ _ _ _ T215 (mkF m 227 #[.val (.int x0), .val (.int x1), .val (.int x2), .val (.int x3), .val (.int x4), .val (.int (2 : Int32)), .val (.int (1 : Int32)), .val (.ref zs0), .val (.ref zs1), .val (.ref zs2), .val (.ref za), .val (.ref zo), .val (.int (1 : Int32)), .val (.int (own_hn (1 : Int32) (2 : Int32))), .val (.int (own_hn (1 : Int32) (2 : Int32))), .unset] [(.int (1 : Int32)), (.int (own_hn (1 : Int32) (2 : Int32)))])
      refine own_go (fun t k => XS.iload X215.here hx rfl (hb hby at_227) rfl  k) ?_
      show own_WP _ _ _ _ T215 (mkF m 229 #[.val (.int x0), .val (.int x1), .val (.int x2), .val (.int x3), .val (.int x4), .val (.int (2 : Int32)), .val (.int (1 : Int32)), .val (.ref zs0), .val (.ref zs1), .val (.ref zs2), .val (.ref za), .val (.ref zo), .val (.int (1 : Int32)), .val (.int (own_hn (1 : Int32) (2 : Int32))), .val (.int (own_hn (1 : Int32) (2 : Int32))), .unset] [(.int (2 : Int32)), (.int (1 : Int32)), (.int (own_hn (1 : Int32) (2 : Int32)))])
      have hc229 : (1 : Int32) < (2 : Int32) := by decide
      refine own_go (fun t k => XS.icmpNo X215.here hx rfl (hb hby at_229) rfl (tlt hc229).2.1 k) ?_
      show own_WP _ _ _ _ T215 (mkF m 232 #[.val (.int x0), .val (.int x1), .val (.int x2), .val (.int x3), .val (.int x4), .val (.int (2 : Int32)), .val (.int (1 : Int32)), .val (.ref zs0), .val (.ref zs1), .val (.ref zs2), .val (.ref za), .val (.ref zo), .val (.int (1 : Int32)), .val (.int (own_hn (1 : Int32) (2 : Int32))), .val (.int (own_hn (1 : Int32) (2 : Int32))), .unset] [(.int (own_hn (1 : Int32) (2 : Int32)))])
      refine own_go (fun t k => XS.iconst X215.here hx rfl (hb hby at_232) k) ?_
      show own_WP _ _ _ _ T215 (mkF m 233 #[.val (.int x0), .val (.int x1), .val (.int x2), .val (.int x3), .val (.int x4), .val (.int (2 : Int32)), .val (.int (1 : Int32)), .val (.ref zs0), .val (.ref zs1), .val (.ref zs2), .val (.ref za), .val (.ref zo), .val (.int (1 : Int32)), .val (.int (own_hn (1 : Int32) (2 : Int32))), .val (.int (own_hn (1 : Int32) (2 : Int32))), .unset] [(.int (1 : Int32)), (.int (own_hn (1 : Int32) (2 : Int32)))])
      refine own_go (fun t k => XS.goto X215.here hx rfl (pc0 := 233) (pc' := 237) rfl (hb hby at_233) (by decide) (by decide) k) ?_
      show own_WP _ _ _ _ T215 (mkF m 237 #[.val (.int x0), .val (.int x1), .val (.int x2), .val (.int x3), .val (.int x4), .val (.int (2 : Int32)), .val (.int (1 : Int32)), .val (.ref zs0), .val (.ref zs1), .val (.ref zs2), .val (.ref za), .val (.ref zo), .val (.int (1 : Int32)), .val (.int (own_hn (1 : Int32) (2 : Int32))), .val (.int (own_hn (1 : Int32) (2 : Int32))), .unset] [(.int (1 : Int32)), (.int (own_hn (1 : Int32) (2 : Int32)))])
      have hc237 : (own_hn (1 : Int32) (2 : Int32)) = (1 : Int32) := by
        decide
      refine own_go (fun t k => XS.icmpNo X215.here hx rfl (hb hby at_237) rfl (teq hc237).2 k) ?_
      show own_WP _ _ _ _ T215 (mkF m 240 #[.val (.int x0), .val (.int x1), .val (.int x2), .val (.int x3), .val (.int x4), .val (.int (2 : Int32)), .val (.int (1 : Int32)), .val (.ref zs0), .val (.ref zs1), .val (.ref zs2), .val (.ref za), .val (.ref zo), .val (.int (1 : Int32)), .val (.int (own_hn (1 : Int32) (2 : Int32))), .val (.int (own_hn (1 : Int32) (2 : Int32))), .unset] [])
      refine own_go (fun t k => XS.iload X215.here hx rfl (hb hby at_240) rfl  k) ?_
      show own_WP _ _ _ _ T215 (mkF m 242 #[.val (.int x0), .val (.int x1), .val (.int x2), .val (.int x3), .val (.int x4), .val (.int (2 : Int32)), .val (.int (1 : Int32)), .val (.ref zs0), .val (.ref zs1), .val (.ref zs2), .val (.ref za), .val (.ref zo), .val (.int (1 : Int32)), .val (.int (own_hn (1 : Int32) (2 : Int32))), .val (.int (own_hn (1 : Int32) (2 : Int32))), .unset] [(.int (own_hn (1 : Int32) (2 : Int32)))])
      refine own_go (fun t k => XS.iload X215.here hx rfl (hb hby at_242) rfl  k) ?_
      show own_WP _ _ _ _ T215 (mkF m 244 #[.val (.int x0), .val (.int x1), .val (.int x2), .val (.int x3), .val (.int x4), .val (.int (2 : Int32)), .val (.int (1 : Int32)), .val (.ref zs0), .val (.ref zs1), .val (.ref zs2), .val (.ref za), .val (.ref zo), .val (.int (1 : Int32)), .val (.int (own_hn (1 : Int32) (2 : Int32))), .val (.int (own_hn (1 : Int32) (2 : Int32))), .unset] [(.int (own_hn (1 : Int32) (2 : Int32))), (.int (own_hn (1 : Int32) (2 : Int32)))])
      have hc244 : (own_hn (1 : Int32) (2 : Int32)) = (own_hn (1 : Int32) (2 : Int32)) := rfl
      refine own_go (fun t k => XS.icmpNo X215.here hx rfl (hb hby at_244) rfl (teq hc244).2 k) ?_
      show own_WP _ _ _ _ T215 (mkF m 247 #[.val (.int x0), .val (.int x1), .val (.int x2), .val (.int x3), .val (.int x4), .val (.int (2 : Int32)), .val (.int (1 : Int32)), .val (.ref zs0), .val (.ref zs1), .val (.ref zs2), .val (.ref za), .val (.ref zo), .val (.int (1 : Int32)), .val (.int (own_hn (1 : Int32) (2 : Int32))), .val (.int (own_hn (1 : Int32) (2 : Int32))), .unset] [])
      refine own_go (fun t k => XS.iconst X215.here hx rfl (hb hby at_247) k) ?_
      show own_WP _ _ _ _ T215 (mkF m 248 #[.val (.int x0), .val (.int x1), .val (.int x2), .val (.int x3), .val (.int x4), .val (.int (2 : Int32)), .val (.int (1 : Int32)), .val (.ref zs0), .val (.ref zs1), .val (.ref zs2), .val (.ref za), .val (.ref zo), .val (.int (1 : Int32)), .val (.int (own_hn (1 : Int32) (2 : Int32))), .val (.int (own_hn (1 : Int32) (2 : Int32))), .unset] [(.int (1 : Int32))])
      refine own_go (fun t k => XS.goto X215.here hx rfl (pc0 := 248) (pc' := 252) rfl (hb hby at_248) (by decide) (by decide) k) ?_
      show own_WP _ _ _ _ T215 (mkF m 252 #[.val (.int x0), .val (.int x1), .val (.int x2), .val (.int x3), .val (.int x4), .val (.int (2 : Int32)), .val (.int (1 : Int32)), .val (.ref zs0), .val (.ref zs1), .val (.ref zs2), .val (.ref za), .val (.ref zo), .val (.int (1 : Int32)), .val (.int (own_hn (1 : Int32) (2 : Int32))), .val (.int (own_hn (1 : Int32) (2 : Int32))), .unset] [(.int (1 : Int32))])
      refine own_go (fun t k => XS.istore X215.here hx rfl (hb hby at_252) rfl (l' := #[.val (.int x0), .val (.int x1), .val (.int x2), .val (.int x3), .val (.int x4), .val (.int (2 : Int32)), .val (.int (1 : Int32)), .val (.ref zs0), .val (.ref zs1), .val (.ref zs2), .val (.ref za), .val (.ref zo), .val (.int (1 : Int32)), .val (.int (own_hn (1 : Int32) (2 : Int32))), .val (.int (own_hn (1 : Int32) (2 : Int32))), .unset]) rfl k) ?_
      show own_WP _ _ _ _ T215 (mkF m 254 #[.val (.int x0), .val (.int x1), .val (.int x2), .val (.int x3), .val (.int x4), .val (.int (2 : Int32)), .val (.int (1 : Int32)), .val (.ref zs0), .val (.ref zs1), .val (.ref zs2), .val (.ref za), .val (.ref zo), .val (.int (1 : Int32)), .val (.int (own_hn (1 : Int32) (2 : Int32))), .val (.int (own_hn (1 : Int32) (2 : Int32))), .unset] [])
      refine own_go (fun t k => XS.iload X215.here hx rfl (hb hby at_254) rfl  k) ?_
      show own_WP _ _ _ _ T215 (mkF m 256 #[.val (.int x0), .val (.int x1), .val (.int x2), .val (.int x3), .val (.int x4), .val (.int (2 : Int32)), .val (.int (1 : Int32)), .val (.ref zs0), .val (.ref zs1), .val (.ref zs2), .val (.ref za), .val (.ref zo), .val (.int (1 : Int32)), .val (.int (own_hn (1 : Int32) (2 : Int32))), .val (.int (own_hn (1 : Int32) (2 : Int32))), .unset] [(.int (1 : Int32))])
      refine own_go (fun t k => XS.iload X215.here hx rfl (hb hby at_256) rfl  k) ?_
      show own_WP _ _ _ _ T215 (mkF m 258 #[.val (.int x0), .val (.int x1), .val (.int x2), .val (.int x3), .val (.int x4), .val (.int (2 : Int32)), .val (.int (1 : Int32)), .val (.ref zs0), .val (.ref zs1), .val (.ref zs2), .val (.ref za), .val (.ref zo), .val (.int (1 : Int32)), .val (.int (own_hn (1 : Int32) (2 : Int32))), .val (.int (own_hn (1 : Int32) (2 : Int32))), .unset] [(.int (2 : Int32)), (.int (1 : Int32))])
      have hc258 : (1 : Int32) < (2 : Int32) := by decide
      refine own_go (fun t k => XS.icmpNo X215.here hx rfl (hb hby at_258) rfl (tlt hc258).2.1 k) ?_
      show own_WP _ _ _ _ T215 (mkF m 261 #[.val (.int x0), .val (.int x1), .val (.int x2), .val (.int x3), .val (.int x4), .val (.int (2 : Int32)), .val (.int (1 : Int32)), .val (.ref zs0), .val (.ref zs1), .val (.ref zs2), .val (.ref za), .val (.ref zo), .val (.int (1 : Int32)), .val (.int (own_hn (1 : Int32) (2 : Int32))), .val (.int (own_hn (1 : Int32) (2 : Int32))), .unset] [])
      refine own_go (fun t k => XS.aload X215.here hx rfl (hb hby at_261) rfl rfl  k) ?_
      show own_WP _ _ _ _ T215 (mkF m 263 #[.val (.int x0), .val (.int x1), .val (.int x2), .val (.int x3), .val (.int x4), .val (.int (2 : Int32)), .val (.int (1 : Int32)), .val (.ref zs0), .val (.ref zs1), .val (.ref zs2), .val (.ref za), .val (.ref zo), .val (.int (1 : Int32)), .val (.int (own_hn (1 : Int32) (2 : Int32))), .val (.int (own_hn (1 : Int32) (2 : Int32))), .unset] [(.ref zo)])
      obtain ⟨cq216, kq216, q216a, q216b, q216c⟩ := isOf hZ eq215 f204
      obtain ⟨_, _, ⟨T216, L216, k216, n216⟩, -, X216, ⟨Lc216, hQ216, l216, y216, z216⟩, st216⟩ := X215.virtualBack hx (y := (⟨"branchwork/Arguments", "next", "()Ljava/lang/String;"⟩ : MethodName)) (z := (⟨"branchwork/Arguments", "next", "()Ljava/lang/String;"⟩ : MethodName)) hown (mvT hZ (hw _ (List.mem_of_getElem? (i := 50) rfl))) (mvT hZ (hw _ (List.mem_of_getElem? (i := 51) rfl))) (notFace_of_selects (args := #[]) (mvT hZ (hw _ (List.mem_of_getElem? (i := 53) rfl)))) (mvT hZ (hw _ (List.mem_of_getElem? (i := 53) rfl))) (mvT hZ (hw _ (List.mem_of_getElem? (i := 52) rfl))) (by decide) (backOf (W := 0) (rm8 l Z a0 hw [] zo za k133 (2 : Int32) [(.ref zs0), (.ref zs1)] (1 : Int32) zs1 T203.heap n0 (own_le Z0 K211) f204 f205 f213 f207 g_zo (Ne.symm ne_za_zo) (show ¬ (1 : Int32) < 0 ∧ (1 : Int32) < (2 : Int32) from ⟨by decide, by decide⟩) (show List.getD (α := Value) [(.ref zs0), (.ref zs1)] (1 : Int32).toNatClampNeg Value.null = Value.ref zs1 from rfl)) hZ (hw _ (List.mem_of_getElem? (i := 54) rfl)) (hw _ (List.mem_of_getElem? (i := 31) rfl)) (by decide) (by decide)) q216a q216c (g := (mkF m 263 #[.val (.int x0), .val (.int x1), .val (.int x2), .val (.int x3), .val (.int x4), .val (.int (2 : Int32)), .val (.int (1 : Int32)), .val (.ref zs0), .val (.ref zs1), .val (.ref zs2), .val (.ref za), .val (.ref zo), .val (.int (1 : Int32)), .val (.int (own_hn (1 : Int32) (2 : Int32))), .val (.int (own_hn (1 : Int32) (2 : Int32))), .unset] [(.ref zo)])) rfl (by rw [hml]; rfl) (Steps.refl _) (argsL := []) (rest := []) (lenOf own_pd53319 rfl) rfl (by show 2 * 0 + _ ≤ _; exact Nat.le_of_eq rfl) (hb hby at_263) (fun _ _ => ⟨rfl, eq215, (by decide : 10 + 0 ≤ _), (by decide : 36 + 0 ≤ _)⟩)
      dsimp only [Pt.U, Pt.locs, Pt.cells, Pt.slots] at X216 l216 y216 z216 st216 hQ216
      subst l216 y216 z216
      obtain ⟨rfl, N216q, Kc216, f217, f218, f219⟩ := hQ216
      have N216 := Fr.app N215 N216q
      refine own_tr st216 ?_
      have f220 : Arv Z T216.heap za k133 (.object "java/lang/String") (2 : Int32) [(.ref zs0), (.ref zs1)] .null := f207.keep Kc216 (own_nm ne_za_zo)
      have f221 : Exa Z T216.heap zo "branchwork/Arguments" := f204.keep Kc216
      have K224 : Keep h0 T216.heap [] := K211.trans Kc216 (fun x hx => by cases List.mem_singleton.mp hx; exact Or.inr sz_zo)
      have kz225 : k164 ≤ T216.heap.size := Nat.le_trans kz212 Kc216.1
      have f226 : Fld Z T216.heap zo "branchwork/Arguments" "next" "I" (.int (2 : Int32)) := f219
      show own_WP _ _ _ _ T216 (mkF m 266 #[.val (.int x0), .val (.int x1), .val (.int x2), .val (.int x3), .val (.int x4), .val (.int (2 : Int32)), .val (.int (1 : Int32)), .val (.ref zs0), .val (.ref zs1), .val (.ref zs2), .val (.ref za), .val (.ref zo), .val (.int (1 : Int32)), .val (.int (own_hn (1 : Int32) (2 : Int32))), .val (.int (own_hn (1 : Int32) (2 : Int32))), .unset] [(.ref zs1)])
      refine own_go (fun t k => XS.astore X216.here hx rfl (hb hby at_266) rfl rfl (l' := #[.val (.int x0), .val (.int x1), .val (.int x2), .val (.int x3), .val (.int x4), .val (.int (2 : Int32)), .val (.int (1 : Int32)), .val (.ref zs0), .val (.ref zs1), .val (.ref zs2), .val (.ref za), .val (.ref zo), .val (.int (1 : Int32)), .val (.int (own_hn (1 : Int32) (2 : Int32))), .val (.int (own_hn (1 : Int32) (2 : Int32))), .val (.ref zs1)]) rfl k) ?_
      show own_WP _ _ _ _ T216 (mkF m 268 #[.val (.int x0), .val (.int x1), .val (.int x2), .val (.int x3), .val (.int x4), .val (.int (2 : Int32)), .val (.int (1 : Int32)), .val (.ref zs0), .val (.ref zs1), .val (.ref zs2), .val (.ref za), .val (.ref zo), .val (.int (1 : Int32)), .val (.int (own_hn (1 : Int32) (2 : Int32))), .val (.int (own_hn (1 : Int32) (2 : Int32))), .val (.ref zs1)] [])
      refine own_go (fun t k => XS.iload X216.here hx rfl (hb hby at_268) rfl  k) ?_
      show own_WP _ _ _ _ T216 (mkF m 270 #[.val (.int x0), .val (.int x1), .val (.int x2), .val (.int x3), .val (.int x4), .val (.int (2 : Int32)), .val (.int (1 : Int32)), .val (.ref zs0), .val (.ref zs1), .val (.ref zs2), .val (.ref za), .val (.ref zo), .val (.int (1 : Int32)), .val (.int (own_hn (1 : Int32) (2 : Int32))), .val (.int (own_hn (1 : Int32) (2 : Int32))), .val (.ref zs1)] [(.int (1 : Int32))])
      have hc270 : ¬ ((1 : Int32) = (0 : Int32)) := by decide
      refine own_go (fun t k => XS.ifNo X216.here hx rfl (hb hby at_270) rfl ((if0 _ _).trans (feq hc270).1) k) ?_
      show own_WP _ _ _ _ T216 (mkF m 273 #[.val (.int x0), .val (.int x1), .val (.int x2), .val (.int x3), .val (.int x4), .val (.int (2 : Int32)), .val (.int (1 : Int32)), .val (.ref zs0), .val (.ref zs1), .val (.ref zs2), .val (.ref za), .val (.ref zo), .val (.int (1 : Int32)), .val (.int (own_hn (1 : Int32) (2 : Int32))), .val (.int (own_hn (1 : Int32) (2 : Int32))), .val (.ref zs1)] [])
      refine own_go (fun t k => XS.aload X216.here hx rfl (hb hby at_273) rfl rfl  k) ?_
      show own_WP _ _ _ _ T216 (mkF m 275 #[.val (.int x0), .val (.int x1), .val (.int x2), .val (.int x3), .val (.int x4), .val (.int (2 : Int32)), .val (.int (1 : Int32)), .val (.ref zs0), .val (.ref zs1), .val (.ref zs2), .val (.ref za), .val (.ref zo), .val (.int (1 : Int32)), .val (.int (own_hn (1 : Int32) (2 : Int32))), .val (.int (own_hn (1 : Int32) (2 : Int32))), .val (.ref zs1)] [(.ref zs1)])
      refine own_go (fun t k => XS.aload X216.here hx rfl (hb hby at_275) rfl rfl  k) ?_
      show own_WP _ _ _ _ T216 (mkF m 277 #[.val (.int x0), .val (.int x1), .val (.int x2), .val (.int x3), .val (.int x4), .val (.int (2 : Int32)), .val (.int (1 : Int32)), .val (.ref zs0), .val (.ref zs1), .val (.ref zs2), .val (.ref za), .val (.ref zo), .val (.int (1 : Int32)), .val (.int (own_hn (1 : Int32) (2 : Int32))), .val (.int (own_hn (1 : Int32) (2 : Int32))), .val (.ref zs1)] [(.ref za), (.ref zs1)])
      refine own_go (fun t k => XS.iload X216.here hx rfl (hb hby at_277) rfl  k) ?_
      show own_WP _ _ _ _ T216 (mkF m 279 #[.val (.int x0), .val (.int x1), .val (.int x2), .val (.int x3), .val (.int x4), .val (.int (2 : Int32)), .val (.int (1 : Int32)), .val (.ref zs0), .val (.ref zs1), .val (.ref zs2), .val (.ref za), .val (.ref zo), .val (.int (1 : Int32)), .val (.int (own_hn (1 : Int32) (2 : Int32))), .val (.int (own_hn (1 : Int32) (2 : Int32))), .val (.ref zs1)] [(.int (1 : Int32)), (.ref za), (.ref zs1)])
      refine own_ldR X216 hx hZ rfl rfl f220 (j := (1 : Int32)) (w := (.ref zs1)) ⟨by decide, by decide⟩ rfl (hb hby at_279) ?_
      show own_WP _ _ _ _ T216 (mkF m 280 #[.val (.int x0), .val (.int x1), .val (.int x2), .val (.int x3), .val (.int x4), .val (.int (2 : Int32)), .val (.int (1 : Int32)), .val (.ref zs0), .val (.ref zs1), .val (.ref zs2), .val (.ref za), .val (.ref zo), .val (.int (1 : Int32)), .val (.int (own_hn (1 : Int32) (2 : Int32))), .val (.int (own_hn (1 : Int32) (2 : Int32))), .val (.ref zs1)] [(.ref zs1), (.ref zs1)])
      refine own_go (fun t k => Jvm.RoadKit.acmp (g := (mkF m 280 #[.val (.int x0), .val (.int x1), .val (.int x2), .val (.int x3), .val (.int x4), .val (.int (2 : Int32)), .val (.int (1 : Int32)), .val (.ref zs0), .val (.ref zs1), .val (.ref zs2), .val (.ref za), .val (.ref zo), .val (.int (1 : Int32)), .val (.int (own_hn (1 : Int32) (2 : Int32))), .val (.int (own_hn (1 : Int32) (2 : Int32))), .val (.ref zs1)] [(.ref zs1), (.ref zs1)])) X216 hx rfl rfl rfl (pc0 := 280) (pc' := 283) (same := true) rfl (hb hby at_280) rfl (decide_eq_true rfl) (by decide) (by decide) k) ?_
      show own_WP _ _ _ _ T216 (mkF m 283 #[.val (.int x0), .val (.int x1), .val (.int x2), .val (.int x3), .val (.int x4), .val (.int (2 : Int32)), .val (.int (1 : Int32)), .val (.ref zs0), .val (.ref zs1), .val (.ref zs2), .val (.ref za), .val (.ref zo), .val (.int (1 : Int32)), .val (.int (own_hn (1 : Int32) (2 : Int32))), .val (.int (own_hn (1 : Int32) (2 : Int32))), .val (.ref zs1)] [])
      refine own_go (fun t k => XS.aload X216.here hx rfl (hb hby at_283) rfl rfl  k) ?_
      show own_WP _ _ _ _ T216 (mkF m 285 #[.val (.int x0), .val (.int x1), .val (.int x2), .val (.int x3), .val (.int x4), .val (.int (2 : Int32)), .val (.int (1 : Int32)), .val (.ref zs0), .val (.ref zs1), .val (.ref zs2), .val (.ref za), .val (.ref zo), .val (.int (1 : Int32)), .val (.int (own_hn (1 : Int32) (2 : Int32))), .val (.int (own_hn (1 : Int32) (2 : Int32))), .val (.ref zs1)] [(.ref zo)])
      obtain ⟨cq227, kq227, q227a, q227b, q227c⟩ := isOf hZ rfl f217
      obtain ⟨_, _, ⟨T227, L227, k227, n227⟩, -, X227, ⟨Lc227, hQ227, l227, y227, z227⟩, st227⟩ := X216.virtualBack hx (y := (⟨"branchwork/Arguments", "hasNext", "()Z"⟩ : MethodName)) (z := (⟨"branchwork/Arguments", "hasNext", "()Z"⟩ : MethodName)) hown (mvT hZ (hw _ (List.mem_of_getElem? (i := 43) rfl))) (mvT hZ (hw _ (List.mem_of_getElem? (i := 44) rfl))) (notFace_of_selects (args := #[]) (mvT hZ (hw _ (List.mem_of_getElem? (i := 46) rfl)))) (mvT hZ (hw _ (List.mem_of_getElem? (i := 46) rfl))) (mvT hZ (hw _ (List.mem_of_getElem? (i := 45) rfl))) (by decide) (backOf (W := 0) (rm7 l Z a0 hw [] zo za k133 (2 : Int32) [(.ref zs0), (.ref zs1)] (2 : Int32) T216.heap n0 (own_le Z0 K224) f218 f226 f220) hZ (hw _ (List.mem_of_getElem? (i := 47) rfl)) (hw _ (List.mem_of_getElem? (i := 31) rfl)) (by decide) (by decide)) q227a q227c (g := (mkF m 285 #[.val (.int x0), .val (.int x1), .val (.int x2), .val (.int x3), .val (.int x4), .val (.int (2 : Int32)), .val (.int (1 : Int32)), .val (.ref zs0), .val (.ref zs1), .val (.ref zs2), .val (.ref za), .val (.ref zo), .val (.int (1 : Int32)), .val (.int (own_hn (1 : Int32) (2 : Int32))), .val (.int (own_hn (1 : Int32) (2 : Int32))), .val (.ref zs1)] [(.ref zo)])) rfl (by rw [hml]; rfl) (Steps.refl _) (argsL := []) (rest := []) (lenOf own_pd91901 rfl) rfl (by show 2 * 0 + _ ≤ _; exact Nat.le_of_eq rfl) (hb hby at_285) (fun _ _ => ⟨rfl, rfl, (by decide : 10 + 0 ≤ _), (by decide : 36 + 0 ≤ _)⟩)
      dsimp only [Pt.U, Pt.locs, Pt.cells, Pt.slots] at X227 l227 y227 z227 st227 hQ227
      subst l227 y227 z227
      obtain ⟨rfl, N227q, eq227⟩ := hQ227
      have N227 := Fr.app N216 N227q
      refine own_tr st227 ?_
      show own_WP _ _ _ _ T227 (mkF m 288 #[.val (.int x0), .val (.int x1), .val (.int x2), .val (.int x3), .val (.int x4), .val (.int (2 : Int32)), .val (.int (1 : Int32)), .val (.ref zs0), .val (.ref zs1), .val (.ref zs2), .val (.ref za), .val (.ref zo), .val (.int (1 : Int32)), .val (.int (own_hn (1 : Int32) (2 : Int32))), .val (.int (own_hn (1 : Int32) (2 : Int32))), .val (.ref zs1)] [(.int (own_hn (2 : Int32) (2 : Int32)))])
      refine own_go (fun t k => XS.iload X227.here hx rfl (hb hby at_288) rfl  k) ?_
      show own_WP _ _ _ _ T227 (mkF m 290 #[.val (.int x0), .val (.int x1), .val (.int x2), .val (.int x3), .val (.int x4), .val (.int (2 : Int32)), .val (.int (1 : Int32)), .val (.ref zs0), .val (.ref zs1), .val (.ref zs2), .val (.ref za), .val (.ref zo), .val (.int (1 : Int32)), .val (.int (own_hn (1 : Int32) (2 : Int32))), .val (.int (own_hn (1 : Int32) (2 : Int32))), .val (.ref zs1)] [(.int (1 : Int32)), (.int (own_hn (2 : Int32) (2 : Int32)))])
      refine own_go (fun t k => XS.iconst X227.here hx rfl (hb hby at_290) k) ?_
      show own_WP _ _ _ _ T227 (mkF m 291 #[.val (.int x0), .val (.int x1), .val (.int x2), .val (.int x3), .val (.int x4), .val (.int (2 : Int32)), .val (.int (1 : Int32)), .val (.ref zs0), .val (.ref zs1), .val (.ref zs2), .val (.ref za), .val (.ref zo), .val (.int (1 : Int32)), .val (.int (own_hn (1 : Int32) (2 : Int32))), .val (.int (own_hn (1 : Int32) (2 : Int32))), .val (.ref zs1)] [(.int (1 : Int32)), (.int (1 : Int32)), (.int (own_hn (2 : Int32) (2 : Int32)))])
      refine own_go (fun t k => XS.iadd X227.here hx rfl (hb hby at_291) rfl k) ?_
      show own_WP _ _ _ _ T227 (mkF m 292 #[.val (.int x0), .val (.int x1), .val (.int x2), .val (.int x3), .val (.int x4), .val (.int (2 : Int32)), .val (.int (1 : Int32)), .val (.ref zs0), .val (.ref zs1), .val (.ref zs2), .val (.ref za), .val (.ref zo), .val (.int (1 : Int32)), .val (.int (own_hn (1 : Int32) (2 : Int32))), .val (.int (own_hn (1 : Int32) (2 : Int32))), .val (.ref zs1)] [(.int ((1 : Int32) + (1 : Int32))), (.int (own_hn (2 : Int32) (2 : Int32)))])
      rw [show ((1 : Int32) + (1 : Int32)) = (2 : Int32) from by decide]
      show own_WP _ _ _ _ T227 (mkF m 292 #[.val (.int x0), .val (.int x1), .val (.int x2), .val (.int x3), .val (.int x4), .val (.int (2 : Int32)), .val (.int (1 : Int32)), .val (.ref zs0), .val (.ref zs1), .val (.ref zs2), .val (.ref za), .val (.ref zo), .val (.int (1 : Int32)), .val (.int (own_hn (1 : Int32) (2 : Int32))), .val (.int (own_hn (1 : Int32) (2 : Int32))), .val (.ref zs1)] [(.int (2 : Int32)), (.int (own_hn (2 : Int32) (2 : Int32)))])
      refine own_go (fun t k => XS.iload X227.here hx rfl (hb hby at_292) rfl  k) ?_
      show own_WP _ _ _ _ T227 (mkF m 294 #[.val (.int x0), .val (.int x1), .val (.int x2), .val (.int x3), .val (.int x4), .val (.int (2 : Int32)), .val (.int (1 : Int32)), .val (.ref zs0), .val (.ref zs1), .val (.ref zs2), .val (.ref za), .val (.ref zo), .val (.int (1 : Int32)), .val (.int (own_hn (1 : Int32) (2 : Int32))), .val (.int (own_hn (1 : Int32) (2 : Int32))), .val (.ref zs1)] [(.int (2 : Int32)), (.int (2 : Int32)), (.int (own_hn (2 : Int32) (2 : Int32)))])
      have hc294 : ¬ ((2 : Int32) < (2 : Int32)) := by decide
      refine own_go (fun t k => XS.icmpYes X227.here hx rfl (pc0 := 294) (pc' := 301) rfl (hb hby at_294) rfl (flt hc294).2.1 (by decide) (by decide) k) ?_
      show own_WP _ _ _ _ T227 (mkF m 301 #[.val (.int x0), .val (.int x1), .val (.int x2), .val (.int x3), .val (.int x4), .val (.int (2 : Int32)), .val (.int (1 : Int32)), .val (.ref zs0), .val (.ref zs1), .val (.ref zs2), .val (.ref za), .val (.ref zo), .val (.int (1 : Int32)), .val (.int (own_hn (1 : Int32) (2 : Int32))), .val (.int (own_hn (1 : Int32) (2 : Int32))), .val (.ref zs1)] [(.int (own_hn (2 : Int32) (2 : Int32)))])
      refine own_go (fun t k => XS.iconst X227.here hx rfl (hb hby at_301) k) ?_
      show own_WP _ _ _ _ T227 (mkF m 302 #[.val (.int x0), .val (.int x1), .val (.int x2), .val (.int x3), .val (.int x4), .val (.int (2 : Int32)), .val (.int (1 : Int32)), .val (.ref zs0), .val (.ref zs1), .val (.ref zs2), .val (.ref za), .val (.ref zo), .val (.int (1 : Int32)), .val (.int (own_hn (1 : Int32) (2 : Int32))), .val (.int (own_hn (1 : Int32) (2 : Int32))), .val (.ref zs1)] [(.int (0 : Int32)), (.int (own_hn (2 : Int32) (2 : Int32)))])
      have hc302 : (own_hn (2 : Int32) (2 : Int32)) = (0 : Int32) := by
        decide
      refine own_go (fun t k => XS.icmpNo X227.here hx rfl (hb hby at_302) rfl (teq hc302).2 k) ?_
      show own_WP _ _ _ _ T227 (mkF m 305 #[.val (.int x0), .val (.int x1), .val (.int x2), .val (.int x3), .val (.int x4), .val (.int (2 : Int32)), .val (.int (1 : Int32)), .val (.ref zs0), .val (.ref zs1), .val (.ref zs2), .val (.ref za), .val (.ref zo), .val (.int (1 : Int32)), .val (.int (own_hn (1 : Int32) (2 : Int32))), .val (.int (own_hn (1 : Int32) (2 : Int32))), .val (.ref zs1)] [])
      refine own_go (fun t k => XS.iconst X227.here hx rfl (hb hby at_305) k) ?_
      show own_WP _ _ _ _ T227 (mkF m 306 #[.val (.int x0), .val (.int x1), .val (.int x2), .val (.int x3), .val (.int x4), .val (.int (2 : Int32)), .val (.int (1 : Int32)), .val (.ref zs0), .val (.ref zs1), .val (.ref zs2), .val (.ref za), .val (.ref zo), .val (.int (1 : Int32)), .val (.int (own_hn (1 : Int32) (2 : Int32))), .val (.int (own_hn (1 : Int32) (2 : Int32))), .val (.ref zs1)] [(.int (1 : Int32))])
      refine own_go (fun t k => XS.goto X227.here hx rfl (pc0 := 306) (pc' := 310) rfl (hb hby at_306) (by decide) (by decide) k) ?_
      show own_WP _ _ _ _ T227 (mkF m 310 #[.val (.int x0), .val (.int x1), .val (.int x2), .val (.int x3), .val (.int x4), .val (.int (2 : Int32)), .val (.int (1 : Int32)), .val (.ref zs0), .val (.ref zs1), .val (.ref zs2), .val (.ref za), .val (.ref zo), .val (.int (1 : Int32)), .val (.int (own_hn (1 : Int32) (2 : Int32))), .val (.int (own_hn (1 : Int32) (2 : Int32))), .val (.ref zs1)] [(.int (1 : Int32))])
      refine own_go (fun t k => XS.istore X227.here hx rfl (hb hby at_310) rfl (l' := #[.val (.int x0), .val (.int x1), .val (.int x2), .val (.int x3), .val (.int x4), .val (.int (2 : Int32)), .val (.int (1 : Int32)), .val (.ref zs0), .val (.ref zs1), .val (.ref zs2), .val (.ref za), .val (.ref zo), .val (.int (1 : Int32)), .val (.int (own_hn (1 : Int32) (2 : Int32))), .val (.int (own_hn (1 : Int32) (2 : Int32))), .val (.ref zs1)]) rfl k) ?_
      show own_WP _ _ _ _ T227 (mkF m 312 #[.val (.int x0), .val (.int x1), .val (.int x2), .val (.int x3), .val (.int x4), .val (.int (2 : Int32)), .val (.int (1 : Int32)), .val (.ref zs0), .val (.ref zs1), .val (.ref zs2), .val (.ref za), .val (.ref zo), .val (.int (1 : Int32)), .val (.int (own_hn (1 : Int32) (2 : Int32))), .val (.int (own_hn (1 : Int32) (2 : Int32))), .val (.ref zs1)] [])
      refine own_go (fun t k => XS.iload X227.here hx rfl (hb hby at_312) rfl  k) ?_
      show own_WP _ _ _ _ T227 (mkF m 314 #[.val (.int x0), .val (.int x1), .val (.int x2), .val (.int x3), .val (.int x4), .val (.int (2 : Int32)), .val (.int (1 : Int32)), .val (.ref zs0), .val (.ref zs1), .val (.ref zs2), .val (.ref za), .val (.ref zo), .val (.int (1 : Int32)), .val (.int (own_hn (1 : Int32) (2 : Int32))), .val (.int (own_hn (1 : Int32) (2 : Int32))), .val (.ref zs1)] [(.int (1 : Int32))])
      refine own_retNW X227 hS164 (by rw [eq227]; exact kz225) hx Bd.notSynchronized (t := .boolean) (by simp) Bd.returns (hb hby at_314) (by decide) (by decide) ?_
      rw [eq227]
      exact ⟨rfl, N227⟩
    · subst hk
      show own_WP _ _ _ _ T188 (mkF m 168 #[.val (.int x0), .val (.int x1), .val (.int x2), .val (.int x3), .val (.int x4), .val (.int (2 : Int32)), .val (.int (2 : Int32)), .val (.ref zs0), .val (.ref zs1), .val (.ref zs2), .val (.ref za), .val (.ref zo), .val (.int (1 : Int32)), .unset, .unset, .unset] [])
      refine own_go (fun t k => XS.iload X188.here hx rfl (hb hby at_168) rfl  k) ?_
      show own_WP _ _ _ _ T188 (mkF m 170 #[.val (.int x0), .val (.int x1), .val (.int x2), .val (.int x3), .val (.int x4), .val (.int (2 : Int32)), .val (.int (2 : Int32)), .val (.ref zs0), .val (.ref zs1), .val (.ref zs2), .val (.ref za), .val (.ref zo), .val (.int (1 : Int32)), .unset, .unset, .unset] [(.int (2 : Int32))])
      refine own_go (fun t k => XS.iconst X188.here hx rfl (hb hby at_170) k) ?_
      show own_WP _ _ _ _ T188 (mkF m 171 #[.val (.int x0), .val (.int x1), .val (.int x2), .val (.int x3), .val (.int x4), .val (.int (2 : Int32)), .val (.int (2 : Int32)), .val (.ref zs0), .val (.ref zs1), .val (.ref zs2), .val (.ref za), .val (.ref zo), .val (.int (1 : Int32)), .unset, .unset, .unset] [(.int (1 : Int32)), (.int (2 : Int32))])
      have hc171 : ¬ ((2 : Int32) < (1 : Int32)) := by decide
      refine own_go (fun t k => XS.icmpNo X188.here hx rfl (hb hby at_171) rfl (flt hc171).1 k) ?_
      show own_WP _ _ _ _ T188 (mkF m 174 #[.val (.int x0), .val (.int x1), .val (.int x2), .val (.int x3), .val (.int x4), .val (.int (2 : Int32)), .val (.int (2 : Int32)), .val (.ref zs0), .val (.ref zs1), .val (.ref zs2), .val (.ref za), .val (.ref zo), .val (.int (1 : Int32)), .unset, .unset, .unset] [])
      refine own_go (fun t k => XS.aload X188.here hx rfl (hb hby at_174) rfl rfl  k) ?_
      show own_WP _ _ _ _ T188 (mkF m 176 #[.val (.int x0), .val (.int x1), .val (.int x2), .val (.int x3), .val (.int x4), .val (.int (2 : Int32)), .val (.int (2 : Int32)), .val (.ref zs0), .val (.ref zs1), .val (.ref zs2), .val (.ref za), .val (.ref zo), .val (.int (1 : Int32)), .unset, .unset, .unset] [(.ref zo)])
      obtain ⟨cq228, kq228, q228a, q228b, q228c⟩ := isOf hZ eq188 f175
      obtain ⟨_, _, ⟨T228, L228, k228, n228⟩, -, X228, ⟨Lc228, hQ228, l228, y228, z228⟩, st228⟩ := X188.virtualBack hx (y := (⟨"branchwork/Arguments", "next", "()Ljava/lang/String;"⟩ : MethodName)) (z := (⟨"branchwork/Arguments", "next", "()Ljava/lang/String;"⟩ : MethodName)) hown (mvT hZ (hw _ (List.mem_of_getElem? (i := 50) rfl))) (mvT hZ (hw _ (List.mem_of_getElem? (i := 51) rfl))) (notFace_of_selects (args := #[]) (mvT hZ (hw _ (List.mem_of_getElem? (i := 53) rfl)))) (mvT hZ (hw _ (List.mem_of_getElem? (i := 53) rfl))) (mvT hZ (hw _ (List.mem_of_getElem? (i := 52) rfl))) (by decide) (backOf (W := 0) (rm8 l Z a0 hw [] zo za k133 (2 : Int32) [(.ref zs0), (.ref zs1)] (0 : Int32) zs0 T174.heap n0 (own_le Z0 K186) f175 f176 f177 f181 g_zo (Ne.symm ne_za_zo) (show ¬ (0 : Int32) < 0 ∧ (0 : Int32) < (2 : Int32) from ⟨by decide, by decide⟩) (show List.getD (α := Value) [(.ref zs0), (.ref zs1)] (0 : Int32).toNatClampNeg Value.null = Value.ref zs0 from rfl)) hZ (hw _ (List.mem_of_getElem? (i := 54) rfl)) (hw _ (List.mem_of_getElem? (i := 31) rfl)) (by decide) (by decide)) q228a q228c (g := (mkF m 176 #[.val (.int x0), .val (.int x1), .val (.int x2), .val (.int x3), .val (.int x4), .val (.int (2 : Int32)), .val (.int (2 : Int32)), .val (.ref zs0), .val (.ref zs1), .val (.ref zs2), .val (.ref za), .val (.ref zo), .val (.int (1 : Int32)), .unset, .unset, .unset] [(.ref zo)])) rfl (by rw [hml]; rfl) (Steps.refl _) (argsL := []) (rest := []) (lenOf own_pd53319 rfl) rfl (by show 2 * 0 + _ ≤ _; exact Nat.le_of_eq rfl) (hb hby at_176) (fun _ _ => ⟨rfl, eq188, (by decide : 10 + 0 ≤ _), (by decide : 36 + 0 ≤ _)⟩)
      dsimp only [Pt.U, Pt.locs, Pt.cells, Pt.slots] at X228 l228 y228 z228 st228 hQ228
      subst l228 y228 z228
      obtain ⟨rfl, N228q, Kc228, f229, f230, f231⟩ := hQ228
      have N228 := Fr.app N188 N228q
      refine own_tr st228 ?_
      have f232 : Arv Z T228.heap za k133 (.object "java/lang/String") (2 : Int32) [(.ref zs0), (.ref zs1)] .null := f181.keep Kc228 (own_nm ne_za_zo)
      have f233 : Exa Z T228.heap zo "branchwork/Arguments" := f175.keep Kc228
      have K236 : Keep h0 T228.heap [] := K186.trans Kc228 (fun x hx => by cases List.mem_singleton.mp hx; exact Or.inr sz_zo)
      have kz237 : k164 ≤ T228.heap.size := Nat.le_trans kz187 Kc228.1
      have f238 : Fld Z T228.heap zo "branchwork/Arguments" "next" "I" (.int (1 : Int32)) := f231
      show own_WP _ _ _ _ T228 (mkF m 179 #[.val (.int x0), .val (.int x1), .val (.int x2), .val (.int x3), .val (.int x4), .val (.int (2 : Int32)), .val (.int (2 : Int32)), .val (.ref zs0), .val (.ref zs1), .val (.ref zs2), .val (.ref za), .val (.ref zo), .val (.int (1 : Int32)), .unset, .unset, .unset] [(.ref zs0)])
      refine own_go (fun t k => XS.pop X228.here hx rfl (hb hby at_179) rfl rfl k) ?_
      show own_WP _ _ _ _ T228 (mkF m 180 #[.val (.int x0), .val (.int x1), .val (.int x2), .val (.int x3), .val (.int x4), .val (.int (2 : Int32)), .val (.int (2 : Int32)), .val (.ref zs0), .val (.ref zs1), .val (.ref zs2), .val (.ref za), .val (.ref zo), .val (.int (1 : Int32)), .unset, .unset, .unset] [])
      refine own_go (fun t k => XS.iload X228.here hx rfl (hb hby at_180) rfl  k) ?_
      show own_WP _ _ _ _ T228 (mkF m 182 #[.val (.int x0), .val (.int x1), .val (.int x2), .val (.int x3), .val (.int x4), .val (.int (2 : Int32)), .val (.int (2 : Int32)), .val (.ref zs0), .val (.ref zs1), .val (.ref zs2), .val (.ref za), .val (.ref zo), .val (.int (1 : Int32)), .unset, .unset, .unset] [(.int (2 : Int32))])
      refine own_go (fun t k => XS.iconst X228.here hx rfl (hb hby at_182) k) ?_
      show own_WP _ _ _ _ T228 (mkF m 183 #[.val (.int x0), .val (.int x1), .val (.int x2), .val (.int x3), .val (.int x4), .val (.int (2 : Int32)), .val (.int (2 : Int32)), .val (.ref zs0), .val (.ref zs1), .val (.ref zs2), .val (.ref za), .val (.ref zo), .val (.int (1 : Int32)), .unset, .unset, .unset] [(.int (2 : Int32)), (.int (2 : Int32))])
      have hc183 : ¬ ((2 : Int32) < (2 : Int32)) := by decide
      refine own_go (fun t k => XS.icmpNo X228.here hx rfl (hb hby at_183) rfl (flt hc183).1 k) ?_
      show own_WP _ _ _ _ T228 (mkF m 186 #[.val (.int x0), .val (.int x1), .val (.int x2), .val (.int x3), .val (.int x4), .val (.int (2 : Int32)), .val (.int (2 : Int32)), .val (.ref zs0), .val (.ref zs1), .val (.ref zs2), .val (.ref za), .val (.ref zo), .val (.int (1 : Int32)), .unset, .unset, .unset] [])
      refine own_go (fun t k => XS.aload X228.here hx rfl (hb hby at_186) rfl rfl  k) ?_
      show own_WP _ _ _ _ T228 (mkF m 188 #[.val (.int x0), .val (.int x1), .val (.int x2), .val (.int x3), .val (.int x4), .val (.int (2 : Int32)), .val (.int (2 : Int32)), .val (.ref zs0), .val (.ref zs1), .val (.ref zs2), .val (.ref za), .val (.ref zo), .val (.int (1 : Int32)), .unset, .unset, .unset] [(.ref zo)])
      obtain ⟨cq239, kq239, q239a, q239b, q239c⟩ := isOf hZ rfl f229
      obtain ⟨_, _, ⟨T239, L239, k239, n239⟩, -, X239, ⟨Lc239, hQ239, l239, y239, z239⟩, st239⟩ := X228.virtualBack hx (y := (⟨"branchwork/Arguments", "next", "()Ljava/lang/String;"⟩ : MethodName)) (z := (⟨"branchwork/Arguments", "next", "()Ljava/lang/String;"⟩ : MethodName)) hown (mvT hZ (hw _ (List.mem_of_getElem? (i := 50) rfl))) (mvT hZ (hw _ (List.mem_of_getElem? (i := 51) rfl))) (notFace_of_selects (args := #[]) (mvT hZ (hw _ (List.mem_of_getElem? (i := 53) rfl)))) (mvT hZ (hw _ (List.mem_of_getElem? (i := 53) rfl))) (mvT hZ (hw _ (List.mem_of_getElem? (i := 52) rfl))) (by decide) (backOf (W := 0) (rm8 l Z a0 hw [] zo za k133 (2 : Int32) [(.ref zs0), (.ref zs1)] (1 : Int32) zs1 T228.heap n0 (own_le Z0 K236) f229 f230 f238 f232 g_zo (Ne.symm ne_za_zo) (show ¬ (1 : Int32) < 0 ∧ (1 : Int32) < (2 : Int32) from ⟨by decide, by decide⟩) (show List.getD (α := Value) [(.ref zs0), (.ref zs1)] (1 : Int32).toNatClampNeg Value.null = Value.ref zs1 from rfl)) hZ (hw _ (List.mem_of_getElem? (i := 54) rfl)) (hw _ (List.mem_of_getElem? (i := 31) rfl)) (by decide) (by decide)) q239a q239c (g := (mkF m 188 #[.val (.int x0), .val (.int x1), .val (.int x2), .val (.int x3), .val (.int x4), .val (.int (2 : Int32)), .val (.int (2 : Int32)), .val (.ref zs0), .val (.ref zs1), .val (.ref zs2), .val (.ref za), .val (.ref zo), .val (.int (1 : Int32)), .unset, .unset, .unset] [(.ref zo)])) rfl (by rw [hml]; rfl) (Steps.refl _) (argsL := []) (rest := []) (lenOf own_pd53319 rfl) rfl (by show 2 * 0 + _ ≤ _; exact Nat.le_of_eq rfl) (hb hby at_188) (fun _ _ => ⟨rfl, rfl, (by decide : 10 + 0 ≤ _), (by decide : 36 + 0 ≤ _)⟩)
      dsimp only [Pt.U, Pt.locs, Pt.cells, Pt.slots] at X239 l239 y239 z239 st239 hQ239
      subst l239 y239 z239
      obtain ⟨rfl, N239q, Kc239, f240, f241, f242⟩ := hQ239
      have N239 := Fr.app N228 N239q
      refine own_tr st239 ?_
      have f243 : Arv Z T239.heap za k133 (.object "java/lang/String") (2 : Int32) [(.ref zs0), (.ref zs1)] .null := f232.keep Kc239 (own_nm ne_za_zo)
      have f244 : Exa Z T239.heap zo "branchwork/Arguments" := f229.keep Kc239
      have K247 : Keep h0 T239.heap [] := K236.trans Kc239 (fun x hx => by cases List.mem_singleton.mp hx; exact Or.inr sz_zo)
      have kz248 : k164 ≤ T239.heap.size := Nat.le_trans kz237 Kc239.1
      have f249 : Fld Z T239.heap zo "branchwork/Arguments" "next" "I" (.int (2 : Int32)) := f242
      show own_WP _ _ _ _ T239 (mkF m 191 #[.val (.int x0), .val (.int x1), .val (.int x2), .val (.int x3), .val (.int x4), .val (.int (2 : Int32)), .val (.int (2 : Int32)), .val (.ref zs0), .val (.ref zs1), .val (.ref zs2), .val (.ref za), .val (.ref zo), .val (.int (1 : Int32)), .unset, .unset, .unset] [(.ref zs1)])
      refine own_go (fun t k => XS.pop X239.here hx rfl (hb hby at_191) rfl rfl k) ?_
      show own_WP _ _ _ _ T239 (mkF m 192 #[.val (.int x0), .val (.int x1), .val (.int x2), .val (.int x3), .val (.int x4), .val (.int (2 : Int32)), .val (.int (2 : Int32)), .val (.ref zs0), .val (.ref zs1), .val (.ref zs2), .val (.ref za), .val (.ref zo), .val (.int (1 : Int32)), .unset, .unset, .unset] [])
      refine own_go (fun t k => XS.iload X239.here hx rfl (hb hby at_192) rfl  k) ?_
      show own_WP _ _ _ _ T239 (mkF m 194 #[.val (.int x0), .val (.int x1), .val (.int x2), .val (.int x3), .val (.int x4), .val (.int (2 : Int32)), .val (.int (2 : Int32)), .val (.ref zs0), .val (.ref zs1), .val (.ref zs2), .val (.ref za), .val (.ref zo), .val (.int (1 : Int32)), .unset, .unset, .unset] [(.int (2 : Int32))])
      refine own_go (fun t k => XS.iconst X239.here hx rfl (hb hby at_194) k) ?_
      show own_WP _ _ _ _ T239 (mkF m 195 #[.val (.int x0), .val (.int x1), .val (.int x2), .val (.int x3), .val (.int x4), .val (.int (2 : Int32)), .val (.int (2 : Int32)), .val (.ref zs0), .val (.ref zs1), .val (.ref zs2), .val (.ref za), .val (.ref zo), .val (.int (1 : Int32)), .unset, .unset, .unset] [(.int (3 : Int32)), (.int (2 : Int32))])
      have hc195 : (2 : Int32) < (3 : Int32) := by decide
      refine own_go (fun t k => XS.icmpYes X239.here hx rfl (pc0 := 195) (pc' := 204) rfl (hb hby at_195) rfl (tlt hc195).1 (by decide) (by decide) k) ?_
      show own_WP _ _ _ _ T239 (mkF m 204 #[.val (.int x0), .val (.int x1), .val (.int x2), .val (.int x3), .val (.int x4), .val (.int (2 : Int32)), .val (.int (2 : Int32)), .val (.ref zs0), .val (.ref zs1), .val (.ref zs2), .val (.ref za), .val (.ref zo), .val (.int (1 : Int32)), .unset, .unset, .unset] [])
      refine own_go (fun t k => XS.aload X239.here hx rfl (hb hby at_204) rfl rfl  k) ?_
      show own_WP _ _ _ _ T239 (mkF m 206 #[.val (.int x0), .val (.int x1), .val (.int x2), .val (.int x3), .val (.int x4), .val (.int (2 : Int32)), .val (.int (2 : Int32)), .val (.ref zs0), .val (.ref zs1), .val (.ref zs2), .val (.ref za), .val (.ref zo), .val (.int (1 : Int32)), .unset, .unset, .unset] [(.ref zo)])
      obtain ⟨cq250, kq250, q250a, q250b, q250c⟩ := isOf hZ rfl f240
      obtain ⟨_, _, ⟨T250, L250, k250, n250⟩, -, X250, ⟨Lc250, hQ250, l250, y250, z250⟩, st250⟩ := X239.virtualBack hx (y := (⟨"branchwork/Arguments", "hasNext", "()Z"⟩ : MethodName)) (z := (⟨"branchwork/Arguments", "hasNext", "()Z"⟩ : MethodName)) hown (mvT hZ (hw _ (List.mem_of_getElem? (i := 43) rfl))) (mvT hZ (hw _ (List.mem_of_getElem? (i := 44) rfl))) (notFace_of_selects (args := #[]) (mvT hZ (hw _ (List.mem_of_getElem? (i := 46) rfl)))) (mvT hZ (hw _ (List.mem_of_getElem? (i := 46) rfl))) (mvT hZ (hw _ (List.mem_of_getElem? (i := 45) rfl))) (by decide) (backOf (W := 0) (rm7 l Z a0 hw [] zo za k133 (2 : Int32) [(.ref zs0), (.ref zs1)] (2 : Int32) T239.heap n0 (own_le Z0 K247) f241 f249 f243) hZ (hw _ (List.mem_of_getElem? (i := 47) rfl)) (hw _ (List.mem_of_getElem? (i := 31) rfl)) (by decide) (by decide)) q250a q250c (g := (mkF m 206 #[.val (.int x0), .val (.int x1), .val (.int x2), .val (.int x3), .val (.int x4), .val (.int (2 : Int32)), .val (.int (2 : Int32)), .val (.ref zs0), .val (.ref zs1), .val (.ref zs2), .val (.ref za), .val (.ref zo), .val (.int (1 : Int32)), .unset, .unset, .unset] [(.ref zo)])) rfl (by rw [hml]; rfl) (Steps.refl _) (argsL := []) (rest := []) (lenOf own_pd91901 rfl) rfl (by show 2 * 0 + _ ≤ _; exact Nat.le_of_eq rfl) (hb hby at_206) (fun _ _ => ⟨rfl, rfl, (by decide : 10 + 0 ≤ _), (by decide : 36 + 0 ≤ _)⟩)
      dsimp only [Pt.U, Pt.locs, Pt.cells, Pt.slots] at X250 l250 y250 z250 st250 hQ250
      subst l250 y250 z250
      obtain ⟨rfl, N250q, eq250⟩ := hQ250
      have N250 := Fr.app N239 N250q
      refine own_tr st250 ?_
      show own_WP _ _ _ _ T250 (mkF m 209 #[.val (.int x0), .val (.int x1), .val (.int x2), .val (.int x3), .val (.int x4), .val (.int (2 : Int32)), .val (.int (2 : Int32)), .val (.ref zs0), .val (.ref zs1), .val (.ref zs2), .val (.ref za), .val (.ref zo), .val (.int (1 : Int32)), .unset, .unset, .unset] [(.int (own_hn (2 : Int32) (2 : Int32)))])
      refine own_go (fun t k => XS.istore X250.here hx rfl (hb hby at_209) rfl (l' := #[.val (.int x0), .val (.int x1), .val (.int x2), .val (.int x3), .val (.int x4), .val (.int (2 : Int32)), .val (.int (2 : Int32)), .val (.ref zs0), .val (.ref zs1), .val (.ref zs2), .val (.ref za), .val (.ref zo), .val (.int (1 : Int32)), .val (.int (own_hn (2 : Int32) (2 : Int32))), .unset, .unset]) rfl k) ?_
      show own_WP _ _ _ _ T250 (mkF m 211 #[.val (.int x0), .val (.int x1), .val (.int x2), .val (.int x3), .val (.int x4), .val (.int (2 : Int32)), .val (.int (2 : Int32)), .val (.ref zs0), .val (.ref zs1), .val (.ref zs2), .val (.ref za), .val (.ref zo), .val (.int (1 : Int32)), .val (.int (own_hn (2 : Int32) (2 : Int32))), .unset, .unset] [])
      refine own_go (fun t k => XS.aload X250.here hx rfl (hb hby at_211) rfl rfl  k) ?_
      show own_WP _ _ _ _ T250 (mkF m 213 #[.val (.int x0), .val (.int x1), .val (.int x2), .val (.int x3), .val (.int x4), .val (.int (2 : Int32)), .val (.int (2 : Int32)), .val (.ref zs0), .val (.ref zs1), .val (.ref zs2), .val (.ref za), .val (.ref zo), .val (.int (1 : Int32)), .val (.int (own_hn (2 : Int32) (2 : Int32))), .unset, .unset] [(.ref zo)])
      obtain ⟨cq251, kq251, q251a, q251b, q251c⟩ := isOf hZ eq250 f240
      obtain ⟨_, _, ⟨T251, L251, k251, n251⟩, -, X251, ⟨Lc251, hQ251, l251, y251, z251⟩, st251⟩ := X250.virtualBack hx (y := (⟨"branchwork/Arguments", "hasNext", "()Z"⟩ : MethodName)) (z := (⟨"branchwork/Arguments", "hasNext", "()Z"⟩ : MethodName)) hown (mvT hZ (hw _ (List.mem_of_getElem? (i := 43) rfl))) (mvT hZ (hw _ (List.mem_of_getElem? (i := 44) rfl))) (notFace_of_selects (args := #[]) (mvT hZ (hw _ (List.mem_of_getElem? (i := 46) rfl)))) (mvT hZ (hw _ (List.mem_of_getElem? (i := 46) rfl))) (mvT hZ (hw _ (List.mem_of_getElem? (i := 45) rfl))) (by decide) (backOf (W := 0) (rm7 l Z a0 hw [] zo za k133 (2 : Int32) [(.ref zs0), (.ref zs1)] (2 : Int32) T239.heap n0 (own_le Z0 K247) f241 f249 f243) hZ (hw _ (List.mem_of_getElem? (i := 47) rfl)) (hw _ (List.mem_of_getElem? (i := 31) rfl)) (by decide) (by decide)) q251a q251c (g := (mkF m 213 #[.val (.int x0), .val (.int x1), .val (.int x2), .val (.int x3), .val (.int x4), .val (.int (2 : Int32)), .val (.int (2 : Int32)), .val (.ref zs0), .val (.ref zs1), .val (.ref zs2), .val (.ref za), .val (.ref zo), .val (.int (1 : Int32)), .val (.int (own_hn (2 : Int32) (2 : Int32))), .unset, .unset] [(.ref zo)])) rfl (by rw [hml]; rfl) (Steps.refl _) (argsL := []) (rest := []) (lenOf own_pd91901 rfl) rfl (by show 2 * 0 + _ ≤ _; exact Nat.le_of_eq rfl) (hb hby at_213) (fun _ _ => ⟨rfl, eq250, (by decide : 10 + 0 ≤ _), (by decide : 36 + 0 ≤ _)⟩)
      dsimp only [Pt.U, Pt.locs, Pt.cells, Pt.slots] at X251 l251 y251 z251 st251 hQ251
      subst l251 y251 z251
      obtain ⟨rfl, N251q, eq251⟩ := hQ251
      have N251 := Fr.app N250 N251q
      refine own_tr st251 ?_
      show own_WP _ _ _ _ T251 (mkF m 216 #[.val (.int x0), .val (.int x1), .val (.int x2), .val (.int x3), .val (.int x4), .val (.int (2 : Int32)), .val (.int (2 : Int32)), .val (.ref zs0), .val (.ref zs1), .val (.ref zs2), .val (.ref za), .val (.ref zo), .val (.int (1 : Int32)), .val (.int (own_hn (2 : Int32) (2 : Int32))), .unset, .unset] [(.int (own_hn (2 : Int32) (2 : Int32)))])
      refine own_go (fun t k => XS.istore X251.here hx rfl (hb hby at_216) rfl (l' := #[.val (.int x0), .val (.int x1), .val (.int x2), .val (.int x3), .val (.int x4), .val (.int (2 : Int32)), .val (.int (2 : Int32)), .val (.ref zs0), .val (.ref zs1), .val (.ref zs2), .val (.ref za), .val (.ref zo), .val (.int (1 : Int32)), .val (.int (own_hn (2 : Int32) (2 : Int32))), .val (.int (own_hn (2 : Int32) (2 : Int32))), .unset]) rfl k) ?_
      show own_WP _ _ _ _ T251 (mkF m 218 #[.val (.int x0), .val (.int x1), .val (.int x2), .val (.int x3), .val (.int x4), .val (.int (2 : Int32)), .val (.int (2 : Int32)), .val (.ref zs0), .val (.ref zs1), .val (.ref zs2), .val (.ref za), .val (.ref zo), .val (.int (1 : Int32)), .val (.int (own_hn (2 : Int32) (2 : Int32))), .val (.int (own_hn (2 : Int32) (2 : Int32))), .unset] [])
      refine own_go (fun t k => XS.iload X251.here hx rfl (hb hby at_218) rfl  k) ?_
      show own_WP _ _ _ _ T251 (mkF m 220 #[.val (.int x0), .val (.int x1), .val (.int x2), .val (.int x3), .val (.int x4), .val (.int (2 : Int32)), .val (.int (2 : Int32)), .val (.ref zs0), .val (.ref zs1), .val (.ref zs2), .val (.ref za), .val (.ref zo), .val (.int (1 : Int32)), .val (.int (own_hn (2 : Int32) (2 : Int32))), .val (.int (own_hn (2 : Int32) (2 : Int32))), .unset] [(.int (1 : Int32))])
      have hc220 : ¬ ((1 : Int32) = (0 : Int32)) := by decide
      refine own_go (fun t k => XS.ifNo X251.here hx rfl (hb hby at_220) rfl ((if0 _ _).trans (feq hc220).1) k) ?_
      show own_WP _ _ _ _ T251 (mkF m 223 #[.val (.int x0), .val (.int x1), .val (.int x2), .val (.int x3), .val (.int x4), .val (.int (2 : Int32)), .val (.int (2 : Int32)), .val (.ref zs0), .val (.ref zs1), .val (.ref zs2), .val (.ref za), .val (.ref zo), .val (.int (1 : Int32)), .val (.int (own_hn (2 : Int32) (2 : Int32))), .val (.int (own_hn (2 : Int32) (2 : Int32))), .unset] [])
      refine own_go (fun t k => XS.iload X251.here hx rfl (hb hby at_223) rfl  k) ?_
      show own_WP _ _ _ _ T251 (mkF m 225 #[.val (.int x0), .val (.int x1), .val (.int x2), .val (.int x3), .val (.int x4), .val (.int (2 : Int32)), .val (.int (2 : Int32)), .val (.ref zs0), .val (.ref zs1), .val (.ref zs2), .val (.ref za), .val (.ref zo), .val (.int (1 : Int32)), .val (.int (own_hn (2 : Int32) (2 : Int32))), .val (.int (own_hn (2 : Int32) (2 : Int32))), .unset] [(.int (own_hn (2 : Int32) (2 : Int32)))])
      refine own_go (fun t k => XS.iload X251.here hx rfl (hb hby at_225) rfl  k) ?_
      show own_WP _ _ _ _ T251 (mkF m 227 #[.val (.int x0), .val (.int x1), .val (.int x2), .val (.int x3), .val (.int x4), .val (.int (2 : Int32)), .val (.int (2 : Int32)), .val (.ref zs0), .val (.ref zs1), .val (.ref zs2), .val (.ref za), .val (.ref zo), .val (.int (1 : Int32)), .val (.int (own_hn (2 : Int32) (2 : Int32))), .val (.int (own_hn (2 : Int32) (2 : Int32))), .unset] [(.int (2 : Int32)), (.int (own_hn (2 : Int32) (2 : Int32)))])
      refine own_go (fun t k => XS.iload X251.here hx rfl (hb hby at_227) rfl  k) ?_
      show own_WP _ _ _ _ T251 (mkF m 229 #[.val (.int x0), .val (.int x1), .val (.int x2), .val (.int x3), .val (.int x4), .val (.int (2 : Int32)), .val (.int (2 : Int32)), .val (.ref zs0), .val (.ref zs1), .val (.ref zs2), .val (.ref za), .val (.ref zo), .val (.int (1 : Int32)), .val (.int (own_hn (2 : Int32) (2 : Int32))), .val (.int (own_hn (2 : Int32) (2 : Int32))), .unset] [(.int (2 : Int32)), (.int (2 : Int32)), (.int (own_hn (2 : Int32) (2 : Int32)))])
      have hc229 : ¬ ((2 : Int32) < (2 : Int32)) := by decide
      refine own_go (fun t k => XS.icmpYes X251.here hx rfl (pc0 := 229) (pc' := 236) rfl (hb hby at_229) rfl (flt hc229).2.1 (by decide) (by decide) k) ?_
      show own_WP _ _ _ _ T251 (mkF m 236 #[.val (.int x0), .val (.int x1), .val (.int x2), .val (.int x3), .val (.int x4), .val (.int (2 : Int32)), .val (.int (2 : Int32)), .val (.ref zs0), .val (.ref zs1), .val (.ref zs2), .val (.ref za), .val (.ref zo), .val (.int (1 : Int32)), .val (.int (own_hn (2 : Int32) (2 : Int32))), .val (.int (own_hn (2 : Int32) (2 : Int32))), .unset] [(.int (own_hn (2 : Int32) (2 : Int32)))])
      refine own_go (fun t k => XS.iconst X251.here hx rfl (hb hby at_236) k) ?_
      show own_WP _ _ _ _ T251 (mkF m 237 #[.val (.int x0), .val (.int x1), .val (.int x2), .val (.int x3), .val (.int x4), .val (.int (2 : Int32)), .val (.int (2 : Int32)), .val (.ref zs0), .val (.ref zs1), .val (.ref zs2), .val (.ref za), .val (.ref zo), .val (.int (1 : Int32)), .val (.int (own_hn (2 : Int32) (2 : Int32))), .val (.int (own_hn (2 : Int32) (2 : Int32))), .unset] [(.int (0 : Int32)), (.int (own_hn (2 : Int32) (2 : Int32)))])
      have hc237 : (own_hn (2 : Int32) (2 : Int32)) = (0 : Int32) := by
        decide
      refine own_go (fun t k => XS.icmpNo X251.here hx rfl (hb hby at_237) rfl (teq hc237).2 k) ?_
      show own_WP _ _ _ _ T251 (mkF m 240 #[.val (.int x0), .val (.int x1), .val (.int x2), .val (.int x3), .val (.int x4), .val (.int (2 : Int32)), .val (.int (2 : Int32)), .val (.ref zs0), .val (.ref zs1), .val (.ref zs2), .val (.ref za), .val (.ref zo), .val (.int (1 : Int32)), .val (.int (own_hn (2 : Int32) (2 : Int32))), .val (.int (own_hn (2 : Int32) (2 : Int32))), .unset] [])
      refine own_go (fun t k => XS.iload X251.here hx rfl (hb hby at_240) rfl  k) ?_
      show own_WP _ _ _ _ T251 (mkF m 242 #[.val (.int x0), .val (.int x1), .val (.int x2), .val (.int x3), .val (.int x4), .val (.int (2 : Int32)), .val (.int (2 : Int32)), .val (.ref zs0), .val (.ref zs1), .val (.ref zs2), .val (.ref za), .val (.ref zo), .val (.int (1 : Int32)), .val (.int (own_hn (2 : Int32) (2 : Int32))), .val (.int (own_hn (2 : Int32) (2 : Int32))), .unset] [(.int (own_hn (2 : Int32) (2 : Int32)))])
      refine own_go (fun t k => XS.iload X251.here hx rfl (hb hby at_242) rfl  k) ?_
      show own_WP _ _ _ _ T251 (mkF m 244 #[.val (.int x0), .val (.int x1), .val (.int x2), .val (.int x3), .val (.int x4), .val (.int (2 : Int32)), .val (.int (2 : Int32)), .val (.ref zs0), .val (.ref zs1), .val (.ref zs2), .val (.ref za), .val (.ref zo), .val (.int (1 : Int32)), .val (.int (own_hn (2 : Int32) (2 : Int32))), .val (.int (own_hn (2 : Int32) (2 : Int32))), .unset] [(.int (own_hn (2 : Int32) (2 : Int32))), (.int (own_hn (2 : Int32) (2 : Int32)))])
      have hc244 : (own_hn (2 : Int32) (2 : Int32)) = (own_hn (2 : Int32) (2 : Int32)) := rfl
      refine own_go (fun t k => XS.icmpNo X251.here hx rfl (hb hby at_244) rfl (teq hc244).2 k) ?_
      show own_WP _ _ _ _ T251 (mkF m 247 #[.val (.int x0), .val (.int x1), .val (.int x2), .val (.int x3), .val (.int x4), .val (.int (2 : Int32)), .val (.int (2 : Int32)), .val (.ref zs0), .val (.ref zs1), .val (.ref zs2), .val (.ref za), .val (.ref zo), .val (.int (1 : Int32)), .val (.int (own_hn (2 : Int32) (2 : Int32))), .val (.int (own_hn (2 : Int32) (2 : Int32))), .unset] [])
      refine own_go (fun t k => XS.iconst X251.here hx rfl (hb hby at_247) k) ?_
      show own_WP _ _ _ _ T251 (mkF m 248 #[.val (.int x0), .val (.int x1), .val (.int x2), .val (.int x3), .val (.int x4), .val (.int (2 : Int32)), .val (.int (2 : Int32)), .val (.ref zs0), .val (.ref zs1), .val (.ref zs2), .val (.ref za), .val (.ref zo), .val (.int (1 : Int32)), .val (.int (own_hn (2 : Int32) (2 : Int32))), .val (.int (own_hn (2 : Int32) (2 : Int32))), .unset] [(.int (1 : Int32))])
      refine own_go (fun t k => XS.goto X251.here hx rfl (pc0 := 248) (pc' := 252) rfl (hb hby at_248) (by decide) (by decide) k) ?_
      show own_WP _ _ _ _ T251 (mkF m 252 #[.val (.int x0), .val (.int x1), .val (.int x2), .val (.int x3), .val (.int x4), .val (.int (2 : Int32)), .val (.int (2 : Int32)), .val (.ref zs0), .val (.ref zs1), .val (.ref zs2), .val (.ref za), .val (.ref zo), .val (.int (1 : Int32)), .val (.int (own_hn (2 : Int32) (2 : Int32))), .val (.int (own_hn (2 : Int32) (2 : Int32))), .unset] [(.int (1 : Int32))])
      refine own_go (fun t k => XS.istore X251.here hx rfl (hb hby at_252) rfl (l' := #[.val (.int x0), .val (.int x1), .val (.int x2), .val (.int x3), .val (.int x4), .val (.int (2 : Int32)), .val (.int (2 : Int32)), .val (.ref zs0), .val (.ref zs1), .val (.ref zs2), .val (.ref za), .val (.ref zo), .val (.int (1 : Int32)), .val (.int (own_hn (2 : Int32) (2 : Int32))), .val (.int (own_hn (2 : Int32) (2 : Int32))), .unset]) rfl k) ?_
      show own_WP _ _ _ _ T251 (mkF m 254 #[.val (.int x0), .val (.int x1), .val (.int x2), .val (.int x3), .val (.int x4), .val (.int (2 : Int32)), .val (.int (2 : Int32)), .val (.ref zs0), .val (.ref zs1), .val (.ref zs2), .val (.ref za), .val (.ref zo), .val (.int (1 : Int32)), .val (.int (own_hn (2 : Int32) (2 : Int32))), .val (.int (own_hn (2 : Int32) (2 : Int32))), .unset] [])
      refine own_go (fun t k => XS.iload X251.here hx rfl (hb hby at_254) rfl  k) ?_
      show own_WP _ _ _ _ T251 (mkF m 256 #[.val (.int x0), .val (.int x1), .val (.int x2), .val (.int x3), .val (.int x4), .val (.int (2 : Int32)), .val (.int (2 : Int32)), .val (.ref zs0), .val (.ref zs1), .val (.ref zs2), .val (.ref za), .val (.ref zo), .val (.int (1 : Int32)), .val (.int (own_hn (2 : Int32) (2 : Int32))), .val (.int (own_hn (2 : Int32) (2 : Int32))), .unset] [(.int (2 : Int32))])
      refine own_go (fun t k => XS.iload X251.here hx rfl (hb hby at_256) rfl  k) ?_
      show own_WP _ _ _ _ T251 (mkF m 258 #[.val (.int x0), .val (.int x1), .val (.int x2), .val (.int x3), .val (.int x4), .val (.int (2 : Int32)), .val (.int (2 : Int32)), .val (.ref zs0), .val (.ref zs1), .val (.ref zs2), .val (.ref za), .val (.ref zo), .val (.int (1 : Int32)), .val (.int (own_hn (2 : Int32) (2 : Int32))), .val (.int (own_hn (2 : Int32) (2 : Int32))), .unset] [(.int (2 : Int32)), (.int (2 : Int32))])
      have hc258 : ¬ ((2 : Int32) < (2 : Int32)) := by decide
      refine own_go (fun t k => XS.icmpYes X251.here hx rfl (pc0 := 258) (pc' := 312) rfl (hb hby at_258) rfl (flt hc258).2.1 (by decide) (by decide) k) ?_
      show own_WP _ _ _ _ T251 (mkF m 312 #[.val (.int x0), .val (.int x1), .val (.int x2), .val (.int x3), .val (.int x4), .val (.int (2 : Int32)), .val (.int (2 : Int32)), .val (.ref zs0), .val (.ref zs1), .val (.ref zs2), .val (.ref za), .val (.ref zo), .val (.int (1 : Int32)), .val (.int (own_hn (2 : Int32) (2 : Int32))), .val (.int (own_hn (2 : Int32) (2 : Int32))), .unset] [])
      refine own_go (fun t k => XS.iload X251.here hx rfl (hb hby at_312) rfl  k) ?_
      show own_WP _ _ _ _ T251 (mkF m 314 #[.val (.int x0), .val (.int x1), .val (.int x2), .val (.int x3), .val (.int x4), .val (.int (2 : Int32)), .val (.int (2 : Int32)), .val (.ref zs0), .val (.ref zs1), .val (.ref zs2), .val (.ref za), .val (.ref zo), .val (.int (1 : Int32)), .val (.int (own_hn (2 : Int32) (2 : Int32))), .val (.int (own_hn (2 : Int32) (2 : Int32))), .unset] [(.int (1 : Int32))])
      refine own_retNW X251 hS164 (by rw [eq251]; exact kz248) hx Bd.notSynchronized (t := .boolean) (by simp) Bd.returns (hb hby at_314) (by decide) (by decide) ?_
      rw [eq251]
      exact ⟨rfl, N251⟩
    · exact absurd hn (by decide)
    · exact absurd hn (by decide)
    · exact absurd hn (by decide)
    · exact absurd hn (by decide)
  · subst hn
    show own_WP _ _ _ _ T10 (mkF m 50 #[.val (.int x0), .val (.int x1), .val (.int x2), .val (.int x3), .val (.int x4), .val (.int (3 : Int32)), .val (.int zk), .val (.ref zs0), .val (.ref zs1), .val (.ref zs2), .unset, .unset, .unset, .unset, .unset, .unset] [])
    refine own_go (fun t k => XS.iload X10.here hx rfl (hb hby at_50) rfl  k) ?_
    show own_WP _ _ _ _ T10 (mkF m 52 #[.val (.int x0), .val (.int x1), .val (.int x2), .val (.int x3), .val (.int x4), .val (.int (3 : Int32)), .val (.int zk), .val (.ref zs0), .val (.ref zs1), .val (.ref zs2), .unset, .unset, .unset, .unset, .unset, .unset] [(.int (3 : Int32))])
    have hc52 : ¬ ((3 : Int32) = (0 : Int32)) := by decide
    refine own_go (fun t k => XS.ifYes X10.here hx rfl (pc0 := 52) (pc' := 64) rfl (hb hby at_52) rfl ((if0 _ _).trans (feq hc52).2) (by decide) (by decide) k) ?_
    show own_WP _ _ _ _ T10 (mkF m 64 #[.val (.int x0), .val (.int x1), .val (.int x2), .val (.int x3), .val (.int x4), .val (.int (3 : Int32)), .val (.int zk), .val (.ref zs0), .val (.ref zs1), .val (.ref zs2), .unset, .unset, .unset, .unset, .unset, .unset] [])
    refine own_go (fun t k => XS.iload X10.here hx rfl (hb hby at_64) rfl  k) ?_
    show own_WP _ _ _ _ T10 (mkF m 66 #[.val (.int x0), .val (.int x1), .val (.int x2), .val (.int x3), .val (.int x4), .val (.int (3 : Int32)), .val (.int zk), .val (.ref zs0), .val (.ref zs1), .val (.ref zs2), .unset, .unset, .unset, .unset, .unset, .unset] [(.int (3 : Int32))])
    refine own_go (fun t k => XS.iconst X10.here hx rfl (hb hby at_66) k) ?_
    show own_WP _ _ _ _ T10 (mkF m 67 #[.val (.int x0), .val (.int x1), .val (.int x2), .val (.int x3), .val (.int x4), .val (.int (3 : Int32)), .val (.int zk), .val (.ref zs0), .val (.ref zs1), .val (.ref zs2), .unset, .unset, .unset, .unset, .unset, .unset] [(.int (1 : Int32)), (.int (3 : Int32))])
    have hc67 : ¬ ((3 : Int32) = (1 : Int32)) := by decide
    refine own_go (fun t k => XS.icmpYes X10.here hx rfl (pc0 := 67) (pc' := 84) rfl (hb hby at_67) rfl (feq hc67).2 (by decide) (by decide) k) ?_
    show own_WP _ _ _ _ T10 (mkF m 84 #[.val (.int x0), .val (.int x1), .val (.int x2), .val (.int x3), .val (.int x4), .val (.int (3 : Int32)), .val (.int zk), .val (.ref zs0), .val (.ref zs1), .val (.ref zs2), .unset, .unset, .unset, .unset, .unset, .unset] [])
    refine own_go (fun t k => XS.iload X10.here hx rfl (hb hby at_84) rfl  k) ?_
    show own_WP _ _ _ _ T10 (mkF m 86 #[.val (.int x0), .val (.int x1), .val (.int x2), .val (.int x3), .val (.int x4), .val (.int (3 : Int32)), .val (.int zk), .val (.ref zs0), .val (.ref zs1), .val (.ref zs2), .unset, .unset, .unset, .unset, .unset, .unset] [(.int (3 : Int32))])
    refine own_go (fun t k => XS.iconst X10.here hx rfl (hb hby at_86) k) ?_
    show own_WP _ _ _ _ T10 (mkF m 87 #[.val (.int x0), .val (.int x1), .val (.int x2), .val (.int x3), .val (.int x4), .val (.int (3 : Int32)), .val (.int zk), .val (.ref zs0), .val (.ref zs1), .val (.ref zs2), .unset, .unset, .unset, .unset, .unset, .unset] [(.int (2 : Int32)), (.int (3 : Int32))])
    have hc87 : ¬ ((3 : Int32) = (2 : Int32)) := by decide
    refine own_go (fun t k => XS.icmpYes X10.here hx rfl (pc0 := 87) (pc' := 109) rfl (hb hby at_87) rfl (feq hc87).2 (by decide) (by decide) k) ?_
    show own_WP _ _ _ _ T10 (mkF m 109 #[.val (.int x0), .val (.int x1), .val (.int x2), .val (.int x3), .val (.int x4), .val (.int (3 : Int32)), .val (.int zk), .val (.ref zs0), .val (.ref zs1), .val (.ref zs2), .unset, .unset, .unset, .unset, .unset, .unset] [])
    refine own_go (fun t k => XS.iconst X10.here hx rfl (hb hby at_109) k) ?_
    show own_WP _ _ _ _ T10 (mkF m 110 #[.val (.int x0), .val (.int x1), .val (.int x2), .val (.int x3), .val (.int x4), .val (.int (3 : Int32)), .val (.int zk), .val (.ref zs0), .val (.ref zs1), .val (.ref zs2), .unset, .unset, .unset, .unset, .unset, .unset] [(.int (3 : Int32))])
    obtain ⟨T252, h252, k252, X252, e252, E252, A252, G252, O252, st252⟩ := newRE X10 hx hZ hown (hw _ (List.mem_of_getElem? (i := 27) rfl)) (hw _ (List.mem_of_getElem? (i := 28) rfl)) rfl (g := (mkF m 110 #[.val (.int x0), .val (.int x1), .val (.int x2), .val (.int x3), .val (.int x4), .val (.int (3 : Int32)), .val (.int zk), .val (.ref zs0), .val (.ref zs1), .val (.ref zs2), .unset, .unset, .unset, .unset, .unset, .unset] [(.int (3 : Int32))])) rfl (hb hby at_110) rfl (by decide) (cap := 3) (by decide) (by decide) (by decide) (by decide) (ad := "[Ljava/lang/String;") rfl
    obtain ⟨za, q252⟩ : ∃ z, z = T10.heap.size := ⟨_, rfl⟩
    rw [← q252] at A252 G252 st252
    refine own_go st252 ?_
    have g_za : n0 ≤ za := Nat.le_trans (own_le Z0 K15) (Nat.le_of_eq q252.symm)
    have sz_za : h0.size ≤ za := Nat.le_trans K15.1 (Nat.le_of_eq q252.symm)
    have ne_zs0_za : zs0 ≠ za := Nat.ne_of_lt (Nat.lt_of_lt_of_le f13.lt (Nat.le_of_eq q252.symm))
    have ne_zs1_za : zs1 ≠ za := Nat.ne_of_lt (Nat.lt_of_lt_of_le f14.lt (Nat.le_of_eq q252.symm))
    have ne_zs2_za : zs2 ≠ za := Nat.ne_of_lt (Nat.lt_of_lt_of_le f11.lt (Nat.le_of_eq q252.symm))
    have f253 : Exa Z h252 zs0 "java/lang/String" := f13.ext E252
    have f254 : Exa Z h252 zs1 "java/lang/String" := f14.ext E252
    have f255 : Exa Z h252 zs2 "java/lang/String" := f11.ext E252
    have K256 : Keep h0 h252 [] := K15.ext E252
    have f257 : Arv Z h252 za k252 (.object "java/lang/String") (3 : Int32) [.null, .null, .null] .null := (Arv.new A252 (by decide)).pad (pad_rep [] .null 3)
    show own_WP _ _ _ _ T252 (mkF m 113 #[.val (.int x0), .val (.int x1), .val (.int x2), .val (.int x3), .val (.int x4), .val (.int (3 : Int32)), .val (.int zk), .val (.ref zs0), .val (.ref zs1), .val (.ref zs2), .unset, .unset, .unset, .unset, .unset, .unset] [(.ref za)])
    refine own_go (fun t k => XS.dup X252.here hx rfl (hb hby at_113) rfl rfl k) ?_
    show own_WP _ _ _ _ T252 (mkF m 114 #[.val (.int x0), .val (.int x1), .val (.int x2), .val (.int x3), .val (.int x4), .val (.int (3 : Int32)), .val (.int zk), .val (.ref zs0), .val (.ref zs1), .val (.ref zs2), .unset, .unset, .unset, .unset, .unset, .unset] [(.ref za), (.ref za)])
    refine own_go (fun t k => XS.iconst X252.here hx rfl (hb hby at_114) k) ?_
    show own_WP _ _ _ _ T252 (mkF m 115 #[.val (.int x0), .val (.int x1), .val (.int x2), .val (.int x3), .val (.int x4), .val (.int (3 : Int32)), .val (.int zk), .val (.ref zs0), .val (.ref zs1), .val (.ref zs2), .unset, .unset, .unset, .unset, .unset, .unset] [(.int (0 : Int32)), (.ref za), (.ref za)])
    refine own_go (fun t k => XS.aload X252.here hx rfl (hb hby at_115) rfl rfl  k) ?_
    show own_WP _ _ _ _ T252 (mkF m 117 #[.val (.int x0), .val (.int x1), .val (.int x2), .val (.int x3), .val (.int x4), .val (.int (3 : Int32)), .val (.int zk), .val (.ref zs0), .val (.ref zs1), .val (.ref zs2), .unset, .unset, .unset, .unset, .unset, .unset] [(.ref zs0), (.int (0 : Int32)), (.ref za), (.ref za)])
    refine own_stR X252 hx hZ e252 f257 O252 (Ins.self f253) (j := (0 : Int32)) ⟨by decide, by decide⟩ (i := 0) rfl (Nat.le_of_ble_eq_true rfl) (hb hby at_117) ?_
    intro T258 h258 X258 e258 W258 V258
    have f259 : Arv Z h258 za k252 (.object "java/lang/String") (3 : Int32) [(.ref zs0), .null, .null] .null := V258
    have f260 : Exa Z h258 zs0 "java/lang/String" := f253.wr W258
    have f261 : Exa Z h258 zs1 "java/lang/String" := f254.wr W258
    have f262 : Exa Z h258 zs2 "java/lang/String" := f255.wr W258
    have K264 : Keep h0 h258 [] := K256.wr W258 (Or.inr sz_za)
    have N265 := Fr.snoc X258 N10 g_za
    show own_WP _ _ _ _ T258 (mkF m 118 #[.val (.int x0), .val (.int x1), .val (.int x2), .val (.int x3), .val (.int x4), .val (.int (3 : Int32)), .val (.int zk), .val (.ref zs0), .val (.ref zs1), .val (.ref zs2), .unset, .unset, .unset, .unset, .unset, .unset] [(.ref za)])
    refine own_go (fun t k => XS.dup X258.here hx rfl (hb hby at_118) rfl rfl k) ?_
    show own_WP _ _ _ _ T258 (mkF m 119 #[.val (.int x0), .val (.int x1), .val (.int x2), .val (.int x3), .val (.int x4), .val (.int (3 : Int32)), .val (.int zk), .val (.ref zs0), .val (.ref zs1), .val (.ref zs2), .unset, .unset, .unset, .unset, .unset, .unset] [(.ref za), (.ref za)])
    refine own_go (fun t k => XS.iconst X258.here hx rfl (hb hby at_119) k) ?_
    show own_WP _ _ _ _ T258 (mkF m 120 #[.val (.int x0), .val (.int x1), .val (.int x2), .val (.int x3), .val (.int x4), .val (.int (3 : Int32)), .val (.int zk), .val (.ref zs0), .val (.ref zs1), .val (.ref zs2), .unset, .unset, .unset, .unset, .unset, .unset] [(.int (1 : Int32)), (.ref za), (.ref za)])
    refine own_go (fun t k => XS.aload X258.here hx rfl (hb hby at_120) rfl rfl  k) ?_
    show own_WP _ _ _ _ T258 (mkF m 122 #[.val (.int x0), .val (.int x1), .val (.int x2), .val (.int x3), .val (.int x4), .val (.int (3 : Int32)), .val (.int zk), .val (.ref zs0), .val (.ref zs1), .val (.ref zs2), .unset, .unset, .unset, .unset, .unset, .unset] [(.ref zs1), (.int (1 : Int32)), (.ref za), (.ref za)])
    refine own_stR X258 hx hZ e258 f259 O252 (Ins.self f261) (j := (1 : Int32)) ⟨by decide, by decide⟩ (i := 1) rfl (Nat.le_of_ble_eq_true rfl) (hb hby at_122) ?_
    intro T266 h266 X266 e266 W266 V266
    have f267 : Arv Z h266 za k252 (.object "java/lang/String") (3 : Int32) [(.ref zs0), (.ref zs1), .null] .null := V266
    have f268 : Exa Z h266 zs0 "java/lang/String" := f260.wr W266
    have f269 : Exa Z h266 zs1 "java/lang/String" := f261.wr W266
    have f270 : Exa Z h266 zs2 "java/lang/String" := f262.wr W266
    have K272 : Keep h0 h266 [] := K264.wr W266 (Or.inr sz_za)
    have N273 := Fr.snoc X266 N265 g_za
    show own_WP _ _ _ _ T266 (mkF m 123 #[.val (.int x0), .val (.int x1), .val (.int x2), .val (.int x3), .val (.int x4), .val (.int (3 : Int32)), .val (.int zk), .val (.ref zs0), .val (.ref zs1), .val (.ref zs2), .unset, .unset, .unset, .unset, .unset, .unset] [(.ref za)])
    refine own_go (fun t k => XS.dup X266.here hx rfl (hb hby at_123) rfl rfl k) ?_
    show own_WP _ _ _ _ T266 (mkF m 124 #[.val (.int x0), .val (.int x1), .val (.int x2), .val (.int x3), .val (.int x4), .val (.int (3 : Int32)), .val (.int zk), .val (.ref zs0), .val (.ref zs1), .val (.ref zs2), .unset, .unset, .unset, .unset, .unset, .unset] [(.ref za), (.ref za)])
    refine own_go (fun t k => XS.iconst X266.here hx rfl (hb hby at_124) k) ?_
    show own_WP _ _ _ _ T266 (mkF m 125 #[.val (.int x0), .val (.int x1), .val (.int x2), .val (.int x3), .val (.int x4), .val (.int (3 : Int32)), .val (.int zk), .val (.ref zs0), .val (.ref zs1), .val (.ref zs2), .unset, .unset, .unset, .unset, .unset, .unset] [(.int (2 : Int32)), (.ref za), (.ref za)])
    refine own_go (fun t k => XS.aload X266.here hx rfl (hb hby at_125) rfl rfl  k) ?_
    show own_WP _ _ _ _ T266 (mkF m 127 #[.val (.int x0), .val (.int x1), .val (.int x2), .val (.int x3), .val (.int x4), .val (.int (3 : Int32)), .val (.int zk), .val (.ref zs0), .val (.ref zs1), .val (.ref zs2), .unset, .unset, .unset, .unset, .unset, .unset] [(.ref zs2), (.int (2 : Int32)), (.ref za), (.ref za)])
    refine own_stR X266 hx hZ e266 f267 O252 (Ins.self f270) (j := (2 : Int32)) ⟨by decide, by decide⟩ (i := 2) rfl (Nat.le_of_ble_eq_true rfl) (hb hby at_127) ?_
    intro T274 h274 X274 e274 W274 V274
    have f275 : Arv Z h274 za k252 (.object "java/lang/String") (3 : Int32) [(.ref zs0), (.ref zs1), (.ref zs2)] .null := V274
    have f276 : Exa Z h274 zs0 "java/lang/String" := f268.wr W274
    have f277 : Exa Z h274 zs1 "java/lang/String" := f269.wr W274
    have f278 : Exa Z h274 zs2 "java/lang/String" := f270.wr W274
    have K280 : Keep h0 h274 [] := K272.wr W274 (Or.inr sz_za)
    have N281 := Fr.snoc X274 N273 g_za
    show own_WP _ _ _ _ T274 (mkF m 128 #[.val (.int x0), .val (.int x1), .val (.int x2), .val (.int x3), .val (.int x4), .val (.int (3 : Int32)), .val (.int zk), .val (.ref zs0), .val (.ref zs1), .val (.ref zs2), .unset, .unset, .unset, .unset, .unset, .unset] [(.ref za)])
    refine own_go (fun t k => XS.astore X274.here hx rfl (hb hby at_128) rfl rfl (l' := #[.val (.int x0), .val (.int x1), .val (.int x2), .val (.int x3), .val (.int x4), .val (.int (3 : Int32)), .val (.int zk), .val (.ref zs0), .val (.ref zs1), .val (.ref zs2), .val (.ref za), .unset, .unset, .unset, .unset, .unset]) rfl k) ?_
    show own_WP _ _ _ _ T274 (mkF m 130 #[.val (.int x0), .val (.int x1), .val (.int x2), .val (.int x3), .val (.int x4), .val (.int (3 : Int32)), .val (.int zk), .val (.ref zs0), .val (.ref zs1), .val (.ref zs2), .val (.ref za), .unset, .unset, .unset, .unset, .unset] [])
    obtain ⟨T282, h282, X282, e282, E282, A282, D282, -, st282⟩ := newO X274 hx hZ hown (hw _ (List.mem_of_getElem? (i := 29) rfl)) (hw _ (List.mem_of_getElem? (i := 30) rfl)) (hw _ (List.mem_of_getElem? (i := 31) rfl)) e274 (g := (mkF m 130 #[.val (.int x0), .val (.int x1), .val (.int x2), .val (.int x3), .val (.int x4), .val (.int (3 : Int32)), .val (.int zk), .val (.ref zs0), .val (.ref zs1), .val (.ref zs2), .val (.ref za), .unset, .unset, .unset, .unset, .unset] [])) rfl (hb hby at_130) (by decide) (by decide)
    obtain ⟨zo, q282⟩ : ∃ z, z = h274.size := ⟨_, rfl⟩
    rw [← q282] at A282 D282 st282
    refine own_go st282 ?_
    have g_zo : n0 ≤ zo := Nat.le_trans (own_le Z0 K280) (Nat.le_of_eq q282.symm)
    have sz_zo : h0.size ≤ zo := Nat.le_trans K280.1 (Nat.le_of_eq q282.symm)
    have ne_zs0_zo : zs0 ≠ zo := Nat.ne_of_lt (Nat.lt_of_lt_of_le f276.lt (Nat.le_of_eq q282.symm))
    have ne_zs1_zo : zs1 ≠ zo := Nat.ne_of_lt (Nat.lt_of_lt_of_le f277.lt (Nat.le_of_eq q282.symm))
    have ne_zs2_zo : zs2 ≠ zo := Nat.ne_of_lt (Nat.lt_of_lt_of_le f278.lt (Nat.le_of_eq q282.symm))
    have ne_za_zo : za ≠ zo := Nat.ne_of_lt (Nat.lt_of_lt_of_le f275.lt (Nat.le_of_eq q282.symm))
    have f283 : Exa Z h282 zs0 "java/lang/String" := f276.ext E282
    have f284 : Exa Z h282 zs1 "java/lang/String" := f277.ext E282
    have f285 : Exa Z h282 zs2 "java/lang/String" := f278.ext E282
    have f286 : Arv Z h282 za k252 (.object "java/lang/String") (3 : Int32) [(.ref zs0), (.ref zs1), (.ref zs2)] .null := f275.ext E282
    have K287 : Keep h0 h282 [] := K280.ext E282
    have f288 : Fld Z h282 zo "branchwork/Arguments" "command" "Ljava/lang/String;" .null := D282 (Or.inr (hw _ (List.mem_of_getElem? (i := 40) rfl))) (ty := (.object "java/lang/String")) (by decide)
    have f289 : Fld Z h282 zo "branchwork/Arguments" "args" "[Ljava/lang/String;" .null := D282 (Or.inr (hw _ (List.mem_of_getElem? (i := 42) rfl))) (ty := (.array (.object "java/lang/String"))) (by decide)
    have f290 : Fld Z h282 zo "branchwork/Arguments" "next" "I" (.int (0 : Int32)) := D282 (Or.inl (hw _ (List.mem_of_getElem? (i := 49) rfl))) (ty := .int) (by decide)
    show own_WP _ _ _ _ T282 (mkF m 133 #[.val (.int x0), .val (.int x1), .val (.int x2), .val (.int x3), .val (.int x4), .val (.int (3 : Int32)), .val (.int zk), .val (.ref zs0), .val (.ref zs1), .val (.ref zs2), .val (.ref za), .unset, .unset, .unset, .unset, .unset] [(.ref zo)])
    refine own_go (fun t k => XS.dup X282.here hx rfl (hb hby at_133) rfl rfl k) ?_
    show own_WP _ _ _ _ T282 (mkF m 134 #[.val (.int x0), .val (.int x1), .val (.int x2), .val (.int x3), .val (.int x4), .val (.int (3 : Int32)), .val (.int zk), .val (.ref zs0), .val (.ref zs1), .val (.ref zs2), .val (.ref za), .unset, .unset, .unset, .unset, .unset] [(.ref zo), (.ref zo)])
    obtain ⟨zt, T291, h291, k291, X291, e291, E291, hS291, hk291, hZ, hown, st291⟩ := ldcS (show Stand p l e room_1 (s.setVm s.vm) m #[(.int x0), (.int x1), (.int x2), (.int x3), (.int x4)] below meth c T282 _ _ _ from X282) hx hZ hown (hw _ (List.mem_of_getElem? (i := 32) rfl)) (own_sa hw) e282 ((State.WarmedH.refl s).since 0) (Nat.zero_le _) (g := (mkF m 134 #[.val (.int x0), .val (.int x1), .val (.int x2), .val (.int x3), .val (.int x4), .val (.int (3 : Int32)), .val (.int zk), .val (.ref zs0), .val (.ref zs1), .val (.ref zs2), .val (.ref za), .unset, .unset, .unset, .unset, .unset] [(.ref zo), (.ref zo)])) rfl (hb hby at_134) (n := 12) (by decide) (by decide) (by decide) (by decide)
    refine own_go st291 ?_
    have f292 : Exa Z h291 zs0 "java/lang/String" := f283.ext E291
    have f293 : Exa Z h291 zs1 "java/lang/String" := f284.ext E291
    have f294 : Exa Z h291 zs2 "java/lang/String" := f285.ext E291
    have f295 : Arv Z h291 za k252 (.object "java/lang/String") (3 : Int32) [(.ref zs0), (.ref zs1), (.ref zs2)] .null := f286.ext E291
    have f296 : Exa Z h291 zo "branchwork/Arguments" := A282.ext E291
    have f297 : Fld Z h291 zo "branchwork/Arguments" "command" "Ljava/lang/String;" .null := f288.ext E291
    have f298 : Fld Z h291 zo "branchwork/Arguments" "args" "[Ljava/lang/String;" .null := f289.ext E291
    have f299 : Fld Z h291 zo "branchwork/Arguments" "next" "I" (.int (0 : Int32)) := f290.ext E291
    have K300 : Keep h0 h291 [] := K287.ext E291
    show own_WP _ _ _ _ T291 (mkF m 136 #[.val (.int x0), .val (.int x1), .val (.int x2), .val (.int x3), .val (.int x4), .val (.int (3 : Int32)), .val (.int zk), .val (.ref zs0), .val (.ref zs1), .val (.ref zs2), .val (.ref za), .unset, .unset, .unset, .unset, .unset] [(.ref zt), (.ref zo), (.ref zo)])
    refine own_go (fun t k => XS.aload X291.here hx rfl (hb hby at_136) rfl rfl  k) ?_
    show own_WP _ _ _ _ T291 (mkF m 138 #[.val (.int x0), .val (.int x1), .val (.int x2), .val (.int x3), .val (.int x4), .val (.int (3 : Int32)), .val (.int zk), .val (.ref zs0), .val (.ref zs1), .val (.ref zs2), .val (.ref za), .unset, .unset, .unset, .unset, .unset] [(.ref za), (.ref zt), (.ref zo), (.ref zo)])
    obtain ⟨_, _, ⟨T301, L301, k301, n301⟩, -, X301, ⟨Lc301, hQ301, l301, y301, z301⟩, st301⟩ := X291.specialBack hx (y := (⟨"branchwork/Arguments", "<init>", "(Ljava/lang/String;[Ljava/lang/String;)V"⟩ : MethodName)) rfl hown (mvT hZ (hw _ (List.mem_of_getElem? (i := 35) rfl))) (mvT hZ (hw _ (List.mem_of_getElem? (i := 36) rfl))) (mvT hZ (hw _ (List.mem_of_getElem? (i := 37) rfl))) (by decide) (backOf (W := 1) (rm6 l Z a0 hw [] zo zt za .null .null (.int (0 : Int32)) h291 n0 (own_le Z0 K300) f296 f297 f298 f299 g_zo) hZ (hw _ (List.mem_of_getElem? (i := 37) rfl)) (hw _ (List.mem_of_getElem? (i := 31) rfl)) (by decide) (by decide)) (g := (mkF m 138 #[.val (.int x0), .val (.int x1), .val (.int x2), .val (.int x3), .val (.int x4), .val (.int (3 : Int32)), .val (.int zk), .val (.ref zs0), .val (.ref zs1), .val (.ref zs2), .val (.ref za), .unset, .unset, .unset, .unset, .unset] [(.ref za), (.ref zt), (.ref zo), (.ref zo)])) rfl (by rw [hml]; rfl) (Steps.refl _) (a := zo) (argsL := [(.ref zt), (.ref za)]) (rest := [(.ref zo)]) (lenOf own_pd94204 rfl) rfl (by show 2 * 0 + _ ≤ _; exact Nat.le_of_eq rfl) (hb hby at_138) (fun _ _ => ⟨rfl, e291, (by decide : 10 + 0 ≤ _), (by decide : 37 + 0 ≤ _)⟩)
    dsimp only [Pt.U, Pt.locs, Pt.cells, Pt.slots] at X301 l301 y301 z301 st301 hQ301
    subst l301 y301 z301
    obtain ⟨rfl, N301q, Kc301, f302, f303, f304⟩ := hQ301
    have N301 := Fr.app N281 N301q
    refine own_tr st301 ?_
    have f305 : Exa Z T301.heap zs0 "java/lang/String" := f292.keep Kc301
    have f306 : Exa Z T301.heap zs1 "java/lang/String" := f293.keep Kc301
    have f307 : Exa Z T301.heap zs2 "java/lang/String" := f294.keep Kc301
    have f308 : Arv Z T301.heap za k252 (.object "java/lang/String") (3 : Int32) [(.ref zs0), (.ref zs1), (.ref zs2)] .null := f295.keep Kc301 (own_nm ne_za_zo)
    have f309 : Exa Z T301.heap zo "branchwork/Arguments" := f296.keep Kc301
    have K313 : Keep h0 T301.heap [] := K300.trans Kc301 (fun x hx => by cases List.mem_singleton.mp hx; exact Or.inr sz_zo)
    have kz314 : k291 ≤ T301.heap.size := Nat.le_trans hk291 Kc301.1
    show own_WP _ _ _ _ T301 (mkF m 141 #[.val (.int x0), .val (.int x1), .val (.int x2), .val (.int x3), .val (.int x4), .val (.int (3 : Int32)), .val (.int zk), .val (.ref zs0), .val (.ref zs1), .val (.ref zs2), .val (.ref za), .unset, .unset, .unset, .unset, .unset] [(.ref zo)])
    refine own_go (fun t k => XS.astore X301.here hx rfl (hb hby at_141) rfl rfl (l' := #[.val (.int x0), .val (.int x1), .val (.int x2), .val (.int x3), .val (.int x4), .val (.int (3 : Int32)), .val (.int zk), .val (.ref zs0), .val (.ref zs1), .val (.ref zs2), .val (.ref za), .val (.ref zo), .unset, .unset, .unset, .unset]) rfl k) ?_
    show own_WP _ _ _ _ T301 (mkF m 143 #[.val (.int x0), .val (.int x1), .val (.int x2), .val (.int x3), .val (.int x4), .val (.int (3 : Int32)), .val (.int zk), .val (.ref zs0), .val (.ref zs1), .val (.ref zs2), .val (.ref za), .val (.ref zo), .unset, .unset, .unset, .unset] [])
    refine own_go (fun t k => XS.aload X301.here hx rfl (hb hby at_143) rfl rfl  k) ?_
    show own_WP _ _ _ _ T301 (mkF m 145 #[.val (.int x0), .val (.int x1), .val (.int x2), .val (.int x3), .val (.int x4), .val (.int (3 : Int32)), .val (.int zk), .val (.ref zs0), .val (.ref zs1), .val (.ref zs2), .val (.ref za), .val (.ref zo), .unset, .unset, .unset, .unset] [(.ref zo)])
    obtain ⟨cq315, kq315, q315a, q315b, q315c⟩ := isOf hZ rfl f302
    obtain ⟨_, _, ⟨T315, L315, k315, n315⟩, -, X315, ⟨Lc315, hQ315, l315, y315, z315⟩, st315⟩ := X301.virtualBack hx (y := (⟨"branchwork/Arguments", "hasNext", "()Z"⟩ : MethodName)) (z := (⟨"branchwork/Arguments", "hasNext", "()Z"⟩ : MethodName)) hown (mvT hZ (hw _ (List.mem_of_getElem? (i := 43) rfl))) (mvT hZ (hw _ (List.mem_of_getElem? (i := 44) rfl))) (notFace_of_selects (args := #[]) (mvT hZ (hw _ (List.mem_of_getElem? (i := 46) rfl)))) (mvT hZ (hw _ (List.mem_of_getElem? (i := 46) rfl))) (mvT hZ (hw _ (List.mem_of_getElem? (i := 45) rfl))) (by decide) (backOf (W := 0) (rm7 l Z a0 hw [] zo za k252 (3 : Int32) [(.ref zs0), (.ref zs1), (.ref zs2)] (0 : Int32) T301.heap n0 (own_le Z0 K313) f303 f304 f308) hZ (hw _ (List.mem_of_getElem? (i := 47) rfl)) (hw _ (List.mem_of_getElem? (i := 31) rfl)) (by decide) (by decide)) q315a q315c (g := (mkF m 145 #[.val (.int x0), .val (.int x1), .val (.int x2), .val (.int x3), .val (.int x4), .val (.int (3 : Int32)), .val (.int zk), .val (.ref zs0), .val (.ref zs1), .val (.ref zs2), .val (.ref za), .val (.ref zo), .unset, .unset, .unset, .unset] [(.ref zo)])) rfl (by rw [hml]; rfl) (Steps.refl _) (argsL := []) (rest := []) (lenOf own_pd91901 rfl) rfl (by show 2 * 0 + _ ≤ _; exact Nat.le_of_eq rfl) (hb hby at_145) (fun _ _ => ⟨rfl, rfl, (by decide : 10 + 0 ≤ _), (by decide : 37 + 0 ≤ _)⟩)
    dsimp only [Pt.U, Pt.locs, Pt.cells, Pt.slots] at X315 l315 y315 z315 st315 hQ315
    subst l315 y315 z315
    obtain ⟨rfl, N315q, eq315⟩ := hQ315
    have N315 := Fr.app N301 N315q
    refine own_tr st315 ?_
    show own_WP _ _ _ _ T315 (mkF m 148 #[.val (.int x0), .val (.int x1), .val (.int x2), .val (.int x3), .val (.int x4), .val (.int (3 : Int32)), .val (.int zk), .val (.ref zs0), .val (.ref zs1), .val (.ref zs2), .val (.ref za), .val (.ref zo), .unset, .unset, .unset, .unset] [(.int (own_hn (0 : Int32) (3 : Int32)))])
    refine own_go (fun t k => XS.iload X315.here hx rfl (hb hby at_148) rfl  k) ?_
    show own_WP _ _ _ _ T315 (mkF m 150 #[.val (.int x0), .val (.int x1), .val (.int x2), .val (.int x3), .val (.int x4), .val (.int (3 : Int32)), .val (.int zk), .val (.ref zs0), .val (.ref zs1), .val (.ref zs2), .val (.ref za), .val (.ref zo), .unset, .unset, .unset, .unset] [(.int (3 : Int32)), (.int (own_hn (0 : Int32) (3 : Int32)))])
    have hc150 : (0 : Int32) < (3 : Int32) := by decide
    refine own_go (fun t k => XS.ifNo X315.here hx rfl (hb hby at_150) rfl ((if0 _ _).trans (tlt hc150).2.2.2) k) ?_
    show own_WP _ _ _ _ T315 (mkF m 153 #[.val (.int x0), .val (.int x1), .val (.int x2), .val (.int x3), .val (.int x4), .val (.int (3 : Int32)), .val (.int zk), .val (.ref zs0), .val (.ref zs1), .val (.ref zs2), .val (.ref za), .val (.ref zo), .unset, .unset, .unset, .unset] [(.int (own_hn (0 : Int32) (3 : Int32)))])
    refine own_go (fun t k => XS.iconst X315.here hx rfl (hb hby at_153) k) ?_
    show own_WP _ _ _ _ T315 (mkF m 154 #[.val (.int x0), .val (.int x1), .val (.int x2), .val (.int x3), .val (.int x4), .val (.int (3 : Int32)), .val (.int zk), .val (.ref zs0), .val (.ref zs1), .val (.ref zs2), .val (.ref za), .val (.ref zo), .unset, .unset, .unset, .unset] [(.int (1 : Int32)), (.int (own_hn (0 : Int32) (3 : Int32)))])
    refine own_go (fun t k => XS.goto X315.here hx rfl (pc0 := 154) (pc' := 158) rfl (hb hby at_154) (by decide) (by decide) k) ?_
    show own_WP _ _ _ _ T315 (mkF m 158 #[.val (.int x0), .val (.int x1), .val (.int x2), .val (.int x3), .val (.int x4), .val (.int (3 : Int32)), .val (.int zk), .val (.ref zs0), .val (.ref zs1), .val (.ref zs2), .val (.ref za), .val (.ref zo), .unset, .unset, .unset, .unset] [(.int (1 : Int32)), (.int (own_hn (0 : Int32) (3 : Int32)))])
    have hc158 : (own_hn (0 : Int32) (3 : Int32)) = (1 : Int32) := by
      decide
    refine own_go (fun t k => XS.icmpNo X315.here hx rfl (hb hby at_158) rfl (teq hc158).2 k) ?_
    show own_WP _ _ _ _ T315 (mkF m 161 #[.val (.int x0), .val (.int x1), .val (.int x2), .val (.int x3), .val (.int x4), .val (.int (3 : Int32)), .val (.int zk), .val (.ref zs0), .val (.ref zs1), .val (.ref zs2), .val (.ref za), .val (.ref zo), .unset, .unset, .unset, .unset] [])
    refine own_go (fun t k => XS.iconst X315.here hx rfl (hb hby at_161) k) ?_
    show own_WP _ _ _ _ T315 (mkF m 162 #[.val (.int x0), .val (.int x1), .val (.int x2), .val (.int x3), .val (.int x4), .val (.int (3 : Int32)), .val (.int zk), .val (.ref zs0), .val (.ref zs1), .val (.ref zs2), .val (.ref za), .val (.ref zo), .unset, .unset, .unset, .unset] [(.int (1 : Int32))])
    refine own_go (fun t k => XS.goto X315.here hx rfl (pc0 := 162) (pc' := 166) rfl (hb hby at_162) (by decide) (by decide) k) ?_
    show own_WP _ _ _ _ T315 (mkF m 166 #[.val (.int x0), .val (.int x1), .val (.int x2), .val (.int x3), .val (.int x4), .val (.int (3 : Int32)), .val (.int zk), .val (.ref zs0), .val (.ref zs1), .val (.ref zs2), .val (.ref za), .val (.ref zo), .unset, .unset, .unset, .unset] [(.int (1 : Int32))])
    refine own_go (fun t k => XS.istore X315.here hx rfl (hb hby at_166) rfl (l' := #[.val (.int x0), .val (.int x1), .val (.int x2), .val (.int x3), .val (.int x4), .val (.int (3 : Int32)), .val (.int zk), .val (.ref zs0), .val (.ref zs1), .val (.ref zs2), .val (.ref za), .val (.ref zo), .val (.int (1 : Int32)), .unset, .unset, .unset]) rfl k) ?_
    rcases own_nk d_zn d_zk with ⟨hn, hk⟩ | ⟨hn, hk⟩ | ⟨hn, hk⟩ | ⟨hn, hk⟩ | ⟨hn, hk⟩ | ⟨hn, hk⟩ | ⟨hn, hk⟩ | ⟨hn, hk⟩ | ⟨hn, hk⟩ | ⟨hn, hk⟩
    · exact absurd hn (by decide)
    · exact absurd hn (by decide)
    · exact absurd hn (by decide)
    · exact absurd hn (by decide)
    · exact absurd hn (by decide)
    · exact absurd hn (by decide)
    · subst hk
      show own_WP _ _ _ _ T315 (mkF m 168 #[.val (.int x0), .val (.int x1), .val (.int x2), .val (.int x3), .val (.int x4), .val (.int (3 : Int32)), .val (.int (0 : Int32)), .val (.ref zs0), .val (.ref zs1), .val (.ref zs2), .val (.ref za), .val (.ref zo), .val (.int (1 : Int32)), .unset, .unset, .unset] [])
      refine own_go (fun t k => XS.iload X315.here hx rfl (hb hby at_168) rfl  k) ?_
      show own_WP _ _ _ _ T315 (mkF m 170 #[.val (.int x0), .val (.int x1), .val (.int x2), .val (.int x3), .val (.int x4), .val (.int (3 : Int32)), .val (.int (0 : Int32)), .val (.ref zs0), .val (.ref zs1), .val (.ref zs2), .val (.ref za), .val (.ref zo), .val (.int (1 : Int32)), .unset, .unset, .unset] [(.int (0 : Int32))])
      refine own_go (fun t k => XS.iconst X315.here hx rfl (hb hby at_170) k) ?_
      show own_WP _ _ _ _ T315 (mkF m 171 #[.val (.int x0), .val (.int x1), .val (.int x2), .val (.int x3), .val (.int x4), .val (.int (3 : Int32)), .val (.int (0 : Int32)), .val (.ref zs0), .val (.ref zs1), .val (.ref zs2), .val (.ref za), .val (.ref zo), .val (.int (1 : Int32)), .unset, .unset, .unset] [(.int (1 : Int32)), (.int (0 : Int32))])
      have hc171 : (0 : Int32) < (1 : Int32) := by decide
      refine own_go (fun t k => XS.icmpYes X315.here hx rfl (pc0 := 171) (pc' := 180) rfl (hb hby at_171) rfl (tlt hc171).1 (by decide) (by decide) k) ?_
      show own_WP _ _ _ _ T315 (mkF m 180 #[.val (.int x0), .val (.int x1), .val (.int x2), .val (.int x3), .val (.int x4), .val (.int (3 : Int32)), .val (.int (0 : Int32)), .val (.ref zs0), .val (.ref zs1), .val (.ref zs2), .val (.ref za), .val (.ref zo), .val (.int (1 : Int32)), .unset, .unset, .unset] [])
      refine own_go (fun t k => XS.iload X315.here hx rfl (hb hby at_180) rfl  k) ?_
      show own_WP _ _ _ _ T315 (mkF m 182 #[.val (.int x0), .val (.int x1), .val (.int x2), .val (.int x3), .val (.int x4), .val (.int (3 : Int32)), .val (.int (0 : Int32)), .val (.ref zs0), .val (.ref zs1), .val (.ref zs2), .val (.ref za), .val (.ref zo), .val (.int (1 : Int32)), .unset, .unset, .unset] [(.int (0 : Int32))])
      refine own_go (fun t k => XS.iconst X315.here hx rfl (hb hby at_182) k) ?_
      show own_WP _ _ _ _ T315 (mkF m 183 #[.val (.int x0), .val (.int x1), .val (.int x2), .val (.int x3), .val (.int x4), .val (.int (3 : Int32)), .val (.int (0 : Int32)), .val (.ref zs0), .val (.ref zs1), .val (.ref zs2), .val (.ref za), .val (.ref zo), .val (.int (1 : Int32)), .unset, .unset, .unset] [(.int (2 : Int32)), (.int (0 : Int32))])
      have hc183 : (0 : Int32) < (2 : Int32) := by decide
      refine own_go (fun t k => XS.icmpYes X315.here hx rfl (pc0 := 183) (pc' := 192) rfl (hb hby at_183) rfl (tlt hc183).1 (by decide) (by decide) k) ?_
      show own_WP _ _ _ _ T315 (mkF m 192 #[.val (.int x0), .val (.int x1), .val (.int x2), .val (.int x3), .val (.int x4), .val (.int (3 : Int32)), .val (.int (0 : Int32)), .val (.ref zs0), .val (.ref zs1), .val (.ref zs2), .val (.ref za), .val (.ref zo), .val (.int (1 : Int32)), .unset, .unset, .unset] [])
      refine own_go (fun t k => XS.iload X315.here hx rfl (hb hby at_192) rfl  k) ?_
      show own_WP _ _ _ _ T315 (mkF m 194 #[.val (.int x0), .val (.int x1), .val (.int x2), .val (.int x3), .val (.int x4), .val (.int (3 : Int32)), .val (.int (0 : Int32)), .val (.ref zs0), .val (.ref zs1), .val (.ref zs2), .val (.ref za), .val (.ref zo), .val (.int (1 : Int32)), .unset, .unset, .unset] [(.int (0 : Int32))])
      refine own_go (fun t k => XS.iconst X315.here hx rfl (hb hby at_194) k) ?_
      show own_WP _ _ _ _ T315 (mkF m 195 #[.val (.int x0), .val (.int x1), .val (.int x2), .val (.int x3), .val (.int x4), .val (.int (3 : Int32)), .val (.int (0 : Int32)), .val (.ref zs0), .val (.ref zs1), .val (.ref zs2), .val (.ref za), .val (.ref zo), .val (.int (1 : Int32)), .unset, .unset, .unset] [(.int (3 : Int32)), (.int (0 : Int32))])
      have hc195 : (0 : Int32) < (3 : Int32) := by decide
      refine own_go (fun t k => XS.icmpYes X315.here hx rfl (pc0 := 195) (pc' := 204) rfl (hb hby at_195) rfl (tlt hc195).1 (by decide) (by decide) k) ?_
      show own_WP _ _ _ _ T315 (mkF m 204 #[.val (.int x0), .val (.int x1), .val (.int x2), .val (.int x3), .val (.int x4), .val (.int (3 : Int32)), .val (.int (0 : Int32)), .val (.ref zs0), .val (.ref zs1), .val (.ref zs2), .val (.ref za), .val (.ref zo), .val (.int (1 : Int32)), .unset, .unset, .unset] [])
      refine own_go (fun t k => XS.aload X315.here hx rfl (hb hby at_204) rfl rfl  k) ?_
      show own_WP _ _ _ _ T315 (mkF m 206 #[.val (.int x0), .val (.int x1), .val (.int x2), .val (.int x3), .val (.int x4), .val (.int (3 : Int32)), .val (.int (0 : Int32)), .val (.ref zs0), .val (.ref zs1), .val (.ref zs2), .val (.ref za), .val (.ref zo), .val (.int (1 : Int32)), .unset, .unset, .unset] [(.ref zo)])
      obtain ⟨cq316, kq316, q316a, q316b, q316c⟩ := isOf hZ eq315 f302
      obtain ⟨_, _, ⟨T316, L316, k316, n316⟩, -, X316, ⟨Lc316, hQ316, l316, y316, z316⟩, st316⟩ := X315.virtualBack hx (y := (⟨"branchwork/Arguments", "hasNext", "()Z"⟩ : MethodName)) (z := (⟨"branchwork/Arguments", "hasNext", "()Z"⟩ : MethodName)) hown (mvT hZ (hw _ (List.mem_of_getElem? (i := 43) rfl))) (mvT hZ (hw _ (List.mem_of_getElem? (i := 44) rfl))) (notFace_of_selects (args := #[]) (mvT hZ (hw _ (List.mem_of_getElem? (i := 46) rfl)))) (mvT hZ (hw _ (List.mem_of_getElem? (i := 46) rfl))) (mvT hZ (hw _ (List.mem_of_getElem? (i := 45) rfl))) (by decide) (backOf (W := 0) (rm7 l Z a0 hw [] zo za k252 (3 : Int32) [(.ref zs0), (.ref zs1), (.ref zs2)] (0 : Int32) T301.heap n0 (own_le Z0 K313) f303 f304 f308) hZ (hw _ (List.mem_of_getElem? (i := 47) rfl)) (hw _ (List.mem_of_getElem? (i := 31) rfl)) (by decide) (by decide)) q316a q316c (g := (mkF m 206 #[.val (.int x0), .val (.int x1), .val (.int x2), .val (.int x3), .val (.int x4), .val (.int (3 : Int32)), .val (.int (0 : Int32)), .val (.ref zs0), .val (.ref zs1), .val (.ref zs2), .val (.ref za), .val (.ref zo), .val (.int (1 : Int32)), .unset, .unset, .unset] [(.ref zo)])) rfl (by rw [hml]; rfl) (Steps.refl _) (argsL := []) (rest := []) (lenOf own_pd91901 rfl) rfl (by show 2 * 0 + _ ≤ _; exact Nat.le_of_eq rfl) (hb hby at_206) (fun _ _ => ⟨rfl, eq315, (by decide : 10 + 0 ≤ _), (by decide : 37 + 0 ≤ _)⟩)
      dsimp only [Pt.U, Pt.locs, Pt.cells, Pt.slots] at X316 l316 y316 z316 st316 hQ316
      subst l316 y316 z316
      obtain ⟨rfl, N316q, eq316⟩ := hQ316
      have N316 := Fr.app N315 N316q
      refine own_tr st316 ?_
      show own_WP _ _ _ _ T316 (mkF m 209 #[.val (.int x0), .val (.int x1), .val (.int x2), .val (.int x3), .val (.int x4), .val (.int (3 : Int32)), .val (.int (0 : Int32)), .val (.ref zs0), .val (.ref zs1), .val (.ref zs2), .val (.ref za), .val (.ref zo), .val (.int (1 : Int32)), .unset, .unset, .unset] [(.int (own_hn (0 : Int32) (3 : Int32)))])
      refine own_go (fun t k => XS.istore X316.here hx rfl (hb hby at_209) rfl (l' := #[.val (.int x0), .val (.int x1), .val (.int x2), .val (.int x3), .val (.int x4), .val (.int (3 : Int32)), .val (.int (0 : Int32)), .val (.ref zs0), .val (.ref zs1), .val (.ref zs2), .val (.ref za), .val (.ref zo), .val (.int (1 : Int32)), .val (.int (own_hn (0 : Int32) (3 : Int32))), .unset, .unset]) rfl k) ?_
      show own_WP _ _ _ _ T316 (mkF m 211 #[.val (.int x0), .val (.int x1), .val (.int x2), .val (.int x3), .val (.int x4), .val (.int (3 : Int32)), .val (.int (0 : Int32)), .val (.ref zs0), .val (.ref zs1), .val (.ref zs2), .val (.ref za), .val (.ref zo), .val (.int (1 : Int32)), .val (.int (own_hn (0 : Int32) (3 : Int32))), .unset, .unset] [])
      refine own_go (fun t k => XS.aload X316.here hx rfl (hb hby at_211) rfl rfl  k) ?_
      show own_WP _ _ _ _ T316 (mkF m 213 #[.val (.int x0), .val (.int x1), .val (.int x2), .val (.int x3), .val (.int x4), .val (.int (3 : Int32)), .val (.int (0 : Int32)), .val (.ref zs0), .val (.ref zs1), .val (.ref zs2), .val (.ref za), .val (.ref zo), .val (.int (1 : Int32)), .val (.int (own_hn (0 : Int32) (3 : Int32))), .unset, .unset] [(.ref zo)])
      obtain ⟨cq317, kq317, q317a, q317b, q317c⟩ := isOf hZ eq316 f302
      obtain ⟨_, _, ⟨T317, L317, k317, n317⟩, -, X317, ⟨Lc317, hQ317, l317, y317, z317⟩, st317⟩ := X316.virtualBack hx (y := (⟨"branchwork/Arguments", "hasNext", "()Z"⟩ : MethodName)) (z := (⟨"branchwork/Arguments", "hasNext", "()Z"⟩ : MethodName)) hown (mvT hZ (hw _ (List.mem_of_getElem? (i := 43) rfl))) (mvT hZ (hw _ (List.mem_of_getElem? (i := 44) rfl))) (notFace_of_selects (args := #[]) (mvT hZ (hw _ (List.mem_of_getElem? (i := 46) rfl)))) (mvT hZ (hw _ (List.mem_of_getElem? (i := 46) rfl))) (mvT hZ (hw _ (List.mem_of_getElem? (i := 45) rfl))) (by decide) (backOf (W := 0) (rm7 l Z a0 hw [] zo za k252 (3 : Int32) [(.ref zs0), (.ref zs1), (.ref zs2)] (0 : Int32) T301.heap n0 (own_le Z0 K313) f303 f304 f308) hZ (hw _ (List.mem_of_getElem? (i := 47) rfl)) (hw _ (List.mem_of_getElem? (i := 31) rfl)) (by decide) (by decide)) q317a q317c (g := (mkF m 213 #[.val (.int x0), .val (.int x1), .val (.int x2), .val (.int x3), .val (.int x4), .val (.int (3 : Int32)), .val (.int (0 : Int32)), .val (.ref zs0), .val (.ref zs1), .val (.ref zs2), .val (.ref za), .val (.ref zo), .val (.int (1 : Int32)), .val (.int (own_hn (0 : Int32) (3 : Int32))), .unset, .unset] [(.ref zo)])) rfl (by rw [hml]; rfl) (Steps.refl _) (argsL := []) (rest := []) (lenOf own_pd91901 rfl) rfl (by show 2 * 0 + _ ≤ _; exact Nat.le_of_eq rfl) (hb hby at_213) (fun _ _ => ⟨rfl, eq316, (by decide : 10 + 0 ≤ _), (by decide : 37 + 0 ≤ _)⟩)
      dsimp only [Pt.U, Pt.locs, Pt.cells, Pt.slots] at X317 l317 y317 z317 st317 hQ317
      subst l317 y317 z317
      obtain ⟨rfl, N317q, eq317⟩ := hQ317
      have N317 := Fr.app N316 N317q
      refine own_tr st317 ?_
      show own_WP _ _ _ _ T317 (mkF m 216 #[.val (.int x0), .val (.int x1), .val (.int x2), .val (.int x3), .val (.int x4), .val (.int (3 : Int32)), .val (.int (0 : Int32)), .val (.ref zs0), .val (.ref zs1), .val (.ref zs2), .val (.ref za), .val (.ref zo), .val (.int (1 : Int32)), .val (.int (own_hn (0 : Int32) (3 : Int32))), .unset, .unset] [(.int (own_hn (0 : Int32) (3 : Int32)))])
      refine own_go (fun t k => XS.istore X317.here hx rfl (hb hby at_216) rfl (l' := #[.val (.int x0), .val (.int x1), .val (.int x2), .val (.int x3), .val (.int x4), .val (.int (3 : Int32)), .val (.int (0 : Int32)), .val (.ref zs0), .val (.ref zs1), .val (.ref zs2), .val (.ref za), .val (.ref zo), .val (.int (1 : Int32)), .val (.int (own_hn (0 : Int32) (3 : Int32))), .val (.int (own_hn (0 : Int32) (3 : Int32))), .unset]) rfl k) ?_
      show own_WP _ _ _ _ T317 (mkF m 218 #[.val (.int x0), .val (.int x1), .val (.int x2), .val (.int x3), .val (.int x4), .val (.int (3 : Int32)), .val (.int (0 : Int32)), .val (.ref zs0), .val (.ref zs1), .val (.ref zs2), .val (.ref za), .val (.ref zo), .val (.int (1 : Int32)), .val (.int (own_hn (0 : Int32) (3 : Int32))), .val (.int (own_hn (0 : Int32) (3 : Int32))), .unset] [])
      refine own_go (fun t k => XS.iload X317.here hx rfl (hb hby at_218) rfl  k) ?_
      show own_WP _ _ _ _ T317 (mkF m 220 #[.val (.int x0), .val (.int x1), .val (.int x2), .val (.int x3), .val (.int x4), .val (.int (3 : Int32)), .val (.int (0 : Int32)), .val (.ref zs0), .val (.ref zs1), .val (.ref zs2), .val (.ref za), .val (.ref zo), .val (.int (1 : Int32)), .val (.int (own_hn (0 : Int32) (3 : Int32))), .val (.int (own_hn (0 : Int32) (3 : Int32))), .unset] [(.int (1 : Int32))])
      have hc220 : ¬ ((1 : Int32) = (0 : Int32)) := by decide
      refine own_go (fun t k => XS.ifNo X317.here hx rfl (hb hby at_220) rfl ((if0 _ _).trans (feq hc220).1) k) ?_
      show own_WP _ _ _ _ T317 (mkF m 223 #[.val (.int x0), .val (.int x1), .val (.int x2), .val (.int x3), .val (.int x4), .val (.int (3 : Int32)), .val (.int (0 : Int32)), .val (.ref zs0), .val (.ref zs1), .val (.ref zs2), .val (.ref za), .val (.ref zo), .val (.int (1 : Int32)), .val (.int (own_hn (0 : Int32) (3 : Int32))), .val (.int (own_hn (0 : Int32) (3 : Int32))), .unset] [])
      refine own_go (fun t k => XS.iload X317.here hx rfl (hb hby at_223) rfl  k) ?_
      show own_WP _ _ _ _ T317 (mkF m 225 #[.val (.int x0), .val (.int x1), .val (.int x2), .val (.int x3), .val (.int x4), .val (.int (3 : Int32)), .val (.int (0 : Int32)), .val (.ref zs0), .val (.ref zs1), .val (.ref zs2), .val (.ref za), .val (.ref zo), .val (.int (1 : Int32)), .val (.int (own_hn (0 : Int32) (3 : Int32))), .val (.int (own_hn (0 : Int32) (3 : Int32))), .unset] [(.int (own_hn (0 : Int32) (3 : Int32)))])
      refine own_go (fun t k => XS.iload X317.here hx rfl (hb hby at_225) rfl  k) ?_
      show own_WP _ _ _ _ T317 (mkF m 227 #[.val (.int x0), .val (.int x1), .val (.int x2), .val (.int x3), .val (.int x4), .val (.int (3 : Int32)), .val (.int (0 : Int32)), .val (.ref zs0), .val (.ref zs1), .val (.ref zs2), .val (.ref za), .val (.ref zo), .val (.int (1 : Int32)), .val (.int (own_hn (0 : Int32) (3 : Int32))), .val (.int (own_hn (0 : Int32) (3 : Int32))), .unset] [(.int (0 : Int32)), (.int (own_hn (0 : Int32) (3 : Int32)))])
      refine own_go (fun t k => XS.iload X317.here hx rfl (hb hby at_227) rfl  k) ?_
      show own_WP _ _ _ _ T317 (mkF m 229 #[.val (.int x0), .val (.int x1), .val (.int x2), .val (.int x3), .val (.int x4), .val (.int (3 : Int32)), .val (.int (0 : Int32)), .val (.ref zs0), .val (.ref zs1), .val (.ref zs2), .val (.ref za), .val (.ref zo), .val (.int (1 : Int32)), .val (.int (own_hn (0 : Int32) (3 : Int32))), .val (.int (own_hn (0 : Int32) (3 : Int32))), .unset] [(.int (3 : Int32)), (.int (0 : Int32)), (.int (own_hn (0 : Int32) (3 : Int32)))])
      have hc229 : (0 : Int32) < (3 : Int32) := by decide
      refine own_go (fun t k => XS.icmpNo X317.here hx rfl (hb hby at_229) rfl (tlt hc229).2.1 k) ?_
      show own_WP _ _ _ _ T317 (mkF m 232 #[.val (.int x0), .val (.int x1), .val (.int x2), .val (.int x3), .val (.int x4), .val (.int (3 : Int32)), .val (.int (0 : Int32)), .val (.ref zs0), .val (.ref zs1), .val (.ref zs2), .val (.ref za), .val (.ref zo), .val (.int (1 : Int32)), .val (.int (own_hn (0 : Int32) (3 : Int32))), .val (.int (own_hn (0 : Int32) (3 : Int32))), .unset] [(.int (own_hn (0 : Int32) (3 : Int32)))])
      refine own_go (fun t k => XS.iconst X317.here hx rfl (hb hby at_232) k) ?_
      show own_WP _ _ _ _ T317 (mkF m 233 #[.val (.int x0), .val (.int x1), .val (.int x2), .val (.int x3), .val (.int x4), .val (.int (3 : Int32)), .val (.int (0 : Int32)), .val (.ref zs0), .val (.ref zs1), .val (.ref zs2), .val (.ref za), .val (.ref zo), .val (.int (1 : Int32)), .val (.int (own_hn (0 : Int32) (3 : Int32))), .val (.int (own_hn (0 : Int32) (3 : Int32))), .unset] [(.int (1 : Int32)), (.int (own_hn (0 : Int32) (3 : Int32)))])
      refine own_go (fun t k => XS.goto X317.here hx rfl (pc0 := 233) (pc' := 237) rfl (hb hby at_233) (by decide) (by decide) k) ?_
      show own_WP _ _ _ _ T317 (mkF m 237 #[.val (.int x0), .val (.int x1), .val (.int x2), .val (.int x3), .val (.int x4), .val (.int (3 : Int32)), .val (.int (0 : Int32)), .val (.ref zs0), .val (.ref zs1), .val (.ref zs2), .val (.ref za), .val (.ref zo), .val (.int (1 : Int32)), .val (.int (own_hn (0 : Int32) (3 : Int32))), .val (.int (own_hn (0 : Int32) (3 : Int32))), .unset] [(.int (1 : Int32)), (.int (own_hn (0 : Int32) (3 : Int32)))])
      refine own_go (fun t k => XS.icmpNo X317.here hx rfl (hb hby at_237) rfl (teq hc158).2 k) ?_
      show own_WP _ _ _ _ T317 (mkF m 240 #[.val (.int x0), .val (.int x1), .val (.int x2), .val (.int x3), .val (.int x4), .val (.int (3 : Int32)), .val (.int (0 : Int32)), .val (.ref zs0), .val (.ref zs1), .val (.ref zs2), .val (.ref za), .val (.ref zo), .val (.int (1 : Int32)), .val (.int (own_hn (0 : Int32) (3 : Int32))), .val (.int (own_hn (0 : Int32) (3 : Int32))), .unset] [])
      refine own_go (fun t k => XS.iload X317.here hx rfl (hb hby at_240) rfl  k) ?_
      show own_WP _ _ _ _ T317 (mkF m 242 #[.val (.int x0), .val (.int x1), .val (.int x2), .val (.int x3), .val (.int x4), .val (.int (3 : Int32)), .val (.int (0 : Int32)), .val (.ref zs0), .val (.ref zs1), .val (.ref zs2), .val (.ref za), .val (.ref zo), .val (.int (1 : Int32)), .val (.int (own_hn (0 : Int32) (3 : Int32))), .val (.int (own_hn (0 : Int32) (3 : Int32))), .unset] [(.int (own_hn (0 : Int32) (3 : Int32)))])
      refine own_go (fun t k => XS.iload X317.here hx rfl (hb hby at_242) rfl  k) ?_
      show own_WP _ _ _ _ T317 (mkF m 244 #[.val (.int x0), .val (.int x1), .val (.int x2), .val (.int x3), .val (.int x4), .val (.int (3 : Int32)), .val (.int (0 : Int32)), .val (.ref zs0), .val (.ref zs1), .val (.ref zs2), .val (.ref za), .val (.ref zo), .val (.int (1 : Int32)), .val (.int (own_hn (0 : Int32) (3 : Int32))), .val (.int (own_hn (0 : Int32) (3 : Int32))), .unset] [(.int (own_hn (0 : Int32) (3 : Int32))), (.int (own_hn (0 : Int32) (3 : Int32)))])
      have hc244 : (own_hn (0 : Int32) (3 : Int32)) = (own_hn (0 : Int32) (3 : Int32)) := rfl
      refine own_go (fun t k => XS.icmpNo X317.here hx rfl (hb hby at_244) rfl (teq hc244).2 k) ?_
      show own_WP _ _ _ _ T317 (mkF m 247 #[.val (.int x0), .val (.int x1), .val (.int x2), .val (.int x3), .val (.int x4), .val (.int (3 : Int32)), .val (.int (0 : Int32)), .val (.ref zs0), .val (.ref zs1), .val (.ref zs2), .val (.ref za), .val (.ref zo), .val (.int (1 : Int32)), .val (.int (own_hn (0 : Int32) (3 : Int32))), .val (.int (own_hn (0 : Int32) (3 : Int32))), .unset] [])
      refine own_go (fun t k => XS.iconst X317.here hx rfl (hb hby at_247) k) ?_
      show own_WP _ _ _ _ T317 (mkF m 248 #[.val (.int x0), .val (.int x1), .val (.int x2), .val (.int x3), .val (.int x4), .val (.int (3 : Int32)), .val (.int (0 : Int32)), .val (.ref zs0), .val (.ref zs1), .val (.ref zs2), .val (.ref za), .val (.ref zo), .val (.int (1 : Int32)), .val (.int (own_hn (0 : Int32) (3 : Int32))), .val (.int (own_hn (0 : Int32) (3 : Int32))), .unset] [(.int (1 : Int32))])
      refine own_go (fun t k => XS.goto X317.here hx rfl (pc0 := 248) (pc' := 252) rfl (hb hby at_248) (by decide) (by decide) k) ?_
      show own_WP _ _ _ _ T317 (mkF m 252 #[.val (.int x0), .val (.int x1), .val (.int x2), .val (.int x3), .val (.int x4), .val (.int (3 : Int32)), .val (.int (0 : Int32)), .val (.ref zs0), .val (.ref zs1), .val (.ref zs2), .val (.ref za), .val (.ref zo), .val (.int (1 : Int32)), .val (.int (own_hn (0 : Int32) (3 : Int32))), .val (.int (own_hn (0 : Int32) (3 : Int32))), .unset] [(.int (1 : Int32))])
      refine own_go (fun t k => XS.istore X317.here hx rfl (hb hby at_252) rfl (l' := #[.val (.int x0), .val (.int x1), .val (.int x2), .val (.int x3), .val (.int x4), .val (.int (3 : Int32)), .val (.int (0 : Int32)), .val (.ref zs0), .val (.ref zs1), .val (.ref zs2), .val (.ref za), .val (.ref zo), .val (.int (1 : Int32)), .val (.int (own_hn (0 : Int32) (3 : Int32))), .val (.int (own_hn (0 : Int32) (3 : Int32))), .unset]) rfl k) ?_
      show own_WP _ _ _ _ T317 (mkF m 254 #[.val (.int x0), .val (.int x1), .val (.int x2), .val (.int x3), .val (.int x4), .val (.int (3 : Int32)), .val (.int (0 : Int32)), .val (.ref zs0), .val (.ref zs1), .val (.ref zs2), .val (.ref za), .val (.ref zo), .val (.int (1 : Int32)), .val (.int (own_hn (0 : Int32) (3 : Int32))), .val (.int (own_hn (0 : Int32) (3 : Int32))), .unset] [])
      refine own_go (fun t k => XS.iload X317.here hx rfl (hb hby at_254) rfl  k) ?_
      show own_WP _ _ _ _ T317 (mkF m 256 #[.val (.int x0), .val (.int x1), .val (.int x2), .val (.int x3), .val (.int x4), .val (.int (3 : Int32)), .val (.int (0 : Int32)), .val (.ref zs0), .val (.ref zs1), .val (.ref zs2), .val (.ref za), .val (.ref zo), .val (.int (1 : Int32)), .val (.int (own_hn (0 : Int32) (3 : Int32))), .val (.int (own_hn (0 : Int32) (3 : Int32))), .unset] [(.int (0 : Int32))])
      refine own_go (fun t k => XS.iload X317.here hx rfl (hb hby at_256) rfl  k) ?_
      show own_WP _ _ _ _ T317 (mkF m 258 #[.val (.int x0), .val (.int x1), .val (.int x2), .val (.int x3), .val (.int x4), .val (.int (3 : Int32)), .val (.int (0 : Int32)), .val (.ref zs0), .val (.ref zs1), .val (.ref zs2), .val (.ref za), .val (.ref zo), .val (.int (1 : Int32)), .val (.int (own_hn (0 : Int32) (3 : Int32))), .val (.int (own_hn (0 : Int32) (3 : Int32))), .unset] [(.int (3 : Int32)), (.int (0 : Int32))])
      have hc258 : (0 : Int32) < (3 : Int32) := by decide
      refine own_go (fun t k => XS.icmpNo X317.here hx rfl (hb hby at_258) rfl (tlt hc258).2.1 k) ?_
      show own_WP _ _ _ _ T317 (mkF m 261 #[.val (.int x0), .val (.int x1), .val (.int x2), .val (.int x3), .val (.int x4), .val (.int (3 : Int32)), .val (.int (0 : Int32)), .val (.ref zs0), .val (.ref zs1), .val (.ref zs2), .val (.ref za), .val (.ref zo), .val (.int (1 : Int32)), .val (.int (own_hn (0 : Int32) (3 : Int32))), .val (.int (own_hn (0 : Int32) (3 : Int32))), .unset] [])
      refine own_go (fun t k => XS.aload X317.here hx rfl (hb hby at_261) rfl rfl  k) ?_
      show own_WP _ _ _ _ T317 (mkF m 263 #[.val (.int x0), .val (.int x1), .val (.int x2), .val (.int x3), .val (.int x4), .val (.int (3 : Int32)), .val (.int (0 : Int32)), .val (.ref zs0), .val (.ref zs1), .val (.ref zs2), .val (.ref za), .val (.ref zo), .val (.int (1 : Int32)), .val (.int (own_hn (0 : Int32) (3 : Int32))), .val (.int (own_hn (0 : Int32) (3 : Int32))), .unset] [(.ref zo)])
      obtain ⟨cq318, kq318, q318a, q318b, q318c⟩ := isOf hZ eq317 f302
      obtain ⟨_, _, ⟨T318, L318, k318, n318⟩, -, X318, ⟨Lc318, hQ318, l318, y318, z318⟩, st318⟩ := X317.virtualBack hx (y := (⟨"branchwork/Arguments", "next", "()Ljava/lang/String;"⟩ : MethodName)) (z := (⟨"branchwork/Arguments", "next", "()Ljava/lang/String;"⟩ : MethodName)) hown (mvT hZ (hw _ (List.mem_of_getElem? (i := 50) rfl))) (mvT hZ (hw _ (List.mem_of_getElem? (i := 51) rfl))) (notFace_of_selects (args := #[]) (mvT hZ (hw _ (List.mem_of_getElem? (i := 53) rfl)))) (mvT hZ (hw _ (List.mem_of_getElem? (i := 53) rfl))) (mvT hZ (hw _ (List.mem_of_getElem? (i := 52) rfl))) (by decide) (backOf (W := 0) (rm8 l Z a0 hw [] zo za k252 (3 : Int32) [(.ref zs0), (.ref zs1), (.ref zs2)] (0 : Int32) zs0 T301.heap n0 (own_le Z0 K313) f302 f303 f304 f308 g_zo (Ne.symm ne_za_zo) (show ¬ (0 : Int32) < 0 ∧ (0 : Int32) < (3 : Int32) from ⟨by decide, by decide⟩) (show List.getD (α := Value) [(.ref zs0), (.ref zs1), (.ref zs2)] (0 : Int32).toNatClampNeg Value.null = Value.ref zs0 from rfl)) hZ (hw _ (List.mem_of_getElem? (i := 54) rfl)) (hw _ (List.mem_of_getElem? (i := 31) rfl)) (by decide) (by decide)) q318a q318c (g := (mkF m 263 #[.val (.int x0), .val (.int x1), .val (.int x2), .val (.int x3), .val (.int x4), .val (.int (3 : Int32)), .val (.int (0 : Int32)), .val (.ref zs0), .val (.ref zs1), .val (.ref zs2), .val (.ref za), .val (.ref zo), .val (.int (1 : Int32)), .val (.int (own_hn (0 : Int32) (3 : Int32))), .val (.int (own_hn (0 : Int32) (3 : Int32))), .unset] [(.ref zo)])) rfl (by rw [hml]; rfl) (Steps.refl _) (argsL := []) (rest := []) (lenOf own_pd53319 rfl) rfl (by show 2 * 0 + _ ≤ _; exact Nat.le_of_eq rfl) (hb hby at_263) (fun _ _ => ⟨rfl, eq317, (by decide : 10 + 0 ≤ _), (by decide : 37 + 0 ≤ _)⟩)
      dsimp only [Pt.U, Pt.locs, Pt.cells, Pt.slots] at X318 l318 y318 z318 st318 hQ318
      subst l318 y318 z318
      obtain ⟨rfl, N318q, Kc318, f319, f320, f321⟩ := hQ318
      have N318 := Fr.app N317 N318q
      refine own_tr st318 ?_
      have f322 : Arv Z T318.heap za k252 (.object "java/lang/String") (3 : Int32) [(.ref zs0), (.ref zs1), (.ref zs2)] .null := f308.keep Kc318 (own_nm ne_za_zo)
      have f323 : Exa Z T318.heap zo "branchwork/Arguments" := f302.keep Kc318
      have K326 : Keep h0 T318.heap [] := K313.trans Kc318 (fun x hx => by cases List.mem_singleton.mp hx; exact Or.inr sz_zo)
      have kz327 : k291 ≤ T318.heap.size := Nat.le_trans kz314 Kc318.1
      have f328 : Fld Z T318.heap zo "branchwork/Arguments" "next" "I" (.int (1 : Int32)) := f321
      show own_WP _ _ _ _ T318 (mkF m 266 #[.val (.int x0), .val (.int x1), .val (.int x2), .val (.int x3), .val (.int x4), .val (.int (3 : Int32)), .val (.int (0 : Int32)), .val (.ref zs0), .val (.ref zs1), .val (.ref zs2), .val (.ref za), .val (.ref zo), .val (.int (1 : Int32)), .val (.int (own_hn (0 : Int32) (3 : Int32))), .val (.int (own_hn (0 : Int32) (3 : Int32))), .unset] [(.ref zs0)])
      refine own_go (fun t k => XS.astore X318.here hx rfl (hb hby at_266) rfl rfl (l' := #[.val (.int x0), .val (.int x1), .val (.int x2), .val (.int x3), .val (.int x4), .val (.int (3 : Int32)), .val (.int (0 : Int32)), .val (.ref zs0), .val (.ref zs1), .val (.ref zs2), .val (.ref za), .val (.ref zo), .val (.int (1 : Int32)), .val (.int (own_hn (0 : Int32) (3 : Int32))), .val (.int (own_hn (0 : Int32) (3 : Int32))), .val (.ref zs0)]) rfl k) ?_
      show own_WP _ _ _ _ T318 (mkF m 268 #[.val (.int x0), .val (.int x1), .val (.int x2), .val (.int x3), .val (.int x4), .val (.int (3 : Int32)), .val (.int (0 : Int32)), .val (.ref zs0), .val (.ref zs1), .val (.ref zs2), .val (.ref za), .val (.ref zo), .val (.int (1 : Int32)), .val (.int (own_hn (0 : Int32) (3 : Int32))), .val (.int (own_hn (0 : Int32) (3 : Int32))), .val (.ref zs0)] [])
      refine own_go (fun t k => XS.iload X318.here hx rfl (hb hby at_268) rfl  k) ?_
      show own_WP _ _ _ _ T318 (mkF m 270 #[.val (.int x0), .val (.int x1), .val (.int x2), .val (.int x3), .val (.int x4), .val (.int (3 : Int32)), .val (.int (0 : Int32)), .val (.ref zs0), .val (.ref zs1), .val (.ref zs2), .val (.ref za), .val (.ref zo), .val (.int (1 : Int32)), .val (.int (own_hn (0 : Int32) (3 : Int32))), .val (.int (own_hn (0 : Int32) (3 : Int32))), .val (.ref zs0)] [(.int (1 : Int32))])
      have hc270 : ¬ ((1 : Int32) = (0 : Int32)) := by decide
      refine own_go (fun t k => XS.ifNo X318.here hx rfl (hb hby at_270) rfl ((if0 _ _).trans (feq hc270).1) k) ?_
      show own_WP _ _ _ _ T318 (mkF m 273 #[.val (.int x0), .val (.int x1), .val (.int x2), .val (.int x3), .val (.int x4), .val (.int (3 : Int32)), .val (.int (0 : Int32)), .val (.ref zs0), .val (.ref zs1), .val (.ref zs2), .val (.ref za), .val (.ref zo), .val (.int (1 : Int32)), .val (.int (own_hn (0 : Int32) (3 : Int32))), .val (.int (own_hn (0 : Int32) (3 : Int32))), .val (.ref zs0)] [])
      refine own_go (fun t k => XS.aload X318.here hx rfl (hb hby at_273) rfl rfl  k) ?_
      show own_WP _ _ _ _ T318 (mkF m 275 #[.val (.int x0), .val (.int x1), .val (.int x2), .val (.int x3), .val (.int x4), .val (.int (3 : Int32)), .val (.int (0 : Int32)), .val (.ref zs0), .val (.ref zs1), .val (.ref zs2), .val (.ref za), .val (.ref zo), .val (.int (1 : Int32)), .val (.int (own_hn (0 : Int32) (3 : Int32))), .val (.int (own_hn (0 : Int32) (3 : Int32))), .val (.ref zs0)] [(.ref zs0)])
      refine own_go (fun t k => XS.aload X318.here hx rfl (hb hby at_275) rfl rfl  k) ?_
      show own_WP _ _ _ _ T318 (mkF m 277 #[.val (.int x0), .val (.int x1), .val (.int x2), .val (.int x3), .val (.int x4), .val (.int (3 : Int32)), .val (.int (0 : Int32)), .val (.ref zs0), .val (.ref zs1), .val (.ref zs2), .val (.ref za), .val (.ref zo), .val (.int (1 : Int32)), .val (.int (own_hn (0 : Int32) (3 : Int32))), .val (.int (own_hn (0 : Int32) (3 : Int32))), .val (.ref zs0)] [(.ref za), (.ref zs0)])
      refine own_go (fun t k => XS.iload X318.here hx rfl (hb hby at_277) rfl  k) ?_
      show own_WP _ _ _ _ T318 (mkF m 279 #[.val (.int x0), .val (.int x1), .val (.int x2), .val (.int x3), .val (.int x4), .val (.int (3 : Int32)), .val (.int (0 : Int32)), .val (.ref zs0), .val (.ref zs1), .val (.ref zs2), .val (.ref za), .val (.ref zo), .val (.int (1 : Int32)), .val (.int (own_hn (0 : Int32) (3 : Int32))), .val (.int (own_hn (0 : Int32) (3 : Int32))), .val (.ref zs0)] [(.int (0 : Int32)), (.ref za), (.ref zs0)])
      refine own_ldR X318 hx hZ rfl rfl f322 (j := (0 : Int32)) (w := (.ref zs0)) ⟨by decide, by decide⟩ rfl (hb hby at_279) ?_
      show own_WP _ _ _ _ T318 (mkF m 280 #[.val (.int x0), .val (.int x1), .val (.int x2), .val (.int x3), .val (.int x4), .val (.int (3 : Int32)), .val (.int (0 : Int32)), .val (.ref zs0), .val (.ref zs1), .val (.ref zs2), .val (.ref za), .val (.ref zo), .val (.int (1 : Int32)), .val (.int (own_hn (0 : Int32) (3 : Int32))), .val (.int (own_hn (0 : Int32) (3 : Int32))), .val (.ref zs0)] [(.ref zs0), (.ref zs0)])
      refine own_go (fun t k => Jvm.RoadKit.acmp (g := (mkF m 280 #[.val (.int x0), .val (.int x1), .val (.int x2), .val (.int x3), .val (.int x4), .val (.int (3 : Int32)), .val (.int (0 : Int32)), .val (.ref zs0), .val (.ref zs1), .val (.ref zs2), .val (.ref za), .val (.ref zo), .val (.int (1 : Int32)), .val (.int (own_hn (0 : Int32) (3 : Int32))), .val (.int (own_hn (0 : Int32) (3 : Int32))), .val (.ref zs0)] [(.ref zs0), (.ref zs0)])) X318 hx rfl rfl rfl (pc0 := 280) (pc' := 283) (same := true) rfl (hb hby at_280) rfl (decide_eq_true rfl) (by decide) (by decide) k) ?_
      show own_WP _ _ _ _ T318 (mkF m 283 #[.val (.int x0), .val (.int x1), .val (.int x2), .val (.int x3), .val (.int x4), .val (.int (3 : Int32)), .val (.int (0 : Int32)), .val (.ref zs0), .val (.ref zs1), .val (.ref zs2), .val (.ref za), .val (.ref zo), .val (.int (1 : Int32)), .val (.int (own_hn (0 : Int32) (3 : Int32))), .val (.int (own_hn (0 : Int32) (3 : Int32))), .val (.ref zs0)] [])
      refine own_go (fun t k => XS.aload X318.here hx rfl (hb hby at_283) rfl rfl  k) ?_
      show own_WP _ _ _ _ T318 (mkF m 285 #[.val (.int x0), .val (.int x1), .val (.int x2), .val (.int x3), .val (.int x4), .val (.int (3 : Int32)), .val (.int (0 : Int32)), .val (.ref zs0), .val (.ref zs1), .val (.ref zs2), .val (.ref za), .val (.ref zo), .val (.int (1 : Int32)), .val (.int (own_hn (0 : Int32) (3 : Int32))), .val (.int (own_hn (0 : Int32) (3 : Int32))), .val (.ref zs0)] [(.ref zo)])
      obtain ⟨cq329, kq329, q329a, q329b, q329c⟩ := isOf hZ rfl f319
      obtain ⟨_, _, ⟨T329, L329, k329, n329⟩, -, X329, ⟨Lc329, hQ329, l329, y329, z329⟩, st329⟩ := X318.virtualBack hx (y := (⟨"branchwork/Arguments", "hasNext", "()Z"⟩ : MethodName)) (z := (⟨"branchwork/Arguments", "hasNext", "()Z"⟩ : MethodName)) hown (mvT hZ (hw _ (List.mem_of_getElem? (i := 43) rfl))) (mvT hZ (hw _ (List.mem_of_getElem? (i := 44) rfl))) (notFace_of_selects (args := #[]) (mvT hZ (hw _ (List.mem_of_getElem? (i := 46) rfl)))) (mvT hZ (hw _ (List.mem_of_getElem? (i := 46) rfl))) (mvT hZ (hw _ (List.mem_of_getElem? (i := 45) rfl))) (by decide) (backOf (W := 0) (rm7 l Z a0 hw [] zo za k252 (3 : Int32) [(.ref zs0), (.ref zs1), (.ref zs2)] (1 : Int32) T318.heap n0 (own_le Z0 K326) f320 f328 f322) hZ (hw _ (List.mem_of_getElem? (i := 47) rfl)) (hw _ (List.mem_of_getElem? (i := 31) rfl)) (by decide) (by decide)) q329a q329c (g := (mkF m 285 #[.val (.int x0), .val (.int x1), .val (.int x2), .val (.int x3), .val (.int x4), .val (.int (3 : Int32)), .val (.int (0 : Int32)), .val (.ref zs0), .val (.ref zs1), .val (.ref zs2), .val (.ref za), .val (.ref zo), .val (.int (1 : Int32)), .val (.int (own_hn (0 : Int32) (3 : Int32))), .val (.int (own_hn (0 : Int32) (3 : Int32))), .val (.ref zs0)] [(.ref zo)])) rfl (by rw [hml]; rfl) (Steps.refl _) (argsL := []) (rest := []) (lenOf own_pd91901 rfl) rfl (by show 2 * 0 + _ ≤ _; exact Nat.le_of_eq rfl) (hb hby at_285) (fun _ _ => ⟨rfl, rfl, (by decide : 10 + 0 ≤ _), (by decide : 37 + 0 ≤ _)⟩)
      dsimp only [Pt.U, Pt.locs, Pt.cells, Pt.slots] at X329 l329 y329 z329 st329 hQ329
      subst l329 y329 z329
      obtain ⟨rfl, N329q, eq329⟩ := hQ329
      have N329 := Fr.app N318 N329q
      refine own_tr st329 ?_
      show own_WP _ _ _ _ T329 (mkF m 288 #[.val (.int x0), .val (.int x1), .val (.int x2), .val (.int x3), .val (.int x4), .val (.int (3 : Int32)), .val (.int (0 : Int32)), .val (.ref zs0), .val (.ref zs1), .val (.ref zs2), .val (.ref za), .val (.ref zo), .val (.int (1 : Int32)), .val (.int (own_hn (0 : Int32) (3 : Int32))), .val (.int (own_hn (0 : Int32) (3 : Int32))), .val (.ref zs0)] [(.int (own_hn (1 : Int32) (3 : Int32)))])
      refine own_go (fun t k => XS.iload X329.here hx rfl (hb hby at_288) rfl  k) ?_
      show own_WP _ _ _ _ T329 (mkF m 290 #[.val (.int x0), .val (.int x1), .val (.int x2), .val (.int x3), .val (.int x4), .val (.int (3 : Int32)), .val (.int (0 : Int32)), .val (.ref zs0), .val (.ref zs1), .val (.ref zs2), .val (.ref za), .val (.ref zo), .val (.int (1 : Int32)), .val (.int (own_hn (0 : Int32) (3 : Int32))), .val (.int (own_hn (0 : Int32) (3 : Int32))), .val (.ref zs0)] [(.int (0 : Int32)), (.int (own_hn (1 : Int32) (3 : Int32)))])
      refine own_go (fun t k => XS.iconst X329.here hx rfl (hb hby at_290) k) ?_
      show own_WP _ _ _ _ T329 (mkF m 291 #[.val (.int x0), .val (.int x1), .val (.int x2), .val (.int x3), .val (.int x4), .val (.int (3 : Int32)), .val (.int (0 : Int32)), .val (.ref zs0), .val (.ref zs1), .val (.ref zs2), .val (.ref za), .val (.ref zo), .val (.int (1 : Int32)), .val (.int (own_hn (0 : Int32) (3 : Int32))), .val (.int (own_hn (0 : Int32) (3 : Int32))), .val (.ref zs0)] [(.int (1 : Int32)), (.int (0 : Int32)), (.int (own_hn (1 : Int32) (3 : Int32)))])
      refine own_go (fun t k => XS.iadd X329.here hx rfl (hb hby at_291) rfl k) ?_
      show own_WP _ _ _ _ T329 (mkF m 292 #[.val (.int x0), .val (.int x1), .val (.int x2), .val (.int x3), .val (.int x4), .val (.int (3 : Int32)), .val (.int (0 : Int32)), .val (.ref zs0), .val (.ref zs1), .val (.ref zs2), .val (.ref za), .val (.ref zo), .val (.int (1 : Int32)), .val (.int (own_hn (0 : Int32) (3 : Int32))), .val (.int (own_hn (0 : Int32) (3 : Int32))), .val (.ref zs0)] [(.int ((0 : Int32) + (1 : Int32))), (.int (own_hn (1 : Int32) (3 : Int32)))])
      rw [show ((0 : Int32) + (1 : Int32)) = (1 : Int32) from by decide]
      show own_WP _ _ _ _ T329 (mkF m 292 #[.val (.int x0), .val (.int x1), .val (.int x2), .val (.int x3), .val (.int x4), .val (.int (3 : Int32)), .val (.int (0 : Int32)), .val (.ref zs0), .val (.ref zs1), .val (.ref zs2), .val (.ref za), .val (.ref zo), .val (.int (1 : Int32)), .val (.int (own_hn (0 : Int32) (3 : Int32))), .val (.int (own_hn (0 : Int32) (3 : Int32))), .val (.ref zs0)] [(.int (1 : Int32)), (.int (own_hn (1 : Int32) (3 : Int32)))])
      refine own_go (fun t k => XS.iload X329.here hx rfl (hb hby at_292) rfl  k) ?_
      show own_WP _ _ _ _ T329 (mkF m 294 #[.val (.int x0), .val (.int x1), .val (.int x2), .val (.int x3), .val (.int x4), .val (.int (3 : Int32)), .val (.int (0 : Int32)), .val (.ref zs0), .val (.ref zs1), .val (.ref zs2), .val (.ref za), .val (.ref zo), .val (.int (1 : Int32)), .val (.int (own_hn (0 : Int32) (3 : Int32))), .val (.int (own_hn (0 : Int32) (3 : Int32))), .val (.ref zs0)] [(.int (3 : Int32)), (.int (1 : Int32)), (.int (own_hn (1 : Int32) (3 : Int32)))])
      have hc294 : (1 : Int32) < (3 : Int32) := by decide
      refine own_go (fun t k => XS.icmpNo X329.here hx rfl (hb hby at_294) rfl (tlt hc294).2.1 k) ?_
      show own_WP _ _ _ _ T329 (mkF m 297 #[.val (.int x0), .val (.int x1), .val (.int x2), .val (.int x3), .val (.int x4), .val (.int (3 : Int32)), .val (.int (0 : Int32)), .val (.ref zs0), .val (.ref zs1), .val (.ref zs2), .val (.ref za), .val (.ref zo), .val (.int (1 : Int32)), .val (.int (own_hn (0 : Int32) (3 : Int32))), .val (.int (own_hn (0 : Int32) (3 : Int32))), .val (.ref zs0)] [(.int (own_hn (1 : Int32) (3 : Int32)))])
      refine own_go (fun t k => XS.iconst X329.here hx rfl (hb hby at_297) k) ?_
      show own_WP _ _ _ _ T329 (mkF m 298 #[.val (.int x0), .val (.int x1), .val (.int x2), .val (.int x3), .val (.int x4), .val (.int (3 : Int32)), .val (.int (0 : Int32)), .val (.ref zs0), .val (.ref zs1), .val (.ref zs2), .val (.ref za), .val (.ref zo), .val (.int (1 : Int32)), .val (.int (own_hn (0 : Int32) (3 : Int32))), .val (.int (own_hn (0 : Int32) (3 : Int32))), .val (.ref zs0)] [(.int (1 : Int32)), (.int (own_hn (1 : Int32) (3 : Int32)))])
      refine own_go (fun t k => XS.goto X329.here hx rfl (pc0 := 298) (pc' := 302) rfl (hb hby at_298) (by decide) (by decide) k) ?_
      show own_WP _ _ _ _ T329 (mkF m 302 #[.val (.int x0), .val (.int x1), .val (.int x2), .val (.int x3), .val (.int x4), .val (.int (3 : Int32)), .val (.int (0 : Int32)), .val (.ref zs0), .val (.ref zs1), .val (.ref zs2), .val (.ref za), .val (.ref zo), .val (.int (1 : Int32)), .val (.int (own_hn (0 : Int32) (3 : Int32))), .val (.int (own_hn (0 : Int32) (3 : Int32))), .val (.ref zs0)] [(.int (1 : Int32)), (.int (own_hn (1 : Int32) (3 : Int32)))])
      have hc302 : (own_hn (1 : Int32) (3 : Int32)) = (1 : Int32) := by
        decide
      refine own_go (fun t k => XS.icmpNo X329.here hx rfl (hb hby at_302) rfl (teq hc302).2 k) ?_
      show own_WP _ _ _ _ T329 (mkF m 305 #[.val (.int x0), .val (.int x1), .val (.int x2), .val (.int x3), .val (.int x4), .val (.int (3 : Int32)), .val (.int (0 : Int32)), .val (.ref zs0), .val (.ref zs1), .val (.ref zs2), .val (.ref za), .val (.ref zo), .val (.int (1 : Int32)), .val (.int (own_hn (0 : Int32) (3 : Int32))), .val (.int (own_hn (0 : Int32) (3 : Int32))), .val (.ref zs0)] [])
      refine own_go (fun t k => XS.iconst X329.here hx rfl (hb hby at_305) k) ?_
      show own_WP _ _ _ _ T329 (mkF m 306 #[.val (.int x0), .val (.int x1), .val (.int x2), .val (.int x3), .val (.int x4), .val (.int (3 : Int32)), .val (.int (0 : Int32)), .val (.ref zs0), .val (.ref zs1), .val (.ref zs2), .val (.ref za), .val (.ref zo), .val (.int (1 : Int32)), .val (.int (own_hn (0 : Int32) (3 : Int32))), .val (.int (own_hn (0 : Int32) (3 : Int32))), .val (.ref zs0)] [(.int (1 : Int32))])
      refine own_go (fun t k => XS.goto X329.here hx rfl (pc0 := 306) (pc' := 310) rfl (hb hby at_306) (by decide) (by decide) k) ?_
      show own_WP _ _ _ _ T329 (mkF m 310 #[.val (.int x0), .val (.int x1), .val (.int x2), .val (.int x3), .val (.int x4), .val (.int (3 : Int32)), .val (.int (0 : Int32)), .val (.ref zs0), .val (.ref zs1), .val (.ref zs2), .val (.ref za), .val (.ref zo), .val (.int (1 : Int32)), .val (.int (own_hn (0 : Int32) (3 : Int32))), .val (.int (own_hn (0 : Int32) (3 : Int32))), .val (.ref zs0)] [(.int (1 : Int32))])
      refine own_go (fun t k => XS.istore X329.here hx rfl (hb hby at_310) rfl (l' := #[.val (.int x0), .val (.int x1), .val (.int x2), .val (.int x3), .val (.int x4), .val (.int (3 : Int32)), .val (.int (0 : Int32)), .val (.ref zs0), .val (.ref zs1), .val (.ref zs2), .val (.ref za), .val (.ref zo), .val (.int (1 : Int32)), .val (.int (own_hn (0 : Int32) (3 : Int32))), .val (.int (own_hn (0 : Int32) (3 : Int32))), .val (.ref zs0)]) rfl k) ?_
      show own_WP _ _ _ _ T329 (mkF m 312 #[.val (.int x0), .val (.int x1), .val (.int x2), .val (.int x3), .val (.int x4), .val (.int (3 : Int32)), .val (.int (0 : Int32)), .val (.ref zs0), .val (.ref zs1), .val (.ref zs2), .val (.ref za), .val (.ref zo), .val (.int (1 : Int32)), .val (.int (own_hn (0 : Int32) (3 : Int32))), .val (.int (own_hn (0 : Int32) (3 : Int32))), .val (.ref zs0)] [])
      refine own_go (fun t k => XS.iload X329.here hx rfl (hb hby at_312) rfl  k) ?_
      show own_WP _ _ _ _ T329 (mkF m 314 #[.val (.int x0), .val (.int x1), .val (.int x2), .val (.int x3), .val (.int x4), .val (.int (3 : Int32)), .val (.int (0 : Int32)), .val (.ref zs0), .val (.ref zs1), .val (.ref zs2), .val (.ref za), .val (.ref zo), .val (.int (1 : Int32)), .val (.int (own_hn (0 : Int32) (3 : Int32))), .val (.int (own_hn (0 : Int32) (3 : Int32))), .val (.ref zs0)] [(.int (1 : Int32))])
      refine own_retNW X329 hS291 (by rw [eq329]; exact kz327) hx Bd.notSynchronized (t := .boolean) (by simp) Bd.returns (hb hby at_314) (by decide) (by decide) ?_
      rw [eq329]
      exact ⟨rfl, N329⟩
    · subst hk
      show own_WP _ _ _ _ T315 (mkF m 168 #[.val (.int x0), .val (.int x1), .val (.int x2), .val (.int x3), .val (.int x4), .val (.int (3 : Int32)), .val (.int (1 : Int32)), .val (.ref zs0), .val (.ref zs1), .val (.ref zs2), .val (.ref za), .val (.ref zo), .val (.int (1 : Int32)), .unset, .unset, .unset] [])
      refine own_go (fun t k => XS.iload X315.here hx rfl (hb hby at_168) rfl  k) ?_
      show own_WP _ _ _ _ T315 (mkF m 170 #[.val (.int x0), .val (.int x1), .val (.int x2), .val (.int x3), .val (.int x4), .val (.int (3 : Int32)), .val (.int (1 : Int32)), .val (.ref zs0), .val (.ref zs1), .val (.ref zs2), .val (.ref za), .val (.ref zo), .val (.int (1 : Int32)), .unset, .unset, .unset] [(.int (1 : Int32))])
      refine own_go (fun t k => XS.iconst X315.here hx rfl (hb hby at_170) k) ?_
      show own_WP _ _ _ _ T315 (mkF m 171 #[.val (.int x0), .val (.int x1), .val (.int x2), .val (.int x3), .val (.int x4), .val (.int (3 : Int32)), .val (.int (1 : Int32)), .val (.ref zs0), .val (.ref zs1), .val (.ref zs2), .val (.ref za), .val (.ref zo), .val (.int (1 : Int32)), .unset, .unset, .unset] [(.int (1 : Int32)), (.int (1 : Int32))])
      have hc171 : ¬ ((1 : Int32) < (1 : Int32)) := by decide
      refine own_go (fun t k => XS.icmpNo X315.here hx rfl (hb hby at_171) rfl (flt hc171).1 k) ?_
      show own_WP _ _ _ _ T315 (mkF m 174 #[.val (.int x0), .val (.int x1), .val (.int x2), .val (.int x3), .val (.int x4), .val (.int (3 : Int32)), .val (.int (1 : Int32)), .val (.ref zs0), .val (.ref zs1), .val (.ref zs2), .val (.ref za), .val (.ref zo), .val (.int (1 : Int32)), .unset, .unset, .unset] [])
      refine own_go (fun t k => XS.aload X315.here hx rfl (hb hby at_174) rfl rfl  k) ?_
      show own_WP _ _ _ _ T315 (mkF m 176 #[.val (.int x0), .val (.int x1), .val (.int x2), .val (.int x3), .val (.int x4), .val (.int (3 : Int32)), .val (.int (1 : Int32)), .val (.ref zs0), .val (.ref zs1), .val (.ref zs2), .val (.ref za), .val (.ref zo), .val (.int (1 : Int32)), .unset, .unset, .unset] [(.ref zo)])
      obtain ⟨cq330, kq330, q330a, q330b, q330c⟩ := isOf hZ eq315 f302
      obtain ⟨_, _, ⟨T330, L330, k330, n330⟩, -, X330, ⟨Lc330, hQ330, l330, y330, z330⟩, st330⟩ := X315.virtualBack hx (y := (⟨"branchwork/Arguments", "next", "()Ljava/lang/String;"⟩ : MethodName)) (z := (⟨"branchwork/Arguments", "next", "()Ljava/lang/String;"⟩ : MethodName)) hown (mvT hZ (hw _ (List.mem_of_getElem? (i := 50) rfl))) (mvT hZ (hw _ (List.mem_of_getElem? (i := 51) rfl))) (notFace_of_selects (args := #[]) (mvT hZ (hw _ (List.mem_of_getElem? (i := 53) rfl)))) (mvT hZ (hw _ (List.mem_of_getElem? (i := 53) rfl))) (mvT hZ (hw _ (List.mem_of_getElem? (i := 52) rfl))) (by decide) (backOf (W := 0) (rm8 l Z a0 hw [] zo za k252 (3 : Int32) [(.ref zs0), (.ref zs1), (.ref zs2)] (0 : Int32) zs0 T301.heap n0 (own_le Z0 K313) f302 f303 f304 f308 g_zo (Ne.symm ne_za_zo) (show ¬ (0 : Int32) < 0 ∧ (0 : Int32) < (3 : Int32) from ⟨by decide, by decide⟩) (show List.getD (α := Value) [(.ref zs0), (.ref zs1), (.ref zs2)] (0 : Int32).toNatClampNeg Value.null = Value.ref zs0 from rfl)) hZ (hw _ (List.mem_of_getElem? (i := 54) rfl)) (hw _ (List.mem_of_getElem? (i := 31) rfl)) (by decide) (by decide)) q330a q330c (g := (mkF m 176 #[.val (.int x0), .val (.int x1), .val (.int x2), .val (.int x3), .val (.int x4), .val (.int (3 : Int32)), .val (.int (1 : Int32)), .val (.ref zs0), .val (.ref zs1), .val (.ref zs2), .val (.ref za), .val (.ref zo), .val (.int (1 : Int32)), .unset, .unset, .unset] [(.ref zo)])) rfl (by rw [hml]; rfl) (Steps.refl _) (argsL := []) (rest := []) (lenOf own_pd53319 rfl) rfl (by show 2 * 0 + _ ≤ _; exact Nat.le_of_eq rfl) (hb hby at_176) (fun _ _ => ⟨rfl, eq315, (by decide : 10 + 0 ≤ _), (by decide : 37 + 0 ≤ _)⟩)
      dsimp only [Pt.U, Pt.locs, Pt.cells, Pt.slots] at X330 l330 y330 z330 st330 hQ330
      subst l330 y330 z330
      obtain ⟨rfl, N330q, Kc330, f331, f332, f333⟩ := hQ330
      have N330 := Fr.app N315 N330q
      refine own_tr st330 ?_
      have f334 : Arv Z T330.heap za k252 (.object "java/lang/String") (3 : Int32) [(.ref zs0), (.ref zs1), (.ref zs2)] .null := f308.keep Kc330 (own_nm ne_za_zo)
      have f335 : Exa Z T330.heap zo "branchwork/Arguments" := f302.keep Kc330
      have K338 : Keep h0 T330.heap [] := K313.trans Kc330 (fun x hx => by cases List.mem_singleton.mp hx; exact Or.inr sz_zo)
      have kz339 : k291 ≤ T330.heap.size := Nat.le_trans kz314 Kc330.1
      have f340 : Fld Z T330.heap zo "branchwork/Arguments" "next" "I" (.int (1 : Int32)) := f333
      show own_WP _ _ _ _ T330 (mkF m 179 #[.val (.int x0), .val (.int x1), .val (.int x2), .val (.int x3), .val (.int x4), .val (.int (3 : Int32)), .val (.int (1 : Int32)), .val (.ref zs0), .val (.ref zs1), .val (.ref zs2), .val (.ref za), .val (.ref zo), .val (.int (1 : Int32)), .unset, .unset, .unset] [(.ref zs0)])
      refine own_go (fun t k => XS.pop X330.here hx rfl (hb hby at_179) rfl rfl k) ?_
      show own_WP _ _ _ _ T330 (mkF m 180 #[.val (.int x0), .val (.int x1), .val (.int x2), .val (.int x3), .val (.int x4), .val (.int (3 : Int32)), .val (.int (1 : Int32)), .val (.ref zs0), .val (.ref zs1), .val (.ref zs2), .val (.ref za), .val (.ref zo), .val (.int (1 : Int32)), .unset, .unset, .unset] [])
      refine own_go (fun t k => XS.iload X330.here hx rfl (hb hby at_180) rfl  k) ?_
      show own_WP _ _ _ _ T330 (mkF m 182 #[.val (.int x0), .val (.int x1), .val (.int x2), .val (.int x3), .val (.int x4), .val (.int (3 : Int32)), .val (.int (1 : Int32)), .val (.ref zs0), .val (.ref zs1), .val (.ref zs2), .val (.ref za), .val (.ref zo), .val (.int (1 : Int32)), .unset, .unset, .unset] [(.int (1 : Int32))])
      refine own_go (fun t k => XS.iconst X330.here hx rfl (hb hby at_182) k) ?_
      show own_WP _ _ _ _ T330 (mkF m 183 #[.val (.int x0), .val (.int x1), .val (.int x2), .val (.int x3), .val (.int x4), .val (.int (3 : Int32)), .val (.int (1 : Int32)), .val (.ref zs0), .val (.ref zs1), .val (.ref zs2), .val (.ref za), .val (.ref zo), .val (.int (1 : Int32)), .unset, .unset, .unset] [(.int (2 : Int32)), (.int (1 : Int32))])
      have hc183 : (1 : Int32) < (2 : Int32) := by decide
      refine own_go (fun t k => XS.icmpYes X330.here hx rfl (pc0 := 183) (pc' := 192) rfl (hb hby at_183) rfl (tlt hc183).1 (by decide) (by decide) k) ?_
      show own_WP _ _ _ _ T330 (mkF m 192 #[.val (.int x0), .val (.int x1), .val (.int x2), .val (.int x3), .val (.int x4), .val (.int (3 : Int32)), .val (.int (1 : Int32)), .val (.ref zs0), .val (.ref zs1), .val (.ref zs2), .val (.ref za), .val (.ref zo), .val (.int (1 : Int32)), .unset, .unset, .unset] [])
      refine own_go (fun t k => XS.iload X330.here hx rfl (hb hby at_192) rfl  k) ?_
      show own_WP _ _ _ _ T330 (mkF m 194 #[.val (.int x0), .val (.int x1), .val (.int x2), .val (.int x3), .val (.int x4), .val (.int (3 : Int32)), .val (.int (1 : Int32)), .val (.ref zs0), .val (.ref zs1), .val (.ref zs2), .val (.ref za), .val (.ref zo), .val (.int (1 : Int32)), .unset, .unset, .unset] [(.int (1 : Int32))])
      refine own_go (fun t k => XS.iconst X330.here hx rfl (hb hby at_194) k) ?_
      show own_WP _ _ _ _ T330 (mkF m 195 #[.val (.int x0), .val (.int x1), .val (.int x2), .val (.int x3), .val (.int x4), .val (.int (3 : Int32)), .val (.int (1 : Int32)), .val (.ref zs0), .val (.ref zs1), .val (.ref zs2), .val (.ref za), .val (.ref zo), .val (.int (1 : Int32)), .unset, .unset, .unset] [(.int (3 : Int32)), (.int (1 : Int32))])
      have hc195 : (1 : Int32) < (3 : Int32) := by decide
      refine own_go (fun t k => XS.icmpYes X330.here hx rfl (pc0 := 195) (pc' := 204) rfl (hb hby at_195) rfl (tlt hc195).1 (by decide) (by decide) k) ?_
      show own_WP _ _ _ _ T330 (mkF m 204 #[.val (.int x0), .val (.int x1), .val (.int x2), .val (.int x3), .val (.int x4), .val (.int (3 : Int32)), .val (.int (1 : Int32)), .val (.ref zs0), .val (.ref zs1), .val (.ref zs2), .val (.ref za), .val (.ref zo), .val (.int (1 : Int32)), .unset, .unset, .unset] [])
      refine own_go (fun t k => XS.aload X330.here hx rfl (hb hby at_204) rfl rfl  k) ?_
      show own_WP _ _ _ _ T330 (mkF m 206 #[.val (.int x0), .val (.int x1), .val (.int x2), .val (.int x3), .val (.int x4), .val (.int (3 : Int32)), .val (.int (1 : Int32)), .val (.ref zs0), .val (.ref zs1), .val (.ref zs2), .val (.ref za), .val (.ref zo), .val (.int (1 : Int32)), .unset, .unset, .unset] [(.ref zo)])
      obtain ⟨cq341, kq341, q341a, q341b, q341c⟩ := isOf hZ rfl f331
      obtain ⟨_, _, ⟨T341, L341, k341, n341⟩, -, X341, ⟨Lc341, hQ341, l341, y341, z341⟩, st341⟩ := X330.virtualBack hx (y := (⟨"branchwork/Arguments", "hasNext", "()Z"⟩ : MethodName)) (z := (⟨"branchwork/Arguments", "hasNext", "()Z"⟩ : MethodName)) hown (mvT hZ (hw _ (List.mem_of_getElem? (i := 43) rfl))) (mvT hZ (hw _ (List.mem_of_getElem? (i := 44) rfl))) (notFace_of_selects (args := #[]) (mvT hZ (hw _ (List.mem_of_getElem? (i := 46) rfl)))) (mvT hZ (hw _ (List.mem_of_getElem? (i := 46) rfl))) (mvT hZ (hw _ (List.mem_of_getElem? (i := 45) rfl))) (by decide) (backOf (W := 0) (rm7 l Z a0 hw [] zo za k252 (3 : Int32) [(.ref zs0), (.ref zs1), (.ref zs2)] (1 : Int32) T330.heap n0 (own_le Z0 K338) f332 f340 f334) hZ (hw _ (List.mem_of_getElem? (i := 47) rfl)) (hw _ (List.mem_of_getElem? (i := 31) rfl)) (by decide) (by decide)) q341a q341c (g := (mkF m 206 #[.val (.int x0), .val (.int x1), .val (.int x2), .val (.int x3), .val (.int x4), .val (.int (3 : Int32)), .val (.int (1 : Int32)), .val (.ref zs0), .val (.ref zs1), .val (.ref zs2), .val (.ref za), .val (.ref zo), .val (.int (1 : Int32)), .unset, .unset, .unset] [(.ref zo)])) rfl (by rw [hml]; rfl) (Steps.refl _) (argsL := []) (rest := []) (lenOf own_pd91901 rfl) rfl (by show 2 * 0 + _ ≤ _; exact Nat.le_of_eq rfl) (hb hby at_206) (fun _ _ => ⟨rfl, rfl, (by decide : 10 + 0 ≤ _), (by decide : 37 + 0 ≤ _)⟩)
      dsimp only [Pt.U, Pt.locs, Pt.cells, Pt.slots] at X341 l341 y341 z341 st341 hQ341
      subst l341 y341 z341
      obtain ⟨rfl, N341q, eq341⟩ := hQ341
      have N341 := Fr.app N330 N341q
      refine own_tr st341 ?_
      show own_WP _ _ _ _ T341 (mkF m 209 #[.val (.int x0), .val (.int x1), .val (.int x2), .val (.int x3), .val (.int x4), .val (.int (3 : Int32)), .val (.int (1 : Int32)), .val (.ref zs0), .val (.ref zs1), .val (.ref zs2), .val (.ref za), .val (.ref zo), .val (.int (1 : Int32)), .unset, .unset, .unset] [(.int (own_hn (1 : Int32) (3 : Int32)))])
      refine own_go (fun t k => XS.istore X341.here hx rfl (hb hby at_209) rfl (l' := #[.val (.int x0), .val (.int x1), .val (.int x2), .val (.int x3), .val (.int x4), .val (.int (3 : Int32)), .val (.int (1 : Int32)), .val (.ref zs0), .val (.ref zs1), .val (.ref zs2), .val (.ref za), .val (.ref zo), .val (.int (1 : Int32)), .val (.int (own_hn (1 : Int32) (3 : Int32))), .unset, .unset]) rfl k) ?_
      show own_WP _ _ _ _ T341 (mkF m 211 #[.val (.int x0), .val (.int x1), .val (.int x2), .val (.int x3), .val (.int x4), .val (.int (3 : Int32)), .val (.int (1 : Int32)), .val (.ref zs0), .val (.ref zs1), .val (.ref zs2), .val (.ref za), .val (.ref zo), .val (.int (1 : Int32)), .val (.int (own_hn (1 : Int32) (3 : Int32))), .unset, .unset] [])
      refine own_go (fun t k => XS.aload X341.here hx rfl (hb hby at_211) rfl rfl  k) ?_
      show own_WP _ _ _ _ T341 (mkF m 213 #[.val (.int x0), .val (.int x1), .val (.int x2), .val (.int x3), .val (.int x4), .val (.int (3 : Int32)), .val (.int (1 : Int32)), .val (.ref zs0), .val (.ref zs1), .val (.ref zs2), .val (.ref za), .val (.ref zo), .val (.int (1 : Int32)), .val (.int (own_hn (1 : Int32) (3 : Int32))), .unset, .unset] [(.ref zo)])
      obtain ⟨cq342, kq342, q342a, q342b, q342c⟩ := isOf hZ eq341 f331
      obtain ⟨_, _, ⟨T342, L342, k342, n342⟩, -, X342, ⟨Lc342, hQ342, l342, y342, z342⟩, st342⟩ := X341.virtualBack hx (y := (⟨"branchwork/Arguments", "hasNext", "()Z"⟩ : MethodName)) (z := (⟨"branchwork/Arguments", "hasNext", "()Z"⟩ : MethodName)) hown (mvT hZ (hw _ (List.mem_of_getElem? (i := 43) rfl))) (mvT hZ (hw _ (List.mem_of_getElem? (i := 44) rfl))) (notFace_of_selects (args := #[]) (mvT hZ (hw _ (List.mem_of_getElem? (i := 46) rfl)))) (mvT hZ (hw _ (List.mem_of_getElem? (i := 46) rfl))) (mvT hZ (hw _ (List.mem_of_getElem? (i := 45) rfl))) (by decide) (backOf (W := 0) (rm7 l Z a0 hw [] zo za k252 (3 : Int32) [(.ref zs0), (.ref zs1), (.ref zs2)] (1 : Int32) T330.heap n0 (own_le Z0 K338) f332 f340 f334) hZ (hw _ (List.mem_of_getElem? (i := 47) rfl)) (hw _ (List.mem_of_getElem? (i := 31) rfl)) (by decide) (by decide)) q342a q342c (g := (mkF m 213 #[.val (.int x0), .val (.int x1), .val (.int x2), .val (.int x3), .val (.int x4), .val (.int (3 : Int32)), .val (.int (1 : Int32)), .val (.ref zs0), .val (.ref zs1), .val (.ref zs2), .val (.ref za), .val (.ref zo), .val (.int (1 : Int32)), .val (.int (own_hn (1 : Int32) (3 : Int32))), .unset, .unset] [(.ref zo)])) rfl (by rw [hml]; rfl) (Steps.refl _) (argsL := []) (rest := []) (lenOf own_pd91901 rfl) rfl (by show 2 * 0 + _ ≤ _; exact Nat.le_of_eq rfl) (hb hby at_213) (fun _ _ => ⟨rfl, eq341, (by decide : 10 + 0 ≤ _), (by decide : 37 + 0 ≤ _)⟩)
      dsimp only [Pt.U, Pt.locs, Pt.cells, Pt.slots] at X342 l342 y342 z342 st342 hQ342
      subst l342 y342 z342
      obtain ⟨rfl, N342q, eq342⟩ := hQ342
      have N342 := Fr.app N341 N342q
      refine own_tr st342 ?_
      show own_WP _ _ _ _ T342 (mkF m 216 #[.val (.int x0), .val (.int x1), .val (.int x2), .val (.int x3), .val (.int x4), .val (.int (3 : Int32)), .val (.int (1 : Int32)), .val (.ref zs0), .val (.ref zs1), .val (.ref zs2), .val (.ref za), .val (.ref zo), .val (.int (1 : Int32)), .val (.int (own_hn (1 : Int32) (3 : Int32))), .unset, .unset] [(.int (own_hn (1 : Int32) (3 : Int32)))])
      refine own_go (fun t k => XS.istore X342.here hx rfl (hb hby at_216) rfl (l' := #[.val (.int x0), .val (.int x1), .val (.int x2), .val (.int x3), .val (.int x4), .val (.int (3 : Int32)), .val (.int (1 : Int32)), .val (.ref zs0), .val (.ref zs1), .val (.ref zs2), .val (.ref za), .val (.ref zo), .val (.int (1 : Int32)), .val (.int (own_hn (1 : Int32) (3 : Int32))), .val (.int (own_hn (1 : Int32) (3 : Int32))), .unset]) rfl k) ?_
      show own_WP _ _ _ _ T342 (mkF m 218 #[.val (.int x0), .val (.int x1), .val (.int x2), .val (.int x3), .val (.int x4), .val (.int (3 : Int32)), .val (.int (1 : Int32)), .val (.ref zs0), .val (.ref zs1), .val (.ref zs2), .val (.ref za), .val (.ref zo), .val (.int (1 : Int32)), .val (.int (own_hn (1 : Int32) (3 : Int32))), .val (.int (own_hn (1 : Int32) (3 : Int32))), .unset] [])
      refine own_go (fun t k => XS.iload X342.here hx rfl (hb hby at_218) rfl  k) ?_
      show own_WP _ _ _ _ T342 (mkF m 220 #[.val (.int x0), .val (.int x1), .val (.int x2), .val (.int x3), .val (.int x4), .val (.int (3 : Int32)), .val (.int (1 : Int32)), .val (.ref zs0), .val (.ref zs1), .val (.ref zs2), .val (.ref za), .val (.ref zo), .val (.int (1 : Int32)), .val (.int (own_hn (1 : Int32) (3 : Int32))), .val (.int (own_hn (1 : Int32) (3 : Int32))), .unset] [(.int (1 : Int32))])
      have hc220 : ¬ ((1 : Int32) = (0 : Int32)) := by decide
      refine own_go (fun t k => XS.ifNo X342.here hx rfl (hb hby at_220) rfl ((if0 _ _).trans (feq hc220).1) k) ?_
      show own_WP _ _ _ _ T342 (mkF m 223 #[.val (.int x0), .val (.int x1), .val (.int x2), .val (.int x3), .val (.int x4), .val (.int (3 : Int32)), .val (.int (1 : Int32)), .val (.ref zs0), .val (.ref zs1), .val (.ref zs2), .val (.ref za), .val (.ref zo), .val (.int (1 : Int32)), .val (.int (own_hn (1 : Int32) (3 : Int32))), .val (.int (own_hn (1 : Int32) (3 : Int32))), .unset] [])
      refine own_go (fun t k => XS.iload X342.here hx rfl (hb hby at_223) rfl  k) ?_
      show own_WP _ _ _ _ T342 (mkF m 225 #[.val (.int x0), .val (.int x1), .val (.int x2), .val (.int x3), .val (.int x4), .val (.int (3 : Int32)), .val (.int (1 : Int32)), .val (.ref zs0), .val (.ref zs1), .val (.ref zs2), .val (.ref za), .val (.ref zo), .val (.int (1 : Int32)), .val (.int (own_hn (1 : Int32) (3 : Int32))), .val (.int (own_hn (1 : Int32) (3 : Int32))), .unset] [(.int (own_hn (1 : Int32) (3 : Int32)))])
      refine own_go (fun t k => XS.iload X342.here hx rfl (hb hby at_225) rfl  k) ?_
      show own_WP _ _ _ _ T342 (mkF m 227 #[.val (.int x0), .val (.int x1), .val (.int x2), .val (.int x3), .val (.int x4), .val (.int (3 : Int32)), .val (.int (1 : Int32)), .val (.ref zs0), .val (.ref zs1), .val (.ref zs2), .val (.ref za), .val (.ref zo), .val (.int (1 : Int32)), .val (.int (own_hn (1 : Int32) (3 : Int32))), .val (.int (own_hn (1 : Int32) (3 : Int32))), .unset] [(.int (1 : Int32)), (.int (own_hn (1 : Int32) (3 : Int32)))])
      refine own_go (fun t k => XS.iload X342.here hx rfl (hb hby at_227) rfl  k) ?_
      show own_WP _ _ _ _ T342 (mkF m 229 #[.val (.int x0), .val (.int x1), .val (.int x2), .val (.int x3), .val (.int x4), .val (.int (3 : Int32)), .val (.int (1 : Int32)), .val (.ref zs0), .val (.ref zs1), .val (.ref zs2), .val (.ref za), .val (.ref zo), .val (.int (1 : Int32)), .val (.int (own_hn (1 : Int32) (3 : Int32))), .val (.int (own_hn (1 : Int32) (3 : Int32))), .unset] [(.int (3 : Int32)), (.int (1 : Int32)), (.int (own_hn (1 : Int32) (3 : Int32)))])
      have hc229 : (1 : Int32) < (3 : Int32) := by decide
      refine own_go (fun t k => XS.icmpNo X342.here hx rfl (hb hby at_229) rfl (tlt hc229).2.1 k) ?_
      show own_WP _ _ _ _ T342 (mkF m 232 #[.val (.int x0), .val (.int x1), .val (.int x2), .val (.int x3), .val (.int x4), .val (.int (3 : Int32)), .val (.int (1 : Int32)), .val (.ref zs0), .val (.ref zs1), .val (.ref zs2), .val (.ref za), .val (.ref zo), .val (.int (1 : Int32)), .val (.int (own_hn (1 : Int32) (3 : Int32))), .val (.int (own_hn (1 : Int32) (3 : Int32))), .unset] [(.int (own_hn (1 : Int32) (3 : Int32)))])
      refine own_go (fun t k => XS.iconst X342.here hx rfl (hb hby at_232) k) ?_
      show own_WP _ _ _ _ T342 (mkF m 233 #[.val (.int x0), .val (.int x1), .val (.int x2), .val (.int x3), .val (.int x4), .val (.int (3 : Int32)), .val (.int (1 : Int32)), .val (.ref zs0), .val (.ref zs1), .val (.ref zs2), .val (.ref za), .val (.ref zo), .val (.int (1 : Int32)), .val (.int (own_hn (1 : Int32) (3 : Int32))), .val (.int (own_hn (1 : Int32) (3 : Int32))), .unset] [(.int (1 : Int32)), (.int (own_hn (1 : Int32) (3 : Int32)))])
      refine own_go (fun t k => XS.goto X342.here hx rfl (pc0 := 233) (pc' := 237) rfl (hb hby at_233) (by decide) (by decide) k) ?_
      show own_WP _ _ _ _ T342 (mkF m 237 #[.val (.int x0), .val (.int x1), .val (.int x2), .val (.int x3), .val (.int x4), .val (.int (3 : Int32)), .val (.int (1 : Int32)), .val (.ref zs0), .val (.ref zs1), .val (.ref zs2), .val (.ref za), .val (.ref zo), .val (.int (1 : Int32)), .val (.int (own_hn (1 : Int32) (3 : Int32))), .val (.int (own_hn (1 : Int32) (3 : Int32))), .unset] [(.int (1 : Int32)), (.int (own_hn (1 : Int32) (3 : Int32)))])
      have hc237 : (own_hn (1 : Int32) (3 : Int32)) = (1 : Int32) := by
        decide
      refine own_go (fun t k => XS.icmpNo X342.here hx rfl (hb hby at_237) rfl (teq hc237).2 k) ?_
      show own_WP _ _ _ _ T342 (mkF m 240 #[.val (.int x0), .val (.int x1), .val (.int x2), .val (.int x3), .val (.int x4), .val (.int (3 : Int32)), .val (.int (1 : Int32)), .val (.ref zs0), .val (.ref zs1), .val (.ref zs2), .val (.ref za), .val (.ref zo), .val (.int (1 : Int32)), .val (.int (own_hn (1 : Int32) (3 : Int32))), .val (.int (own_hn (1 : Int32) (3 : Int32))), .unset] [])
      refine own_go (fun t k => XS.iload X342.here hx rfl (hb hby at_240) rfl  k) ?_
      show own_WP _ _ _ _ T342 (mkF m 242 #[.val (.int x0), .val (.int x1), .val (.int x2), .val (.int x3), .val (.int x4), .val (.int (3 : Int32)), .val (.int (1 : Int32)), .val (.ref zs0), .val (.ref zs1), .val (.ref zs2), .val (.ref za), .val (.ref zo), .val (.int (1 : Int32)), .val (.int (own_hn (1 : Int32) (3 : Int32))), .val (.int (own_hn (1 : Int32) (3 : Int32))), .unset] [(.int (own_hn (1 : Int32) (3 : Int32)))])
      refine own_go (fun t k => XS.iload X342.here hx rfl (hb hby at_242) rfl  k) ?_
      show own_WP _ _ _ _ T342 (mkF m 244 #[.val (.int x0), .val (.int x1), .val (.int x2), .val (.int x3), .val (.int x4), .val (.int (3 : Int32)), .val (.int (1 : Int32)), .val (.ref zs0), .val (.ref zs1), .val (.ref zs2), .val (.ref za), .val (.ref zo), .val (.int (1 : Int32)), .val (.int (own_hn (1 : Int32) (3 : Int32))), .val (.int (own_hn (1 : Int32) (3 : Int32))), .unset] [(.int (own_hn (1 : Int32) (3 : Int32))), (.int (own_hn (1 : Int32) (3 : Int32)))])
      have hc244 : (own_hn (1 : Int32) (3 : Int32)) = (own_hn (1 : Int32) (3 : Int32)) := rfl
      refine own_go (fun t k => XS.icmpNo X342.here hx rfl (hb hby at_244) rfl (teq hc244).2 k) ?_
      show own_WP _ _ _ _ T342 (mkF m 247 #[.val (.int x0), .val (.int x1), .val (.int x2), .val (.int x3), .val (.int x4), .val (.int (3 : Int32)), .val (.int (1 : Int32)), .val (.ref zs0), .val (.ref zs1), .val (.ref zs2), .val (.ref za), .val (.ref zo), .val (.int (1 : Int32)), .val (.int (own_hn (1 : Int32) (3 : Int32))), .val (.int (own_hn (1 : Int32) (3 : Int32))), .unset] [])
      refine own_go (fun t k => XS.iconst X342.here hx rfl (hb hby at_247) k) ?_
      show own_WP _ _ _ _ T342 (mkF m 248 #[.val (.int x0), .val (.int x1), .val (.int x2), .val (.int x3), .val (.int x4), .val (.int (3 : Int32)), .val (.int (1 : Int32)), .val (.ref zs0), .val (.ref zs1), .val (.ref zs2), .val (.ref za), .val (.ref zo), .val (.int (1 : Int32)), .val (.int (own_hn (1 : Int32) (3 : Int32))), .val (.int (own_hn (1 : Int32) (3 : Int32))), .unset] [(.int (1 : Int32))])
      refine own_go (fun t k => XS.goto X342.here hx rfl (pc0 := 248) (pc' := 252) rfl (hb hby at_248) (by decide) (by decide) k) ?_
      show own_WP _ _ _ _ T342 (mkF m 252 #[.val (.int x0), .val (.int x1), .val (.int x2), .val (.int x3), .val (.int x4), .val (.int (3 : Int32)), .val (.int (1 : Int32)), .val (.ref zs0), .val (.ref zs1), .val (.ref zs2), .val (.ref za), .val (.ref zo), .val (.int (1 : Int32)), .val (.int (own_hn (1 : Int32) (3 : Int32))), .val (.int (own_hn (1 : Int32) (3 : Int32))), .unset] [(.int (1 : Int32))])
      refine own_go (fun t k => XS.istore X342.here hx rfl (hb hby at_252) rfl (l' := #[.val (.int x0), .val (.int x1), .val (.int x2), .val (.int x3), .val (.int x4), .val (.int (3 : Int32)), .val (.int (1 : Int32)), .val (.ref zs0), .val (.ref zs1), .val (.ref zs2), .val (.ref za), .val (.ref zo), .val (.int (1 : Int32)), .val (.int (own_hn (1 : Int32) (3 : Int32))), .val (.int (own_hn (1 : Int32) (3 : Int32))), .unset]) rfl k) ?_
      show own_WP _ _ _ _ T342 (mkF m 254 #[.val (.int x0), .val (.int x1), .val (.int x2), .val (.int x3), .val (.int x4), .val (.int (3 : Int32)), .val (.int (1 : Int32)), .val (.ref zs0), .val (.ref zs1), .val (.ref zs2), .val (.ref za), .val (.ref zo), .val (.int (1 : Int32)), .val (.int (own_hn (1 : Int32) (3 : Int32))), .val (.int (own_hn (1 : Int32) (3 : Int32))), .unset] [])
      refine own_go (fun t k => XS.iload X342.here hx rfl (hb hby at_254) rfl  k) ?_
      show own_WP _ _ _ _ T342 (mkF m 256 #[.val (.int x0), .val (.int x1), .val (.int x2), .val (.int x3), .val (.int x4), .val (.int (3 : Int32)), .val (.int (1 : Int32)), .val (.ref zs0), .val (.ref zs1), .val (.ref zs2), .val (.ref za), .val (.ref zo), .val (.int (1 : Int32)), .val (.int (own_hn (1 : Int32) (3 : Int32))), .val (.int (own_hn (1 : Int32) (3 : Int32))), .unset] [(.int (1 : Int32))])
      refine own_go (fun t k => XS.iload X342.here hx rfl (hb hby at_256) rfl  k) ?_
      show own_WP _ _ _ _ T342 (mkF m 258 #[.val (.int x0), .val (.int x1), .val (.int x2), .val (.int x3), .val (.int x4), .val (.int (3 : Int32)), .val (.int (1 : Int32)), .val (.ref zs0), .val (.ref zs1), .val (.ref zs2), .val (.ref za), .val (.ref zo), .val (.int (1 : Int32)), .val (.int (own_hn (1 : Int32) (3 : Int32))), .val (.int (own_hn (1 : Int32) (3 : Int32))), .unset] [(.int (3 : Int32)), (.int (1 : Int32))])
      have hc258 : (1 : Int32) < (3 : Int32) := by decide
      refine own_go (fun t k => XS.icmpNo X342.here hx rfl (hb hby at_258) rfl (tlt hc258).2.1 k) ?_
      show own_WP _ _ _ _ T342 (mkF m 261 #[.val (.int x0), .val (.int x1), .val (.int x2), .val (.int x3), .val (.int x4), .val (.int (3 : Int32)), .val (.int (1 : Int32)), .val (.ref zs0), .val (.ref zs1), .val (.ref zs2), .val (.ref za), .val (.ref zo), .val (.int (1 : Int32)), .val (.int (own_hn (1 : Int32) (3 : Int32))), .val (.int (own_hn (1 : Int32) (3 : Int32))), .unset] [])
      refine own_go (fun t k => XS.aload X342.here hx rfl (hb hby at_261) rfl rfl  k) ?_
      show own_WP _ _ _ _ T342 (mkF m 263 #[.val (.int x0), .val (.int x1), .val (.int x2), .val (.int x3), .val (.int x4), .val (.int (3 : Int32)), .val (.int (1 : Int32)), .val (.ref zs0), .val (.ref zs1), .val (.ref zs2), .val (.ref za), .val (.ref zo), .val (.int (1 : Int32)), .val (.int (own_hn (1 : Int32) (3 : Int32))), .val (.int (own_hn (1 : Int32) (3 : Int32))), .unset] [(.ref zo)])
      obtain ⟨cq343, kq343, q343a, q343b, q343c⟩ := isOf hZ eq342 f331
      obtain ⟨_, _, ⟨T343, L343, k343, n343⟩, -, X343, ⟨Lc343, hQ343, l343, y343, z343⟩, st343⟩ := X342.virtualBack hx (y := (⟨"branchwork/Arguments", "next", "()Ljava/lang/String;"⟩ : MethodName)) (z := (⟨"branchwork/Arguments", "next", "()Ljava/lang/String;"⟩ : MethodName)) hown (mvT hZ (hw _ (List.mem_of_getElem? (i := 50) rfl))) (mvT hZ (hw _ (List.mem_of_getElem? (i := 51) rfl))) (notFace_of_selects (args := #[]) (mvT hZ (hw _ (List.mem_of_getElem? (i := 53) rfl)))) (mvT hZ (hw _ (List.mem_of_getElem? (i := 53) rfl))) (mvT hZ (hw _ (List.mem_of_getElem? (i := 52) rfl))) (by decide) (backOf (W := 0) (rm8 l Z a0 hw [] zo za k252 (3 : Int32) [(.ref zs0), (.ref zs1), (.ref zs2)] (1 : Int32) zs1 T330.heap n0 (own_le Z0 K338) f331 f332 f340 f334 g_zo (Ne.symm ne_za_zo) (show ¬ (1 : Int32) < 0 ∧ (1 : Int32) < (3 : Int32) from ⟨by decide, by decide⟩) (show List.getD (α := Value) [(.ref zs0), (.ref zs1), (.ref zs2)] (1 : Int32).toNatClampNeg Value.null = Value.ref zs1 from rfl)) hZ (hw _ (List.mem_of_getElem? (i := 54) rfl)) (hw _ (List.mem_of_getElem? (i := 31) rfl)) (by decide) (by decide)) q343a q343c (g := (mkF m 263 #[.val (.int x0), .val (.int x1), .val (.int x2), .val (.int x3), .val (.int x4), .val (.int (3 : Int32)), .val (.int (1 : Int32)), .val (.ref zs0), .val (.ref zs1), .val (.ref zs2), .val (.ref za), .val (.ref zo), .val (.int (1 : Int32)), .val (.int (own_hn (1 : Int32) (3 : Int32))), .val (.int (own_hn (1 : Int32) (3 : Int32))), .unset] [(.ref zo)])) rfl (by rw [hml]; rfl) (Steps.refl _) (argsL := []) (rest := []) (lenOf own_pd53319 rfl) rfl (by show 2 * 0 + _ ≤ _; exact Nat.le_of_eq rfl) (hb hby at_263) (fun _ _ => ⟨rfl, eq342, (by decide : 10 + 0 ≤ _), (by decide : 37 + 0 ≤ _)⟩)
      dsimp only [Pt.U, Pt.locs, Pt.cells, Pt.slots] at X343 l343 y343 z343 st343 hQ343
      subst l343 y343 z343
      obtain ⟨rfl, N343q, Kc343, f344, f345, f346⟩ := hQ343
      have N343 := Fr.app N342 N343q
      refine own_tr st343 ?_
      have f347 : Arv Z T343.heap za k252 (.object "java/lang/String") (3 : Int32) [(.ref zs0), (.ref zs1), (.ref zs2)] .null := f334.keep Kc343 (own_nm ne_za_zo)
      have f348 : Exa Z T343.heap zo "branchwork/Arguments" := f331.keep Kc343
      have K351 : Keep h0 T343.heap [] := K338.trans Kc343 (fun x hx => by cases List.mem_singleton.mp hx; exact Or.inr sz_zo)
      have kz352 : k291 ≤ T343.heap.size := Nat.le_trans kz339 Kc343.1
      have f353 : Fld Z T343.heap zo "branchwork/Arguments" "next" "I" (.int (2 : Int32)) := f346
      show own_WP _ _ _ _ T343 (mkF m 266 #[.val (.int x0), .val (.int x1), .val (.int x2), .val (.int x3), .val (.int x4), .val (.int (3 : Int32)), .val (.int (1 : Int32)), .val (.ref zs0), .val (.ref zs1), .val (.ref zs2), .val (.ref za), .val (.ref zo), .val (.int (1 : Int32)), .val (.int (own_hn (1 : Int32) (3 : Int32))), .val (.int (own_hn (1 : Int32) (3 : Int32))), .unset] [(.ref zs1)])
      refine own_go (fun t k => XS.astore X343.here hx rfl (hb hby at_266) rfl rfl (l' := #[.val (.int x0), .val (.int x1), .val (.int x2), .val (.int x3), .val (.int x4), .val (.int (3 : Int32)), .val (.int (1 : Int32)), .val (.ref zs0), .val (.ref zs1), .val (.ref zs2), .val (.ref za), .val (.ref zo), .val (.int (1 : Int32)), .val (.int (own_hn (1 : Int32) (3 : Int32))), .val (.int (own_hn (1 : Int32) (3 : Int32))), .val (.ref zs1)]) rfl k) ?_
      show own_WP _ _ _ _ T343 (mkF m 268 #[.val (.int x0), .val (.int x1), .val (.int x2), .val (.int x3), .val (.int x4), .val (.int (3 : Int32)), .val (.int (1 : Int32)), .val (.ref zs0), .val (.ref zs1), .val (.ref zs2), .val (.ref za), .val (.ref zo), .val (.int (1 : Int32)), .val (.int (own_hn (1 : Int32) (3 : Int32))), .val (.int (own_hn (1 : Int32) (3 : Int32))), .val (.ref zs1)] [])
      refine own_go (fun t k => XS.iload X343.here hx rfl (hb hby at_268) rfl  k) ?_
      show own_WP _ _ _ _ T343 (mkF m 270 #[.val (.int x0), .val (.int x1), .val (.int x2), .val (.int x3), .val (.int x4), .val (.int (3 : Int32)), .val (.int (1 : Int32)), .val (.ref zs0), .val (.ref zs1), .val (.ref zs2), .val (.ref za), .val (.ref zo), .val (.int (1 : Int32)), .val (.int (own_hn (1 : Int32) (3 : Int32))), .val (.int (own_hn (1 : Int32) (3 : Int32))), .val (.ref zs1)] [(.int (1 : Int32))])
      have hc270 : ¬ ((1 : Int32) = (0 : Int32)) := by decide
      refine own_go (fun t k => XS.ifNo X343.here hx rfl (hb hby at_270) rfl ((if0 _ _).trans (feq hc270).1) k) ?_
      show own_WP _ _ _ _ T343 (mkF m 273 #[.val (.int x0), .val (.int x1), .val (.int x2), .val (.int x3), .val (.int x4), .val (.int (3 : Int32)), .val (.int (1 : Int32)), .val (.ref zs0), .val (.ref zs1), .val (.ref zs2), .val (.ref za), .val (.ref zo), .val (.int (1 : Int32)), .val (.int (own_hn (1 : Int32) (3 : Int32))), .val (.int (own_hn (1 : Int32) (3 : Int32))), .val (.ref zs1)] [])
      refine own_go (fun t k => XS.aload X343.here hx rfl (hb hby at_273) rfl rfl  k) ?_
      show own_WP _ _ _ _ T343 (mkF m 275 #[.val (.int x0), .val (.int x1), .val (.int x2), .val (.int x3), .val (.int x4), .val (.int (3 : Int32)), .val (.int (1 : Int32)), .val (.ref zs0), .val (.ref zs1), .val (.ref zs2), .val (.ref za), .val (.ref zo), .val (.int (1 : Int32)), .val (.int (own_hn (1 : Int32) (3 : Int32))), .val (.int (own_hn (1 : Int32) (3 : Int32))), .val (.ref zs1)] [(.ref zs1)])
      refine own_go (fun t k => XS.aload X343.here hx rfl (hb hby at_275) rfl rfl  k) ?_
      show own_WP _ _ _ _ T343 (mkF m 277 #[.val (.int x0), .val (.int x1), .val (.int x2), .val (.int x3), .val (.int x4), .val (.int (3 : Int32)), .val (.int (1 : Int32)), .val (.ref zs0), .val (.ref zs1), .val (.ref zs2), .val (.ref za), .val (.ref zo), .val (.int (1 : Int32)), .val (.int (own_hn (1 : Int32) (3 : Int32))), .val (.int (own_hn (1 : Int32) (3 : Int32))), .val (.ref zs1)] [(.ref za), (.ref zs1)])
      refine own_go (fun t k => XS.iload X343.here hx rfl (hb hby at_277) rfl  k) ?_
      show own_WP _ _ _ _ T343 (mkF m 279 #[.val (.int x0), .val (.int x1), .val (.int x2), .val (.int x3), .val (.int x4), .val (.int (3 : Int32)), .val (.int (1 : Int32)), .val (.ref zs0), .val (.ref zs1), .val (.ref zs2), .val (.ref za), .val (.ref zo), .val (.int (1 : Int32)), .val (.int (own_hn (1 : Int32) (3 : Int32))), .val (.int (own_hn (1 : Int32) (3 : Int32))), .val (.ref zs1)] [(.int (1 : Int32)), (.ref za), (.ref zs1)])
      refine own_ldR X343 hx hZ rfl rfl f347 (j := (1 : Int32)) (w := (.ref zs1)) ⟨by decide, by decide⟩ rfl (hb hby at_279) ?_
      show own_WP _ _ _ _ T343 (mkF m 280 #[.val (.int x0), .val (.int x1), .val (.int x2), .val (.int x3), .val (.int x4), .val (.int (3 : Int32)), .val (.int (1 : Int32)), .val (.ref zs0), .val (.ref zs1), .val (.ref zs2), .val (.ref za), .val (.ref zo), .val (.int (1 : Int32)), .val (.int (own_hn (1 : Int32) (3 : Int32))), .val (.int (own_hn (1 : Int32) (3 : Int32))), .val (.ref zs1)] [(.ref zs1), (.ref zs1)])
      refine own_go (fun t k => Jvm.RoadKit.acmp (g := (mkF m 280 #[.val (.int x0), .val (.int x1), .val (.int x2), .val (.int x3), .val (.int x4), .val (.int (3 : Int32)), .val (.int (1 : Int32)), .val (.ref zs0), .val (.ref zs1), .val (.ref zs2), .val (.ref za), .val (.ref zo), .val (.int (1 : Int32)), .val (.int (own_hn (1 : Int32) (3 : Int32))), .val (.int (own_hn (1 : Int32) (3 : Int32))), .val (.ref zs1)] [(.ref zs1), (.ref zs1)])) X343 hx rfl rfl rfl (pc0 := 280) (pc' := 283) (same := true) rfl (hb hby at_280) rfl (decide_eq_true rfl) (by decide) (by decide) k) ?_
      show own_WP _ _ _ _ T343 (mkF m 283 #[.val (.int x0), .val (.int x1), .val (.int x2), .val (.int x3), .val (.int x4), .val (.int (3 : Int32)), .val (.int (1 : Int32)), .val (.ref zs0), .val (.ref zs1), .val (.ref zs2), .val (.ref za), .val (.ref zo), .val (.int (1 : Int32)), .val (.int (own_hn (1 : Int32) (3 : Int32))), .val (.int (own_hn (1 : Int32) (3 : Int32))), .val (.ref zs1)] [])
      refine own_go (fun t k => XS.aload X343.here hx rfl (hb hby at_283) rfl rfl  k) ?_
      show own_WP _ _ _ _ T343 (mkF m 285 #[.val (.int x0), .val (.int x1), .val (.int x2), .val (.int x3), .val (.int x4), .val (.int (3 : Int32)), .val (.int (1 : Int32)), .val (.ref zs0), .val (.ref zs1), .val (.ref zs2), .val (.ref za), .val (.ref zo), .val (.int (1 : Int32)), .val (.int (own_hn (1 : Int32) (3 : Int32))), .val (.int (own_hn (1 : Int32) (3 : Int32))), .val (.ref zs1)] [(.ref zo)])
      obtain ⟨cq354, kq354, q354a, q354b, q354c⟩ := isOf hZ rfl f344
      obtain ⟨_, _, ⟨T354, L354, k354, n354⟩, -, X354, ⟨Lc354, hQ354, l354, y354, z354⟩, st354⟩ := X343.virtualBack hx (y := (⟨"branchwork/Arguments", "hasNext", "()Z"⟩ : MethodName)) (z := (⟨"branchwork/Arguments", "hasNext", "()Z"⟩ : MethodName)) hown (mvT hZ (hw _ (List.mem_of_getElem? (i := 43) rfl))) (mvT hZ (hw _ (List.mem_of_getElem? (i := 44) rfl))) (notFace_of_selects (args := #[]) (mvT hZ (hw _ (List.mem_of_getElem? (i := 46) rfl)))) (mvT hZ (hw _ (List.mem_of_getElem? (i := 46) rfl))) (mvT hZ (hw _ (List.mem_of_getElem? (i := 45) rfl))) (by decide) (backOf (W := 0) (rm7 l Z a0 hw [] zo za k252 (3 : Int32) [(.ref zs0), (.ref zs1), (.ref zs2)] (2 : Int32) T343.heap n0 (own_le Z0 K351) f345 f353 f347) hZ (hw _ (List.mem_of_getElem? (i := 47) rfl)) (hw _ (List.mem_of_getElem? (i := 31) rfl)) (by decide) (by decide)) q354a q354c (g := (mkF m 285 #[.val (.int x0), .val (.int x1), .val (.int x2), .val (.int x3), .val (.int x4), .val (.int (3 : Int32)), .val (.int (1 : Int32)), .val (.ref zs0), .val (.ref zs1), .val (.ref zs2), .val (.ref za), .val (.ref zo), .val (.int (1 : Int32)), .val (.int (own_hn (1 : Int32) (3 : Int32))), .val (.int (own_hn (1 : Int32) (3 : Int32))), .val (.ref zs1)] [(.ref zo)])) rfl (by rw [hml]; rfl) (Steps.refl _) (argsL := []) (rest := []) (lenOf own_pd91901 rfl) rfl (by show 2 * 0 + _ ≤ _; exact Nat.le_of_eq rfl) (hb hby at_285) (fun _ _ => ⟨rfl, rfl, (by decide : 10 + 0 ≤ _), (by decide : 37 + 0 ≤ _)⟩)
      dsimp only [Pt.U, Pt.locs, Pt.cells, Pt.slots] at X354 l354 y354 z354 st354 hQ354
      subst l354 y354 z354
      obtain ⟨rfl, N354q, eq354⟩ := hQ354
      have N354 := Fr.app N343 N354q
      refine own_tr st354 ?_
      show own_WP _ _ _ _ T354 (mkF m 288 #[.val (.int x0), .val (.int x1), .val (.int x2), .val (.int x3), .val (.int x4), .val (.int (3 : Int32)), .val (.int (1 : Int32)), .val (.ref zs0), .val (.ref zs1), .val (.ref zs2), .val (.ref za), .val (.ref zo), .val (.int (1 : Int32)), .val (.int (own_hn (1 : Int32) (3 : Int32))), .val (.int (own_hn (1 : Int32) (3 : Int32))), .val (.ref zs1)] [(.int (own_hn (2 : Int32) (3 : Int32)))])
      refine own_go (fun t k => XS.iload X354.here hx rfl (hb hby at_288) rfl  k) ?_
      show own_WP _ _ _ _ T354 (mkF m 290 #[.val (.int x0), .val (.int x1), .val (.int x2), .val (.int x3), .val (.int x4), .val (.int (3 : Int32)), .val (.int (1 : Int32)), .val (.ref zs0), .val (.ref zs1), .val (.ref zs2), .val (.ref za), .val (.ref zo), .val (.int (1 : Int32)), .val (.int (own_hn (1 : Int32) (3 : Int32))), .val (.int (own_hn (1 : Int32) (3 : Int32))), .val (.ref zs1)] [(.int (1 : Int32)), (.int (own_hn (2 : Int32) (3 : Int32)))])
      refine own_go (fun t k => XS.iconst X354.here hx rfl (hb hby at_290) k) ?_
      show own_WP _ _ _ _ T354 (mkF m 291 #[.val (.int x0), .val (.int x1), .val (.int x2), .val (.int x3), .val (.int x4), .val (.int (3 : Int32)), .val (.int (1 : Int32)), .val (.ref zs0), .val (.ref zs1), .val (.ref zs2), .val (.ref za), .val (.ref zo), .val (.int (1 : Int32)), .val (.int (own_hn (1 : Int32) (3 : Int32))), .val (.int (own_hn (1 : Int32) (3 : Int32))), .val (.ref zs1)] [(.int (1 : Int32)), (.int (1 : Int32)), (.int (own_hn (2 : Int32) (3 : Int32)))])
      refine own_go (fun t k => XS.iadd X354.here hx rfl (hb hby at_291) rfl k) ?_
      show own_WP _ _ _ _ T354 (mkF m 292 #[.val (.int x0), .val (.int x1), .val (.int x2), .val (.int x3), .val (.int x4), .val (.int (3 : Int32)), .val (.int (1 : Int32)), .val (.ref zs0), .val (.ref zs1), .val (.ref zs2), .val (.ref za), .val (.ref zo), .val (.int (1 : Int32)), .val (.int (own_hn (1 : Int32) (3 : Int32))), .val (.int (own_hn (1 : Int32) (3 : Int32))), .val (.ref zs1)] [(.int ((1 : Int32) + (1 : Int32))), (.int (own_hn (2 : Int32) (3 : Int32)))])
      rw [show ((1 : Int32) + (1 : Int32)) = (2 : Int32) from by decide]
      show own_WP _ _ _ _ T354 (mkF m 292 #[.val (.int x0), .val (.int x1), .val (.int x2), .val (.int x3), .val (.int x4), .val (.int (3 : Int32)), .val (.int (1 : Int32)), .val (.ref zs0), .val (.ref zs1), .val (.ref zs2), .val (.ref za), .val (.ref zo), .val (.int (1 : Int32)), .val (.int (own_hn (1 : Int32) (3 : Int32))), .val (.int (own_hn (1 : Int32) (3 : Int32))), .val (.ref zs1)] [(.int (2 : Int32)), (.int (own_hn (2 : Int32) (3 : Int32)))])
      refine own_go (fun t k => XS.iload X354.here hx rfl (hb hby at_292) rfl  k) ?_
      show own_WP _ _ _ _ T354 (mkF m 294 #[.val (.int x0), .val (.int x1), .val (.int x2), .val (.int x3), .val (.int x4), .val (.int (3 : Int32)), .val (.int (1 : Int32)), .val (.ref zs0), .val (.ref zs1), .val (.ref zs2), .val (.ref za), .val (.ref zo), .val (.int (1 : Int32)), .val (.int (own_hn (1 : Int32) (3 : Int32))), .val (.int (own_hn (1 : Int32) (3 : Int32))), .val (.ref zs1)] [(.int (3 : Int32)), (.int (2 : Int32)), (.int (own_hn (2 : Int32) (3 : Int32)))])
      have hc294 : (2 : Int32) < (3 : Int32) := by decide
      refine own_go (fun t k => XS.icmpNo X354.here hx rfl (hb hby at_294) rfl (tlt hc294).2.1 k) ?_
      show own_WP _ _ _ _ T354 (mkF m 297 #[.val (.int x0), .val (.int x1), .val (.int x2), .val (.int x3), .val (.int x4), .val (.int (3 : Int32)), .val (.int (1 : Int32)), .val (.ref zs0), .val (.ref zs1), .val (.ref zs2), .val (.ref za), .val (.ref zo), .val (.int (1 : Int32)), .val (.int (own_hn (1 : Int32) (3 : Int32))), .val (.int (own_hn (1 : Int32) (3 : Int32))), .val (.ref zs1)] [(.int (own_hn (2 : Int32) (3 : Int32)))])
      refine own_go (fun t k => XS.iconst X354.here hx rfl (hb hby at_297) k) ?_
      show own_WP _ _ _ _ T354 (mkF m 298 #[.val (.int x0), .val (.int x1), .val (.int x2), .val (.int x3), .val (.int x4), .val (.int (3 : Int32)), .val (.int (1 : Int32)), .val (.ref zs0), .val (.ref zs1), .val (.ref zs2), .val (.ref za), .val (.ref zo), .val (.int (1 : Int32)), .val (.int (own_hn (1 : Int32) (3 : Int32))), .val (.int (own_hn (1 : Int32) (3 : Int32))), .val (.ref zs1)] [(.int (1 : Int32)), (.int (own_hn (2 : Int32) (3 : Int32)))])
      refine own_go (fun t k => XS.goto X354.here hx rfl (pc0 := 298) (pc' := 302) rfl (hb hby at_298) (by decide) (by decide) k) ?_
      show own_WP _ _ _ _ T354 (mkF m 302 #[.val (.int x0), .val (.int x1), .val (.int x2), .val (.int x3), .val (.int x4), .val (.int (3 : Int32)), .val (.int (1 : Int32)), .val (.ref zs0), .val (.ref zs1), .val (.ref zs2), .val (.ref za), .val (.ref zo), .val (.int (1 : Int32)), .val (.int (own_hn (1 : Int32) (3 : Int32))), .val (.int (own_hn (1 : Int32) (3 : Int32))), .val (.ref zs1)] [(.int (1 : Int32)), (.int (own_hn (2 : Int32) (3 : Int32)))])
      have hc302 : (own_hn (2 : Int32) (3 : Int32)) = (1 : Int32) := by
        decide
      refine own_go (fun t k => XS.icmpNo X354.here hx rfl (hb hby at_302) rfl (teq hc302).2 k) ?_
      show own_WP _ _ _ _ T354 (mkF m 305 #[.val (.int x0), .val (.int x1), .val (.int x2), .val (.int x3), .val (.int x4), .val (.int (3 : Int32)), .val (.int (1 : Int32)), .val (.ref zs0), .val (.ref zs1), .val (.ref zs2), .val (.ref za), .val (.ref zo), .val (.int (1 : Int32)), .val (.int (own_hn (1 : Int32) (3 : Int32))), .val (.int (own_hn (1 : Int32) (3 : Int32))), .val (.ref zs1)] [])
      refine own_go (fun t k => XS.iconst X354.here hx rfl (hb hby at_305) k) ?_
      show own_WP _ _ _ _ T354 (mkF m 306 #[.val (.int x0), .val (.int x1), .val (.int x2), .val (.int x3), .val (.int x4), .val (.int (3 : Int32)), .val (.int (1 : Int32)), .val (.ref zs0), .val (.ref zs1), .val (.ref zs2), .val (.ref za), .val (.ref zo), .val (.int (1 : Int32)), .val (.int (own_hn (1 : Int32) (3 : Int32))), .val (.int (own_hn (1 : Int32) (3 : Int32))), .val (.ref zs1)] [(.int (1 : Int32))])
      refine own_go (fun t k => XS.goto X354.here hx rfl (pc0 := 306) (pc' := 310) rfl (hb hby at_306) (by decide) (by decide) k) ?_
      show own_WP _ _ _ _ T354 (mkF m 310 #[.val (.int x0), .val (.int x1), .val (.int x2), .val (.int x3), .val (.int x4), .val (.int (3 : Int32)), .val (.int (1 : Int32)), .val (.ref zs0), .val (.ref zs1), .val (.ref zs2), .val (.ref za), .val (.ref zo), .val (.int (1 : Int32)), .val (.int (own_hn (1 : Int32) (3 : Int32))), .val (.int (own_hn (1 : Int32) (3 : Int32))), .val (.ref zs1)] [(.int (1 : Int32))])
      refine own_go (fun t k => XS.istore X354.here hx rfl (hb hby at_310) rfl (l' := #[.val (.int x0), .val (.int x1), .val (.int x2), .val (.int x3), .val (.int x4), .val (.int (3 : Int32)), .val (.int (1 : Int32)), .val (.ref zs0), .val (.ref zs1), .val (.ref zs2), .val (.ref za), .val (.ref zo), .val (.int (1 : Int32)), .val (.int (own_hn (1 : Int32) (3 : Int32))), .val (.int (own_hn (1 : Int32) (3 : Int32))), .val (.ref zs1)]) rfl k) ?_
      show own_WP _ _ _ _ T354 (mkF m 312 #[.val (.int x0), .val (.int x1), .val (.int x2), .val (.int x3), .val (.int x4), .val (.int (3 : Int32)), .val (.int (1 : Int32)), .val (.ref zs0), .val (.ref zs1), .val (.ref zs2), .val (.ref za), .val (.ref zo), .val (.int (1 : Int32)), .val (.int (own_hn (1 : Int32) (3 : Int32))), .val (.int (own_hn (1 : Int32) (3 : Int32))), .val (.ref zs1)] [])
      refine own_go (fun t k => XS.iload X354.here hx rfl (hb hby at_312) rfl  k) ?_
      show own_WP _ _ _ _ T354 (mkF m 314 #[.val (.int x0), .val (.int x1), .val (.int x2), .val (.int x3), .val (.int x4), .val (.int (3 : Int32)), .val (.int (1 : Int32)), .val (.ref zs0), .val (.ref zs1), .val (.ref zs2), .val (.ref za), .val (.ref zo), .val (.int (1 : Int32)), .val (.int (own_hn (1 : Int32) (3 : Int32))), .val (.int (own_hn (1 : Int32) (3 : Int32))), .val (.ref zs1)] [(.int (1 : Int32))])
      refine own_retNW X354 hS291 (by rw [eq354]; exact kz352) hx Bd.notSynchronized (t := .boolean) (by simp) Bd.returns (hb hby at_314) (by decide) (by decide) ?_
      rw [eq354]
      exact ⟨rfl, N354⟩
    · subst hk
      show own_WP _ _ _ _ T315 (mkF m 168 #[.val (.int x0), .val (.int x1), .val (.int x2), .val (.int x3), .val (.int x4), .val (.int (3 : Int32)), .val (.int (2 : Int32)), .val (.ref zs0), .val (.ref zs1), .val (.ref zs2), .val (.ref za), .val (.ref zo), .val (.int (1 : Int32)), .unset, .unset, .unset] [])
      refine own_go (fun t k => XS.iload X315.here hx rfl (hb hby at_168) rfl  k) ?_
      show own_WP _ _ _ _ T315 (mkF m 170 #[.val (.int x0), .val (.int x1), .val (.int x2), .val (.int x3), .val (.int x4), .val (.int (3 : Int32)), .val (.int (2 : Int32)), .val (.ref zs0), .val (.ref zs1), .val (.ref zs2), .val (.ref za), .val (.ref zo), .val (.int (1 : Int32)), .unset, .unset, .unset] [(.int (2 : Int32))])
      refine own_go (fun t k => XS.iconst X315.here hx rfl (hb hby at_170) k) ?_
      show own_WP _ _ _ _ T315 (mkF m 171 #[.val (.int x0), .val (.int x1), .val (.int x2), .val (.int x3), .val (.int x4), .val (.int (3 : Int32)), .val (.int (2 : Int32)), .val (.ref zs0), .val (.ref zs1), .val (.ref zs2), .val (.ref za), .val (.ref zo), .val (.int (1 : Int32)), .unset, .unset, .unset] [(.int (1 : Int32)), (.int (2 : Int32))])
      have hc171 : ¬ ((2 : Int32) < (1 : Int32)) := by decide
      refine own_go (fun t k => XS.icmpNo X315.here hx rfl (hb hby at_171) rfl (flt hc171).1 k) ?_
      show own_WP _ _ _ _ T315 (mkF m 174 #[.val (.int x0), .val (.int x1), .val (.int x2), .val (.int x3), .val (.int x4), .val (.int (3 : Int32)), .val (.int (2 : Int32)), .val (.ref zs0), .val (.ref zs1), .val (.ref zs2), .val (.ref za), .val (.ref zo), .val (.int (1 : Int32)), .unset, .unset, .unset] [])
      refine own_go (fun t k => XS.aload X315.here hx rfl (hb hby at_174) rfl rfl  k) ?_
      show own_WP _ _ _ _ T315 (mkF m 176 #[.val (.int x0), .val (.int x1), .val (.int x2), .val (.int x3), .val (.int x4), .val (.int (3 : Int32)), .val (.int (2 : Int32)), .val (.ref zs0), .val (.ref zs1), .val (.ref zs2), .val (.ref za), .val (.ref zo), .val (.int (1 : Int32)), .unset, .unset, .unset] [(.ref zo)])
      obtain ⟨cq355, kq355, q355a, q355b, q355c⟩ := isOf hZ eq315 f302
      obtain ⟨_, _, ⟨T355, L355, k355, n355⟩, -, X355, ⟨Lc355, hQ355, l355, y355, z355⟩, st355⟩ := X315.virtualBack hx (y := (⟨"branchwork/Arguments", "next", "()Ljava/lang/String;"⟩ : MethodName)) (z := (⟨"branchwork/Arguments", "next", "()Ljava/lang/String;"⟩ : MethodName)) hown (mvT hZ (hw _ (List.mem_of_getElem? (i := 50) rfl))) (mvT hZ (hw _ (List.mem_of_getElem? (i := 51) rfl))) (notFace_of_selects (args := #[]) (mvT hZ (hw _ (List.mem_of_getElem? (i := 53) rfl)))) (mvT hZ (hw _ (List.mem_of_getElem? (i := 53) rfl))) (mvT hZ (hw _ (List.mem_of_getElem? (i := 52) rfl))) (by decide) (backOf (W := 0) (rm8 l Z a0 hw [] zo za k252 (3 : Int32) [(.ref zs0), (.ref zs1), (.ref zs2)] (0 : Int32) zs0 T301.heap n0 (own_le Z0 K313) f302 f303 f304 f308 g_zo (Ne.symm ne_za_zo) (show ¬ (0 : Int32) < 0 ∧ (0 : Int32) < (3 : Int32) from ⟨by decide, by decide⟩) (show List.getD (α := Value) [(.ref zs0), (.ref zs1), (.ref zs2)] (0 : Int32).toNatClampNeg Value.null = Value.ref zs0 from rfl)) hZ (hw _ (List.mem_of_getElem? (i := 54) rfl)) (hw _ (List.mem_of_getElem? (i := 31) rfl)) (by decide) (by decide)) q355a q355c (g := (mkF m 176 #[.val (.int x0), .val (.int x1), .val (.int x2), .val (.int x3), .val (.int x4), .val (.int (3 : Int32)), .val (.int (2 : Int32)), .val (.ref zs0), .val (.ref zs1), .val (.ref zs2), .val (.ref za), .val (.ref zo), .val (.int (1 : Int32)), .unset, .unset, .unset] [(.ref zo)])) rfl (by rw [hml]; rfl) (Steps.refl _) (argsL := []) (rest := []) (lenOf own_pd53319 rfl) rfl (by show 2 * 0 + _ ≤ _; exact Nat.le_of_eq rfl) (hb hby at_176) (fun _ _ => ⟨rfl, eq315, (by decide : 10 + 0 ≤ _), (by decide : 37 + 0 ≤ _)⟩)
      dsimp only [Pt.U, Pt.locs, Pt.cells, Pt.slots] at X355 l355 y355 z355 st355 hQ355
      subst l355 y355 z355
      obtain ⟨rfl, N355q, Kc355, f356, f357, f358⟩ := hQ355
      have N355 := Fr.app N315 N355q
      refine own_tr st355 ?_
      have f359 : Arv Z T355.heap za k252 (.object "java/lang/String") (3 : Int32) [(.ref zs0), (.ref zs1), (.ref zs2)] .null := f308.keep Kc355 (own_nm ne_za_zo)
      have f360 : Exa Z T355.heap zo "branchwork/Arguments" := f302.keep Kc355
      have K363 : Keep h0 T355.heap [] := K313.trans Kc355 (fun x hx => by cases List.mem_singleton.mp hx; exact Or.inr sz_zo)
      have kz364 : k291 ≤ T355.heap.size := Nat.le_trans kz314 Kc355.1
      have f365 : Fld Z T355.heap zo "branchwork/Arguments" "next" "I" (.int (1 : Int32)) := f358
      show own_WP _ _ _ _ T355 (mkF m 179 #[.val (.int x0), .val (.int x1), .val (.int x2), .val (.int x3), .val (.int x4), .val (.int (3 : Int32)), .val (.int (2 : Int32)), .val (.ref zs0), .val (.ref zs1), .val (.ref zs2), .val (.ref za), .val (.ref zo), .val (.int (1 : Int32)), .unset, .unset, .unset] [(.ref zs0)])
      refine own_go (fun t k => XS.pop X355.here hx rfl (hb hby at_179) rfl rfl k) ?_
      show own_WP _ _ _ _ T355 (mkF m 180 #[.val (.int x0), .val (.int x1), .val (.int x2), .val (.int x3), .val (.int x4), .val (.int (3 : Int32)), .val (.int (2 : Int32)), .val (.ref zs0), .val (.ref zs1), .val (.ref zs2), .val (.ref za), .val (.ref zo), .val (.int (1 : Int32)), .unset, .unset, .unset] [])
      refine own_go (fun t k => XS.iload X355.here hx rfl (hb hby at_180) rfl  k) ?_
      show own_WP _ _ _ _ T355 (mkF m 182 #[.val (.int x0), .val (.int x1), .val (.int x2), .val (.int x3), .val (.int x4), .val (.int (3 : Int32)), .val (.int (2 : Int32)), .val (.ref zs0), .val (.ref zs1), .val (.ref zs2), .val (.ref za), .val (.ref zo), .val (.int (1 : Int32)), .unset, .unset, .unset] [(.int (2 : Int32))])
      refine own_go (fun t k => XS.iconst X355.here hx rfl (hb hby at_182) k) ?_
      show own_WP _ _ _ _ T355 (mkF m 183 #[.val (.int x0), .val (.int x1), .val (.int x2), .val (.int x3), .val (.int x4), .val (.int (3 : Int32)), .val (.int (2 : Int32)), .val (.ref zs0), .val (.ref zs1), .val (.ref zs2), .val (.ref za), .val (.ref zo), .val (.int (1 : Int32)), .unset, .unset, .unset] [(.int (2 : Int32)), (.int (2 : Int32))])
      have hc183 : ¬ ((2 : Int32) < (2 : Int32)) := by decide
      refine own_go (fun t k => XS.icmpNo X355.here hx rfl (hb hby at_183) rfl (flt hc183).1 k) ?_
      show own_WP _ _ _ _ T355 (mkF m 186 #[.val (.int x0), .val (.int x1), .val (.int x2), .val (.int x3), .val (.int x4), .val (.int (3 : Int32)), .val (.int (2 : Int32)), .val (.ref zs0), .val (.ref zs1), .val (.ref zs2), .val (.ref za), .val (.ref zo), .val (.int (1 : Int32)), .unset, .unset, .unset] [])
      refine own_go (fun t k => XS.aload X355.here hx rfl (hb hby at_186) rfl rfl  k) ?_
      show own_WP _ _ _ _ T355 (mkF m 188 #[.val (.int x0), .val (.int x1), .val (.int x2), .val (.int x3), .val (.int x4), .val (.int (3 : Int32)), .val (.int (2 : Int32)), .val (.ref zs0), .val (.ref zs1), .val (.ref zs2), .val (.ref za), .val (.ref zo), .val (.int (1 : Int32)), .unset, .unset, .unset] [(.ref zo)])
      obtain ⟨cq366, kq366, q366a, q366b, q366c⟩ := isOf hZ rfl f356
      obtain ⟨_, _, ⟨T366, L366, k366, n366⟩, -, X366, ⟨Lc366, hQ366, l366, y366, z366⟩, st366⟩ := X355.virtualBack hx (y := (⟨"branchwork/Arguments", "next", "()Ljava/lang/String;"⟩ : MethodName)) (z := (⟨"branchwork/Arguments", "next", "()Ljava/lang/String;"⟩ : MethodName)) hown (mvT hZ (hw _ (List.mem_of_getElem? (i := 50) rfl))) (mvT hZ (hw _ (List.mem_of_getElem? (i := 51) rfl))) (notFace_of_selects (args := #[]) (mvT hZ (hw _ (List.mem_of_getElem? (i := 53) rfl)))) (mvT hZ (hw _ (List.mem_of_getElem? (i := 53) rfl))) (mvT hZ (hw _ (List.mem_of_getElem? (i := 52) rfl))) (by decide) (backOf (W := 0) (rm8 l Z a0 hw [] zo za k252 (3 : Int32) [(.ref zs0), (.ref zs1), (.ref zs2)] (1 : Int32) zs1 T355.heap n0 (own_le Z0 K363) f356 f357 f365 f359 g_zo (Ne.symm ne_za_zo) (show ¬ (1 : Int32) < 0 ∧ (1 : Int32) < (3 : Int32) from ⟨by decide, by decide⟩) (show List.getD (α := Value) [(.ref zs0), (.ref zs1), (.ref zs2)] (1 : Int32).toNatClampNeg Value.null = Value.ref zs1 from rfl)) hZ (hw _ (List.mem_of_getElem? (i := 54) rfl)) (hw _ (List.mem_of_getElem? (i := 31) rfl)) (by decide) (by decide)) q366a q366c (g := (mkF m 188 #[.val (.int x0), .val (.int x1), .val (.int x2), .val (.int x3), .val (.int x4), .val (.int (3 : Int32)), .val (.int (2 : Int32)), .val (.ref zs0), .val (.ref zs1), .val (.ref zs2), .val (.ref za), .val (.ref zo), .val (.int (1 : Int32)), .unset, .unset, .unset] [(.ref zo)])) rfl (by rw [hml]; rfl) (Steps.refl _) (argsL := []) (rest := []) (lenOf own_pd53319 rfl) rfl (by show 2 * 0 + _ ≤ _; exact Nat.le_of_eq rfl) (hb hby at_188) (fun _ _ => ⟨rfl, rfl, (by decide : 10 + 0 ≤ _), (by decide : 37 + 0 ≤ _)⟩)
      dsimp only [Pt.U, Pt.locs, Pt.cells, Pt.slots] at X366 l366 y366 z366 st366 hQ366
      subst l366 y366 z366
      obtain ⟨rfl, N366q, Kc366, f367, f368, f369⟩ := hQ366
      have N366 := Fr.app N355 N366q
      refine own_tr st366 ?_
      have f370 : Arv Z T366.heap za k252 (.object "java/lang/String") (3 : Int32) [(.ref zs0), (.ref zs1), (.ref zs2)] .null := f359.keep Kc366 (own_nm ne_za_zo)
      have f371 : Exa Z T366.heap zo "branchwork/Arguments" := f356.keep Kc366
      have K374 : Keep h0 T366.heap [] := K363.trans Kc366 (fun x hx => by cases List.mem_singleton.mp hx; exact Or.inr sz_zo)
      have kz375 : k291 ≤ T366.heap.size := Nat.le_trans kz364 Kc366.1
      have f376 : Fld Z T366.heap zo "branchwork/Arguments" "next" "I" (.int (2 : Int32)) := f369
      show own_WP _ _ _ _ T366 (mkF m 191 #[.val (.int x0), .val (.int x1), .val (.int x2), .val (.int x3), .val (.int x4), .val (.int (3 : Int32)), .val (.int (2 : Int32)), .val (.ref zs0), .val (.ref zs1), .val (.ref zs2), .val (.ref za), .val (.ref zo), .val (.int (1 : Int32)), .unset, .unset, .unset] [(.ref zs1)])
      refine own_go (fun t k => XS.pop X366.here hx rfl (hb hby at_191) rfl rfl k) ?_
      show own_WP _ _ _ _ T366 (mkF m 192 #[.val (.int x0), .val (.int x1), .val (.int x2), .val (.int x3), .val (.int x4), .val (.int (3 : Int32)), .val (.int (2 : Int32)), .val (.ref zs0), .val (.ref zs1), .val (.ref zs2), .val (.ref za), .val (.ref zo), .val (.int (1 : Int32)), .unset, .unset, .unset] [])
      refine own_go (fun t k => XS.iload X366.here hx rfl (hb hby at_192) rfl  k) ?_
      show own_WP _ _ _ _ T366 (mkF m 194 #[.val (.int x0), .val (.int x1), .val (.int x2), .val (.int x3), .val (.int x4), .val (.int (3 : Int32)), .val (.int (2 : Int32)), .val (.ref zs0), .val (.ref zs1), .val (.ref zs2), .val (.ref za), .val (.ref zo), .val (.int (1 : Int32)), .unset, .unset, .unset] [(.int (2 : Int32))])
      refine own_go (fun t k => XS.iconst X366.here hx rfl (hb hby at_194) k) ?_
      show own_WP _ _ _ _ T366 (mkF m 195 #[.val (.int x0), .val (.int x1), .val (.int x2), .val (.int x3), .val (.int x4), .val (.int (3 : Int32)), .val (.int (2 : Int32)), .val (.ref zs0), .val (.ref zs1), .val (.ref zs2), .val (.ref za), .val (.ref zo), .val (.int (1 : Int32)), .unset, .unset, .unset] [(.int (3 : Int32)), (.int (2 : Int32))])
      have hc195 : (2 : Int32) < (3 : Int32) := by decide
      refine own_go (fun t k => XS.icmpYes X366.here hx rfl (pc0 := 195) (pc' := 204) rfl (hb hby at_195) rfl (tlt hc195).1 (by decide) (by decide) k) ?_
      show own_WP _ _ _ _ T366 (mkF m 204 #[.val (.int x0), .val (.int x1), .val (.int x2), .val (.int x3), .val (.int x4), .val (.int (3 : Int32)), .val (.int (2 : Int32)), .val (.ref zs0), .val (.ref zs1), .val (.ref zs2), .val (.ref za), .val (.ref zo), .val (.int (1 : Int32)), .unset, .unset, .unset] [])
      refine own_go (fun t k => XS.aload X366.here hx rfl (hb hby at_204) rfl rfl  k) ?_
      show own_WP _ _ _ _ T366 (mkF m 206 #[.val (.int x0), .val (.int x1), .val (.int x2), .val (.int x3), .val (.int x4), .val (.int (3 : Int32)), .val (.int (2 : Int32)), .val (.ref zs0), .val (.ref zs1), .val (.ref zs2), .val (.ref za), .val (.ref zo), .val (.int (1 : Int32)), .unset, .unset, .unset] [(.ref zo)])
      obtain ⟨cq377, kq377, q377a, q377b, q377c⟩ := isOf hZ rfl f367
      obtain ⟨_, _, ⟨T377, L377, k377, n377⟩, -, X377, ⟨Lc377, hQ377, l377, y377, z377⟩, st377⟩ := X366.virtualBack hx (y := (⟨"branchwork/Arguments", "hasNext", "()Z"⟩ : MethodName)) (z := (⟨"branchwork/Arguments", "hasNext", "()Z"⟩ : MethodName)) hown (mvT hZ (hw _ (List.mem_of_getElem? (i := 43) rfl))) (mvT hZ (hw _ (List.mem_of_getElem? (i := 44) rfl))) (notFace_of_selects (args := #[]) (mvT hZ (hw _ (List.mem_of_getElem? (i := 46) rfl)))) (mvT hZ (hw _ (List.mem_of_getElem? (i := 46) rfl))) (mvT hZ (hw _ (List.mem_of_getElem? (i := 45) rfl))) (by decide) (backOf (W := 0) (rm7 l Z a0 hw [] zo za k252 (3 : Int32) [(.ref zs0), (.ref zs1), (.ref zs2)] (2 : Int32) T366.heap n0 (own_le Z0 K374) f368 f376 f370) hZ (hw _ (List.mem_of_getElem? (i := 47) rfl)) (hw _ (List.mem_of_getElem? (i := 31) rfl)) (by decide) (by decide)) q377a q377c (g := (mkF m 206 #[.val (.int x0), .val (.int x1), .val (.int x2), .val (.int x3), .val (.int x4), .val (.int (3 : Int32)), .val (.int (2 : Int32)), .val (.ref zs0), .val (.ref zs1), .val (.ref zs2), .val (.ref za), .val (.ref zo), .val (.int (1 : Int32)), .unset, .unset, .unset] [(.ref zo)])) rfl (by rw [hml]; rfl) (Steps.refl _) (argsL := []) (rest := []) (lenOf own_pd91901 rfl) rfl (by show 2 * 0 + _ ≤ _; exact Nat.le_of_eq rfl) (hb hby at_206) (fun _ _ => ⟨rfl, rfl, (by decide : 10 + 0 ≤ _), (by decide : 37 + 0 ≤ _)⟩)
      dsimp only [Pt.U, Pt.locs, Pt.cells, Pt.slots] at X377 l377 y377 z377 st377 hQ377
      subst l377 y377 z377
      obtain ⟨rfl, N377q, eq377⟩ := hQ377
      have N377 := Fr.app N366 N377q
      refine own_tr st377 ?_
      show own_WP _ _ _ _ T377 (mkF m 209 #[.val (.int x0), .val (.int x1), .val (.int x2), .val (.int x3), .val (.int x4), .val (.int (3 : Int32)), .val (.int (2 : Int32)), .val (.ref zs0), .val (.ref zs1), .val (.ref zs2), .val (.ref za), .val (.ref zo), .val (.int (1 : Int32)), .unset, .unset, .unset] [(.int (own_hn (2 : Int32) (3 : Int32)))])
      refine own_go (fun t k => XS.istore X377.here hx rfl (hb hby at_209) rfl (l' := #[.val (.int x0), .val (.int x1), .val (.int x2), .val (.int x3), .val (.int x4), .val (.int (3 : Int32)), .val (.int (2 : Int32)), .val (.ref zs0), .val (.ref zs1), .val (.ref zs2), .val (.ref za), .val (.ref zo), .val (.int (1 : Int32)), .val (.int (own_hn (2 : Int32) (3 : Int32))), .unset, .unset]) rfl k) ?_
      show own_WP _ _ _ _ T377 (mkF m 211 #[.val (.int x0), .val (.int x1), .val (.int x2), .val (.int x3), .val (.int x4), .val (.int (3 : Int32)), .val (.int (2 : Int32)), .val (.ref zs0), .val (.ref zs1), .val (.ref zs2), .val (.ref za), .val (.ref zo), .val (.int (1 : Int32)), .val (.int (own_hn (2 : Int32) (3 : Int32))), .unset, .unset] [])
      refine own_go (fun t k => XS.aload X377.here hx rfl (hb hby at_211) rfl rfl  k) ?_
      show own_WP _ _ _ _ T377 (mkF m 213 #[.val (.int x0), .val (.int x1), .val (.int x2), .val (.int x3), .val (.int x4), .val (.int (3 : Int32)), .val (.int (2 : Int32)), .val (.ref zs0), .val (.ref zs1), .val (.ref zs2), .val (.ref za), .val (.ref zo), .val (.int (1 : Int32)), .val (.int (own_hn (2 : Int32) (3 : Int32))), .unset, .unset] [(.ref zo)])
      obtain ⟨cq378, kq378, q378a, q378b, q378c⟩ := isOf hZ eq377 f367
      obtain ⟨_, _, ⟨T378, L378, k378, n378⟩, -, X378, ⟨Lc378, hQ378, l378, y378, z378⟩, st378⟩ := X377.virtualBack hx (y := (⟨"branchwork/Arguments", "hasNext", "()Z"⟩ : MethodName)) (z := (⟨"branchwork/Arguments", "hasNext", "()Z"⟩ : MethodName)) hown (mvT hZ (hw _ (List.mem_of_getElem? (i := 43) rfl))) (mvT hZ (hw _ (List.mem_of_getElem? (i := 44) rfl))) (notFace_of_selects (args := #[]) (mvT hZ (hw _ (List.mem_of_getElem? (i := 46) rfl)))) (mvT hZ (hw _ (List.mem_of_getElem? (i := 46) rfl))) (mvT hZ (hw _ (List.mem_of_getElem? (i := 45) rfl))) (by decide) (backOf (W := 0) (rm7 l Z a0 hw [] zo za k252 (3 : Int32) [(.ref zs0), (.ref zs1), (.ref zs2)] (2 : Int32) T366.heap n0 (own_le Z0 K374) f368 f376 f370) hZ (hw _ (List.mem_of_getElem? (i := 47) rfl)) (hw _ (List.mem_of_getElem? (i := 31) rfl)) (by decide) (by decide)) q378a q378c (g := (mkF m 213 #[.val (.int x0), .val (.int x1), .val (.int x2), .val (.int x3), .val (.int x4), .val (.int (3 : Int32)), .val (.int (2 : Int32)), .val (.ref zs0), .val (.ref zs1), .val (.ref zs2), .val (.ref za), .val (.ref zo), .val (.int (1 : Int32)), .val (.int (own_hn (2 : Int32) (3 : Int32))), .unset, .unset] [(.ref zo)])) rfl (by rw [hml]; rfl) (Steps.refl _) (argsL := []) (rest := []) (lenOf own_pd91901 rfl) rfl (by show 2 * 0 + _ ≤ _; exact Nat.le_of_eq rfl) (hb hby at_213) (fun _ _ => ⟨rfl, eq377, (by decide : 10 + 0 ≤ _), (by decide : 37 + 0 ≤ _)⟩)
      dsimp only [Pt.U, Pt.locs, Pt.cells, Pt.slots] at X378 l378 y378 z378 st378 hQ378
      subst l378 y378 z378
      obtain ⟨rfl, N378q, eq378⟩ := hQ378
      have N378 := Fr.app N377 N378q
      refine own_tr st378 ?_
      show own_WP _ _ _ _ T378 (mkF m 216 #[.val (.int x0), .val (.int x1), .val (.int x2), .val (.int x3), .val (.int x4), .val (.int (3 : Int32)), .val (.int (2 : Int32)), .val (.ref zs0), .val (.ref zs1), .val (.ref zs2), .val (.ref za), .val (.ref zo), .val (.int (1 : Int32)), .val (.int (own_hn (2 : Int32) (3 : Int32))), .unset, .unset] [(.int (own_hn (2 : Int32) (3 : Int32)))])
      refine own_go (fun t k => XS.istore X378.here hx rfl (hb hby at_216) rfl (l' := #[.val (.int x0), .val (.int x1), .val (.int x2), .val (.int x3), .val (.int x4), .val (.int (3 : Int32)), .val (.int (2 : Int32)), .val (.ref zs0), .val (.ref zs1), .val (.ref zs2), .val (.ref za), .val (.ref zo), .val (.int (1 : Int32)), .val (.int (own_hn (2 : Int32) (3 : Int32))), .val (.int (own_hn (2 : Int32) (3 : Int32))), .unset]) rfl k) ?_
      show own_WP _ _ _ _ T378 (mkF m 218 #[.val (.int x0), .val (.int x1), .val (.int x2), .val (.int x3), .val (.int x4), .val (.int (3 : Int32)), .val (.int (2 : Int32)), .val (.ref zs0), .val (.ref zs1), .val (.ref zs2), .val (.ref za), .val (.ref zo), .val (.int (1 : Int32)), .val (.int (own_hn (2 : Int32) (3 : Int32))), .val (.int (own_hn (2 : Int32) (3 : Int32))), .unset] [])
      refine own_go (fun t k => XS.iload X378.here hx rfl (hb hby at_218) rfl  k) ?_
      show own_WP _ _ _ _ T378 (mkF m 220 #[.val (.int x0), .val (.int x1), .val (.int x2), .val (.int x3), .val (.int x4), .val (.int (3 : Int32)), .val (.int (2 : Int32)), .val (.ref zs0), .val (.ref zs1), .val (.ref zs2), .val (.ref za), .val (.ref zo), .val (.int (1 : Int32)), .val (.int (own_hn (2 : Int32) (3 : Int32))), .val (.int (own_hn (2 : Int32) (3 : Int32))), .unset] [(.int (1 : Int32))])
      have hc220 : ¬ ((1 : Int32) = (0 : Int32)) := by decide
      refine own_go (fun t k => XS.ifNo X378.here hx rfl (hb hby at_220) rfl ((if0 _ _).trans (feq hc220).1) k) ?_
      show own_WP _ _ _ _ T378 (mkF m 223 #[.val (.int x0), .val (.int x1), .val (.int x2), .val (.int x3), .val (.int x4), .val (.int (3 : Int32)), .val (.int (2 : Int32)), .val (.ref zs0), .val (.ref zs1), .val (.ref zs2), .val (.ref za), .val (.ref zo), .val (.int (1 : Int32)), .val (.int (own_hn (2 : Int32) (3 : Int32))), .val (.int (own_hn (2 : Int32) (3 : Int32))), .unset] [])
      refine own_go (fun t k => XS.iload X378.here hx rfl (hb hby at_223) rfl  k) ?_
      show own_WP _ _ _ _ T378 (mkF m 225 #[.val (.int x0), .val (.int x1), .val (.int x2), .val (.int x3), .val (.int x4), .val (.int (3 : Int32)), .val (.int (2 : Int32)), .val (.ref zs0), .val (.ref zs1), .val (.ref zs2), .val (.ref za), .val (.ref zo), .val (.int (1 : Int32)), .val (.int (own_hn (2 : Int32) (3 : Int32))), .val (.int (own_hn (2 : Int32) (3 : Int32))), .unset] [(.int (own_hn (2 : Int32) (3 : Int32)))])
      refine own_go (fun t k => XS.iload X378.here hx rfl (hb hby at_225) rfl  k) ?_
      show own_WP _ _ _ _ T378 (mkF m 227 #[.val (.int x0), .val (.int x1), .val (.int x2), .val (.int x3), .val (.int x4), .val (.int (3 : Int32)), .val (.int (2 : Int32)), .val (.ref zs0), .val (.ref zs1), .val (.ref zs2), .val (.ref za), .val (.ref zo), .val (.int (1 : Int32)), .val (.int (own_hn (2 : Int32) (3 : Int32))), .val (.int (own_hn (2 : Int32) (3 : Int32))), .unset] [(.int (2 : Int32)), (.int (own_hn (2 : Int32) (3 : Int32)))])
      refine own_go (fun t k => XS.iload X378.here hx rfl (hb hby at_227) rfl  k) ?_
      show own_WP _ _ _ _ T378 (mkF m 229 #[.val (.int x0), .val (.int x1), .val (.int x2), .val (.int x3), .val (.int x4), .val (.int (3 : Int32)), .val (.int (2 : Int32)), .val (.ref zs0), .val (.ref zs1), .val (.ref zs2), .val (.ref za), .val (.ref zo), .val (.int (1 : Int32)), .val (.int (own_hn (2 : Int32) (3 : Int32))), .val (.int (own_hn (2 : Int32) (3 : Int32))), .unset] [(.int (3 : Int32)), (.int (2 : Int32)), (.int (own_hn (2 : Int32) (3 : Int32)))])
      have hc229 : (2 : Int32) < (3 : Int32) := by decide
      refine own_go (fun t k => XS.icmpNo X378.here hx rfl (hb hby at_229) rfl (tlt hc229).2.1 k) ?_
      show own_WP _ _ _ _ T378 (mkF m 232 #[.val (.int x0), .val (.int x1), .val (.int x2), .val (.int x3), .val (.int x4), .val (.int (3 : Int32)), .val (.int (2 : Int32)), .val (.ref zs0), .val (.ref zs1), .val (.ref zs2), .val (.ref za), .val (.ref zo), .val (.int (1 : Int32)), .val (.int (own_hn (2 : Int32) (3 : Int32))), .val (.int (own_hn (2 : Int32) (3 : Int32))), .unset] [(.int (own_hn (2 : Int32) (3 : Int32)))])
      refine own_go (fun t k => XS.iconst X378.here hx rfl (hb hby at_232) k) ?_
      show own_WP _ _ _ _ T378 (mkF m 233 #[.val (.int x0), .val (.int x1), .val (.int x2), .val (.int x3), .val (.int x4), .val (.int (3 : Int32)), .val (.int (2 : Int32)), .val (.ref zs0), .val (.ref zs1), .val (.ref zs2), .val (.ref za), .val (.ref zo), .val (.int (1 : Int32)), .val (.int (own_hn (2 : Int32) (3 : Int32))), .val (.int (own_hn (2 : Int32) (3 : Int32))), .unset] [(.int (1 : Int32)), (.int (own_hn (2 : Int32) (3 : Int32)))])
      refine own_go (fun t k => XS.goto X378.here hx rfl (pc0 := 233) (pc' := 237) rfl (hb hby at_233) (by decide) (by decide) k) ?_
      show own_WP _ _ _ _ T378 (mkF m 237 #[.val (.int x0), .val (.int x1), .val (.int x2), .val (.int x3), .val (.int x4), .val (.int (3 : Int32)), .val (.int (2 : Int32)), .val (.ref zs0), .val (.ref zs1), .val (.ref zs2), .val (.ref za), .val (.ref zo), .val (.int (1 : Int32)), .val (.int (own_hn (2 : Int32) (3 : Int32))), .val (.int (own_hn (2 : Int32) (3 : Int32))), .unset] [(.int (1 : Int32)), (.int (own_hn (2 : Int32) (3 : Int32)))])
      have hc237 : (own_hn (2 : Int32) (3 : Int32)) = (1 : Int32) := by
        decide
      refine own_go (fun t k => XS.icmpNo X378.here hx rfl (hb hby at_237) rfl (teq hc237).2 k) ?_
      show own_WP _ _ _ _ T378 (mkF m 240 #[.val (.int x0), .val (.int x1), .val (.int x2), .val (.int x3), .val (.int x4), .val (.int (3 : Int32)), .val (.int (2 : Int32)), .val (.ref zs0), .val (.ref zs1), .val (.ref zs2), .val (.ref za), .val (.ref zo), .val (.int (1 : Int32)), .val (.int (own_hn (2 : Int32) (3 : Int32))), .val (.int (own_hn (2 : Int32) (3 : Int32))), .unset] [])
      refine own_go (fun t k => XS.iload X378.here hx rfl (hb hby at_240) rfl  k) ?_
      show own_WP _ _ _ _ T378 (mkF m 242 #[.val (.int x0), .val (.int x1), .val (.int x2), .val (.int x3), .val (.int x4), .val (.int (3 : Int32)), .val (.int (2 : Int32)), .val (.ref zs0), .val (.ref zs1), .val (.ref zs2), .val (.ref za), .val (.ref zo), .val (.int (1 : Int32)), .val (.int (own_hn (2 : Int32) (3 : Int32))), .val (.int (own_hn (2 : Int32) (3 : Int32))), .unset] [(.int (own_hn (2 : Int32) (3 : Int32)))])
      refine own_go (fun t k => XS.iload X378.here hx rfl (hb hby at_242) rfl  k) ?_
      show own_WP _ _ _ _ T378 (mkF m 244 #[.val (.int x0), .val (.int x1), .val (.int x2), .val (.int x3), .val (.int x4), .val (.int (3 : Int32)), .val (.int (2 : Int32)), .val (.ref zs0), .val (.ref zs1), .val (.ref zs2), .val (.ref za), .val (.ref zo), .val (.int (1 : Int32)), .val (.int (own_hn (2 : Int32) (3 : Int32))), .val (.int (own_hn (2 : Int32) (3 : Int32))), .unset] [(.int (own_hn (2 : Int32) (3 : Int32))), (.int (own_hn (2 : Int32) (3 : Int32)))])
      have hc244 : (own_hn (2 : Int32) (3 : Int32)) = (own_hn (2 : Int32) (3 : Int32)) := rfl
      refine own_go (fun t k => XS.icmpNo X378.here hx rfl (hb hby at_244) rfl (teq hc244).2 k) ?_
      show own_WP _ _ _ _ T378 (mkF m 247 #[.val (.int x0), .val (.int x1), .val (.int x2), .val (.int x3), .val (.int x4), .val (.int (3 : Int32)), .val (.int (2 : Int32)), .val (.ref zs0), .val (.ref zs1), .val (.ref zs2), .val (.ref za), .val (.ref zo), .val (.int (1 : Int32)), .val (.int (own_hn (2 : Int32) (3 : Int32))), .val (.int (own_hn (2 : Int32) (3 : Int32))), .unset] [])
      refine own_go (fun t k => XS.iconst X378.here hx rfl (hb hby at_247) k) ?_
      show own_WP _ _ _ _ T378 (mkF m 248 #[.val (.int x0), .val (.int x1), .val (.int x2), .val (.int x3), .val (.int x4), .val (.int (3 : Int32)), .val (.int (2 : Int32)), .val (.ref zs0), .val (.ref zs1), .val (.ref zs2), .val (.ref za), .val (.ref zo), .val (.int (1 : Int32)), .val (.int (own_hn (2 : Int32) (3 : Int32))), .val (.int (own_hn (2 : Int32) (3 : Int32))), .unset] [(.int (1 : Int32))])
      refine own_go (fun t k => XS.goto X378.here hx rfl (pc0 := 248) (pc' := 252) rfl (hb hby at_248) (by decide) (by decide) k) ?_
      show own_WP _ _ _ _ T378 (mkF m 252 #[.val (.int x0), .val (.int x1), .val (.int x2), .val (.int x3), .val (.int x4), .val (.int (3 : Int32)), .val (.int (2 : Int32)), .val (.ref zs0), .val (.ref zs1), .val (.ref zs2), .val (.ref za), .val (.ref zo), .val (.int (1 : Int32)), .val (.int (own_hn (2 : Int32) (3 : Int32))), .val (.int (own_hn (2 : Int32) (3 : Int32))), .unset] [(.int (1 : Int32))])
      refine own_go (fun t k => XS.istore X378.here hx rfl (hb hby at_252) rfl (l' := #[.val (.int x0), .val (.int x1), .val (.int x2), .val (.int x3), .val (.int x4), .val (.int (3 : Int32)), .val (.int (2 : Int32)), .val (.ref zs0), .val (.ref zs1), .val (.ref zs2), .val (.ref za), .val (.ref zo), .val (.int (1 : Int32)), .val (.int (own_hn (2 : Int32) (3 : Int32))), .val (.int (own_hn (2 : Int32) (3 : Int32))), .unset]) rfl k) ?_
      show own_WP _ _ _ _ T378 (mkF m 254 #[.val (.int x0), .val (.int x1), .val (.int x2), .val (.int x3), .val (.int x4), .val (.int (3 : Int32)), .val (.int (2 : Int32)), .val (.ref zs0), .val (.ref zs1), .val (.ref zs2), .val (.ref za), .val (.ref zo), .val (.int (1 : Int32)), .val (.int (own_hn (2 : Int32) (3 : Int32))), .val (.int (own_hn (2 : Int32) (3 : Int32))), .unset] [])
      refine own_go (fun t k => XS.iload X378.here hx rfl (hb hby at_254) rfl  k) ?_
      show own_WP _ _ _ _ T378 (mkF m 256 #[.val (.int x0), .val (.int x1), .val (.int x2), .val (.int x3), .val (.int x4), .val (.int (3 : Int32)), .val (.int (2 : Int32)), .val (.ref zs0), .val (.ref zs1), .val (.ref zs2), .val (.ref za), .val (.ref zo), .val (.int (1 : Int32)), .val (.int (own_hn (2 : Int32) (3 : Int32))), .val (.int (own_hn (2 : Int32) (3 : Int32))), .unset] [(.int (2 : Int32))])
      refine own_go (fun t k => XS.iload X378.here hx rfl (hb hby at_256) rfl  k) ?_
      show own_WP _ _ _ _ T378 (mkF m 258 #[.val (.int x0), .val (.int x1), .val (.int x2), .val (.int x3), .val (.int x4), .val (.int (3 : Int32)), .val (.int (2 : Int32)), .val (.ref zs0), .val (.ref zs1), .val (.ref zs2), .val (.ref za), .val (.ref zo), .val (.int (1 : Int32)), .val (.int (own_hn (2 : Int32) (3 : Int32))), .val (.int (own_hn (2 : Int32) (3 : Int32))), .unset] [(.int (3 : Int32)), (.int (2 : Int32))])
      have hc258 : (2 : Int32) < (3 : Int32) := by decide
      refine own_go (fun t k => XS.icmpNo X378.here hx rfl (hb hby at_258) rfl (tlt hc258).2.1 k) ?_
      show own_WP _ _ _ _ T378 (mkF m 261 #[.val (.int x0), .val (.int x1), .val (.int x2), .val (.int x3), .val (.int x4), .val (.int (3 : Int32)), .val (.int (2 : Int32)), .val (.ref zs0), .val (.ref zs1), .val (.ref zs2), .val (.ref za), .val (.ref zo), .val (.int (1 : Int32)), .val (.int (own_hn (2 : Int32) (3 : Int32))), .val (.int (own_hn (2 : Int32) (3 : Int32))), .unset] [])
      refine own_go (fun t k => XS.aload X378.here hx rfl (hb hby at_261) rfl rfl  k) ?_
      show own_WP _ _ _ _ T378 (mkF m 263 #[.val (.int x0), .val (.int x1), .val (.int x2), .val (.int x3), .val (.int x4), .val (.int (3 : Int32)), .val (.int (2 : Int32)), .val (.ref zs0), .val (.ref zs1), .val (.ref zs2), .val (.ref za), .val (.ref zo), .val (.int (1 : Int32)), .val (.int (own_hn (2 : Int32) (3 : Int32))), .val (.int (own_hn (2 : Int32) (3 : Int32))), .unset] [(.ref zo)])
      obtain ⟨cq379, kq379, q379a, q379b, q379c⟩ := isOf hZ eq378 f367
      obtain ⟨_, _, ⟨T379, L379, k379, n379⟩, -, X379, ⟨Lc379, hQ379, l379, y379, z379⟩, st379⟩ := X378.virtualBack hx (y := (⟨"branchwork/Arguments", "next", "()Ljava/lang/String;"⟩ : MethodName)) (z := (⟨"branchwork/Arguments", "next", "()Ljava/lang/String;"⟩ : MethodName)) hown (mvT hZ (hw _ (List.mem_of_getElem? (i := 50) rfl))) (mvT hZ (hw _ (List.mem_of_getElem? (i := 51) rfl))) (notFace_of_selects (args := #[]) (mvT hZ (hw _ (List.mem_of_getElem? (i := 53) rfl)))) (mvT hZ (hw _ (List.mem_of_getElem? (i := 53) rfl))) (mvT hZ (hw _ (List.mem_of_getElem? (i := 52) rfl))) (by decide) (backOf (W := 0) (rm8 l Z a0 hw [] zo za k252 (3 : Int32) [(.ref zs0), (.ref zs1), (.ref zs2)] (2 : Int32) zs2 T366.heap n0 (own_le Z0 K374) f367 f368 f376 f370 g_zo (Ne.symm ne_za_zo) (show ¬ (2 : Int32) < 0 ∧ (2 : Int32) < (3 : Int32) from ⟨by decide, by decide⟩) (show List.getD (α := Value) [(.ref zs0), (.ref zs1), (.ref zs2)] (2 : Int32).toNatClampNeg Value.null = Value.ref zs2 from rfl)) hZ (hw _ (List.mem_of_getElem? (i := 54) rfl)) (hw _ (List.mem_of_getElem? (i := 31) rfl)) (by decide) (by decide)) q379a q379c (g := (mkF m 263 #[.val (.int x0), .val (.int x1), .val (.int x2), .val (.int x3), .val (.int x4), .val (.int (3 : Int32)), .val (.int (2 : Int32)), .val (.ref zs0), .val (.ref zs1), .val (.ref zs2), .val (.ref za), .val (.ref zo), .val (.int (1 : Int32)), .val (.int (own_hn (2 : Int32) (3 : Int32))), .val (.int (own_hn (2 : Int32) (3 : Int32))), .unset] [(.ref zo)])) rfl (by rw [hml]; rfl) (Steps.refl _) (argsL := []) (rest := []) (lenOf own_pd53319 rfl) rfl (by show 2 * 0 + _ ≤ _; exact Nat.le_of_eq rfl) (hb hby at_263) (fun _ _ => ⟨rfl, eq378, (by decide : 10 + 0 ≤ _), (by decide : 37 + 0 ≤ _)⟩)
      dsimp only [Pt.U, Pt.locs, Pt.cells, Pt.slots] at X379 l379 y379 z379 st379 hQ379
      subst l379 y379 z379
      obtain ⟨rfl, N379q, Kc379, f380, f381, f382⟩ := hQ379
      have N379 := Fr.app N378 N379q
      refine own_tr st379 ?_
      have f383 : Arv Z T379.heap za k252 (.object "java/lang/String") (3 : Int32) [(.ref zs0), (.ref zs1), (.ref zs2)] .null := f370.keep Kc379 (own_nm ne_za_zo)
      have f384 : Exa Z T379.heap zo "branchwork/Arguments" := f367.keep Kc379
      have K387 : Keep h0 T379.heap [] := K374.trans Kc379 (fun x hx => by cases List.mem_singleton.mp hx; exact Or.inr sz_zo)
      have kz388 : k291 ≤ T379.heap.size := Nat.le_trans kz375 Kc379.1
      have f389 : Fld Z T379.heap zo "branchwork/Arguments" "next" "I" (.int (3 : Int32)) := f382
      show own_WP _ _ _ _ T379 (mkF m 266 #[.val (.int x0), .val (.int x1), .val (.int x2), .val (.int x3), .val (.int x4), .val (.int (3 : Int32)), .val (.int (2 : Int32)), .val (.ref zs0), .val (.ref zs1), .val (.ref zs2), .val (.ref za), .val (.ref zo), .val (.int (1 : Int32)), .val (.int (own_hn (2 : Int32) (3 : Int32))), .val (.int (own_hn (2 : Int32) (3 : Int32))), .unset] [(.ref zs2)])
      refine own_go (fun t k => XS.astore X379.here hx rfl (hb hby at_266) rfl rfl (l' := #[.val (.int x0), .val (.int x1), .val (.int x2), .val (.int x3), .val (.int x4), .val (.int (3 : Int32)), .val (.int (2 : Int32)), .val (.ref zs0), .val (.ref zs1), .val (.ref zs2), .val (.ref za), .val (.ref zo), .val (.int (1 : Int32)), .val (.int (own_hn (2 : Int32) (3 : Int32))), .val (.int (own_hn (2 : Int32) (3 : Int32))), .val (.ref zs2)]) rfl k) ?_
      show own_WP _ _ _ _ T379 (mkF m 268 #[.val (.int x0), .val (.int x1), .val (.int x2), .val (.int x3), .val (.int x4), .val (.int (3 : Int32)), .val (.int (2 : Int32)), .val (.ref zs0), .val (.ref zs1), .val (.ref zs2), .val (.ref za), .val (.ref zo), .val (.int (1 : Int32)), .val (.int (own_hn (2 : Int32) (3 : Int32))), .val (.int (own_hn (2 : Int32) (3 : Int32))), .val (.ref zs2)] [])
      refine own_go (fun t k => XS.iload X379.here hx rfl (hb hby at_268) rfl  k) ?_
      show own_WP _ _ _ _ T379 (mkF m 270 #[.val (.int x0), .val (.int x1), .val (.int x2), .val (.int x3), .val (.int x4), .val (.int (3 : Int32)), .val (.int (2 : Int32)), .val (.ref zs0), .val (.ref zs1), .val (.ref zs2), .val (.ref za), .val (.ref zo), .val (.int (1 : Int32)), .val (.int (own_hn (2 : Int32) (3 : Int32))), .val (.int (own_hn (2 : Int32) (3 : Int32))), .val (.ref zs2)] [(.int (1 : Int32))])
      have hc270 : ¬ ((1 : Int32) = (0 : Int32)) := by decide
      refine own_go (fun t k => XS.ifNo X379.here hx rfl (hb hby at_270) rfl ((if0 _ _).trans (feq hc270).1) k) ?_
      show own_WP _ _ _ _ T379 (mkF m 273 #[.val (.int x0), .val (.int x1), .val (.int x2), .val (.int x3), .val (.int x4), .val (.int (3 : Int32)), .val (.int (2 : Int32)), .val (.ref zs0), .val (.ref zs1), .val (.ref zs2), .val (.ref za), .val (.ref zo), .val (.int (1 : Int32)), .val (.int (own_hn (2 : Int32) (3 : Int32))), .val (.int (own_hn (2 : Int32) (3 : Int32))), .val (.ref zs2)] [])
      refine own_go (fun t k => XS.aload X379.here hx rfl (hb hby at_273) rfl rfl  k) ?_
      show own_WP _ _ _ _ T379 (mkF m 275 #[.val (.int x0), .val (.int x1), .val (.int x2), .val (.int x3), .val (.int x4), .val (.int (3 : Int32)), .val (.int (2 : Int32)), .val (.ref zs0), .val (.ref zs1), .val (.ref zs2), .val (.ref za), .val (.ref zo), .val (.int (1 : Int32)), .val (.int (own_hn (2 : Int32) (3 : Int32))), .val (.int (own_hn (2 : Int32) (3 : Int32))), .val (.ref zs2)] [(.ref zs2)])
      refine own_go (fun t k => XS.aload X379.here hx rfl (hb hby at_275) rfl rfl  k) ?_
      show own_WP _ _ _ _ T379 (mkF m 277 #[.val (.int x0), .val (.int x1), .val (.int x2), .val (.int x3), .val (.int x4), .val (.int (3 : Int32)), .val (.int (2 : Int32)), .val (.ref zs0), .val (.ref zs1), .val (.ref zs2), .val (.ref za), .val (.ref zo), .val (.int (1 : Int32)), .val (.int (own_hn (2 : Int32) (3 : Int32))), .val (.int (own_hn (2 : Int32) (3 : Int32))), .val (.ref zs2)] [(.ref za), (.ref zs2)])
      refine own_go (fun t k => XS.iload X379.here hx rfl (hb hby at_277) rfl  k) ?_
      show own_WP _ _ _ _ T379 (mkF m 279 #[.val (.int x0), .val (.int x1), .val (.int x2), .val (.int x3), .val (.int x4), .val (.int (3 : Int32)), .val (.int (2 : Int32)), .val (.ref zs0), .val (.ref zs1), .val (.ref zs2), .val (.ref za), .val (.ref zo), .val (.int (1 : Int32)), .val (.int (own_hn (2 : Int32) (3 : Int32))), .val (.int (own_hn (2 : Int32) (3 : Int32))), .val (.ref zs2)] [(.int (2 : Int32)), (.ref za), (.ref zs2)])
      refine own_ldR X379 hx hZ rfl rfl f383 (j := (2 : Int32)) (w := (.ref zs2)) ⟨by decide, by decide⟩ rfl (hb hby at_279) ?_
      show own_WP _ _ _ _ T379 (mkF m 280 #[.val (.int x0), .val (.int x1), .val (.int x2), .val (.int x3), .val (.int x4), .val (.int (3 : Int32)), .val (.int (2 : Int32)), .val (.ref zs0), .val (.ref zs1), .val (.ref zs2), .val (.ref za), .val (.ref zo), .val (.int (1 : Int32)), .val (.int (own_hn (2 : Int32) (3 : Int32))), .val (.int (own_hn (2 : Int32) (3 : Int32))), .val (.ref zs2)] [(.ref zs2), (.ref zs2)])
      refine own_go (fun t k => Jvm.RoadKit.acmp (g := (mkF m 280 #[.val (.int x0), .val (.int x1), .val (.int x2), .val (.int x3), .val (.int x4), .val (.int (3 : Int32)), .val (.int (2 : Int32)), .val (.ref zs0), .val (.ref zs1), .val (.ref zs2), .val (.ref za), .val (.ref zo), .val (.int (1 : Int32)), .val (.int (own_hn (2 : Int32) (3 : Int32))), .val (.int (own_hn (2 : Int32) (3 : Int32))), .val (.ref zs2)] [(.ref zs2), (.ref zs2)])) X379 hx rfl rfl rfl (pc0 := 280) (pc' := 283) (same := true) rfl (hb hby at_280) rfl (decide_eq_true rfl) (by decide) (by decide) k) ?_
      show own_WP _ _ _ _ T379 (mkF m 283 #[.val (.int x0), .val (.int x1), .val (.int x2), .val (.int x3), .val (.int x4), .val (.int (3 : Int32)), .val (.int (2 : Int32)), .val (.ref zs0), .val (.ref zs1), .val (.ref zs2), .val (.ref za), .val (.ref zo), .val (.int (1 : Int32)), .val (.int (own_hn (2 : Int32) (3 : Int32))), .val (.int (own_hn (2 : Int32) (3 : Int32))), .val (.ref zs2)] [])
      refine own_go (fun t k => XS.aload X379.here hx rfl (hb hby at_283) rfl rfl  k) ?_
      show own_WP _ _ _ _ T379 (mkF m 285 #[.val (.int x0), .val (.int x1), .val (.int x2), .val (.int x3), .val (.int x4), .val (.int (3 : Int32)), .val (.int (2 : Int32)), .val (.ref zs0), .val (.ref zs1), .val (.ref zs2), .val (.ref za), .val (.ref zo), .val (.int (1 : Int32)), .val (.int (own_hn (2 : Int32) (3 : Int32))), .val (.int (own_hn (2 : Int32) (3 : Int32))), .val (.ref zs2)] [(.ref zo)])
      obtain ⟨cq390, kq390, q390a, q390b, q390c⟩ := isOf hZ rfl f380
      obtain ⟨_, _, ⟨T390, L390, k390, n390⟩, -, X390, ⟨Lc390, hQ390, l390, y390, z390⟩, st390⟩ := X379.virtualBack hx (y := (⟨"branchwork/Arguments", "hasNext", "()Z"⟩ : MethodName)) (z := (⟨"branchwork/Arguments", "hasNext", "()Z"⟩ : MethodName)) hown (mvT hZ (hw _ (List.mem_of_getElem? (i := 43) rfl))) (mvT hZ (hw _ (List.mem_of_getElem? (i := 44) rfl))) (notFace_of_selects (args := #[]) (mvT hZ (hw _ (List.mem_of_getElem? (i := 46) rfl)))) (mvT hZ (hw _ (List.mem_of_getElem? (i := 46) rfl))) (mvT hZ (hw _ (List.mem_of_getElem? (i := 45) rfl))) (by decide) (backOf (W := 0) (rm7 l Z a0 hw [] zo za k252 (3 : Int32) [(.ref zs0), (.ref zs1), (.ref zs2)] (3 : Int32) T379.heap n0 (own_le Z0 K387) f381 f389 f383) hZ (hw _ (List.mem_of_getElem? (i := 47) rfl)) (hw _ (List.mem_of_getElem? (i := 31) rfl)) (by decide) (by decide)) q390a q390c (g := (mkF m 285 #[.val (.int x0), .val (.int x1), .val (.int x2), .val (.int x3), .val (.int x4), .val (.int (3 : Int32)), .val (.int (2 : Int32)), .val (.ref zs0), .val (.ref zs1), .val (.ref zs2), .val (.ref za), .val (.ref zo), .val (.int (1 : Int32)), .val (.int (own_hn (2 : Int32) (3 : Int32))), .val (.int (own_hn (2 : Int32) (3 : Int32))), .val (.ref zs2)] [(.ref zo)])) rfl (by rw [hml]; rfl) (Steps.refl _) (argsL := []) (rest := []) (lenOf own_pd91901 rfl) rfl (by show 2 * 0 + _ ≤ _; exact Nat.le_of_eq rfl) (hb hby at_285) (fun _ _ => ⟨rfl, rfl, (by decide : 10 + 0 ≤ _), (by decide : 37 + 0 ≤ _)⟩)
      dsimp only [Pt.U, Pt.locs, Pt.cells, Pt.slots] at X390 l390 y390 z390 st390 hQ390
      subst l390 y390 z390
      obtain ⟨rfl, N390q, eq390⟩ := hQ390
      have N390 := Fr.app N379 N390q
      refine own_tr st390 ?_
      show own_WP _ _ _ _ T390 (mkF m 288 #[.val (.int x0), .val (.int x1), .val (.int x2), .val (.int x3), .val (.int x4), .val (.int (3 : Int32)), .val (.int (2 : Int32)), .val (.ref zs0), .val (.ref zs1), .val (.ref zs2), .val (.ref za), .val (.ref zo), .val (.int (1 : Int32)), .val (.int (own_hn (2 : Int32) (3 : Int32))), .val (.int (own_hn (2 : Int32) (3 : Int32))), .val (.ref zs2)] [(.int (own_hn (3 : Int32) (3 : Int32)))])
      refine own_go (fun t k => XS.iload X390.here hx rfl (hb hby at_288) rfl  k) ?_
      show own_WP _ _ _ _ T390 (mkF m 290 #[.val (.int x0), .val (.int x1), .val (.int x2), .val (.int x3), .val (.int x4), .val (.int (3 : Int32)), .val (.int (2 : Int32)), .val (.ref zs0), .val (.ref zs1), .val (.ref zs2), .val (.ref za), .val (.ref zo), .val (.int (1 : Int32)), .val (.int (own_hn (2 : Int32) (3 : Int32))), .val (.int (own_hn (2 : Int32) (3 : Int32))), .val (.ref zs2)] [(.int (2 : Int32)), (.int (own_hn (3 : Int32) (3 : Int32)))])
      refine own_go (fun t k => XS.iconst X390.here hx rfl (hb hby at_290) k) ?_
      show own_WP _ _ _ _ T390 (mkF m 291 #[.val (.int x0), .val (.int x1), .val (.int x2), .val (.int x3), .val (.int x4), .val (.int (3 : Int32)), .val (.int (2 : Int32)), .val (.ref zs0), .val (.ref zs1), .val (.ref zs2), .val (.ref za), .val (.ref zo), .val (.int (1 : Int32)), .val (.int (own_hn (2 : Int32) (3 : Int32))), .val (.int (own_hn (2 : Int32) (3 : Int32))), .val (.ref zs2)] [(.int (1 : Int32)), (.int (2 : Int32)), (.int (own_hn (3 : Int32) (3 : Int32)))])
      refine own_go (fun t k => XS.iadd X390.here hx rfl (hb hby at_291) rfl k) ?_
      show own_WP _ _ _ _ T390 (mkF m 292 #[.val (.int x0), .val (.int x1), .val (.int x2), .val (.int x3), .val (.int x4), .val (.int (3 : Int32)), .val (.int (2 : Int32)), .val (.ref zs0), .val (.ref zs1), .val (.ref zs2), .val (.ref za), .val (.ref zo), .val (.int (1 : Int32)), .val (.int (own_hn (2 : Int32) (3 : Int32))), .val (.int (own_hn (2 : Int32) (3 : Int32))), .val (.ref zs2)] [(.int ((2 : Int32) + (1 : Int32))), (.int (own_hn (3 : Int32) (3 : Int32)))])
      rw [show ((2 : Int32) + (1 : Int32)) = (3 : Int32) from by decide]
      show own_WP _ _ _ _ T390 (mkF m 292 #[.val (.int x0), .val (.int x1), .val (.int x2), .val (.int x3), .val (.int x4), .val (.int (3 : Int32)), .val (.int (2 : Int32)), .val (.ref zs0), .val (.ref zs1), .val (.ref zs2), .val (.ref za), .val (.ref zo), .val (.int (1 : Int32)), .val (.int (own_hn (2 : Int32) (3 : Int32))), .val (.int (own_hn (2 : Int32) (3 : Int32))), .val (.ref zs2)] [(.int (3 : Int32)), (.int (own_hn (3 : Int32) (3 : Int32)))])
      refine own_go (fun t k => XS.iload X390.here hx rfl (hb hby at_292) rfl  k) ?_
      show own_WP _ _ _ _ T390 (mkF m 294 #[.val (.int x0), .val (.int x1), .val (.int x2), .val (.int x3), .val (.int x4), .val (.int (3 : Int32)), .val (.int (2 : Int32)), .val (.ref zs0), .val (.ref zs1), .val (.ref zs2), .val (.ref za), .val (.ref zo), .val (.int (1 : Int32)), .val (.int (own_hn (2 : Int32) (3 : Int32))), .val (.int (own_hn (2 : Int32) (3 : Int32))), .val (.ref zs2)] [(.int (3 : Int32)), (.int (3 : Int32)), (.int (own_hn (3 : Int32) (3 : Int32)))])
      have hc294 : ¬ ((3 : Int32) < (3 : Int32)) := by decide
      refine own_go (fun t k => XS.icmpYes X390.here hx rfl (pc0 := 294) (pc' := 301) rfl (hb hby at_294) rfl (flt hc294).2.1 (by decide) (by decide) k) ?_
      show own_WP _ _ _ _ T390 (mkF m 301 #[.val (.int x0), .val (.int x1), .val (.int x2), .val (.int x3), .val (.int x4), .val (.int (3 : Int32)), .val (.int (2 : Int32)), .val (.ref zs0), .val (.ref zs1), .val (.ref zs2), .val (.ref za), .val (.ref zo), .val (.int (1 : Int32)), .val (.int (own_hn (2 : Int32) (3 : Int32))), .val (.int (own_hn (2 : Int32) (3 : Int32))), .val (.ref zs2)] [(.int (own_hn (3 : Int32) (3 : Int32)))])
      refine own_go (fun t k => XS.iconst X390.here hx rfl (hb hby at_301) k) ?_
      show own_WP _ _ _ _ T390 (mkF m 302 #[.val (.int x0), .val (.int x1), .val (.int x2), .val (.int x3), .val (.int x4), .val (.int (3 : Int32)), .val (.int (2 : Int32)), .val (.ref zs0), .val (.ref zs1), .val (.ref zs2), .val (.ref za), .val (.ref zo), .val (.int (1 : Int32)), .val (.int (own_hn (2 : Int32) (3 : Int32))), .val (.int (own_hn (2 : Int32) (3 : Int32))), .val (.ref zs2)] [(.int (0 : Int32)), (.int (own_hn (3 : Int32) (3 : Int32)))])
      have hc302 : (own_hn (3 : Int32) (3 : Int32)) = (0 : Int32) := by
        decide
      refine own_go (fun t k => XS.icmpNo X390.here hx rfl (hb hby at_302) rfl (teq hc302).2 k) ?_
      show own_WP _ _ _ _ T390 (mkF m 305 #[.val (.int x0), .val (.int x1), .val (.int x2), .val (.int x3), .val (.int x4), .val (.int (3 : Int32)), .val (.int (2 : Int32)), .val (.ref zs0), .val (.ref zs1), .val (.ref zs2), .val (.ref za), .val (.ref zo), .val (.int (1 : Int32)), .val (.int (own_hn (2 : Int32) (3 : Int32))), .val (.int (own_hn (2 : Int32) (3 : Int32))), .val (.ref zs2)] [])
      refine own_go (fun t k => XS.iconst X390.here hx rfl (hb hby at_305) k) ?_
      show own_WP _ _ _ _ T390 (mkF m 306 #[.val (.int x0), .val (.int x1), .val (.int x2), .val (.int x3), .val (.int x4), .val (.int (3 : Int32)), .val (.int (2 : Int32)), .val (.ref zs0), .val (.ref zs1), .val (.ref zs2), .val (.ref za), .val (.ref zo), .val (.int (1 : Int32)), .val (.int (own_hn (2 : Int32) (3 : Int32))), .val (.int (own_hn (2 : Int32) (3 : Int32))), .val (.ref zs2)] [(.int (1 : Int32))])
      refine own_go (fun t k => XS.goto X390.here hx rfl (pc0 := 306) (pc' := 310) rfl (hb hby at_306) (by decide) (by decide) k) ?_
      show own_WP _ _ _ _ T390 (mkF m 310 #[.val (.int x0), .val (.int x1), .val (.int x2), .val (.int x3), .val (.int x4), .val (.int (3 : Int32)), .val (.int (2 : Int32)), .val (.ref zs0), .val (.ref zs1), .val (.ref zs2), .val (.ref za), .val (.ref zo), .val (.int (1 : Int32)), .val (.int (own_hn (2 : Int32) (3 : Int32))), .val (.int (own_hn (2 : Int32) (3 : Int32))), .val (.ref zs2)] [(.int (1 : Int32))])
      refine own_go (fun t k => XS.istore X390.here hx rfl (hb hby at_310) rfl (l' := #[.val (.int x0), .val (.int x1), .val (.int x2), .val (.int x3), .val (.int x4), .val (.int (3 : Int32)), .val (.int (2 : Int32)), .val (.ref zs0), .val (.ref zs1), .val (.ref zs2), .val (.ref za), .val (.ref zo), .val (.int (1 : Int32)), .val (.int (own_hn (2 : Int32) (3 : Int32))), .val (.int (own_hn (2 : Int32) (3 : Int32))), .val (.ref zs2)]) rfl k) ?_
      show own_WP _ _ _ _ T390 (mkF m 312 #[.val (.int x0), .val (.int x1), .val (.int x2), .val (.int x3), .val (.int x4), .val (.int (3 : Int32)), .val (.int (2 : Int32)), .val (.ref zs0), .val (.ref zs1), .val (.ref zs2), .val (.ref za), .val (.ref zo), .val (.int (1 : Int32)), .val (.int (own_hn (2 : Int32) (3 : Int32))), .val (.int (own_hn (2 : Int32) (3 : Int32))), .val (.ref zs2)] [])
      refine own_go (fun t k => XS.iload X390.here hx rfl (hb hby at_312) rfl  k) ?_
      show own_WP _ _ _ _ T390 (mkF m 314 #[.val (.int x0), .val (.int x1), .val (.int x2), .val (.int x3), .val (.int x4), .val (.int (3 : Int32)), .val (.int (2 : Int32)), .val (.ref zs0), .val (.ref zs1), .val (.ref zs2), .val (.ref za), .val (.ref zo), .val (.int (1 : Int32)), .val (.int (own_hn (2 : Int32) (3 : Int32))), .val (.int (own_hn (2 : Int32) (3 : Int32))), .val (.ref zs2)] [(.int (1 : Int32))])
      refine own_retNW X390 hS291 (by rw [eq390]; exact kz388) hx Bd.notSynchronized (t := .boolean) (by simp) Bd.returns (hb hby at_314) (by decide) (by decide) ?_
      rw [eq390]
      exact ⟨rfl, N390⟩
    · subst hk
      show own_WP _ _ _ _ T315 (mkF m 168 #[.val (.int x0), .val (.int x1), .val (.int x2), .val (.int x3), .val (.int x4), .val (.int (3 : Int32)), .val (.int (3 : Int32)), .val (.ref zs0), .val (.ref zs1), .val (.ref zs2), .val (.ref za), .val (.ref zo), .val (.int (1 : Int32)), .unset, .unset, .unset] [])
      refine own_go (fun t k => XS.iload X315.here hx rfl (hb hby at_168) rfl  k) ?_
      show own_WP _ _ _ _ T315 (mkF m 170 #[.val (.int x0), .val (.int x1), .val (.int x2), .val (.int x3), .val (.int x4), .val (.int (3 : Int32)), .val (.int (3 : Int32)), .val (.ref zs0), .val (.ref zs1), .val (.ref zs2), .val (.ref za), .val (.ref zo), .val (.int (1 : Int32)), .unset, .unset, .unset] [(.int (3 : Int32))])
      refine own_go (fun t k => XS.iconst X315.here hx rfl (hb hby at_170) k) ?_
      show own_WP _ _ _ _ T315 (mkF m 171 #[.val (.int x0), .val (.int x1), .val (.int x2), .val (.int x3), .val (.int x4), .val (.int (3 : Int32)), .val (.int (3 : Int32)), .val (.ref zs0), .val (.ref zs1), .val (.ref zs2), .val (.ref za), .val (.ref zo), .val (.int (1 : Int32)), .unset, .unset, .unset] [(.int (1 : Int32)), (.int (3 : Int32))])
      have hc171 : ¬ ((3 : Int32) < (1 : Int32)) := by decide
      refine own_go (fun t k => XS.icmpNo X315.here hx rfl (hb hby at_171) rfl (flt hc171).1 k) ?_
      show own_WP _ _ _ _ T315 (mkF m 174 #[.val (.int x0), .val (.int x1), .val (.int x2), .val (.int x3), .val (.int x4), .val (.int (3 : Int32)), .val (.int (3 : Int32)), .val (.ref zs0), .val (.ref zs1), .val (.ref zs2), .val (.ref za), .val (.ref zo), .val (.int (1 : Int32)), .unset, .unset, .unset] [])
      refine own_go (fun t k => XS.aload X315.here hx rfl (hb hby at_174) rfl rfl  k) ?_
      show own_WP _ _ _ _ T315 (mkF m 176 #[.val (.int x0), .val (.int x1), .val (.int x2), .val (.int x3), .val (.int x4), .val (.int (3 : Int32)), .val (.int (3 : Int32)), .val (.ref zs0), .val (.ref zs1), .val (.ref zs2), .val (.ref za), .val (.ref zo), .val (.int (1 : Int32)), .unset, .unset, .unset] [(.ref zo)])
      obtain ⟨cq391, kq391, q391a, q391b, q391c⟩ := isOf hZ eq315 f302
      obtain ⟨_, _, ⟨T391, L391, k391, n391⟩, -, X391, ⟨Lc391, hQ391, l391, y391, z391⟩, st391⟩ := X315.virtualBack hx (y := (⟨"branchwork/Arguments", "next", "()Ljava/lang/String;"⟩ : MethodName)) (z := (⟨"branchwork/Arguments", "next", "()Ljava/lang/String;"⟩ : MethodName)) hown (mvT hZ (hw _ (List.mem_of_getElem? (i := 50) rfl))) (mvT hZ (hw _ (List.mem_of_getElem? (i := 51) rfl))) (notFace_of_selects (args := #[]) (mvT hZ (hw _ (List.mem_of_getElem? (i := 53) rfl)))) (mvT hZ (hw _ (List.mem_of_getElem? (i := 53) rfl))) (mvT hZ (hw _ (List.mem_of_getElem? (i := 52) rfl))) (by decide) (backOf (W := 0) (rm8 l Z a0 hw [] zo za k252 (3 : Int32) [(.ref zs0), (.ref zs1), (.ref zs2)] (0 : Int32) zs0 T301.heap n0 (own_le Z0 K313) f302 f303 f304 f308 g_zo (Ne.symm ne_za_zo) (show ¬ (0 : Int32) < 0 ∧ (0 : Int32) < (3 : Int32) from ⟨by decide, by decide⟩) (show List.getD (α := Value) [(.ref zs0), (.ref zs1), (.ref zs2)] (0 : Int32).toNatClampNeg Value.null = Value.ref zs0 from rfl)) hZ (hw _ (List.mem_of_getElem? (i := 54) rfl)) (hw _ (List.mem_of_getElem? (i := 31) rfl)) (by decide) (by decide)) q391a q391c (g := (mkF m 176 #[.val (.int x0), .val (.int x1), .val (.int x2), .val (.int x3), .val (.int x4), .val (.int (3 : Int32)), .val (.int (3 : Int32)), .val (.ref zs0), .val (.ref zs1), .val (.ref zs2), .val (.ref za), .val (.ref zo), .val (.int (1 : Int32)), .unset, .unset, .unset] [(.ref zo)])) rfl (by rw [hml]; rfl) (Steps.refl _) (argsL := []) (rest := []) (lenOf own_pd53319 rfl) rfl (by show 2 * 0 + _ ≤ _; exact Nat.le_of_eq rfl) (hb hby at_176) (fun _ _ => ⟨rfl, eq315, (by decide : 10 + 0 ≤ _), (by decide : 37 + 0 ≤ _)⟩)
      dsimp only [Pt.U, Pt.locs, Pt.cells, Pt.slots] at X391 l391 y391 z391 st391 hQ391
      subst l391 y391 z391
      obtain ⟨rfl, N391q, Kc391, f392, f393, f394⟩ := hQ391
      have N391 := Fr.app N315 N391q
      refine own_tr st391 ?_
      have f395 : Arv Z T391.heap za k252 (.object "java/lang/String") (3 : Int32) [(.ref zs0), (.ref zs1), (.ref zs2)] .null := f308.keep Kc391 (own_nm ne_za_zo)
      have f396 : Exa Z T391.heap zo "branchwork/Arguments" := f302.keep Kc391
      have K399 : Keep h0 T391.heap [] := K313.trans Kc391 (fun x hx => by cases List.mem_singleton.mp hx; exact Or.inr sz_zo)
      have kz400 : k291 ≤ T391.heap.size := Nat.le_trans kz314 Kc391.1
      have f401 : Fld Z T391.heap zo "branchwork/Arguments" "next" "I" (.int (1 : Int32)) := f394
      show own_WP _ _ _ _ T391 (mkF m 179 #[.val (.int x0), .val (.int x1), .val (.int x2), .val (.int x3), .val (.int x4), .val (.int (3 : Int32)), .val (.int (3 : Int32)), .val (.ref zs0), .val (.ref zs1), .val (.ref zs2), .val (.ref za), .val (.ref zo), .val (.int (1 : Int32)), .unset, .unset, .unset] [(.ref zs0)])
      refine own_go (fun t k => XS.pop X391.here hx rfl (hb hby at_179) rfl rfl k) ?_
      show own_WP _ _ _ _ T391 (mkF m 180 #[.val (.int x0), .val (.int x1), .val (.int x2), .val (.int x3), .val (.int x4), .val (.int (3 : Int32)), .val (.int (3 : Int32)), .val (.ref zs0), .val (.ref zs1), .val (.ref zs2), .val (.ref za), .val (.ref zo), .val (.int (1 : Int32)), .unset, .unset, .unset] [])
      refine own_go (fun t k => XS.iload X391.here hx rfl (hb hby at_180) rfl  k) ?_
      show own_WP _ _ _ _ T391 (mkF m 182 #[.val (.int x0), .val (.int x1), .val (.int x2), .val (.int x3), .val (.int x4), .val (.int (3 : Int32)), .val (.int (3 : Int32)), .val (.ref zs0), .val (.ref zs1), .val (.ref zs2), .val (.ref za), .val (.ref zo), .val (.int (1 : Int32)), .unset, .unset, .unset] [(.int (3 : Int32))])
      refine own_go (fun t k => XS.iconst X391.here hx rfl (hb hby at_182) k) ?_
      show own_WP _ _ _ _ T391 (mkF m 183 #[.val (.int x0), .val (.int x1), .val (.int x2), .val (.int x3), .val (.int x4), .val (.int (3 : Int32)), .val (.int (3 : Int32)), .val (.ref zs0), .val (.ref zs1), .val (.ref zs2), .val (.ref za), .val (.ref zo), .val (.int (1 : Int32)), .unset, .unset, .unset] [(.int (2 : Int32)), (.int (3 : Int32))])
      have hc183 : ¬ ((3 : Int32) < (2 : Int32)) := by decide
      refine own_go (fun t k => XS.icmpNo X391.here hx rfl (hb hby at_183) rfl (flt hc183).1 k) ?_
      show own_WP _ _ _ _ T391 (mkF m 186 #[.val (.int x0), .val (.int x1), .val (.int x2), .val (.int x3), .val (.int x4), .val (.int (3 : Int32)), .val (.int (3 : Int32)), .val (.ref zs0), .val (.ref zs1), .val (.ref zs2), .val (.ref za), .val (.ref zo), .val (.int (1 : Int32)), .unset, .unset, .unset] [])
      refine own_go (fun t k => XS.aload X391.here hx rfl (hb hby at_186) rfl rfl  k) ?_
      show own_WP _ _ _ _ T391 (mkF m 188 #[.val (.int x0), .val (.int x1), .val (.int x2), .val (.int x3), .val (.int x4), .val (.int (3 : Int32)), .val (.int (3 : Int32)), .val (.ref zs0), .val (.ref zs1), .val (.ref zs2), .val (.ref za), .val (.ref zo), .val (.int (1 : Int32)), .unset, .unset, .unset] [(.ref zo)])
      obtain ⟨cq402, kq402, q402a, q402b, q402c⟩ := isOf hZ rfl f392
      obtain ⟨_, _, ⟨T402, L402, k402, n402⟩, -, X402, ⟨Lc402, hQ402, l402, y402, z402⟩, st402⟩ := X391.virtualBack hx (y := (⟨"branchwork/Arguments", "next", "()Ljava/lang/String;"⟩ : MethodName)) (z := (⟨"branchwork/Arguments", "next", "()Ljava/lang/String;"⟩ : MethodName)) hown (mvT hZ (hw _ (List.mem_of_getElem? (i := 50) rfl))) (mvT hZ (hw _ (List.mem_of_getElem? (i := 51) rfl))) (notFace_of_selects (args := #[]) (mvT hZ (hw _ (List.mem_of_getElem? (i := 53) rfl)))) (mvT hZ (hw _ (List.mem_of_getElem? (i := 53) rfl))) (mvT hZ (hw _ (List.mem_of_getElem? (i := 52) rfl))) (by decide) (backOf (W := 0) (rm8 l Z a0 hw [] zo za k252 (3 : Int32) [(.ref zs0), (.ref zs1), (.ref zs2)] (1 : Int32) zs1 T391.heap n0 (own_le Z0 K399) f392 f393 f401 f395 g_zo (Ne.symm ne_za_zo) (show ¬ (1 : Int32) < 0 ∧ (1 : Int32) < (3 : Int32) from ⟨by decide, by decide⟩) (show List.getD (α := Value) [(.ref zs0), (.ref zs1), (.ref zs2)] (1 : Int32).toNatClampNeg Value.null = Value.ref zs1 from rfl)) hZ (hw _ (List.mem_of_getElem? (i := 54) rfl)) (hw _ (List.mem_of_getElem? (i := 31) rfl)) (by decide) (by decide)) q402a q402c (g := (mkF m 188 #[.val (.int x0), .val (.int x1), .val (.int x2), .val (.int x3), .val (.int x4), .val (.int (3 : Int32)), .val (.int (3 : Int32)), .val (.ref zs0), .val (.ref zs1), .val (.ref zs2), .val (.ref za), .val (.ref zo), .val (.int (1 : Int32)), .unset, .unset, .unset] [(.ref zo)])) rfl (by rw [hml]; rfl) (Steps.refl _) (argsL := []) (rest := []) (lenOf own_pd53319 rfl) rfl (by show 2 * 0 + _ ≤ _; exact Nat.le_of_eq rfl) (hb hby at_188) (fun _ _ => ⟨rfl, rfl, (by decide : 10 + 0 ≤ _), (by decide : 37 + 0 ≤ _)⟩)
      dsimp only [Pt.U, Pt.locs, Pt.cells, Pt.slots] at X402 l402 y402 z402 st402 hQ402
      subst l402 y402 z402
      obtain ⟨rfl, N402q, Kc402, f403, f404, f405⟩ := hQ402
      have N402 := Fr.app N391 N402q
      refine own_tr st402 ?_
      have f406 : Arv Z T402.heap za k252 (.object "java/lang/String") (3 : Int32) [(.ref zs0), (.ref zs1), (.ref zs2)] .null := f395.keep Kc402 (own_nm ne_za_zo)
      have f407 : Exa Z T402.heap zo "branchwork/Arguments" := f392.keep Kc402
      have K410 : Keep h0 T402.heap [] := K399.trans Kc402 (fun x hx => by cases List.mem_singleton.mp hx; exact Or.inr sz_zo)
      have kz411 : k291 ≤ T402.heap.size := Nat.le_trans kz400 Kc402.1
      have f412 : Fld Z T402.heap zo "branchwork/Arguments" "next" "I" (.int (2 : Int32)) := f405
      show own_WP _ _ _ _ T402 (mkF m 191 #[.val (.int x0), .val (.int x1), .val (.int x2), .val (.int x3), .val (.int x4), .val (.int (3 : Int32)), .val (.int (3 : Int32)), .val (.ref zs0), .val (.ref zs1), .val (.ref zs2), .val (.ref za), .val (.ref zo), .val (.int (1 : Int32)), .unset, .unset, .unset] [(.ref zs1)])
      refine own_go (fun t k => XS.pop X402.here hx rfl (hb hby at_191) rfl rfl k) ?_
      show own_WP _ _ _ _ T402 (mkF m 192 #[.val (.int x0), .val (.int x1), .val (.int x2), .val (.int x3), .val (.int x4), .val (.int (3 : Int32)), .val (.int (3 : Int32)), .val (.ref zs0), .val (.ref zs1), .val (.ref zs2), .val (.ref za), .val (.ref zo), .val (.int (1 : Int32)), .unset, .unset, .unset] [])
      refine own_go (fun t k => XS.iload X402.here hx rfl (hb hby at_192) rfl  k) ?_
      show own_WP _ _ _ _ T402 (mkF m 194 #[.val (.int x0), .val (.int x1), .val (.int x2), .val (.int x3), .val (.int x4), .val (.int (3 : Int32)), .val (.int (3 : Int32)), .val (.ref zs0), .val (.ref zs1), .val (.ref zs2), .val (.ref za), .val (.ref zo), .val (.int (1 : Int32)), .unset, .unset, .unset] [(.int (3 : Int32))])
      refine own_go (fun t k => XS.iconst X402.here hx rfl (hb hby at_194) k) ?_
      show own_WP _ _ _ _ T402 (mkF m 195 #[.val (.int x0), .val (.int x1), .val (.int x2), .val (.int x3), .val (.int x4), .val (.int (3 : Int32)), .val (.int (3 : Int32)), .val (.ref zs0), .val (.ref zs1), .val (.ref zs2), .val (.ref za), .val (.ref zo), .val (.int (1 : Int32)), .unset, .unset, .unset] [(.int (3 : Int32)), (.int (3 : Int32))])
      have hc195 : ¬ ((3 : Int32) < (3 : Int32)) := by decide
      refine own_go (fun t k => XS.icmpNo X402.here hx rfl (hb hby at_195) rfl (flt hc195).1 k) ?_
      show own_WP _ _ _ _ T402 (mkF m 198 #[.val (.int x0), .val (.int x1), .val (.int x2), .val (.int x3), .val (.int x4), .val (.int (3 : Int32)), .val (.int (3 : Int32)), .val (.ref zs0), .val (.ref zs1), .val (.ref zs2), .val (.ref za), .val (.ref zo), .val (.int (1 : Int32)), .unset, .unset, .unset] [])
      refine own_go (fun t k => XS.aload X402.here hx rfl (hb hby at_198) rfl rfl  k) ?_
      show own_WP _ _ _ _ T402 (mkF m 200 #[.val (.int x0), .val (.int x1), .val (.int x2), .val (.int x3), .val (.int x4), .val (.int (3 : Int32)), .val (.int (3 : Int32)), .val (.ref zs0), .val (.ref zs1), .val (.ref zs2), .val (.ref za), .val (.ref zo), .val (.int (1 : Int32)), .unset, .unset, .unset] [(.ref zo)])
      obtain ⟨cq413, kq413, q413a, q413b, q413c⟩ := isOf hZ rfl f403
      obtain ⟨_, _, ⟨T413, L413, k413, n413⟩, -, X413, ⟨Lc413, hQ413, l413, y413, z413⟩, st413⟩ := X402.virtualBack hx (y := (⟨"branchwork/Arguments", "next", "()Ljava/lang/String;"⟩ : MethodName)) (z := (⟨"branchwork/Arguments", "next", "()Ljava/lang/String;"⟩ : MethodName)) hown (mvT hZ (hw _ (List.mem_of_getElem? (i := 50) rfl))) (mvT hZ (hw _ (List.mem_of_getElem? (i := 51) rfl))) (notFace_of_selects (args := #[]) (mvT hZ (hw _ (List.mem_of_getElem? (i := 53) rfl)))) (mvT hZ (hw _ (List.mem_of_getElem? (i := 53) rfl))) (mvT hZ (hw _ (List.mem_of_getElem? (i := 52) rfl))) (by decide) (backOf (W := 0) (rm8 l Z a0 hw [] zo za k252 (3 : Int32) [(.ref zs0), (.ref zs1), (.ref zs2)] (2 : Int32) zs2 T402.heap n0 (own_le Z0 K410) f403 f404 f412 f406 g_zo (Ne.symm ne_za_zo) (show ¬ (2 : Int32) < 0 ∧ (2 : Int32) < (3 : Int32) from ⟨by decide, by decide⟩) (show List.getD (α := Value) [(.ref zs0), (.ref zs1), (.ref zs2)] (2 : Int32).toNatClampNeg Value.null = Value.ref zs2 from rfl)) hZ (hw _ (List.mem_of_getElem? (i := 54) rfl)) (hw _ (List.mem_of_getElem? (i := 31) rfl)) (by decide) (by decide)) q413a q413c (g := (mkF m 200 #[.val (.int x0), .val (.int x1), .val (.int x2), .val (.int x3), .val (.int x4), .val (.int (3 : Int32)), .val (.int (3 : Int32)), .val (.ref zs0), .val (.ref zs1), .val (.ref zs2), .val (.ref za), .val (.ref zo), .val (.int (1 : Int32)), .unset, .unset, .unset] [(.ref zo)])) rfl (by rw [hml]; rfl) (Steps.refl _) (argsL := []) (rest := []) (lenOf own_pd53319 rfl) rfl (by show 2 * 0 + _ ≤ _; exact Nat.le_of_eq rfl) (hb hby at_200) (fun _ _ => ⟨rfl, rfl, (by decide : 10 + 0 ≤ _), (by decide : 37 + 0 ≤ _)⟩)
      dsimp only [Pt.U, Pt.locs, Pt.cells, Pt.slots] at X413 l413 y413 z413 st413 hQ413
      subst l413 y413 z413
      obtain ⟨rfl, N413q, Kc413, f414, f415, f416⟩ := hQ413
      have N413 := Fr.app N402 N413q
      refine own_tr st413 ?_
      have f417 : Arv Z T413.heap za k252 (.object "java/lang/String") (3 : Int32) [(.ref zs0), (.ref zs1), (.ref zs2)] .null := f406.keep Kc413 (own_nm ne_za_zo)
      have f418 : Exa Z T413.heap zo "branchwork/Arguments" := f403.keep Kc413
      have K421 : Keep h0 T413.heap [] := K410.trans Kc413 (fun x hx => by cases List.mem_singleton.mp hx; exact Or.inr sz_zo)
      have kz422 : k291 ≤ T413.heap.size := Nat.le_trans kz411 Kc413.1
      have f423 : Fld Z T413.heap zo "branchwork/Arguments" "next" "I" (.int (3 : Int32)) := f416
      show own_WP _ _ _ _ T413 (mkF m 203 #[.val (.int x0), .val (.int x1), .val (.int x2), .val (.int x3), .val (.int x4), .val (.int (3 : Int32)), .val (.int (3 : Int32)), .val (.ref zs0), .val (.ref zs1), .val (.ref zs2), .val (.ref za), .val (.ref zo), .val (.int (1 : Int32)), .unset, .unset, .unset] [(.ref zs2)])
      refine own_go (fun t k => XS.pop X413.here hx rfl (hb hby at_203) rfl rfl k) ?_
      show own_WP _ _ _ _ T413 (mkF m 204 #[.val (.int x0), .val (.int x1), .val (.int x2), .val (.int x3), .val (.int x4), .val (.int (3 : Int32)), .val (.int (3 : Int32)), .val (.ref zs0), .val (.ref zs1), .val (.ref zs2), .val (.ref za), .val (.ref zo), .val (.int (1 : Int32)), .unset, .unset, .unset] [])
      refine own_go (fun t k => XS.aload X413.here hx rfl (hb hby at_204) rfl rfl  k) ?_
      show own_WP _ _ _ _ T413 (mkF m 206 #[.val (.int x0), .val (.int x1), .val (.int x2), .val (.int x3), .val (.int x4), .val (.int (3 : Int32)), .val (.int (3 : Int32)), .val (.ref zs0), .val (.ref zs1), .val (.ref zs2), .val (.ref za), .val (.ref zo), .val (.int (1 : Int32)), .unset, .unset, .unset] [(.ref zo)])
      obtain ⟨cq424, kq424, q424a, q424b, q424c⟩ := isOf hZ rfl f414
      obtain ⟨_, _, ⟨T424, L424, k424, n424⟩, -, X424, ⟨Lc424, hQ424, l424, y424, z424⟩, st424⟩ := X413.virtualBack hx (y := (⟨"branchwork/Arguments", "hasNext", "()Z"⟩ : MethodName)) (z := (⟨"branchwork/Arguments", "hasNext", "()Z"⟩ : MethodName)) hown (mvT hZ (hw _ (List.mem_of_getElem? (i := 43) rfl))) (mvT hZ (hw _ (List.mem_of_getElem? (i := 44) rfl))) (notFace_of_selects (args := #[]) (mvT hZ (hw _ (List.mem_of_getElem? (i := 46) rfl)))) (mvT hZ (hw _ (List.mem_of_getElem? (i := 46) rfl))) (mvT hZ (hw _ (List.mem_of_getElem? (i := 45) rfl))) (by decide) (backOf (W := 0) (rm7 l Z a0 hw [] zo za k252 (3 : Int32) [(.ref zs0), (.ref zs1), (.ref zs2)] (3 : Int32) T413.heap n0 (own_le Z0 K421) f415 f423 f417) hZ (hw _ (List.mem_of_getElem? (i := 47) rfl)) (hw _ (List.mem_of_getElem? (i := 31) rfl)) (by decide) (by decide)) q424a q424c (g := (mkF m 206 #[.val (.int x0), .val (.int x1), .val (.int x2), .val (.int x3), .val (.int x4), .val (.int (3 : Int32)), .val (.int (3 : Int32)), .val (.ref zs0), .val (.ref zs1), .val (.ref zs2), .val (.ref za), .val (.ref zo), .val (.int (1 : Int32)), .unset, .unset, .unset] [(.ref zo)])) rfl (by rw [hml]; rfl) (Steps.refl _) (argsL := []) (rest := []) (lenOf own_pd91901 rfl) rfl (by show 2 * 0 + _ ≤ _; exact Nat.le_of_eq rfl) (hb hby at_206) (fun _ _ => ⟨rfl, rfl, (by decide : 10 + 0 ≤ _), (by decide : 37 + 0 ≤ _)⟩)
      dsimp only [Pt.U, Pt.locs, Pt.cells, Pt.slots] at X424 l424 y424 z424 st424 hQ424
      subst l424 y424 z424
      obtain ⟨rfl, N424q, eq424⟩ := hQ424
      have N424 := Fr.app N413 N424q
      refine own_tr st424 ?_
      show own_WP _ _ _ _ T424 (mkF m 209 #[.val (.int x0), .val (.int x1), .val (.int x2), .val (.int x3), .val (.int x4), .val (.int (3 : Int32)), .val (.int (3 : Int32)), .val (.ref zs0), .val (.ref zs1), .val (.ref zs2), .val (.ref za), .val (.ref zo), .val (.int (1 : Int32)), .unset, .unset, .unset] [(.int (own_hn (3 : Int32) (3 : Int32)))])
      refine own_go (fun t k => XS.istore X424.here hx rfl (hb hby at_209) rfl (l' := #[.val (.int x0), .val (.int x1), .val (.int x2), .val (.int x3), .val (.int x4), .val (.int (3 : Int32)), .val (.int (3 : Int32)), .val (.ref zs0), .val (.ref zs1), .val (.ref zs2), .val (.ref za), .val (.ref zo), .val (.int (1 : Int32)), .val (.int (own_hn (3 : Int32) (3 : Int32))), .unset, .unset]) rfl k) ?_
      show own_WP _ _ _ _ T424 (mkF m 211 #[.val (.int x0), .val (.int x1), .val (.int x2), .val (.int x3), .val (.int x4), .val (.int (3 : Int32)), .val (.int (3 : Int32)), .val (.ref zs0), .val (.ref zs1), .val (.ref zs2), .val (.ref za), .val (.ref zo), .val (.int (1 : Int32)), .val (.int (own_hn (3 : Int32) (3 : Int32))), .unset, .unset] [])
      refine own_go (fun t k => XS.aload X424.here hx rfl (hb hby at_211) rfl rfl  k) ?_
      show own_WP _ _ _ _ T424 (mkF m 213 #[.val (.int x0), .val (.int x1), .val (.int x2), .val (.int x3), .val (.int x4), .val (.int (3 : Int32)), .val (.int (3 : Int32)), .val (.ref zs0), .val (.ref zs1), .val (.ref zs2), .val (.ref za), .val (.ref zo), .val (.int (1 : Int32)), .val (.int (own_hn (3 : Int32) (3 : Int32))), .unset, .unset] [(.ref zo)])
      obtain ⟨cq425, kq425, q425a, q425b, q425c⟩ := isOf hZ eq424 f414
      obtain ⟨_, _, ⟨T425, L425, k425, n425⟩, -, X425, ⟨Lc425, hQ425, l425, y425, z425⟩, st425⟩ := X424.virtualBack hx (y := (⟨"branchwork/Arguments", "hasNext", "()Z"⟩ : MethodName)) (z := (⟨"branchwork/Arguments", "hasNext", "()Z"⟩ : MethodName)) hown (mvT hZ (hw _ (List.mem_of_getElem? (i := 43) rfl))) (mvT hZ (hw _ (List.mem_of_getElem? (i := 44) rfl))) (notFace_of_selects (args := #[]) (mvT hZ (hw _ (List.mem_of_getElem? (i := 46) rfl)))) (mvT hZ (hw _ (List.mem_of_getElem? (i := 46) rfl))) (mvT hZ (hw _ (List.mem_of_getElem? (i := 45) rfl))) (by decide) (backOf (W := 0) (rm7 l Z a0 hw [] zo za k252 (3 : Int32) [(.ref zs0), (.ref zs1), (.ref zs2)] (3 : Int32) T413.heap n0 (own_le Z0 K421) f415 f423 f417) hZ (hw _ (List.mem_of_getElem? (i := 47) rfl)) (hw _ (List.mem_of_getElem? (i := 31) rfl)) (by decide) (by decide)) q425a q425c (g := (mkF m 213 #[.val (.int x0), .val (.int x1), .val (.int x2), .val (.int x3), .val (.int x4), .val (.int (3 : Int32)), .val (.int (3 : Int32)), .val (.ref zs0), .val (.ref zs1), .val (.ref zs2), .val (.ref za), .val (.ref zo), .val (.int (1 : Int32)), .val (.int (own_hn (3 : Int32) (3 : Int32))), .unset, .unset] [(.ref zo)])) rfl (by rw [hml]; rfl) (Steps.refl _) (argsL := []) (rest := []) (lenOf own_pd91901 rfl) rfl (by show 2 * 0 + _ ≤ _; exact Nat.le_of_eq rfl) (hb hby at_213) (fun _ _ => ⟨rfl, eq424, (by decide : 10 + 0 ≤ _), (by decide : 37 + 0 ≤ _)⟩)
      dsimp only [Pt.U, Pt.locs, Pt.cells, Pt.slots] at X425 l425 y425 z425 st425 hQ425
      subst l425 y425 z425
      obtain ⟨rfl, N425q, eq425⟩ := hQ425
      have N425 := Fr.app N424 N425q
      refine own_tr st425 ?_
      show own_WP _ _ _ _ T425 (mkF m 216 #[.val (.int x0), .val (.int x1), .val (.int x2), .val (.int x3), .val (.int x4), .val (.int (3 : Int32)), .val (.int (3 : Int32)), .val (.ref zs0), .val (.ref zs1), .val (.ref zs2), .val (.ref za), .val (.ref zo), .val (.int (1 : Int32)), .val (.int (own_hn (3 : Int32) (3 : Int32))), .unset, .unset] [(.int (own_hn (3 : Int32) (3 : Int32)))])
      refine own_go (fun t k => XS.istore X425.here hx rfl (hb hby at_216) rfl (l' := #[.val (.int x0), .val (.int x1), .val (.int x2), .val (.int x3), .val (.int x4), .val (.int (3 : Int32)), .val (.int (3 : Int32)), .val (.ref zs0), .val (.ref zs1), .val (.ref zs2), .val (.ref za), .val (.ref zo), .val (.int (1 : Int32)), .val (.int (own_hn (3 : Int32) (3 : Int32))), .val (.int (own_hn (3 : Int32) (3 : Int32))), .unset]) rfl k) ?_
      show own_WP _ _ _ _ T425 (mkF m 218 #[.val (.int x0), .val (.int x1), .val (.int x2), .val (.int x3), .val (.int x4), .val (.int (3 : Int32)), .val (.int (3 : Int32)), .val (.ref zs0), .val (.ref zs1), .val (.ref zs2), .val (.ref za), .val (.ref zo), .val (.int (1 : Int32)), .val (.int (own_hn (3 : Int32) (3 : Int32))), .val (.int (own_hn (3 : Int32) (3 : Int32))), .unset] [])
      refine own_go (fun t k => XS.iload X425.here hx rfl (hb hby at_218) rfl  k) ?_
      show own_WP _ _ _ _ T425 (mkF m 220 #[.val (.int x0), .val (.int x1), .val (.int x2), .val (.int x3), .val (.int x4), .val (.int (3 : Int32)), .val (.int (3 : Int32)), .val (.ref zs0), .val (.ref zs1), .val (.ref zs2), .val (.ref za), .val (.ref zo), .val (.int (1 : Int32)), .val (.int (own_hn (3 : Int32) (3 : Int32))), .val (.int (own_hn (3 : Int32) (3 : Int32))), .unset] [(.int (1 : Int32))])
      have hc220 : ¬ ((1 : Int32) = (0 : Int32)) := by decide
      refine own_go (fun t k => XS.ifNo X425.here hx rfl (hb hby at_220) rfl ((if0 _ _).trans (feq hc220).1) k) ?_
      show own_WP _ _ _ _ T425 (mkF m 223 #[.val (.int x0), .val (.int x1), .val (.int x2), .val (.int x3), .val (.int x4), .val (.int (3 : Int32)), .val (.int (3 : Int32)), .val (.ref zs0), .val (.ref zs1), .val (.ref zs2), .val (.ref za), .val (.ref zo), .val (.int (1 : Int32)), .val (.int (own_hn (3 : Int32) (3 : Int32))), .val (.int (own_hn (3 : Int32) (3 : Int32))), .unset] [])
      refine own_go (fun t k => XS.iload X425.here hx rfl (hb hby at_223) rfl  k) ?_
      show own_WP _ _ _ _ T425 (mkF m 225 #[.val (.int x0), .val (.int x1), .val (.int x2), .val (.int x3), .val (.int x4), .val (.int (3 : Int32)), .val (.int (3 : Int32)), .val (.ref zs0), .val (.ref zs1), .val (.ref zs2), .val (.ref za), .val (.ref zo), .val (.int (1 : Int32)), .val (.int (own_hn (3 : Int32) (3 : Int32))), .val (.int (own_hn (3 : Int32) (3 : Int32))), .unset] [(.int (own_hn (3 : Int32) (3 : Int32)))])
      refine own_go (fun t k => XS.iload X425.here hx rfl (hb hby at_225) rfl  k) ?_
      show own_WP _ _ _ _ T425 (mkF m 227 #[.val (.int x0), .val (.int x1), .val (.int x2), .val (.int x3), .val (.int x4), .val (.int (3 : Int32)), .val (.int (3 : Int32)), .val (.ref zs0), .val (.ref zs1), .val (.ref zs2), .val (.ref za), .val (.ref zo), .val (.int (1 : Int32)), .val (.int (own_hn (3 : Int32) (3 : Int32))), .val (.int (own_hn (3 : Int32) (3 : Int32))), .unset] [(.int (3 : Int32)), (.int (own_hn (3 : Int32) (3 : Int32)))])
      refine own_go (fun t k => XS.iload X425.here hx rfl (hb hby at_227) rfl  k) ?_
      show own_WP _ _ _ _ T425 (mkF m 229 #[.val (.int x0), .val (.int x1), .val (.int x2), .val (.int x3), .val (.int x4), .val (.int (3 : Int32)), .val (.int (3 : Int32)), .val (.ref zs0), .val (.ref zs1), .val (.ref zs2), .val (.ref za), .val (.ref zo), .val (.int (1 : Int32)), .val (.int (own_hn (3 : Int32) (3 : Int32))), .val (.int (own_hn (3 : Int32) (3 : Int32))), .unset] [(.int (3 : Int32)), (.int (3 : Int32)), (.int (own_hn (3 : Int32) (3 : Int32)))])
      have hc229 : ¬ ((3 : Int32) < (3 : Int32)) := by decide
      refine own_go (fun t k => XS.icmpYes X425.here hx rfl (pc0 := 229) (pc' := 236) rfl (hb hby at_229) rfl (flt hc229).2.1 (by decide) (by decide) k) ?_
      show own_WP _ _ _ _ T425 (mkF m 236 #[.val (.int x0), .val (.int x1), .val (.int x2), .val (.int x3), .val (.int x4), .val (.int (3 : Int32)), .val (.int (3 : Int32)), .val (.ref zs0), .val (.ref zs1), .val (.ref zs2), .val (.ref za), .val (.ref zo), .val (.int (1 : Int32)), .val (.int (own_hn (3 : Int32) (3 : Int32))), .val (.int (own_hn (3 : Int32) (3 : Int32))), .unset] [(.int (own_hn (3 : Int32) (3 : Int32)))])
      refine own_go (fun t k => XS.iconst X425.here hx rfl (hb hby at_236) k) ?_
      show own_WP _ _ _ _ T425 (mkF m 237 #[.val (.int x0), .val (.int x1), .val (.int x2), .val (.int x3), .val (.int x4), .val (.int (3 : Int32)), .val (.int (3 : Int32)), .val (.ref zs0), .val (.ref zs1), .val (.ref zs2), .val (.ref za), .val (.ref zo), .val (.int (1 : Int32)), .val (.int (own_hn (3 : Int32) (3 : Int32))), .val (.int (own_hn (3 : Int32) (3 : Int32))), .unset] [(.int (0 : Int32)), (.int (own_hn (3 : Int32) (3 : Int32)))])
      have hc237 : (own_hn (3 : Int32) (3 : Int32)) = (0 : Int32) := by
        decide
      refine own_go (fun t k => XS.icmpNo X425.here hx rfl (hb hby at_237) rfl (teq hc237).2 k) ?_
      show own_WP _ _ _ _ T425 (mkF m 240 #[.val (.int x0), .val (.int x1), .val (.int x2), .val (.int x3), .val (.int x4), .val (.int (3 : Int32)), .val (.int (3 : Int32)), .val (.ref zs0), .val (.ref zs1), .val (.ref zs2), .val (.ref za), .val (.ref zo), .val (.int (1 : Int32)), .val (.int (own_hn (3 : Int32) (3 : Int32))), .val (.int (own_hn (3 : Int32) (3 : Int32))), .unset] [])
      refine own_go (fun t k => XS.iload X425.here hx rfl (hb hby at_240) rfl  k) ?_
      show own_WP _ _ _ _ T425 (mkF m 242 #[.val (.int x0), .val (.int x1), .val (.int x2), .val (.int x3), .val (.int x4), .val (.int (3 : Int32)), .val (.int (3 : Int32)), .val (.ref zs0), .val (.ref zs1), .val (.ref zs2), .val (.ref za), .val (.ref zo), .val (.int (1 : Int32)), .val (.int (own_hn (3 : Int32) (3 : Int32))), .val (.int (own_hn (3 : Int32) (3 : Int32))), .unset] [(.int (own_hn (3 : Int32) (3 : Int32)))])
      refine own_go (fun t k => XS.iload X425.here hx rfl (hb hby at_242) rfl  k) ?_
      show own_WP _ _ _ _ T425 (mkF m 244 #[.val (.int x0), .val (.int x1), .val (.int x2), .val (.int x3), .val (.int x4), .val (.int (3 : Int32)), .val (.int (3 : Int32)), .val (.ref zs0), .val (.ref zs1), .val (.ref zs2), .val (.ref za), .val (.ref zo), .val (.int (1 : Int32)), .val (.int (own_hn (3 : Int32) (3 : Int32))), .val (.int (own_hn (3 : Int32) (3 : Int32))), .unset] [(.int (own_hn (3 : Int32) (3 : Int32))), (.int (own_hn (3 : Int32) (3 : Int32)))])
      have hc244 : (own_hn (3 : Int32) (3 : Int32)) = (own_hn (3 : Int32) (3 : Int32)) := rfl
      refine own_go (fun t k => XS.icmpNo X425.here hx rfl (hb hby at_244) rfl (teq hc244).2 k) ?_
      show own_WP _ _ _ _ T425 (mkF m 247 #[.val (.int x0), .val (.int x1), .val (.int x2), .val (.int x3), .val (.int x4), .val (.int (3 : Int32)), .val (.int (3 : Int32)), .val (.ref zs0), .val (.ref zs1), .val (.ref zs2), .val (.ref za), .val (.ref zo), .val (.int (1 : Int32)), .val (.int (own_hn (3 : Int32) (3 : Int32))), .val (.int (own_hn (3 : Int32) (3 : Int32))), .unset] [])
      refine own_go (fun t k => XS.iconst X425.here hx rfl (hb hby at_247) k) ?_
      show own_WP _ _ _ _ T425 (mkF m 248 #[.val (.int x0), .val (.int x1), .val (.int x2), .val (.int x3), .val (.int x4), .val (.int (3 : Int32)), .val (.int (3 : Int32)), .val (.ref zs0), .val (.ref zs1), .val (.ref zs2), .val (.ref za), .val (.ref zo), .val (.int (1 : Int32)), .val (.int (own_hn (3 : Int32) (3 : Int32))), .val (.int (own_hn (3 : Int32) (3 : Int32))), .unset] [(.int (1 : Int32))])
      refine own_go (fun t k => XS.goto X425.here hx rfl (pc0 := 248) (pc' := 252) rfl (hb hby at_248) (by decide) (by decide) k) ?_
      show own_WP _ _ _ _ T425 (mkF m 252 #[.val (.int x0), .val (.int x1), .val (.int x2), .val (.int x3), .val (.int x4), .val (.int (3 : Int32)), .val (.int (3 : Int32)), .val (.ref zs0), .val (.ref zs1), .val (.ref zs2), .val (.ref za), .val (.ref zo), .val (.int (1 : Int32)), .val (.int (own_hn (3 : Int32) (3 : Int32))), .val (.int (own_hn (3 : Int32) (3 : Int32))), .unset] [(.int (1 : Int32))])
      refine own_go (fun t k => XS.istore X425.here hx rfl (hb hby at_252) rfl (l' := #[.val (.int x0), .val (.int x1), .val (.int x2), .val (.int x3), .val (.int x4), .val (.int (3 : Int32)), .val (.int (3 : Int32)), .val (.ref zs0), .val (.ref zs1), .val (.ref zs2), .val (.ref za), .val (.ref zo), .val (.int (1 : Int32)), .val (.int (own_hn (3 : Int32) (3 : Int32))), .val (.int (own_hn (3 : Int32) (3 : Int32))), .unset]) rfl k) ?_
      show own_WP _ _ _ _ T425 (mkF m 254 #[.val (.int x0), .val (.int x1), .val (.int x2), .val (.int x3), .val (.int x4), .val (.int (3 : Int32)), .val (.int (3 : Int32)), .val (.ref zs0), .val (.ref zs1), .val (.ref zs2), .val (.ref za), .val (.ref zo), .val (.int (1 : Int32)), .val (.int (own_hn (3 : Int32) (3 : Int32))), .val (.int (own_hn (3 : Int32) (3 : Int32))), .unset] [])
      refine own_go (fun t k => XS.iload X425.here hx rfl (hb hby at_254) rfl  k) ?_
      show own_WP _ _ _ _ T425 (mkF m 256 #[.val (.int x0), .val (.int x1), .val (.int x2), .val (.int x3), .val (.int x4), .val (.int (3 : Int32)), .val (.int (3 : Int32)), .val (.ref zs0), .val (.ref zs1), .val (.ref zs2), .val (.ref za), .val (.ref zo), .val (.int (1 : Int32)), .val (.int (own_hn (3 : Int32) (3 : Int32))), .val (.int (own_hn (3 : Int32) (3 : Int32))), .unset] [(.int (3 : Int32))])
      refine own_go (fun t k => XS.iload X425.here hx rfl (hb hby at_256) rfl  k) ?_
      show own_WP _ _ _ _ T425 (mkF m 258 #[.val (.int x0), .val (.int x1), .val (.int x2), .val (.int x3), .val (.int x4), .val (.int (3 : Int32)), .val (.int (3 : Int32)), .val (.ref zs0), .val (.ref zs1), .val (.ref zs2), .val (.ref za), .val (.ref zo), .val (.int (1 : Int32)), .val (.int (own_hn (3 : Int32) (3 : Int32))), .val (.int (own_hn (3 : Int32) (3 : Int32))), .unset] [(.int (3 : Int32)), (.int (3 : Int32))])
      have hc258 : ¬ ((3 : Int32) < (3 : Int32)) := by decide
      refine own_go (fun t k => XS.icmpYes X425.here hx rfl (pc0 := 258) (pc' := 312) rfl (hb hby at_258) rfl (flt hc258).2.1 (by decide) (by decide) k) ?_
      show own_WP _ _ _ _ T425 (mkF m 312 #[.val (.int x0), .val (.int x1), .val (.int x2), .val (.int x3), .val (.int x4), .val (.int (3 : Int32)), .val (.int (3 : Int32)), .val (.ref zs0), .val (.ref zs1), .val (.ref zs2), .val (.ref za), .val (.ref zo), .val (.int (1 : Int32)), .val (.int (own_hn (3 : Int32) (3 : Int32))), .val (.int (own_hn (3 : Int32) (3 : Int32))), .unset] [])
      refine own_go (fun t k => XS.iload X425.here hx rfl (hb hby at_312) rfl  k) ?_
      show own_WP _ _ _ _ T425 (mkF m 314 #[.val (.int x0), .val (.int x1), .val (.int x2), .val (.int x3), .val (.int x4), .val (.int (3 : Int32)), .val (.int (3 : Int32)), .val (.ref zs0), .val (.ref zs1), .val (.ref zs2), .val (.ref za), .val (.ref zo), .val (.int (1 : Int32)), .val (.int (own_hn (3 : Int32) (3 : Int32))), .val (.int (own_hn (3 : Int32) (3 : Int32))), .unset] [(.int (1 : Int32))])
      refine own_retNW X425 hS291 (by rw [eq425]; exact kz422) hx Bd.notSynchronized (t := .boolean) (by simp) Bd.returns (hb hby at_314) (by decide) (by decide) ?_
      rw [eq425]
      exact ⟨rfl, N425⟩
set_option maxRecDepth 65536 in
set_option maxHeartbeats 40000000 in
theorem comes_1 {Post : Tables → Env → Array Value → State → Outcome → State → Prop} (hpost : ∀ tb e args s v u, (limb_1_1.after args s (.returned v) u = true ∧ limb_1_2.after args s (.returned v) u = true ∧ True) → ReturnedEndW s (.returned v) u (Jvm.fieldLocs frame_1_writes args s ++ Jvm.arrayLocs frame_1_arrays args s ++ Jvm.staticLocs frame_1_statics s) 32 1152 → Post tb e args s (.returned v) u) :
    ArmFor flags0 classFile x code maxLocals ret World_1 tables_1 room_1 Calls_1 rest_1 Pre_1 Post := by
  intro l hfl _ _ p e ha hc hk s m args below hf hA hF happ hP
  obtain ⟨hcalls, hrest, hpre⟩ := hP
  obtain ⟨-, -, -, hnamed, -, -, -, hat⟩ := (Spec.applies_iff hf).mp happ
  obtain ⟨hg, hn⟩ := and_e (Cond.before_iff.mp (show (Jvm.Cond.and given_1 narrow_1).before args s = true from hpre))
  obtain ⟨u0, v0⟩ := and_e hg
  obtain ⟨u1, v1⟩ := and_e v0
  obtain ⟨u2, v2⟩ := and_e v1
  obtain ⟨u3, v3⟩ := and_e v2
  obtain ⟨u4, v4⟩ := and_e v3
  obtain ⟨w0, w1, w2, w3, w4, rfl⟩ : ∃ w0 w1 w2 w3 w4 : Value, args = #[w0, w1, w2, w3, w4] := by
    have hs : args.size = 5 := by simpa [Cond.value, given_1] using u0
    obtain ⟨L⟩ := args
    match L, hs with
    | [w0, w1, w2, w3, w4], _ => exact ⟨w0, w1, w2, w3, w4, rfl⟩
  have hw := fun d (hd : d ∈ tables_1) => atoms_spec (ws := Jvm.Cond.code x code maxLocals ret :: tables_1) hat d (List.mem_cons_of_mem _ hd)
  obtain ⟨i0, ei0⟩ := is_v u1
  obtain rfl : w0 = (.int i0) := Option.some.inj ei0
  obtain ⟨i1, ei1⟩ := is_v u2
  obtain rfl : w1 = (.int i1) := Option.some.inj ei1
  obtain ⟨i2, ei2⟩ := is_v u3
  obtain rfl : w2 = (.int i2) := Option.some.inj ei2
  obtain ⟨i3, ei3⟩ := is_v u4
  obtain rfl : w3 = (.int i3) := Option.some.inj ei3
  obtain ⟨i4, ei4⟩ := is_v v4
  obtain rfl : w4 = (.int i4) := Option.some.inj ei4
  obtain ⟨hsets, hown0⟩ := atoms_of _ (rest_1_c_eq ▸ (show rest_1_c.before _ s = true from hrest))
  obtain ⟨zC, hC⟩ := is_v (Cond.before_iff.mp (hsets _ (List.mem_of_getElem? (i := 1) rfl)))
  have hS := Sta.start hC (Or.inl (hsets _ (List.mem_of_getElem? (i := 0) rfl)))
  have hz : ¬ zC = 0 := own_not0 hC (Cond.before_iff.mp (hsets _ (List.mem_of_getElem? (i := 2) rfl)))
  obtain ⟨n, o, h1, h2, h3, _, L, rfl, ⟨rfl, N⟩, hq⟩ := rm0 l s _ hw tables_1 i0 i1 i2 i3 i4 zC s.heap s.heap.size (Nat.le_refl _) (Old.start s) hS hz p e ha hc hk s m _ below hf ((Spec.applies_iff_loose hf).mp happ).1 ⟨rfl, State.Warmed39.refl s, rfl⟩ trivial
  refine ⟨n, _, h1, h2, h3, hpost _ _ _ _ _ _ ⟨Cond.after_iff.mpr rfl, Cond.after_iff.mpr (eq_i res_at (Term.int_eval (1)) rfl), trivial⟩ ⟨hq.1, hq.2.1, hq.2.2.1, (hq.2.2.2.sift fun y hy => Or.inr (N y hy)).mono (by decide) (by decide)⟩⟩
theorem main_1_1 : Claimed_1_1 := comes_1 fun _ _ _ _ _ _ h hF => ⟨h.1, hF⟩
theorem main_1_2 : Claimed_1_2 := comes_1 fun _ _ _ _ _ _ h hF => ⟨h.2.1, hF⟩
end Jvm.Pilot.@@N@@
namespace Jvm.Pilot.@@N@@
open Jvm Jvm.ClassFile Sem Op Lib Jvm.Free Jvm.Stand Jvm.Pilot.@@N@@.Jvm.D
/-! MADE BY PROGRAM (witnessworld.py) out of the Statement's table words and the real class files: 18 classes; the members and pool entries that the words name. The judged class is class 1, her method 1. -/
namespace start1
open Jvm.ClassFile
def u (s : String) : CpInfo := .utf8 (stringToUtf16 s)
/-- a pool by its gaps: so many unusable entries, then the entry; so many at the end -/
def gap : Nat → List CpInfo → List CpInfo
  | 0, r => r
  | n + 1, r => .unusable :: gap n r
def poolList (es : List (Nat × CpInfo)) (last : Nat) : List CpInfo := es.foldr (fun e r => gap e.1 (e.2 :: r)) (gap last [])
def pool (es : List (Nat × CpInfo)) (last : Nat) : Array CpInfo := ⟨poolList es last⟩
def fileOf (pool : Array CpInfo) (this : Nat) (attrs : Array Attribute := #[]) (ms : Array MethodInfo := #[]) (fl : Nat := 33) (sup : Nat := 0) (ifs : Array Nat := #[]) (fds : Array FieldInfo := #[]) : ClassFile where
  minorVersion := 0
  majorVersion := 65
  constantPool := pool
  accessFlags := fl
  thisClass := this
  superClass := sup
  interfaces := ifs
  fields := fds
  methods := ms
  attributes := attrs
def plain (name : String) (sup : Option ClassId) : Class where
  name := name
  kind := .ordinary
  loader := none
  accessFlags := 33
  super := sup
  interfaces := #[]
  cf := none
  fields := #[]
  methods := #[]
  instanceTypes := #[]
  staticTypes := #[]
  resolved := #[]
  callSites := []
  init := .initialized
  statics := none
  mirror := none

def pool0 : Array CpInfo := pool [(5, u "<init>"), (0, u "()V"), (1, .class_ 10), (1, u "java/lang/Object")] 113

def k0c0 : Code := { maxStack := 0, maxLocals := 1, code := object_method_1_code, exceptionTable := #[], attributes := #[] }
def k0m0 : Method := { name := "<init>", desc := "()V", sig := { parameters := [], returnType := none }, accessFlags := 1, code := some k0c0 }
/-- java/lang/Object -/
def k0 : Class := { plain "java/lang/Object" none with
  accessFlags := 33
  interfaces := #[]
  cf := some (fileOf pool0 8 #[] #[{ accessFlags := 1, nameIndex := 5, descriptorIndex := 6, attributes := #[] }] 33 0 #[] #[])
  fields := #[]
  methods := #[k0m0]
  instanceTypes := #[]
  staticTypes := #[]
  resolved := Array.replicate 124 none
  statics := none }

def pool1 : Array CpInfo := pool [(2, .class_ 4), (1, u "java/lang/Object"), (0, u "<init>"), (0, u "()V"), (0, .integer 2147483647), (0, .methodref 9 10), (0, .class_ 11), (0, .nameAndType 12 13), (0, u "java/lang/String"), (0, u "valueOf"), (0, u "(C)Ljava/lang/String;"), (0, .class_ 15), (0, u "branchwork/Arguments"), (0, .string 17), (0, u "cmd"), (0, .methodref 14 19), (0, .nameAndType 5 20), (0, u "(Ljava/lang/String;[Ljava/lang/String;)V"), (0, .methodref 14 22), (0, .nameAndType 23 24), (0, u "hasNext"), (0, u "()Z"), (0, .methodref 14 26), (0, .nameAndType 27 28), (0, u "next"), (0, u "()Ljava/lang/String;"), (0, .class_ 30), (0, u "branchwork/ArgumentsHasNextPinLaw"), (2, u "law"), (0, u "(IIIII)Z")] 5

def k1m0 : Method := { name := "<init>", desc := "()V", sig := { parameters := [], returnType := none }, accessFlags := 1, code := none }
def k1c1 : Code := { maxStack := 4, maxLocals := 16, code := code, exceptionTable := #[], attributes := #[] }
def k1m1 : Method := { name := "law", desc := "(IIIII)Z", sig := { parameters := [.int, .int, .int, .int, .int], returnType := some .boolean }, accessFlags := 9, code := some k1c1 }
/-- branchwork/ArgumentsHasNextPinLaw -/
def k1 : Class := { plain "branchwork/ArgumentsHasNextPinLaw" (some 0) with
  accessFlags := 49
  interfaces := #[]
  cf := some (fileOf pool1 29 #[] #[{ accessFlags := 1, nameIndex := 5, descriptorIndex := 6, attributes := #[] }, { accessFlags := 9, nameIndex := 33, descriptorIndex := 34, attributes := #[] }] 49 2 #[] #[])
  fields := #[]
  methods := #[k1m0, k1m1]
  instanceTypes := #[]
  staticTypes := #[]
  resolved := Array.replicate 40 none
  statics := none }

def pool2 : Array CpInfo := pool [(1, .class_ 2), (0, u "java/io/Serializable"), (0, .class_ 4), (0, u "java/lang/Object")] 2

/-- java/io/Serializable -/
def k2 : Class := { plain "java/io/Serializable" (some 0) with
  accessFlags := 1537
  interfaces := #[]
  cf := some (fileOf pool2 1 #[] #[] 1537 3 #[] #[])
  fields := #[]
  methods := #[]
  instanceTypes := #[]
  staticTypes := #[]
  resolved := Array.replicate 7 none
  statics := none }

def pool3 : Array CpInfo := pool [(1, .class_ 2), (0, u "java/lang/Comparable"), (0, .class_ 4), (0, u "java/lang/Object")] 7

/-- java/lang/Comparable -/
def k3 : Class := { plain "java/lang/Comparable" (some 0) with
  accessFlags := 1537
  interfaces := #[]
  cf := some (fileOf pool3 1 #[] #[] 1537 3 #[] #[])
  fields := #[]
  methods := #[]
  instanceTypes := #[]
  staticTypes := #[]
  resolved := Array.replicate 12 none
  statics := none }

def pool4 : Array CpInfo := pool [(2, .class_ 4), (1, u "java/lang/CharSequence"), (42, .class_ 48), (0, u "java/lang/CharSequence$1CodePointIterator"), (10, .class_ 60), (0, u "java/lang/CharSequence$1CharIterator"), (5, .class_ 67), (0, u "java/lang/Object")] 63

/-- java/lang/CharSequence -/
def k4 : Class := { plain "java/lang/CharSequence" (some 0) with
  accessFlags := 1537
  interfaces := #[]
  cf := some (fileOf pool4 2 #[.nestMembers #[47, 59]] #[] 1537 66 #[] #[])
  fields := #[]
  methods := #[]
  instanceTypes := #[]
  staticTypes := #[]
  resolved := Array.replicate 131 none
  statics := none }

def pool5 : Array CpInfo := pool [(1, .class_ 2), (0, u "java/lang/constant/Constable"), (0, .class_ 4), (0, u "java/lang/Object")] 6

/-- java/lang/constant/Constable -/
def k5 : Class := { plain "java/lang/constant/Constable" (some 0) with
  accessFlags := 1537
  interfaces := #[]
  cf := some (fileOf pool5 1 #[] #[] 1537 3 #[] #[])
  fields := #[]
  methods := #[]
  instanceTypes := #[]
  staticTypes := #[]
  resolved := Array.replicate 11 none
  statics := none }

def pool6 : Array CpInfo := pool [(1, .class_ 2), (0, u "java/lang/constant/ConstantDesc"), (0, .class_ 4), (0, u "java/lang/Object")] 32

/-- java/lang/constant/ConstantDesc -/
def k6 : Class := { plain "java/lang/constant/ConstantDesc" (some 0) with
  accessFlags := 1537
  interfaces := #[]
  cf := some (fileOf pool6 1 #[] #[] 1537 3 #[] #[])
  fields := #[]
  methods := #[]
  instanceTypes := #[]
  staticTypes := #[]
  resolved := Array.replicate 37 none
  statics := none }

def pool7 : Array CpInfo := pool [(1, .methodref 2 3), (0, .class_ 4), (0, .nameAndType 5 6), (0, u "java/lang/Object"), (0, u "<init>"), (0, u "()V"), (2, .fieldref 10 11), (0, .class_ 12), (0, .nameAndType 13 14), (0, u "java/lang/String"), (0, u "value"), (0, u "[B"), (0, .fieldref 10 16), (0, .nameAndType 17 18), (0, u "coder"), (0, u "B"), (2, u "hash"), (0, u "I"), (2, u "hashIsZero"), (0, u "Z"), (11, .fieldref 10 39), (0, .nameAndType 40 26), (0, u "COMPACT_STRINGS"), (12, u "toBytes"), (53, .class_ 109), (1, u "java/lang/StringLatin1"), (99, .methodref 10 210), (0, .nameAndType 5 211), (0, u "([BB)V"), (157, u "(C)Z"), (205, .class_ 576), (0, u "java/lang/CharSequence"), (22, u "CASE_INSENSITIVE_ORDER"), (0, u "Ljava/util/Comparator;"), (181, u "valueOf"), (0, u "(C)Ljava/lang/String;"), (231, .methodref 107 1016), (0, .nameAndType 1017 369), (0, u "canEncode"), (0, .methodref 107 1019), (0, .nameAndType 53 1020), (0, u "(C)[B"), (80, u "serialPersistentFields"), (0, u "[Ljava/io/ObjectStreamField;"), (0, .class_ 1104), (0, u "java/lang/String$CaseInsensitiveComparator"), (1, .class_ 1107), (0, u "java/io/Serializable"), (0, .class_ 1109), (0, u "java/lang/Comparable"), (0, .class_ 1111), (0, u "java/lang/constant/Constable"), (0, .class_ 1113), (0, u "java/lang/constant/ConstantDesc"), (2, u "serialVersionUID"), (0, u "J"), (3, u "REPL"), (0, u "C"), (2, u "LATIN1"), (1, u "UTF16")] 323

def k7m0 : Method := { name := "<init>", desc := "()V", sig := { parameters := [], returnType := none }, accessFlags := 1, code := none }
def k7c1 : Code := { maxStack := 4, maxLocals := 1, code := jdk_42_method_139_code, exceptionTable := #[], attributes := #[] }
def k7m1 : Method := { name := "valueOf", desc := "(C)Ljava/lang/String;", sig := { parameters := [.char], returnType := some (.object "java/lang/String") }, accessFlags := 9, code := some k7c1 }
def k7c2 : Code := { maxStack := 2, maxLocals := 3, code := jdk_42_method_151_code, exceptionTable := #[], attributes := #[] }
def k7m2 : Method := { name := "<init>", desc := "([BB)V", sig := { parameters := [(.array .byte), .byte], returnType := none }, accessFlags := 0, code := some k7c2 }
/-- java/lang/String -/
def k7 : Class := { plain "java/lang/String" (some 0) with
  accessFlags := 49
  interfaces := #[2, 3, 4, 5, 6]
  cf := some (fileOf pool7 10 #[.nestMembers #[1103]] #[{ accessFlags := 1, nameIndex := 5, descriptorIndex := 6, attributes := #[] }, { accessFlags := 9, nameIndex := 782, descriptorIndex := 783, attributes := #[] }, { accessFlags := 0, nameIndex := 5, descriptorIndex := 211, attributes := #[] }] 49 2 #[1106, 1108, 575, 1110, 1112] #[{ accessFlags := 18, nameIndex := 13, descriptorIndex := 14, attributes := #[] }, { accessFlags := 18, nameIndex := 17, descriptorIndex := 18, attributes := #[] }, { accessFlags := 2, nameIndex := 21, descriptorIndex := 22, attributes := #[] }, { accessFlags := 2, nameIndex := 25, descriptorIndex := 26, attributes := #[] }, { accessFlags := 26, nameIndex := 1116, descriptorIndex := 1117, attributes := #[] }, { accessFlags := 24, nameIndex := 40, descriptorIndex := 26, attributes := #[] }, { accessFlags := 26, nameIndex := 1101, descriptorIndex := 1102, attributes := #[] }, { accessFlags := 26, nameIndex := 1121, descriptorIndex := 1122, attributes := #[] }, { accessFlags := 25, nameIndex := 599, descriptorIndex := 600, attributes := #[] }, { accessFlags := 24, nameIndex := 1125, descriptorIndex := 18, attributes := #[] }, { accessFlags := 24, nameIndex := 1127, descriptorIndex := 18, attributes := #[] }])
  fields := #[{ name := "value", type := (.array .byte), accessFlags := 18, slot := 0, constantValue := 0 }, { name := "coder", type := .byte, accessFlags := 18, slot := 1, constantValue := 0 }, { name := "hash", type := .int, accessFlags := 2, slot := 2, constantValue := 0 }, { name := "hashIsZero", type := .boolean, accessFlags := 2, slot := 3, constantValue := 0 }, { name := "serialVersionUID", type := .long, accessFlags := 26, slot := 0, constantValue := 0 }, { name := "COMPACT_STRINGS", type := .boolean, accessFlags := 24, slot := 1, constantValue := 0 }, { name := "serialPersistentFields", type := (.array (.object "java/io/ObjectStreamField")), accessFlags := 26, slot := 2, constantValue := 0 }, { name := "REPL", type := .char, accessFlags := 26, slot := 3, constantValue := 0 }, { name := "CASE_INSENSITIVE_ORDER", type := (.object "java/util/Comparator"), accessFlags := 25, slot := 4, constantValue := 0 }, { name := "LATIN1", type := .byte, accessFlags := 24, slot := 5, constantValue := 0 }, { name := "UTF16", type := .byte, accessFlags := 24, slot := 6, constantValue := 0 }]
  methods := #[k7m0, k7m1, k7m2]
  instanceTypes := #[(.array .byte), .byte, .int, .boolean]
  staticTypes := #[.long, .boolean, (.array (.object "java/io/ObjectStreamField")), .char, (.object "java/util/Comparator"), .byte, .byte]
  resolved := Array.replicate 1451 none
  statics := some 0 }

def pool8 : Array CpInfo := pool [(4, .class_ 6), (1, u "java/lang/Object"), (0, u "<init>"), (0, u "()V"), (5, .class_ 16), (1, u "java/lang/StringLatin1"), (73, u "canEncode"), (14, u "(C)Z"), (15, u "$assertionsDisabled"), (0, u "Z"), (98, .class_ 223), (1, u "java/lang/StringLatin1$LinesSpliterator"), (156, u "toBytes"), (1, u "(C)[B"), (7, .class_ 391), (0, u "java/lang/StringLatin1$CharsSpliterator")] 3

def k8m0 : Method := { name := "<init>", desc := "()V", sig := { parameters := [], returnType := none }, accessFlags := 0, code := none }
def k8c1 : Code := { maxStack := 2, maxLocals := 1, code := jdk_43_method_3_code, exceptionTable := #[], attributes := #[] }
def k8m1 : Method := { name := "canEncode", desc := "(C)Z", sig := { parameters := [.char], returnType := some .boolean }, accessFlags := 9, code := some k8c1 }
def k8c2 : Code := { maxStack := 4, maxLocals := 1, code := jdk_43_method_46_code, exceptionTable := #[], attributes := #[] }
def k8m2 : Method := { name := "toBytes", desc := "(C)[B", sig := { parameters := [.char], returnType := some (.array .byte) }, accessFlags := 9, code := some k8c2 }
/-- java/lang/StringLatin1 -/
def k8 : Class := { plain "java/lang/StringLatin1" (some 0) with
  accessFlags := 48
  interfaces := #[]
  cf := some (fileOf pool8 14 #[.nestMembers #[390, 221]] #[{ accessFlags := 0, nameIndex := 7, descriptorIndex := 8, attributes := #[] }, { accessFlags := 9, nameIndex := 90, descriptorIndex := 105, attributes := #[] }, { accessFlags := 9, nameIndex := 380, descriptorIndex := 382, attributes := #[] }] 48 4 #[] #[{ accessFlags := 4120, nameIndex := 121, descriptorIndex := 122, attributes := #[] }])
  fields := #[{ name := "$assertionsDisabled", type := .boolean, accessFlags := 4120, slot := 0, constantValue := 0 }]
  methods := #[k8m0, k8m1, k8m2]
  instanceTypes := #[]
  staticTypes := #[.boolean]
  resolved := Array.replicate 395 none
  statics := none }

def pool9 : Array CpInfo := pool [(1, .methodref 2 3), (0, .class_ 4), (0, .nameAndType 5 6), (0, u "java/lang/Object"), (0, u "<init>"), (0, u "()V"), (0, .fieldref 8 9), (0, .class_ 10), (0, .nameAndType 11 12), (0, u "branchwork/Arguments"), (0, u "command"), (0, u "Ljava/lang/String;"), (0, .fieldref 8 14), (0, .nameAndType 15 16), (0, u "args"), (0, u "[Ljava/lang/String;"), (0, .fieldref 8 18), (0, .nameAndType 19 20), (0, u "next"), (0, u "I"), (2, u "hasNext"), (0, u "()Z"), (14, u "()Ljava/lang/String;"), (54, u "LARGEST_LONG"), (0, u "Ljava/math/BigInteger;"), (11, u "(Ljava/lang/String;[Ljava/lang/String;)V")] 73

def k9c0 : Code := { maxStack := 2, maxLocals := 3, code := prog_6_method_1_code, exceptionTable := #[], attributes := #[] }
def k9m0 : Method := { name := "<init>", desc := "(Ljava/lang/String;[Ljava/lang/String;)V", sig := { parameters := [(.object "java/lang/String"), (.array (.object "java/lang/String"))], returnType := none }, accessFlags := 0, code := some k9c0 }
def k9c1 : Code := { maxStack := 2, maxLocals := 1, code := prog_6_method_2_code, exceptionTable := #[], attributes := #[] }
def k9m1 : Method := { name := "hasNext", desc := "()Z", sig := { parameters := [], returnType := some .boolean }, accessFlags := 0, code := some k9c1 }
def k9c2 : Code := { maxStack := 5, maxLocals := 1, code := prog_6_method_3_code, exceptionTable := #[], attributes := #[] }
def k9m2 : Method := { name := "next", desc := "()Ljava/lang/String;", sig := { parameters := [], returnType := some (.object "java/lang/String") }, accessFlags := 0, code := some k9c2 }
/-- branchwork/Arguments -/
def k9 : Class := { plain "branchwork/Arguments" (some 0) with
  accessFlags := 48
  interfaces := #[]
  cf := some (fileOf pool9 8 #[] #[{ accessFlags := 0, nameIndex := 5, descriptorIndex := 107, attributes := #[] }, { accessFlags := 0, nameIndex := 23, descriptorIndex := 24, attributes := #[] }, { accessFlags := 0, nameIndex := 19, descriptorIndex := 39, attributes := #[] }] 48 2 #[] #[{ accessFlags := 26, nameIndex := 94, descriptorIndex := 95, attributes := #[] }, { accessFlags := 18, nameIndex := 11, descriptorIndex := 12, attributes := #[] }, { accessFlags := 18, nameIndex := 15, descriptorIndex := 16, attributes := #[] }, { accessFlags := 2, nameIndex := 19, descriptorIndex := 20, attributes := #[] }])
  fields := #[{ name := "LARGEST_LONG", type := (.object "java/math/BigInteger"), accessFlags := 26, slot := 0, constantValue := 0 }, { name := "command", type := (.object "java/lang/String"), accessFlags := 18, slot := 0, constantValue := 0 }, { name := "args", type := (.array (.object "java/lang/String")), accessFlags := 18, slot := 1, constantValue := 0 }, { name := "next", type := .int, accessFlags := 2, slot := 2, constantValue := 0 }]
  methods := #[k9m0, k9m1, k9m2]
  instanceTypes := #[(.object "java/lang/String"), (.array (.object "java/lang/String")), .int]
  staticTypes := #[(.object "java/math/BigInteger")]
  resolved := Array.replicate 181 none
  statics := none }

def pool10 : Array CpInfo := pool [(2, .class_ 4), (1, u "java/lang/Object"), (0, u "<init>"), (0, u "()V"), (17, .class_ 26), (1, u "jdk/internal/util/Preconditions"), (28, .class_ 56), (0, u "jdk/internal/util/Preconditions$4"), (57, .class_ 115), (0, u "jdk/internal/util/Preconditions$1"), (7, u "SIOOBE_FORMATTER"), (0, u "Ljava/util/function/BiFunction;"), (0, .class_ 126), (0, u "jdk/internal/util/Preconditions$2"), (3, u "AIOOBE_FORMATTER"), (0, .class_ 132), (0, u "jdk/internal/util/Preconditions$3"), (3, u "IOOBE_FORMATTER")] 57

def k10m0 : Method := { name := "<init>", desc := "()V", sig := { parameters := [], returnType := none }, accessFlags := 1, code := none }
/-- jdk/internal/util/Preconditions -/
def k10 : Class := { plain "jdk/internal/util/Preconditions" (some 0) with
  accessFlags := 33
  interfaces := #[]
  cf := some (fileOf pool10 24 #[.nestMembers #[55, 131, 125, 114]] #[{ accessFlags := 1, nameIndex := 5, descriptorIndex := 6, attributes := #[] }] 33 2 #[] #[{ accessFlags := 25, nameIndex := 123, descriptorIndex := 124, attributes := #[] }, { accessFlags := 25, nameIndex := 130, descriptorIndex := 124, attributes := #[] }, { accessFlags := 25, nameIndex := 136, descriptorIndex := 124, attributes := #[] }])
  fields := #[{ name := "SIOOBE_FORMATTER", type := (.object "java/util/function/BiFunction"), accessFlags := 25, slot := 0, constantValue := 0 }, { name := "AIOOBE_FORMATTER", type := (.object "java/util/function/BiFunction"), accessFlags := 25, slot := 1, constantValue := 0 }, { name := "IOOBE_FORMATTER", type := (.object "java/util/function/BiFunction"), accessFlags := 25, slot := 2, constantValue := 0 }]
  methods := #[k10m0]
  instanceTypes := #[]
  staticTypes := #[(.object "java/util/function/BiFunction"), (.object "java/util/function/BiFunction"), (.object "java/util/function/BiFunction")]
  resolved := Array.replicate 194 none
  statics := some 1 }

def pool11 : Array CpInfo := pool [(9, u "<init>"), (6, .class_ 18), (1, u "java/lang/Object"), (0, u "()V"), (1, .class_ 23), (1, u "jdk/internal/util/ArraysSupport"), (0, u "LOG2_ARRAY_LONG_INDEX_SCALE"), (0, u "I"), (2, u "U"), (0, u "Ljdk/internal/misc/Unsafe;"), (8, u "BIG_ENDIAN"), (0, u "Z"), (8, u "LOG2_BYTE_BIT_SIZE"), (4, u "LOG2_ARRAY_INT_INDEX_SCALE"), (54, u "JLA"), (0, u "Ljdk/internal/access/JavaLangAccess;"), (11, u "LOG2_ARRAY_BOOLEAN_INDEX_SCALE"), (9, u "LOG2_ARRAY_BYTE_INDEX_SCALE"), (5, u "LOG2_ARRAY_CHAR_INDEX_SCALE"), (5, u "LOG2_ARRAY_SHORT_INDEX_SCALE"), (18, u "LOG2_ARRAY_FLOAT_INDEX_SCALE"), (24, u "LOG2_ARRAY_DOUBLE_INDEX_SCALE"), (89, u "T_BOOLEAN"), (2, u "T_CHAR"), (1, u "T_FLOAT"), (1, u "T_DOUBLE"), (1, u "T_BYTE"), (1, u "T_SHORT"), (1, u "T_INT"), (1, u "T_LONG"), (1, u "SOFT_MAX_ARRAY_LENGTH")] 83

def k11m0 : Method := { name := "<init>", desc := "()V", sig := { parameters := [], returnType := none }, accessFlags := 2, code := none }
/-- jdk/internal/util/ArraysSupport -/
def k11 : Class := { plain "jdk/internal/util/ArraysSupport" (some 0) with
  accessFlags := 33
  interfaces := #[]
  cf := some (fileOf pool11 21 #[] #[{ accessFlags := 2, nameIndex := 9, descriptorIndex := 19, attributes := #[] }] 33 16 #[] #[{ accessFlags := 24, nameIndex := 28, descriptorIndex := 29, attributes := #[] }, { accessFlags := 26, nameIndex := 38, descriptorIndex := 39, attributes := #[] }, { accessFlags := 25, nameIndex := 121, descriptorIndex := 25, attributes := #[] }, { accessFlags := 25, nameIndex := 131, descriptorIndex := 25, attributes := #[] }, { accessFlags := 25, nameIndex := 137, descriptorIndex := 25, attributes := #[] }, { accessFlags := 25, nameIndex := 143, descriptorIndex := 25, attributes := #[] }, { accessFlags := 25, nameIndex := 53, descriptorIndex := 25, attributes := #[] }, { accessFlags := 25, nameIndex := 24, descriptorIndex := 25, attributes := #[] }, { accessFlags := 25, nameIndex := 162, descriptorIndex := 25, attributes := #[] }, { accessFlags := 25, nameIndex := 187, descriptorIndex := 25, attributes := #[] }, { accessFlags := 26, nameIndex := 48, descriptorIndex := 25, attributes := #[] }, { accessFlags := 25, nameIndex := 277, descriptorIndex := 25, attributes := #[] }, { accessFlags := 25, nameIndex := 280, descriptorIndex := 25, attributes := #[] }, { accessFlags := 25, nameIndex := 282, descriptorIndex := 25, attributes := #[] }, { accessFlags := 25, nameIndex := 284, descriptorIndex := 25, attributes := #[] }, { accessFlags := 25, nameIndex := 286, descriptorIndex := 25, attributes := #[] }, { accessFlags := 25, nameIndex := 288, descriptorIndex := 25, attributes := #[] }, { accessFlags := 25, nameIndex := 290, descriptorIndex := 25, attributes := #[] }, { accessFlags := 25, nameIndex := 292, descriptorIndex := 25, attributes := #[] }, { accessFlags := 26, nameIndex := 108, descriptorIndex := 109, attributes := #[] }, { accessFlags := 25, nameIndex := 294, descriptorIndex := 25, attributes := #[] }])
  fields := #[{ name := "U", type := (.object "jdk/internal/misc/Unsafe"), accessFlags := 24, slot := 0, constantValue := 0 }, { name := "BIG_ENDIAN", type := .boolean, accessFlags := 26, slot := 1, constantValue := 0 }, { name := "LOG2_ARRAY_BOOLEAN_INDEX_SCALE", type := .int, accessFlags := 25, slot := 2, constantValue := 0 }, { name := "LOG2_ARRAY_BYTE_INDEX_SCALE", type := .int, accessFlags := 25, slot := 3, constantValue := 0 }, { name := "LOG2_ARRAY_CHAR_INDEX_SCALE", type := .int, accessFlags := 25, slot := 4, constantValue := 0 }, { name := "LOG2_ARRAY_SHORT_INDEX_SCALE", type := .int, accessFlags := 25, slot := 5, constantValue := 0 }, { name := "LOG2_ARRAY_INT_INDEX_SCALE", type := .int, accessFlags := 25, slot := 6, constantValue := 0 }, { name := "LOG2_ARRAY_LONG_INDEX_SCALE", type := .int, accessFlags := 25, slot := 7, constantValue := 0 }, { name := "LOG2_ARRAY_FLOAT_INDEX_SCALE", type := .int, accessFlags := 25, slot := 8, constantValue := 0 }, { name := "LOG2_ARRAY_DOUBLE_INDEX_SCALE", type := .int, accessFlags := 25, slot := 9, constantValue := 0 }, { name := "LOG2_BYTE_BIT_SIZE", type := .int, accessFlags := 26, slot := 10, constantValue := 0 }, { name := "T_BOOLEAN", type := .int, accessFlags := 25, slot := 11, constantValue := 0 }, { name := "T_CHAR", type := .int, accessFlags := 25, slot := 12, constantValue := 0 }, { name := "T_FLOAT", type := .int, accessFlags := 25, slot := 13, constantValue := 0 }, { name := "T_DOUBLE", type := .int, accessFlags := 25, slot := 14, constantValue := 0 }, { name := "T_BYTE", type := .int, accessFlags := 25, slot := 15, constantValue := 0 }, { name := "T_SHORT", type := .int, accessFlags := 25, slot := 16, constantValue := 0 }, { name := "T_INT", type := .int, accessFlags := 25, slot := 17, constantValue := 0 }, { name := "T_LONG", type := .int, accessFlags := 25, slot := 18, constantValue := 0 }, { name := "JLA", type := (.object "jdk/internal/access/JavaLangAccess"), accessFlags := 26, slot := 19, constantValue := 0 }, { name := "SOFT_MAX_ARRAY_LENGTH", type := .int, accessFlags := 25, slot := 20, constantValue := 0 }]
  methods := #[k11m0]
  instanceTypes := #[]
  staticTypes := #[(.object "jdk/internal/misc/Unsafe"), .boolean, .int, .int, .int, .int, .int, .int, .int, .int, .int, .int, .int, .int, .int, .int, .int, .int, .int, (.object "jdk/internal/access/JavaLangAccess"), .int]
  resolved := Array.replicate 378 none
  statics := none }

def pool12 : Array CpInfo := pool [(1, u "java/lang/Cloneable"), (0, .class_ 1), (0, u "java/lang/Object"), (0, .class_ 3)] 3

/-- java/lang/Cloneable -/
def k12 : Class := { plain "java/lang/Cloneable" (some 0) with
  accessFlags := 1537
  interfaces := #[]
  cf := some (fileOf pool12 2 #[] #[] 1537 4 #[] #[])
  fields := #[]
  methods := #[]
  instanceTypes := #[]
  staticTypes := #[]
  resolved := Array.replicate 8 none
  statics := none }

/-- the primitive byte -/
def k13 : Class := { plain "byte" none with kind := .primitive 'B', accessFlags := 0x411 }
/-- [B -/
def k14 : Class := { plain "[B" (some 0) with kind := .array 13 .byte, interfaces := #[12, 2], accessFlags := 1041 }

/-- the primitive int -/
def k15 : Class := { plain "int" none with kind := .primitive 'I', accessFlags := 0x411 }
/-- [I -/
def k16 : Class := { plain "[I" (some 0) with kind := .array 15 .int, interfaces := #[12, 2], accessFlags := 1041 }

/-- [Ljava/lang/String; -/
def k17 : Class := { plain "[Ljava/lang/String;" (some 0) with kind := .array 7 (.object "java/lang/String"), interfaces := #[12, 2], accessFlags := 1041 }

def heap : Heap := #[{ cls := 7, slots := #[.long 0, .int 1, .null, .int 0, .null, .int 0, .int 0], vm := .statics 7 },
  { cls := 10, slots := #[.null, .null, .null], vm := .statics 10 }]
def classes : Array Class := #[k0, k1, k2, k3, k4, k5, k6, k7, k8, k9, k10, k11, k12, k13, k14, k15, k16, k17]
def interned : List (Array UInt16 × Addr) := []
def slotsUsed : Nat := 10
def theMethod : MethodId := ⟨1, 1⟩
def args0 : Array Value := #[.int 5, .int 7, .int 65, .int 66, .int 67]
def aboutOver (below : List Frame) : State where
  vm := { classes := classes, interned := interned.toArray }
  heap := heap
  slotsUsed := slotsUsed
  threads := #[{ frames := .invoking theMethod args0 :: below }]
def below0 : List Frame := [.native { method := ⟨0, 0⟩, args := #[] }]
def about1 : State := aboutOver below0
def p0 : Program := .bare "" "" ""
def e0 : Env := launch0.env 0 0 0
theorem w_frames : about1.frames = Frame.invoking theMethod args0 :: below0 := rfl
set_option maxRecDepth 65536 in
theorem w_args : argsFit about1.vm theMethod args0 = true := by decide +kernel
set_option maxRecDepth 65536 in
theorem w_heap : heapFits about1 = true := by decide +kernel
set_option maxRecDepth 65536 in
theorem w_runnable : about1.curStatus? = some .runnable := by decide +kernel
set_option maxRecDepth 65536 in
theorem w_alone : about1.alone = true := by decide +kernel
set_option maxRecDepth 65536 in
theorem w_named : about1.methodNamed? x = some theMethod := by decide +kernel
set_option maxRecDepth 65536 in
theorem w_hears : about1.hears theMethod below0 = true := by decide +kernel
set_option maxRecDepth 65536 in
theorem w_ripe : about1.ripe theMethod args0 below0 = true := by decide +kernel
theorem w_running : about1.status = .running := rfl
set_option maxRecDepth 65536 in
theorem w_room : about1.hasRoom e0.platform room_1 = true :=
  launch0.hasRoom_least _ room_1 (by decide +kernel) (by decide +kernel) (by decide +kernel) (by decide +kernel) (by decide +kernel) (by decide +kernel)
theorem allAtoms_all (ts : List Jvm.Cond) (a : Array Jvm.Value) (st : Jvm.State) : (allAtoms ts).before a st = ts.all (fun c => c.before a st) := by
  induction ts with
  | nil => rfl
  | cons c t ih =>
    show (Jvm.Cond.and c (allAtoms t)).before a st = _
    rw [Jvm.Cond.before_and, ih, List.all_cons]
def words1 : List Jvm.Cond := Jvm.Cond.code x code maxLocals ret :: tables_1
/-- a 'code' word, met by the world's own term for the bytes: nothing is compared byte by byte -/
theorem code_word {y : MethodName} {bytes : ByteArray} {mx : Nat} {rt : Option FieldType} {a : Array Value} {s : State} {m : MethodId} {meth : Method} {c : Code} (h1 : s.methodNamed? y = some m) (h2 : s.vm.method? m = some meth) (h3 : meth.code = some c) (h4 : c.code = bytes)
    (h5 : (c.maxLocals == mx && c.exceptionTable.isEmpty && decide (c.maxStack ≤ mostOperands) && decide (meth.sig.returnType = rt) && !meth.locks && decide (parseMethodDescriptor y.desc = some meth.sig)) = true) : (Jvm.Cond.code y bytes mx rt).before a s = true := by
  simp only [Bool.and_eq_true, beq_iff_eq, Bool.not_eq_true', decide_eq_true_eq] at h5
  obtain ⟨⟨⟨⟨⟨g1, g2⟩, g3⟩, g4⟩, g5⟩, g6⟩ := h5
  simp [Cond.before, Cond.holds, Cond.value, h1, h2, h3, h4, g1, g2, g3, g4, g5, g6]
def isCode : Jvm.Cond → Bool
  | .code _ _ _ _ => true
  | _ => false
theorem all_split {L : List Jvm.Cond} {P : Jvm.Cond → Bool} (h1 : L.all (fun c => isCode c || P c) = true) (h2 : ∀ c ∈ L.filter isCode, P c = true) : L.all P = true := by
  refine List.all_eq_true.mpr fun c hc => ?_
  have h := List.all_eq_true.mp h1 c hc
  rcases Bool.eq_false_or_eq_true (isCode c) with hi | hi
  · exact h2 c (List.mem_filter.mpr ⟨hc, hi⟩)
  · simpa [hi] using h
set_option maxRecDepth 65536 in
theorem w_c0 : (Jvm.Cond.code x code maxLocals ret).before args0 about1 = true := code_word (m := ⟨1, 1⟩) (meth := k1m1) (c := k1c1) (by decide +kernel) rfl rfl rfl (by decide +kernel)
set_option maxRecDepth 65536 in
theorem w_c1 : (Jvm.Cond.code ({ cls := "java/lang/String", name := "valueOf", desc := "(C)Ljava/lang/String;" } : Jvm.MethodName) jdk_42_method_139_code (1 : Nat) (Option.some (Jvm.ClassFile.FieldType.object "java/lang/String"))).before args0 about1 = true := code_word (m := ⟨7, 1⟩) (meth := k7m1) (c := k7c1) (by decide +kernel) rfl rfl rfl (by decide +kernel)
set_option maxRecDepth 65536 in
theorem w_c2 : (Jvm.Cond.code ({ cls := "java/lang/StringLatin1", name := "canEncode", desc := "(C)Z" } : Jvm.MethodName) jdk_43_method_3_code (1 : Nat) (Option.some Jvm.ClassFile.FieldType.boolean)).before args0 about1 = true := code_word (m := ⟨8, 1⟩) (meth := k8m1) (c := k8c1) (by decide +kernel) rfl rfl rfl (by decide +kernel)
set_option maxRecDepth 65536 in
theorem w_c3 : (Jvm.Cond.code ({ cls := "java/lang/StringLatin1", name := "toBytes", desc := "(C)[B" } : Jvm.MethodName) jdk_43_method_46_code (1 : Nat) (Option.some (Jvm.ClassFile.FieldType.array Jvm.ClassFile.FieldType.byte))).before args0 about1 = true := code_word (m := ⟨8, 2⟩) (meth := k8m2) (c := k8c2) (by decide +kernel) rfl rfl rfl (by decide +kernel)
set_option maxRecDepth 65536 in
theorem w_c4 : (Jvm.Cond.code ({ cls := "java/lang/String", name := "<init>", desc := "([BB)V" } : Jvm.MethodName) jdk_42_method_151_code (3 : Nat) (Option.none : Option Jvm.ClassFile.FieldType)).before args0 about1 = true := code_word (m := ⟨7, 2⟩) (meth := k7m2) (c := k7c2) (by decide +kernel) rfl rfl rfl (by decide +kernel)
set_option maxRecDepth 65536 in
theorem w_c5 : (Jvm.Cond.code ({ cls := "java/lang/Object", name := "<init>", desc := "()V" } : Jvm.MethodName) object_method_1_code (1 : Nat) (Option.none : Option Jvm.ClassFile.FieldType)).before args0 about1 = true := code_word (m := ⟨0, 0⟩) (meth := k0m0) (c := k0c0) (by decide +kernel) rfl rfl rfl (by decide +kernel)
set_option maxRecDepth 65536 in
theorem w_c6 : (Jvm.Cond.code ({ cls := "branchwork/Arguments", name := "<init>", desc := "(Ljava/lang/String;[Ljava/lang/String;)V" } : Jvm.MethodName) prog_6_method_1_code (3 : Nat) (Option.none : Option Jvm.ClassFile.FieldType)).before args0 about1 = true := code_word (m := ⟨9, 0⟩) (meth := k9m0) (c := k9c0) (by decide +kernel) rfl rfl rfl (by decide +kernel)
set_option maxRecDepth 65536 in
theorem w_c7 : (Jvm.Cond.code ({ cls := "branchwork/Arguments", name := "hasNext", desc := "()Z" } : Jvm.MethodName) prog_6_method_2_code (1 : Nat) (Option.some Jvm.ClassFile.FieldType.boolean)).before args0 about1 = true := code_word (m := ⟨9, 1⟩) (meth := k9m1) (c := k9c1) (by decide +kernel) rfl rfl rfl (by decide +kernel)
set_option maxRecDepth 65536 in
theorem w_c8 : (Jvm.Cond.code ({ cls := "branchwork/Arguments", name := "next", desc := "()Ljava/lang/String;" } : Jvm.MethodName) prog_6_method_3_code (1 : Nat) (Option.some (Jvm.ClassFile.FieldType.object "java/lang/String"))).before args0 about1 = true := code_word (m := ⟨9, 2⟩) (meth := k9m2) (c := k9c2) (by decide +kernel) rfl rfl rfl (by decide +kernel)
def codes1 : List Jvm.Cond := [Jvm.Cond.code x code maxLocals ret, Jvm.Cond.code ({ cls := "java/lang/String", name := "valueOf", desc := "(C)Ljava/lang/String;" } : Jvm.MethodName) jdk_42_method_139_code (1 : Nat) (Option.some (Jvm.ClassFile.FieldType.object "java/lang/String")), Jvm.Cond.code ({ cls := "java/lang/StringLatin1", name := "canEncode", desc := "(C)Z" } : Jvm.MethodName) jdk_43_method_3_code (1 : Nat) (Option.some Jvm.ClassFile.FieldType.boolean), Jvm.Cond.code ({ cls := "java/lang/StringLatin1", name := "toBytes", desc := "(C)[B" } : Jvm.MethodName) jdk_43_method_46_code (1 : Nat) (Option.some (Jvm.ClassFile.FieldType.array Jvm.ClassFile.FieldType.byte)), Jvm.Cond.code ({ cls := "java/lang/String", name := "<init>", desc := "([BB)V" } : Jvm.MethodName) jdk_42_method_151_code (3 : Nat) (Option.none : Option Jvm.ClassFile.FieldType), Jvm.Cond.code ({ cls := "java/lang/Object", name := "<init>", desc := "()V" } : Jvm.MethodName) object_method_1_code (1 : Nat) (Option.none : Option Jvm.ClassFile.FieldType), Jvm.Cond.code ({ cls := "branchwork/Arguments", name := "<init>", desc := "(Ljava/lang/String;[Ljava/lang/String;)V" } : Jvm.MethodName) prog_6_method_1_code (3 : Nat) (Option.none : Option Jvm.ClassFile.FieldType), Jvm.Cond.code ({ cls := "branchwork/Arguments", name := "hasNext", desc := "()Z" } : Jvm.MethodName) prog_6_method_2_code (1 : Nat) (Option.some Jvm.ClassFile.FieldType.boolean), Jvm.Cond.code ({ cls := "branchwork/Arguments", name := "next", desc := "()Ljava/lang/String;" } : Jvm.MethodName) prog_6_method_3_code (1 : Nat) (Option.some (Jvm.ClassFile.FieldType.object "java/lang/String"))]
set_option maxRecDepth 65536 in
theorem codes_eq : words1.filter isCode = codes1 := rfl
theorem w_codes : ∀ c ∈ words1.filter isCode, c.before args0 about1 = true := by
  rw [codes_eq]
  intro c hc
  simp only [codes1, List.mem_cons, List.not_mem_nil, or_false] at hc
  rcases hc with rfl | rfl | rfl | rfl | rfl | rfl | rfl | rfl | rfl
  · exact w_c0
  · exact w_c1
  · exact w_c2
  · exact w_c3
  · exact w_c4
  · exact w_c5
  · exact w_c6
  · exact w_c7
  · exact w_c8
set_option maxRecDepth 65536 in
theorem w_t1 : (words1.take 24).all (fun c => isCode c || c.before args0 about1) = true := by decide +kernel
set_option maxRecDepth 65536 in
theorem w_t2 : ((words1.drop 24).take 24).all (fun c => isCode c || c.before args0 about1) = true := by decide +kernel
set_option maxRecDepth 65536 in
theorem w_t3 : ((words1.drop 24).drop 24).all (fun c => isCode c || c.before args0 about1) = true := by decide +kernel
theorem w_tables : (allAtoms (Jvm.Cond.code x code maxLocals ret :: tables_1)).before args0 about1 = true := by
  rw [allAtoms_all]
  show words1.all (fun c => c.before args0 about1) = true
  refine all_split ?_ w_codes
  rw [← List.take_append_drop 24 words1, List.all_append, w_t1, ← List.take_append_drop 24 (words1.drop 24), List.all_append, w_t2, w_t3]
  rfl
set_option maxRecDepth 65536 in
theorem w_rest : rest_1_c.before args0 about1 = true := by decide +kernel
set_option maxRecDepth 65536 in
theorem w_case : (Jvm.Cond.and given_1 narrow_1).before args0 about1 = true := by decide +kernel
theorem w_applies : (headSpec (Jvm.Cond.code x code maxLocals ret :: tables_1) room_1).applies x e0.platform about1 = true :=
  (Spec.applies_iff w_frames).mpr ⟨w_running, w_runnable, w_alone, w_named, w_hears, w_ripe, w_room, w_tables⟩
theorem atStart : AtStart classFile x code maxLocals ret World_1 tables_1 room_1 Calls_1 rest_1 Pre_1 launch0 p0 e0 about1 theMethod args0 below0 :=
  ⟨lists_1, trivial, launch0.admits_env _ _ _, launch0.least_env, fairChoices_fair.cas, fairChoices_fair.clock, w_frames, w_args, w_heap, w_applies, trivial, w_rest, w_case⟩
end start1
theorem witness_1 : WitnessClaimed_1 := ⟨start1.p0, start1.e0, start1.about1, start1.theMethod, start1.args0, start1.below0, start1.atStart⟩
end Jvm.Pilot.@@N@@
