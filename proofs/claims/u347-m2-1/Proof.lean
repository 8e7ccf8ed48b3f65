import JvmDerived
import JvmDerived.Pilot.@@N@@Statement
import JvmDerived.Pilot.@@N@@Code
set_option linter.unusedVariables false
set_option linter.unusedSimpArgs false
namespace Jvm.Pilot.@@N@@
open Jvm Jvm.ClassFile Sem Op Lib Jvm.Free Jvm.Stand Jvm.LawKit Jvm.RoadKit Bundle Jvm.Pilot.@@N@@.Jvm.D
section OwnKit
variable {p : Program} {l : Launch} {e : Env} {R : Room} {s : State} {m : MethodId} {args : Array Value} {below : List Frame} {meth : Method} {c : Code} {T T' : State} {locs : List Loc} {cells slots : Nat} {Z : State} {h : Heap} {a0 : Array Value}
/-- from the state T with the frame g on top the method comes to its end, and what it leaves meets E -/
def own_WP (p : Program) (e : Env) (below : List Frame) (E : Outcome → State → Prop) (T : State) (g : JFrame) : Prop :=
  ∃ s₂ o, Steps p.tables e below (T.setTop g) s₂ ∧ s₂.status = .running ∧ Ended s₂ below o ∧ E o s₂
/-- it returns, and what it leaves meets Q within K cells and N slots -/
def own_E (s : State) (Q : Option Value → Heap → List Loc → Prop) (K N : Nat) (o : Outcome) (t : State) : Prop := ∃ v L, o = .returned v ∧ Q v t.heap L ∧ FrameEnd s o t L K N
variable {Q : Option Value → Heap → List Loc → Prop} {K N : Nat} {g g' : JFrame} {E : Outcome → State → Prop}
theorem own_go (h : ∀ t, Steps p.tables e below (T'.setTop g') t → Steps p.tables e below (T.setTop g) t) (k : own_WP p e below E T' g') : own_WP p e below E T g := by
  obtain ⟨s₂, o, h1, h2⟩ := k
  exact ⟨s₂, o, h s₂ h1, h2⟩
theorem own_tr (h : Steps p.tables e below (T.setTop g) (T'.setTop g')) (k : own_WP p e below E T' g') : own_WP p e below E T g := by
  obtain ⟨s₂, o, h1, h2⟩ := k
  exact ⟨s₂, o, h.trans h1, h2⟩
theorem own_end (X : Stand p l e R s m args below meth c T locs cells slots) (hlk : meth.locks = false) {v : Option Value} (hv : meth.sig.returnType = none → v = none)
    (hs : ∀ fs, (∀ (f : JFrame) (acts : List Action), f.method = m → f.locked = none → f.entered = [] → (doReturn e (T.setTop f) acts v).1 = T.setFrames fs) → Steps p.tables e below (T.setTop g) (T.setFrames fs))
    (hk : cells ≤ K) (hn : slots ≤ N) (hq : Q v T.heap locs) : own_WP p e below (own_E s Q K N) T g := by
  obtain ⟨fs, hr, hrun, hended, hW, hsame⟩ := X.leave hv hlk
  exact ⟨_, _, hs fs hr, hrun, hended, _, _, rfl, hq, ⟨_, rfl⟩, hW, hsame.mono hk hn⟩
theorem own_retV (X : Stand p l e R s m args below meth c T locs cells slots) (hx : p.tables.exec = Jvm.exec) (hlk : meth.locks = false) {pc : Nat} {Ls : Array Slot} (hret : meth.sig.returnType = none) (hd : decode c.code pc = .ok (.return_, 1))
    (hk : cells ≤ K) (hn : slots ≤ N) (hq : Q none T.heap locs) : own_WP p e below (own_E s Q K N) T (mkF m pc Ls []) :=
  own_end X hlk (fun _ => rfl) (fun fs hr => X.returnOut hx hret hd hr) hk hn hq
theorem own_retI (X : Stand p l e R s m args below meth c T locs cells slots) (hx : p.tables.exec = Jvm.exec) (hlk : meth.locks = false) {pc : Nat} {Ls : Array Slot} {z : Int32} (hret : meth.sig.returnType = some .int) (hd : decode c.code pc = .ok (.ireturn, 1))
    (hk : cells ≤ K) (hn : slots ≤ N) (hq : Q (some (.int z)) T.heap locs) : own_WP p e below (own_E s Q K N) T (mkF m pc Ls [.int z]) :=
  own_end X hlk (fun h => by rw [hret] at h; cases h) (fun fs hr => retOut X hx hret rfl (Or.inl ⟨rfl, Or.inl rfl, z, rfl⟩) hd hr) hk hn hq
theorem own_retJ (X : Stand p l e R s m args below meth c T locs cells slots) (hx : p.tables.exec = Jvm.exec) (hlk : meth.locks = false) {pc : Nat} {Ls : Array Slot} {z : Int64} (hret : meth.sig.returnType = some .long) (hd : decode c.code pc = .ok (.lreturn, 1))
    (hk : cells ≤ K) (hn : slots ≤ N) (hq : Q (some (.long z)) T.heap locs) : own_WP p e below (own_E s Q K N) T (mkF m pc Ls [.long z]) :=
  own_end X hlk (fun h => by rw [hret] at h; cases h) (fun fs hr => X.lreturnOut hx hret hd hr) hk hn hq
theorem own_retA (X : Stand p l e R s m args below meth c T locs cells slots) (hx : p.tables.exec = Jvm.exec) (hlk : meth.locks = false) {pc : Nat} {Ls : Array Slot} {w : Value} (hw : w.isRef = true) {t : FieldType} (ht : t.isReference = true) (hret : meth.sig.returnType = some t) (hd : decode c.code pc = .ok (.areturn, 1))
    (hk : cells ≤ K) (hn : slots ≤ N) (hq : Q (some w) T.heap locs) : own_WP p e below (own_E s Q K N) T (mkF m pc Ls [w]) :=
  own_end X hlk (fun h => by rw [hret] at h; cases h) (fun fs hr => X.areturnOut hx hw hret ht hd hr) hk hn hq
theorem own_retN (X : Stand p l e R s m args below meth c T locs cells slots) (hx : p.tables.exec = Jvm.exec) (hlk : meth.locks = false) {pc : Nat} {Ls : Array Slot} {z : Int32} {t : FieldType} (ht : t = .boolean ∨ t = .byte ∨ t = .char ∨ t = .short) (hret : meth.sig.returnType = some t) (hd : decode c.code pc = .ok (.ireturn, 1))
    (hk : cells ≤ K) (hn : slots ≤ N) (hq : Q (some (.int (nar t z))) T.heap locs) : own_WP p e below (own_E s Q K N) T (mkF m pc Ls [.int z]) :=
  own_end X hlk (fun h => by rw [hret] at h; cases h) (fun fs hr => retN X hx hret ht hd hr) hk hn hq
theorem own_len (X : Stand p l e R s m args below meth c T locs cells slots) (hx : p.tables.exec = Jvm.exec) (hZ : Z.Warmed39 s.vm) (eT : T.heap = h) {a : Addr} {k : ClassId} {ty : FieldType} {n : Int32} {vs : List Value} {d : Value} (V : Arv Z h a k ty n vs d)
    {pc : Nat} {Ls : Array Slot} {S : List Value} (hd : decode c.code pc = .ok (.arraylength, 1)) (kk : own_WP p e below E T (mkF m (pc + 1) Ls (.int n :: S))) : own_WP p e below E T (mkF m pc Ls (.ref a :: S)) := by
  obtain ⟨cl, A, q, S1, M, H, G⟩ := V
  refine own_go (fun t k => X.arraylength hx (by rw [eT]; exact A.1) (State.isArrayOf_alike hZ.alike A.2.1) (g := mkF m pc Ls (.ref a :: S)) rfl rfl hd t k) ?_
  rw [len_of S1 M]
  exact kk
theorem own_at {cl : Cell} {n j : Int32} {vs : List Value} {d w : Value} (S1 : cl.slots.size = n.toNatClampNeg) (H : Has cl vs d) (hj : ¬ j < 0 ∧ j < n) (hv : vs.getD j.toNatClampNeg d = w) : cl.slots[j.toNatClampNeg]? = some w :=
  H.at (inb_of S1 hj) hv
theorem own_ldI (X : Stand p l e R s m args below meth c T locs cells slots) (hx : p.tables.exec = Jvm.exec) (hZ : Z.Warmed39 s.vm) (eT : T.heap = h) {a : Addr} {k : ClassId} {n j w : Int32} {vs : List Value} {d : Value} (V : Arv Z h a k .int n vs d) (hj : ¬ j < 0 ∧ j < n) (hv : vs.getD j.toNatClampNeg d = .int w)
    {pc : Nat} {Ls : Array Slot} {S : List Value} (hd : decode c.code pc = .ok (.iaload, 1)) (kk : own_WP p e below E T (mkF m (pc + 1) Ls (.int w :: S))) : own_WP p e below E T (mkF m pc Ls (.int j :: .ref a :: S)) := by
  obtain ⟨cl, A, q, S1, M, H, G⟩ := V
  exact own_go (fun t k => X.iaload hx (j := j) (v := .int w) (by rw [eT]; exact A.1) (State.isArrayOf_alike hZ.alike A.2.1) A.2.2 (inb_of S1 hj) (own_at S1 H hj hv) (g := mkF m pc Ls (.int j :: .ref a :: S)) rfl rfl hd t k) kk
theorem own_ldJ (X : Stand p l e R s m args below meth c T locs cells slots) (hx : p.tables.exec = Jvm.exec) (hZ : Z.Warmed39 s.vm) (eT : T.heap = h) {a : Addr} {k : ClassId} {n j : Int32} {w : Int64} {vs : List Value} {d : Value} (V : Arv Z h a k .long n vs d) (hj : ¬ j < 0 ∧ j < n) (hv : vs.getD j.toNatClampNeg d = .long w)
    {pc : Nat} {Ls : Array Slot} {S : List Value} (hd : decode c.code pc = .ok (.laload, 1)) (kk : own_WP p e below E T (mkF m (pc + 1) Ls (.long w :: S))) : own_WP p e below E T (mkF m pc Ls (.int j :: .ref a :: S)) := by
  obtain ⟨cl, A, q, S1, M, H, G⟩ := V
  exact own_go (fun t k => X.laload hx (j := j) (v := .long w) (by rw [eT]; exact A.1) (State.isArrayOf_alike hZ.alike A.2.1) A.2.2 (inb_of S1 hj) (own_at S1 H hj hv) (g := mkF m pc Ls (.int j :: .ref a :: S)) rfl rfl hd t k) kk
theorem own_ldB (X : Stand p l e R s m args below meth c T locs cells slots) (hx : p.tables.exec = Jvm.exec) (hZ : Z.Warmed39 s.vm) (eT : T.heap = h) {a : Addr} {k : ClassId} {n j w : Int32} {vs : List Value} {d : Value} (V : Arv Z h a k .byte n vs d) (hj : ¬ j < 0 ∧ j < n) (hv : vs.getD j.toNatClampNeg d = .int w)
    {pc : Nat} {Ls : Array Slot} {S : List Value} (hd : decode c.code pc = .ok (.baload, 1)) (kk : own_WP p e below E T (mkF m (pc + 1) Ls (.int w :: S))) : own_WP p e below E T (mkF m pc Ls (.int j :: .ref a :: S)) := by
  obtain ⟨cl, A, q, S1, M, H, G⟩ := V
  exact own_go (fun t k => X.baloadBytes hx (j := j) (v := .int w) (by rw [eT]; exact A.1) (State.isArrayOf_alike hZ.alike A.2.1) A.2.2 (inb_of S1 hj) (own_at S1 H hj hv) (g := mkF m pc Ls (.int j :: .ref a :: S)) rfl rfl hd t k) kk
theorem own_ldR (X : Stand p l e R s m args below meth c T locs cells slots) (hx : p.tables.exec = Jvm.exec) (hZ : Z.Warmed39 s.vm) (eT : T.heap = h) {a : Addr} {k : ClassId} {ty : FieldType} (hty : ty.isReference = true) {n j : Int32} {w : Value} {vs : List Value} {d : Value} (V : Arv Z h a k ty n vs d) (hj : ¬ j < 0 ∧ j < n) (hv : vs.getD j.toNatClampNeg d = w)
    {pc : Nat} {Ls : Array Slot} {S : List Value} (hd : decode c.code pc = .ok (.aaload, 1)) (kk : own_WP p e below E T (mkF m (pc + 1) Ls (w :: S))) : own_WP p e below E T (mkF m pc Ls (.int j :: .ref a :: S)) := by
  obtain ⟨cl, A, q, S1, M, H, G⟩ := V
  exact own_go (fun t k => X.aaload hx (j := j) (v := w) (by rw [eT]; exact A.1) (State.isArrayOf_alike hZ.alike A.2.1) hty A.2.2 (inb_of S1 hj) (own_at S1 H hj hv) (g := mkF m pc Ls (.int j :: .ref a :: S)) rfl rfl hd t k) kk
theorem own_stI (X : Stand p l e R s m args below meth c T locs cells slots) (hx : p.tables.exec = Jvm.exec) (hZ : Z.Warmed39 s.vm) (eT : T.heap = h) {a : Addr} {k : ClassId} {n j x : Int32} {vs : List Value} {d : Value} (V : Arv Z h a k .int n vs d) (hj : ¬ j < 0 ∧ j < n) {i : Nat} (hji : j.toNatClampNeg = i) (hi : i < vs.length)
    {pc : Nat} {Ls : Array Slot} {S : List Value} (hd : decode c.code pc = .ok (.iastore, 1))
    (kk : ∀ T' h', Stand p l e R s m args below meth c T' (locs ++ [⟨a, j.toNatClampNeg⟩]) cells slots → T'.heap = h' → Wr h h' a j.toNatClampNeg (.int x) → Arv Z h' a k .int n (vs.set i (.int x)) d → own_WP p e below E T' (mkF m (pc + 1) Ls S)) : own_WP p e below E T (mkF m pc Ls (.int x :: .int j :: .ref a :: S)) := by
  obtain ⟨cl, A, q, S1, M, H, G⟩ := V
  obtain ⟨T', h', X', e', W', st⟩ := stI X hx hZ eT A (j := j) (inb_of S1 hj) (g := mkF m pc Ls (.int x :: .int j :: .ref a :: S)) rfl rfl hd
  exact own_go st (kk T' h' X' e' W' (Arv.set A q S1 M H G rfl W' i hji hi))
theorem own_stJ (X : Stand p l e R s m args below meth c T locs cells slots) (hx : p.tables.exec = Jvm.exec) (hZ : Z.Warmed39 s.vm) (eT : T.heap = h) {a : Addr} {k : ClassId} {n j : Int32} {x : Int64} {vs : List Value} {d : Value} (V : Arv Z h a k .long n vs d) (hj : ¬ j < 0 ∧ j < n) {i : Nat} (hji : j.toNatClampNeg = i) (hi : i < vs.length)
    {pc : Nat} {Ls : Array Slot} {S : List Value} (hd : decode c.code pc = .ok (.lastore, 1))
    (kk : ∀ T' h', Stand p l e R s m args below meth c T' (locs ++ [⟨a, j.toNatClampNeg⟩]) cells slots → T'.heap = h' → Wr h h' a j.toNatClampNeg (.long x) → Arv Z h' a k .long n (vs.set i (.long x)) d → own_WP p e below E T' (mkF m (pc + 1) Ls S)) : own_WP p e below E T (mkF m pc Ls (.long x :: .int j :: .ref a :: S)) := by
  obtain ⟨cl, A, q, S1, M, H, G⟩ := V
  obtain ⟨T', h', X', e', W', st⟩ := stJ X hx hZ eT A (j := j) (inb_of S1 hj) (g := mkF m pc Ls (.long x :: .int j :: .ref a :: S)) rfl rfl hd
  exact own_go st (kk T' h' X' e' W' (Arv.set A q S1 M H G rfl W' i hji hi))
theorem own_stB (X : Stand p l e R s m args below meth c T locs cells slots) (hx : p.tables.exec = Jvm.exec) (hZ : Z.Warmed39 s.vm) (eT : T.heap = h) {a : Addr} {k : ClassId} {n j x : Int32} {vs : List Value} {d : Value} (V : Arv Z h a k .byte n vs d) (hj : ¬ j < 0 ∧ j < n) {i : Nat} (hji : j.toNatClampNeg = i) (hi : i < vs.length)
    {pc : Nat} {Ls : Array Slot} {S : List Value} (hd : decode c.code pc = .ok (.bastore, 1))
    (kk : ∀ T' h', Stand p l e R s m args below meth c T' (locs ++ [⟨a, j.toNatClampNeg⟩]) cells slots → T'.heap = h' → Wr h h' a j.toNatClampNeg (.int (nar .byte x)) → Arv Z h' a k .byte n (vs.set i (.int (nar .byte x))) d → own_WP p e below E T' (mkF m (pc + 1) Ls S)) : own_WP p e below E T (mkF m pc Ls (.int x :: .int j :: .ref a :: S)) := by
  obtain ⟨cl, A, q, S1, M, H, G⟩ := V
  obtain ⟨T', h', X', e', W', st⟩ := stB X hx hZ eT A (j := j) (inb_of S1 hj) (g := mkF m pc Ls (.int x :: .int j :: .ref a :: S)) rfl rfl hd
  exact own_go st (kk T' h' X' e' W' (Arv.set A q S1 M H G (fits_nar_byte x) W' i hji hi))
theorem own_nm {x a : Addr} (h : x ≠ a) : x ∉ [a] := fun q => h (List.mem_singleton.mp q)
theorem own_nm0 {x : Addr} : x ∉ ([] : List Addr) := List.not_mem_nil
theorem own_nm2 {x a b : Addr} (h : x ≠ a) (h' : x ≠ b) : x ∉ [a, b] := fun q => by
  rcases List.mem_cons.mp q with r | r
  · exact h r
  · exact h' (List.mem_singleton.mp r)
theorem own_le {h0 h : Heap} {n0 : Nat} {ws : List Addr} (Z0 : n0 ≤ h0.size) (K : Keep h0 h ws) : n0 ≤ h.size := Nat.le_trans Z0 K.1
end OwnKit

def own_sr (a : Int64) (q : Int32) : Int64 := if q = 0 then a else a + 1
theorem d1_0 : decode prog_33_method_1_code 0 = .ok (.aload_n 0, 1) := by decide +kernel
theorem d1_1 : decode prog_33_method_1_code 1 = .ok (.invokespecial 1, 3) := by decide +kernel
theorem d1_4 : decode prog_33_method_1_code 4 = .ok (.return_, 1) := by decide +kernel
theorem own_pn6777 : plainName "com/example/soak/soak/sim/CallCounts" = true := by first | (simp [plainName, overriddenIn]; done) | decide +kernel
theorem ef_1 (m : MethodId) (zo : Addr) : entryFrame m #[(.ref zo)] 1 = mkF m 0 #[.val (.ref zo)] [] := by first | (simp [entryFrame, mkF, argsToLocals, Value.category]; done) | rfl
def Q1 (Z : State) (zo : Addr) (h0 : Heap) (n0 : Nat) (v : Option Value) (h : Heap) (L : List Loc) : Prop := v = none ∧ Fr n0 L ∧ h = h0
set_option maxRecDepth 65536 in
set_option maxHeartbeats 40000000 in
theorem rm1 (l : Launch) (Z : State) (a0 : Array Value) (hw : ∀ d ∈ tables_1, d.before a0 Z = true) (ws : List Jvm.Cond) (zo : Addr) (h0 : Heap) (n0 : Nat) (Z0 : n0 ≤ h0.size)  :
    MetFree l (⟨"com/example/soak/soak/sim/CallCounts", "<init>", "()V"⟩ : MethodName) (head1 (Jvm.Cond.code (⟨"com/example/soak/soak/sim/CallCounts", "<init>", "()V"⟩ : MethodName) prog_33_method_1_code 1 none :: ws) ({ frames := 1, cells := 0, slots := 0, locals := 12 } : Room)) (fun a U => a = #[(.ref zo)] ∧ Z.Warmed39 U.vm ∧ U.heap = h0) (fun _ _ _ _ _ => True) (fun _ U o U' => ∃ v L, o = .returned v ∧ Q1 Z zo h0 n0 v U'.heap L ∧ FrameEnd U o U' L ({ frames := 1, cells := 0, slots := 0, locals := 12 } : Room).cells ({ frames := 1, cells := 0, slots := 0, locals := 12 } : Room).slots) := by
  refine MetFree.of_bodySF (plainFor_of_name own_pn6777) hisR ?_
  intro p e s m args below meth c s₁ Bd hml0 hP hK
  obtain ⟨rfl, hZ, hh⟩ := hP
  have hx := Bd.exec
  have hby := Bd.bytes
  have hml : c.maxLocals = 1 := hml0
  have hown : s.vm.findClass "com/example/soak/soak/sim/CallCounts" = some m.cls := findClass_of_methodNamed Bd.named
  have hnm := (name_of_methodNamed Bd.named Bd.method).1
  have X0 : Stand p l e ({ frames := 1, cells := 0, slots := 0, locals := 12 } : Room) s m #[(.ref zo)] below meth c s₁ [] 0 0 := Stand.of_body Bd
  have e0 : s₁.heap = h0 := by rw [← hh, Bd.state]; rfl
  have N0 := Fr.nil n0
  have K0 := Keep.refl h0 ([] : List Addr)
  show own_WP p e below (own_E s (Q1 Z zo h0 n0) 0 0) s₁ (entryFrame m #[(.ref zo)] 1)
  rw [ef_1 m zo]
  show own_WP _ _ _ _ s₁ (mkF m 0 #[.val (.ref zo)] [])
  refine own_go (fun t k => XS.aloadN X0.here hx rfl (hb hby d1_0) rfl rfl  k) ?_
  show own_WP _ _ _ _ s₁ (mkF m 1 #[.val (.ref zo)] [(.ref zo)])
  obtain ⟨T1, X1, e1, st1⟩ := initO X0 hx hZ hown (hw _ (List.mem_of_getElem? (i := 6) rfl)) (hw _ (List.mem_of_getElem? (i := 7) rfl)) (hw _ (List.mem_of_getElem? (i := 8) rfl)) e0 (g := (mkF m 1 #[.val (.ref zo)] [(.ref zo)])) rfl (by rw [hml]; rfl) rfl (hb hby d1_1) (by decide) (W := 0) (by show 2 * 0 + _ ≤ _; exact Nat.le_of_eq rfl) (by decide)
  refine own_go st1 ?_
  show own_WP _ _ _ _ T1 (mkF m 4 #[.val (.ref zo)] [])
  refine own_retV X1 hx Bd.notSynchronized Bd.returns (hb hby d1_4) (by decide) (by decide) ?_
  rw [e1]
  exact ⟨rfl, N0, rfl⟩
theorem d11_0 : decode prog_33_method_3_code 0 = .ok (.aload_n 0, 1) := by decide +kernel
theorem d11_1 : decode prog_33_method_3_code 1 = .ok (.dup, 1) := by decide +kernel
theorem d11_2 : decode prog_33_method_3_code 2 = .ok (.getfield 21, 3) := by decide +kernel
theorem d11_5 : decode prog_33_method_3_code 5 = .ok (.lconst 1, 1) := by decide +kernel
theorem d11_6 : decode prog_33_method_3_code 6 = .ok (.ladd, 1) := by decide +kernel
theorem d11_7 : decode prog_33_method_3_code 7 = .ok (.putfield 21, 3) := by decide +kernel
theorem d11_10 : decode prog_33_method_3_code 10 = .ok (.return_, 1) := by decide +kernel
theorem ef_11 (m : MethodId) (zo : Addr) : entryFrame m #[(.ref zo)] 1 = mkF m 0 #[.val (.ref zo)] [] := by first | (simp [entryFrame, mkF, argsToLocals, Value.category]; done) | rfl
def Q11 (Z : State) (zo : Addr) (zo1 : Int64) (zg1 : Int64) (zf1 : Int64) (zr1 : Int64) (zs1 : Int64) (h0 : Heap) (n0 : Nat) (v : Option Value) (h : Heap) (L : List Loc) : Prop := v = none ∧ Fr n0 L ∧ Keep h0 h [zo] ∧ Exa Z h zo "com/example/soak/soak/sim/CallCounts" ∧ Fld Z h zo "com/example/soak/soak/sim/CallCounts" "offered" "J" (.long (zo1 + (1 : Int64))) ∧ Fld Z h zo "com/example/soak/soak/sim/CallCounts" "good" "J" (.long zg1) ∧ Fld Z h zo "com/example/soak/soak/sim/CallCounts" "failed" "J" (.long zf1) ∧ Fld Z h zo "com/example/soak/soak/sim/CallCounts" "rejected" "J" (.long zr1) ∧ Fld Z h zo "com/example/soak/soak/sim/CallCounts" "serverRejected" "J" (.long zs1)
set_option maxRecDepth 65536 in
set_option maxHeartbeats 40000000 in
theorem rm11 (l : Launch) (Z : State) (a0 : Array Value) (hw : ∀ d ∈ tables_1, d.before a0 Z = true) (ws : List Jvm.Cond) (zo : Addr) (zo1 : Int64) (zg1 : Int64) (zf1 : Int64) (zr1 : Int64) (zs1 : Int64) (h0 : Heap) (n0 : Nat) (Z0 : n0 ≤ h0.size) (P0 : Exa Z h0 zo "com/example/soak/soak/sim/CallCounts") (P1 : Fld Z h0 zo "com/example/soak/soak/sim/CallCounts" "offered" "J" (.long zo1)) (P2 : Fld Z h0 zo "com/example/soak/soak/sim/CallCounts" "good" "J" (.long zg1)) (P3 : Fld Z h0 zo "com/example/soak/soak/sim/CallCounts" "failed" "J" (.long zf1)) (P4 : Fld Z h0 zo "com/example/soak/soak/sim/CallCounts" "rejected" "J" (.long zr1)) (P5 : Fld Z h0 zo "com/example/soak/soak/sim/CallCounts" "serverRejected" "J" (.long zs1)) (g_zo : n0 ≤ zo) :
    MetFree l (⟨"com/example/soak/soak/sim/CallCounts", "countOffered", "()V"⟩ : MethodName) (head1 (Jvm.Cond.code (⟨"com/example/soak/soak/sim/CallCounts", "countOffered", "()V"⟩ : MethodName) prog_33_method_3_code 1 none :: ws) ({ frames := 0, cells := 0, slots := 0, locals := 0 } : Room)) (fun a U => a = #[(.ref zo)] ∧ Z.Warmed39 U.vm ∧ U.heap = h0) (fun _ _ _ _ _ => True) (fun _ U o U' => ∃ v L, o = .returned v ∧ Q11 Z zo zo1 zg1 zf1 zr1 zs1 h0 n0 v U'.heap L ∧ FrameEnd U o U' L ({ frames := 0, cells := 0, slots := 0, locals := 0 } : Room).cells ({ frames := 0, cells := 0, slots := 0, locals := 0 } : Room).slots) := by
  refine MetFree.of_bodySF (plainFor_of_name own_pn6777) hisR ?_
  intro p e s m args below meth c s₁ Bd hml0 hP hK
  obtain ⟨rfl, hZ, hh⟩ := hP
  have hx := Bd.exec
  have hby := Bd.bytes
  have hml : c.maxLocals = 1 := hml0
  have hown : s.vm.findClass "com/example/soak/soak/sim/CallCounts" = some m.cls := findClass_of_methodNamed Bd.named
  have hnm := (name_of_methodNamed Bd.named Bd.method).1
  have X0 : Stand p l e ({ frames := 0, cells := 0, slots := 0, locals := 0 } : Room) s m #[(.ref zo)] below meth c s₁ [] 0 0 := Stand.of_body Bd
  have e0 : s₁.heap = h0 := by rw [← hh, Bd.state]; rfl
  have N0 := Fr.nil n0
  have K0 := Keep.refl h0 [zo]
  show own_WP p e below (own_E s (Q11 Z zo zo1 zg1 zf1 zr1 zs1 h0 n0) 0 0) s₁ (entryFrame m #[(.ref zo)] 1)
  rw [ef_11 m zo]
  show own_WP _ _ _ _ s₁ (mkF m 0 #[.val (.ref zo)] [])
  refine own_go (fun t k => XS.aloadN X0.here hx rfl (hb hby d11_0) rfl rfl  k) ?_
  show own_WP _ _ _ _ s₁ (mkF m 1 #[.val (.ref zo)] [(.ref zo)])
  refine own_go (fun t k => XS.dup X0.here hx rfl (hb hby d11_1) rfl rfl k) ?_
  show own_WP _ _ _ _ s₁ (mkF m 2 #[.val (.ref zo)] [(.ref zo), (.ref zo)])
  obtain ⟨T1, X1, e1, st1⟩ := getF X0 hx hZ hown (host := "") (Or.inl (hw _ (List.mem_of_getElem? (i := 25) rfl))) Via.refl e0 P1 (g := (mkF m 2 #[.val (.ref zo)] [(.ref zo), (.ref zo)])) rfl rfl (hb hby d11_2)
  refine own_go st1 ?_
  show own_WP _ _ _ _ T1 (mkF m 5 #[.val (.ref zo)] [(.long zo1), (.ref zo)])
  refine own_go (fun t k => XS.lconst X1.here hx rfl (hb hby d11_5) k) ?_
  show own_WP _ _ _ _ T1 (mkF m 6 #[.val (.ref zo)] [(.long (1 : Int64)), (.long zo1), (.ref zo)])
  refine own_go (fun t k => XS.ladd X1.here hx rfl (hb hby d11_6) rfl k) ?_
  show own_WP _ _ _ _ T1 (mkF m 7 #[.val (.ref zo)] [(.long (zo1 + (1 : Int64))), (.ref zo)])
  obtain ⟨T2, h2, X2, e2, W2, st2⟩ := putF X1 hx hZ hown (host := "") (Or.inl (hw _ (List.mem_of_getElem? (i := 25) rfl))) Via.refl e1 P1 P0 (Or.inl (hw _ (List.mem_of_getElem? (i := 26) rfl))) (hw _ (List.mem_of_getElem? (i := 1) rfl)) (ty := .long) (by decide) rfl rfl (g := (mkF m 7 #[.val (.ref zo)] [(.long (zo1 + (1 : Int64))), (.ref zo)])) rfl rfl (hb hby d11_7)
  refine own_go st2 ?_
  have f3 : Fld Z h2 zo "com/example/soak/soak/sim/CallCounts" "offered" "J" (.long (zo1 + (1 : Int64))) := P1.same W2
  have f4 : Exa Z h2 zo "com/example/soak/soak/sim/CallCounts" := P0.wr W2
  have f6 : Fld Z h2 zo "com/example/soak/soak/sim/CallCounts" "good" "J" (.long zg1) := P2.other W2 (Or.inr (slot_ne (Or.inl (hw _ (List.mem_of_getElem? (i := 33) rfl))) (Or.inl (hw _ (List.mem_of_getElem? (i := 26) rfl))) (by decide) (t := .long) (t' := .long) (by decide) (by decide)))
  have f7 : Fld Z h2 zo "com/example/soak/soak/sim/CallCounts" "failed" "J" (.long zf1) := P3.other W2 (Or.inr (slot_ne (Or.inl (hw _ (List.mem_of_getElem? (i := 15) rfl))) (Or.inl (hw _ (List.mem_of_getElem? (i := 26) rfl))) (by decide) (t := .long) (t' := .long) (by decide) (by decide)))
  have f8 : Fld Z h2 zo "com/example/soak/soak/sim/CallCounts" "rejected" "J" (.long zr1) := P4.other W2 (Or.inr (slot_ne (Or.inl (hw _ (List.mem_of_getElem? (i := 17) rfl))) (Or.inl (hw _ (List.mem_of_getElem? (i := 26) rfl))) (by decide) (t := .long) (t' := .long) (by decide) (by decide)))
  have f9 : Fld Z h2 zo "com/example/soak/soak/sim/CallCounts" "serverRejected" "J" (.long zs1) := P5.other W2 (Or.inr (slot_ne (Or.inl (hw _ (List.mem_of_getElem? (i := 19) rfl))) (Or.inl (hw _ (List.mem_of_getElem? (i := 26) rfl))) (by decide) (t := .long) (t' := .long) (by decide) (by decide)))
  have K10 : Keep h0 h2 [zo] := K0.wr W2 (Or.inl (List.mem_of_getElem? (i := 0) rfl))
  have N11 := Fr.snoc X2 N0 g_zo
  show own_WP _ _ _ _ T2 (mkF m 10 #[.val (.ref zo)] [])
  refine own_retV X2 hx Bd.notSynchronized Bd.returns (hb hby d11_10) (by decide) (by decide) ?_
  rw [e2]
  exact ⟨rfl, N11, K10, f4, f3, f6, f7, f8, f9⟩
theorem d9_0 : decode prog_33_method_4_code 0 = .ok (.aload_n 0, 1) := by decide +kernel
theorem d9_1 : decode prog_33_method_4_code 1 = .ok (.dup, 1) := by decide +kernel
theorem d9_2 : decode prog_33_method_4_code 2 = .ok (.getfield 27, 3) := by decide +kernel
theorem d9_5 : decode prog_33_method_4_code 5 = .ok (.lconst 1, 1) := by decide +kernel
theorem d9_6 : decode prog_33_method_4_code 6 = .ok (.ladd, 1) := by decide +kernel
theorem d9_7 : decode prog_33_method_4_code 7 = .ok (.putfield 27, 3) := by decide +kernel
theorem d9_10 : decode prog_33_method_4_code 10 = .ok (.return_, 1) := by decide +kernel
theorem ef_9 (m : MethodId) (zo : Addr) : entryFrame m #[(.ref zo)] 1 = mkF m 0 #[.val (.ref zo)] [] := by first | (simp [entryFrame, mkF, argsToLocals, Value.category]; done) | rfl
def Q9 (Z : State) (zo : Addr) (zo1 : Int64) (zg1 : Int64) (zf1 : Int64) (zr1 : Int64) (zs1 : Int64) (h0 : Heap) (n0 : Nat) (v : Option Value) (h : Heap) (L : List Loc) : Prop := v = none ∧ Fr n0 L ∧ Keep h0 h [zo] ∧ Exa Z h zo "com/example/soak/soak/sim/CallCounts" ∧ Fld Z h zo "com/example/soak/soak/sim/CallCounts" "offered" "J" (.long zo1) ∧ Fld Z h zo "com/example/soak/soak/sim/CallCounts" "good" "J" (.long (zg1 + (1 : Int64))) ∧ Fld Z h zo "com/example/soak/soak/sim/CallCounts" "failed" "J" (.long zf1) ∧ Fld Z h zo "com/example/soak/soak/sim/CallCounts" "rejected" "J" (.long zr1) ∧ Fld Z h zo "com/example/soak/soak/sim/CallCounts" "serverRejected" "J" (.long zs1)
set_option maxRecDepth 65536 in
set_option maxHeartbeats 40000000 in
theorem rm9 (l : Launch) (Z : State) (a0 : Array Value) (hw : ∀ d ∈ tables_1, d.before a0 Z = true) (ws : List Jvm.Cond) (zo : Addr) (zo1 : Int64) (zg1 : Int64) (zf1 : Int64) (zr1 : Int64) (zs1 : Int64) (h0 : Heap) (n0 : Nat) (Z0 : n0 ≤ h0.size) (P0 : Exa Z h0 zo "com/example/soak/soak/sim/CallCounts") (P1 : Fld Z h0 zo "com/example/soak/soak/sim/CallCounts" "offered" "J" (.long zo1)) (P2 : Fld Z h0 zo "com/example/soak/soak/sim/CallCounts" "good" "J" (.long zg1)) (P3 : Fld Z h0 zo "com/example/soak/soak/sim/CallCounts" "failed" "J" (.long zf1)) (P4 : Fld Z h0 zo "com/example/soak/soak/sim/CallCounts" "rejected" "J" (.long zr1)) (P5 : Fld Z h0 zo "com/example/soak/soak/sim/CallCounts" "serverRejected" "J" (.long zs1)) (g_zo : n0 ≤ zo) :
    MetFree l (⟨"com/example/soak/soak/sim/CallCounts", "countGood", "()V"⟩ : MethodName) (head1 (Jvm.Cond.code (⟨"com/example/soak/soak/sim/CallCounts", "countGood", "()V"⟩ : MethodName) prog_33_method_4_code 1 none :: ws) ({ frames := 0, cells := 0, slots := 0, locals := 0 } : Room)) (fun a U => a = #[(.ref zo)] ∧ Z.Warmed39 U.vm ∧ U.heap = h0) (fun _ _ _ _ _ => True) (fun _ U o U' => ∃ v L, o = .returned v ∧ Q9 Z zo zo1 zg1 zf1 zr1 zs1 h0 n0 v U'.heap L ∧ FrameEnd U o U' L ({ frames := 0, cells := 0, slots := 0, locals := 0 } : Room).cells ({ frames := 0, cells := 0, slots := 0, locals := 0 } : Room).slots) := by
  refine MetFree.of_bodySF (plainFor_of_name own_pn6777) hisR ?_
  intro p e s m args below meth c s₁ Bd hml0 hP hK
  obtain ⟨rfl, hZ, hh⟩ := hP
  have hx := Bd.exec
  have hby := Bd.bytes
  have hml : c.maxLocals = 1 := hml0
  have hown : s.vm.findClass "com/example/soak/soak/sim/CallCounts" = some m.cls := findClass_of_methodNamed Bd.named
  have hnm := (name_of_methodNamed Bd.named Bd.method).1
  have X0 : Stand p l e ({ frames := 0, cells := 0, slots := 0, locals := 0 } : Room) s m #[(.ref zo)] below meth c s₁ [] 0 0 := Stand.of_body Bd
  have e0 : s₁.heap = h0 := by rw [← hh, Bd.state]; rfl
  have N0 := Fr.nil n0
  have K0 := Keep.refl h0 [zo]
  show own_WP p e below (own_E s (Q9 Z zo zo1 zg1 zf1 zr1 zs1 h0 n0) 0 0) s₁ (entryFrame m #[(.ref zo)] 1)
  rw [ef_9 m zo]
  show own_WP _ _ _ _ s₁ (mkF m 0 #[.val (.ref zo)] [])
  refine own_go (fun t k => XS.aloadN X0.here hx rfl (hb hby d9_0) rfl rfl  k) ?_
  show own_WP _ _ _ _ s₁ (mkF m 1 #[.val (.ref zo)] [(.ref zo)])
  refine own_go (fun t k => XS.dup X0.here hx rfl (hb hby d9_1) rfl rfl k) ?_
  show own_WP _ _ _ _ s₁ (mkF m 2 #[.val (.ref zo)] [(.ref zo), (.ref zo)])
  obtain ⟨T1, X1, e1, st1⟩ := getF X0 hx hZ hown (host := "") (Or.inl (hw _ (List.mem_of_getElem? (i := 32) rfl))) Via.refl e0 P2 (g := (mkF m 2 #[.val (.ref zo)] [(.ref zo), (.ref zo)])) rfl rfl (hb hby d9_2)
  refine own_go st1 ?_
  show own_WP _ _ _ _ T1 (mkF m 5 #[.val (.ref zo)] [(.long zg1), (.ref zo)])
  refine own_go (fun t k => XS.lconst X1.here hx rfl (hb hby d9_5) k) ?_
  show own_WP _ _ _ _ T1 (mkF m 6 #[.val (.ref zo)] [(.long (1 : Int64)), (.long zg1), (.ref zo)])
  refine own_go (fun t k => XS.ladd X1.here hx rfl (hb hby d9_6) rfl k) ?_
  show own_WP _ _ _ _ T1 (mkF m 7 #[.val (.ref zo)] [(.long (zg1 + (1 : Int64))), (.ref zo)])
  obtain ⟨T2, h2, X2, e2, W2, st2⟩ := putF X1 hx hZ hown (host := "") (Or.inl (hw _ (List.mem_of_getElem? (i := 32) rfl))) Via.refl e1 P2 P0 (Or.inl (hw _ (List.mem_of_getElem? (i := 33) rfl))) (hw _ (List.mem_of_getElem? (i := 1) rfl)) (ty := .long) (by decide) rfl rfl (g := (mkF m 7 #[.val (.ref zo)] [(.long (zg1 + (1 : Int64))), (.ref zo)])) rfl rfl (hb hby d9_7)
  refine own_go st2 ?_
  have f3 : Fld Z h2 zo "com/example/soak/soak/sim/CallCounts" "good" "J" (.long (zg1 + (1 : Int64))) := P2.same W2
  have f4 : Exa Z h2 zo "com/example/soak/soak/sim/CallCounts" := P0.wr W2
  have f5 : Fld Z h2 zo "com/example/soak/soak/sim/CallCounts" "offered" "J" (.long zo1) := P1.other W2 (Or.inr (slot_ne (Or.inl (hw _ (List.mem_of_getElem? (i := 26) rfl))) (Or.inl (hw _ (List.mem_of_getElem? (i := 33) rfl))) (by decide) (t := .long) (t' := .long) (by decide) (by decide)))
  have f7 : Fld Z h2 zo "com/example/soak/soak/sim/CallCounts" "failed" "J" (.long zf1) := P3.other W2 (Or.inr (slot_ne (Or.inl (hw _ (List.mem_of_getElem? (i := 15) rfl))) (Or.inl (hw _ (List.mem_of_getElem? (i := 33) rfl))) (by decide) (t := .long) (t' := .long) (by decide) (by decide)))
  have f8 : Fld Z h2 zo "com/example/soak/soak/sim/CallCounts" "rejected" "J" (.long zr1) := P4.other W2 (Or.inr (slot_ne (Or.inl (hw _ (List.mem_of_getElem? (i := 17) rfl))) (Or.inl (hw _ (List.mem_of_getElem? (i := 33) rfl))) (by decide) (t := .long) (t' := .long) (by decide) (by decide)))
  have f9 : Fld Z h2 zo "com/example/soak/soak/sim/CallCounts" "serverRejected" "J" (.long zs1) := P5.other W2 (Or.inr (slot_ne (Or.inl (hw _ (List.mem_of_getElem? (i := 19) rfl))) (Or.inl (hw _ (List.mem_of_getElem? (i := 33) rfl))) (by decide) (t := .long) (t' := .long) (by decide) (by decide)))
  have K10 : Keep h0 h2 [zo] := K0.wr W2 (Or.inl (List.mem_of_getElem? (i := 0) rfl))
  have N11 := Fr.snoc X2 N0 g_zo
  show own_WP _ _ _ _ T2 (mkF m 10 #[.val (.ref zo)] [])
  refine own_retV X2 hx Bd.notSynchronized Bd.returns (hb hby d9_10) (by decide) (by decide) ?_
  rw [e2]
  exact ⟨rfl, N11, K10, f4, f5, f3, f7, f8, f9⟩
theorem d10_0 : decode prog_33_method_5_code 0 = .ok (.aload_n 0, 1) := by decide +kernel
theorem d10_1 : decode prog_33_method_5_code 1 = .ok (.dup, 1) := by decide +kernel
theorem d10_2 : decode prog_33_method_5_code 2 = .ok (.getfield 30, 3) := by decide +kernel
theorem d10_5 : decode prog_33_method_5_code 5 = .ok (.lconst 1, 1) := by decide +kernel
theorem d10_6 : decode prog_33_method_5_code 6 = .ok (.ladd, 1) := by decide +kernel
theorem d10_7 : decode prog_33_method_5_code 7 = .ok (.putfield 30, 3) := by decide +kernel
theorem d10_10 : decode prog_33_method_5_code 10 = .ok (.return_, 1) := by decide +kernel
theorem ef_10 (m : MethodId) (zo : Addr) : entryFrame m #[(.ref zo)] 1 = mkF m 0 #[.val (.ref zo)] [] := by first | (simp [entryFrame, mkF, argsToLocals, Value.category]; done) | rfl
def Q10 (Z : State) (zo : Addr) (zo1 : Int64) (zg1 : Int64) (zf1 : Int64) (zr1 : Int64) (zs1 : Int64) (h0 : Heap) (n0 : Nat) (v : Option Value) (h : Heap) (L : List Loc) : Prop := v = none ∧ Fr n0 L ∧ Keep h0 h [zo] ∧ Exa Z h zo "com/example/soak/soak/sim/CallCounts" ∧ Fld Z h zo "com/example/soak/soak/sim/CallCounts" "offered" "J" (.long zo1) ∧ Fld Z h zo "com/example/soak/soak/sim/CallCounts" "good" "J" (.long zg1) ∧ Fld Z h zo "com/example/soak/soak/sim/CallCounts" "failed" "J" (.long (zf1 + (1 : Int64))) ∧ Fld Z h zo "com/example/soak/soak/sim/CallCounts" "rejected" "J" (.long zr1) ∧ Fld Z h zo "com/example/soak/soak/sim/CallCounts" "serverRejected" "J" (.long zs1)
set_option maxRecDepth 65536 in
set_option maxHeartbeats 40000000 in
theorem rm10 (l : Launch) (Z : State) (a0 : Array Value) (hw : ∀ d ∈ tables_1, d.before a0 Z = true) (ws : List Jvm.Cond) (zo : Addr) (zo1 : Int64) (zg1 : Int64) (zf1 : Int64) (zr1 : Int64) (zs1 : Int64) (h0 : Heap) (n0 : Nat) (Z0 : n0 ≤ h0.size) (P0 : Exa Z h0 zo "com/example/soak/soak/sim/CallCounts") (P1 : Fld Z h0 zo "com/example/soak/soak/sim/CallCounts" "offered" "J" (.long zo1)) (P2 : Fld Z h0 zo "com/example/soak/soak/sim/CallCounts" "good" "J" (.long zg1)) (P3 : Fld Z h0 zo "com/example/soak/soak/sim/CallCounts" "failed" "J" (.long zf1)) (P4 : Fld Z h0 zo "com/example/soak/soak/sim/CallCounts" "rejected" "J" (.long zr1)) (P5 : Fld Z h0 zo "com/example/soak/soak/sim/CallCounts" "serverRejected" "J" (.long zs1)) (g_zo : n0 ≤ zo) :
    MetFree l (⟨"com/example/soak/soak/sim/CallCounts", "countFailed", "()V"⟩ : MethodName) (head1 (Jvm.Cond.code (⟨"com/example/soak/soak/sim/CallCounts", "countFailed", "()V"⟩ : MethodName) prog_33_method_5_code 1 none :: ws) ({ frames := 0, cells := 0, slots := 0, locals := 0 } : Room)) (fun a U => a = #[(.ref zo)] ∧ Z.Warmed39 U.vm ∧ U.heap = h0) (fun _ _ _ _ _ => True) (fun _ U o U' => ∃ v L, o = .returned v ∧ Q10 Z zo zo1 zg1 zf1 zr1 zs1 h0 n0 v U'.heap L ∧ FrameEnd U o U' L ({ frames := 0, cells := 0, slots := 0, locals := 0 } : Room).cells ({ frames := 0, cells := 0, slots := 0, locals := 0 } : Room).slots) := by
  refine MetFree.of_bodySF (plainFor_of_name own_pn6777) hisR ?_
  intro p e s m args below meth c s₁ Bd hml0 hP hK
  obtain ⟨rfl, hZ, hh⟩ := hP
  have hx := Bd.exec
  have hby := Bd.bytes
  have hml : c.maxLocals = 1 := hml0
  have hown : s.vm.findClass "com/example/soak/soak/sim/CallCounts" = some m.cls := findClass_of_methodNamed Bd.named
  have hnm := (name_of_methodNamed Bd.named Bd.method).1
  have X0 : Stand p l e ({ frames := 0, cells := 0, slots := 0, locals := 0 } : Room) s m #[(.ref zo)] below meth c s₁ [] 0 0 := Stand.of_body Bd
  have e0 : s₁.heap = h0 := by rw [← hh, Bd.state]; rfl
  have N0 := Fr.nil n0
  have K0 := Keep.refl h0 [zo]
  show own_WP p e below (own_E s (Q10 Z zo zo1 zg1 zf1 zr1 zs1 h0 n0) 0 0) s₁ (entryFrame m #[(.ref zo)] 1)
  rw [ef_10 m zo]
  show own_WP _ _ _ _ s₁ (mkF m 0 #[.val (.ref zo)] [])
  refine own_go (fun t k => XS.aloadN X0.here hx rfl (hb hby d10_0) rfl rfl  k) ?_
  show own_WP _ _ _ _ s₁ (mkF m 1 #[.val (.ref zo)] [(.ref zo)])
  refine own_go (fun t k => XS.dup X0.here hx rfl (hb hby d10_1) rfl rfl k) ?_
  show own_WP _ _ _ _ s₁ (mkF m 2 #[.val (.ref zo)] [(.ref zo), (.ref zo)])
  obtain ⟨T1, X1, e1, st1⟩ := getF X0 hx hZ hown (host := "") (Or.inl (hw _ (List.mem_of_getElem? (i := 14) rfl))) Via.refl e0 P3 (g := (mkF m 2 #[.val (.ref zo)] [(.ref zo), (.ref zo)])) rfl rfl (hb hby d10_2)
  refine own_go st1 ?_
  show own_WP _ _ _ _ T1 (mkF m 5 #[.val (.ref zo)] [(.long zf1), (.ref zo)])
  refine own_go (fun t k => XS.lconst X1.here hx rfl (hb hby d10_5) k) ?_
  show own_WP _ _ _ _ T1 (mkF m 6 #[.val (.ref zo)] [(.long (1 : Int64)), (.long zf1), (.ref zo)])
  refine own_go (fun t k => XS.ladd X1.here hx rfl (hb hby d10_6) rfl k) ?_
  show own_WP _ _ _ _ T1 (mkF m 7 #[.val (.ref zo)] [(.long (zf1 + (1 : Int64))), (.ref zo)])
  obtain ⟨T2, h2, X2, e2, W2, st2⟩ := putF X1 hx hZ hown (host := "") (Or.inl (hw _ (List.mem_of_getElem? (i := 14) rfl))) Via.refl e1 P3 P0 (Or.inl (hw _ (List.mem_of_getElem? (i := 15) rfl))) (hw _ (List.mem_of_getElem? (i := 1) rfl)) (ty := .long) (by decide) rfl rfl (g := (mkF m 7 #[.val (.ref zo)] [(.long (zf1 + (1 : Int64))), (.ref zo)])) rfl rfl (hb hby d10_7)
  refine own_go st2 ?_
  have f3 : Fld Z h2 zo "com/example/soak/soak/sim/CallCounts" "failed" "J" (.long (zf1 + (1 : Int64))) := P3.same W2
  have f4 : Exa Z h2 zo "com/example/soak/soak/sim/CallCounts" := P0.wr W2
  have f5 : Fld Z h2 zo "com/example/soak/soak/sim/CallCounts" "offered" "J" (.long zo1) := P1.other W2 (Or.inr (slot_ne (Or.inl (hw _ (List.mem_of_getElem? (i := 26) rfl))) (Or.inl (hw _ (List.mem_of_getElem? (i := 15) rfl))) (by decide) (t := .long) (t' := .long) (by decide) (by decide)))
  have f6 : Fld Z h2 zo "com/example/soak/soak/sim/CallCounts" "good" "J" (.long zg1) := P2.other W2 (Or.inr (slot_ne (Or.inl (hw _ (List.mem_of_getElem? (i := 33) rfl))) (Or.inl (hw _ (List.mem_of_getElem? (i := 15) rfl))) (by decide) (t := .long) (t' := .long) (by decide) (by decide)))
  have f8 : Fld Z h2 zo "com/example/soak/soak/sim/CallCounts" "rejected" "J" (.long zr1) := P4.other W2 (Or.inr (slot_ne (Or.inl (hw _ (List.mem_of_getElem? (i := 17) rfl))) (Or.inl (hw _ (List.mem_of_getElem? (i := 15) rfl))) (by decide) (t := .long) (t' := .long) (by decide) (by decide)))
  have f9 : Fld Z h2 zo "com/example/soak/soak/sim/CallCounts" "serverRejected" "J" (.long zs1) := P5.other W2 (Or.inr (slot_ne (Or.inl (hw _ (List.mem_of_getElem? (i := 19) rfl))) (Or.inl (hw _ (List.mem_of_getElem? (i := 15) rfl))) (by decide) (t := .long) (t' := .long) (by decide) (by decide)))
  have K10 : Keep h0 h2 [zo] := K0.wr W2 (Or.inl (List.mem_of_getElem? (i := 0) rfl))
  have N11 := Fr.snoc X2 N0 g_zo
  show own_WP _ _ _ _ T2 (mkF m 10 #[.val (.ref zo)] [])
  refine own_retV X2 hx Bd.notSynchronized Bd.returns (hb hby d10_10) (by decide) (by decide) ?_
  rw [e2]
  exact ⟨rfl, N11, K10, f4, f5, f6, f3, f8, f9⟩
theorem d3_0 : decode prog_33_method_6_code 0 = .ok (.aload_n 0, 1) := by decide +kernel
theorem d3_1 : decode prog_33_method_6_code 1 = .ok (.dup, 1) := by decide +kernel
theorem d3_2 : decode prog_33_method_6_code 2 = .ok (.getfield 30, 3) := by decide +kernel
theorem d3_5 : decode prog_33_method_6_code 5 = .ok (.lconst 1, 1) := by decide +kernel
theorem d3_6 : decode prog_33_method_6_code 6 = .ok (.ladd, 1) := by decide +kernel
theorem d3_7 : decode prog_33_method_6_code 7 = .ok (.putfield 30, 3) := by decide +kernel
theorem d3_10 : decode prog_33_method_6_code 10 = .ok (.aload_n 0, 1) := by decide +kernel
theorem d3_11 : decode prog_33_method_6_code 11 = .ok (.dup, 1) := by decide +kernel
theorem d3_12 : decode prog_33_method_6_code 12 = .ok (.getfield 33, 3) := by decide +kernel
theorem d3_15 : decode prog_33_method_6_code 15 = .ok (.lconst 1, 1) := by decide +kernel
theorem d3_16 : decode prog_33_method_6_code 16 = .ok (.ladd, 1) := by decide +kernel
theorem d3_17 : decode prog_33_method_6_code 17 = .ok (.putfield 33, 3) := by decide +kernel
theorem d3_20 : decode prog_33_method_6_code 20 = .ok (.iload_n 1, 1) := by decide +kernel
theorem d3_21 : decode prog_33_method_6_code 21 = .ok (.ifCond .eq 13, 3) := by decide +kernel
theorem d3_24 : decode prog_33_method_6_code 24 = .ok (.aload_n 0, 1) := by decide +kernel
theorem d3_25 : decode prog_33_method_6_code 25 = .ok (.dup, 1) := by decide +kernel
theorem d3_26 : decode prog_33_method_6_code 26 = .ok (.getfield 36, 3) := by decide +kernel
theorem d3_29 : decode prog_33_method_6_code 29 = .ok (.lconst 1, 1) := by decide +kernel
theorem d3_30 : decode prog_33_method_6_code 30 = .ok (.ladd, 1) := by decide +kernel
theorem d3_31 : decode prog_33_method_6_code 31 = .ok (.putfield 36, 3) := by decide +kernel
theorem d3_34 : decode prog_33_method_6_code 34 = .ok (.return_, 1) := by decide +kernel
theorem ef_3 (m : MethodId) (zo : Addr) (zq : Int32) : entryFrame m #[(.ref zo), (.int zq)] 2 = mkF m 0 #[.val (.ref zo), .val (.int zq)] [] := by first | (simp [entryFrame, mkF, argsToLocals, Value.category]; done) | rfl
def Q3 (Z : State) (zo : Addr) (zq : Int32) (zo1 : Int64) (zg1 : Int64) (zf1 : Int64) (zr1 : Int64) (zs1 : Int64) (h0 : Heap) (n0 : Nat) (v : Option Value) (h : Heap) (L : List Loc) : Prop := v = none ∧ Fr n0 L ∧ Keep h0 h [zo] ∧ Exa Z h zo "com/example/soak/soak/sim/CallCounts" ∧ Fld Z h zo "com/example/soak/soak/sim/CallCounts" "offered" "J" (.long zo1) ∧ Fld Z h zo "com/example/soak/soak/sim/CallCounts" "good" "J" (.long zg1) ∧ Fld Z h zo "com/example/soak/soak/sim/CallCounts" "failed" "J" (.long (zf1 + (1 : Int64))) ∧ Fld Z h zo "com/example/soak/soak/sim/CallCounts" "rejected" "J" (.long (zr1 + (1 : Int64))) ∧ Fld Z h zo "com/example/soak/soak/sim/CallCounts" "serverRejected" "J" (.long (own_sr zs1 zq))
set_option maxRecDepth 65536 in
set_option maxHeartbeats 40000000 in
theorem rm3 (l : Launch) (Z : State) (a0 : Array Value) (hw : ∀ d ∈ tables_1, d.before a0 Z = true) (ws : List Jvm.Cond) (zo : Addr) (zq : Int32) (zo1 : Int64) (zg1 : Int64) (zf1 : Int64) (zr1 : Int64) (zs1 : Int64) (h0 : Heap) (n0 : Nat) (Z0 : n0 ≤ h0.size) (P0 : Exa Z h0 zo "com/example/soak/soak/sim/CallCounts") (P1 : Fld Z h0 zo "com/example/soak/soak/sim/CallCounts" "offered" "J" (.long zo1)) (P2 : Fld Z h0 zo "com/example/soak/soak/sim/CallCounts" "good" "J" (.long zg1)) (P3 : Fld Z h0 zo "com/example/soak/soak/sim/CallCounts" "failed" "J" (.long zf1)) (P4 : Fld Z h0 zo "com/example/soak/soak/sim/CallCounts" "rejected" "J" (.long zr1)) (P5 : Fld Z h0 zo "com/example/soak/soak/sim/CallCounts" "serverRejected" "J" (.long zs1)) (g_zo : n0 ≤ zo) :
    MetFree l (⟨"com/example/soak/soak/sim/CallCounts", "countRejected", "(Z)V"⟩ : MethodName) (head1 (Jvm.Cond.code (⟨"com/example/soak/soak/sim/CallCounts", "countRejected", "(Z)V"⟩ : MethodName) prog_33_method_6_code 2 none :: ws) ({ frames := 0, cells := 0, slots := 0, locals := 0 } : Room)) (fun a U => a = #[(.ref zo), (.int zq)] ∧ Z.Warmed39 U.vm ∧ U.heap = h0) (fun _ _ _ _ _ => True) (fun _ U o U' => ∃ v L, o = .returned v ∧ Q3 Z zo zq zo1 zg1 zf1 zr1 zs1 h0 n0 v U'.heap L ∧ FrameEnd U o U' L ({ frames := 0, cells := 0, slots := 0, locals := 0 } : Room).cells ({ frames := 0, cells := 0, slots := 0, locals := 0 } : Room).slots) := by
  refine MetFree.of_bodySF (plainFor_of_name own_pn6777) hisR ?_
  intro p e s m args below meth c s₁ Bd hml0 hP hK
  obtain ⟨rfl, hZ, hh⟩ := hP
  have hx := Bd.exec
  have hby := Bd.bytes
  have hml : c.maxLocals = 2 := hml0
  have hown : s.vm.findClass "com/example/soak/soak/sim/CallCounts" = some m.cls := findClass_of_methodNamed Bd.named
  have hnm := (name_of_methodNamed Bd.named Bd.method).1
  have X0 : Stand p l e ({ frames := 0, cells := 0, slots := 0, locals := 0 } : Room) s m #[(.ref zo), (.int zq)] below meth c s₁ [] 0 0 := Stand.of_body Bd
  have e0 : s₁.heap = h0 := by rw [← hh, Bd.state]; rfl
  have N0 := Fr.nil n0
  have K0 := Keep.refl h0 [zo]
  show own_WP p e below (own_E s (Q3 Z zo zq zo1 zg1 zf1 zr1 zs1 h0 n0) 0 0) s₁ (entryFrame m #[(.ref zo), (.int zq)] 2)
  rw [ef_3 m zo zq]
  show own_WP _ _ _ _ s₁ (mkF m 0 #[.val (.ref zo), .val (.int zq)] [])
  refine own_go (fun t k => XS.aloadN X0.here hx rfl (hb hby d3_0) rfl rfl  k) ?_
  show own_WP _ _ _ _ s₁ (mkF m 1 #[.val (.ref zo), .val (.int zq)] [(.ref zo)])
  refine own_go (fun t k => XS.dup X0.here hx rfl (hb hby d3_1) rfl rfl k) ?_
  show own_WP _ _ _ _ s₁ (mkF m 2 #[.val (.ref zo), .val (.int zq)] [(.ref zo), (.ref zo)])
  obtain ⟨T1, X1, e1, st1⟩ := getF X0 hx hZ hown (host := "") (Or.inl (hw _ (List.mem_of_getElem? (i := 14) rfl))) Via.refl e0 P3 (g := (mkF m 2 #[.val (.ref zo), .val (.int zq)] [(.ref zo), (.ref zo)])) rfl rfl (hb hby d3_2)
  refine own_go st1 ?_
  show own_WP _ _ _ _ T1 (mkF m 5 #[.val (.ref zo), .val (.int zq)] [(.long zf1), (.ref zo)])
  refine own_go (fun t k => XS.lconst X1.here hx rfl (hb hby d3_5) k) ?_
  show own_WP _ _ _ _ T1 (mkF m 6 #[.val (.ref zo), .val (.int zq)] [(.long (1 : Int64)), (.long zf1), (.ref zo)])
  refine own_go (fun t k => XS.ladd X1.here hx rfl (hb hby d3_6) rfl k) ?_
  show own_WP _ _ _ _ T1 (mkF m 7 #[.val (.ref zo), .val (.int zq)] [(.long (zf1 + (1 : Int64))), (.ref zo)])
  obtain ⟨T2, h2, X2, e2, W2, st2⟩ := putF X1 hx hZ hown (host := "") (Or.inl (hw _ (List.mem_of_getElem? (i := 14) rfl))) Via.refl e1 P3 P0 (Or.inl (hw _ (List.mem_of_getElem? (i := 15) rfl))) (hw _ (List.mem_of_getElem? (i := 1) rfl)) (ty := .long) (by decide) rfl rfl (g := (mkF m 7 #[.val (.ref zo), .val (.int zq)] [(.long (zf1 + (1 : Int64))), (.ref zo)])) rfl rfl (hb hby d3_7)
  refine own_go st2 ?_
  have f3 : Fld Z h2 zo "com/example/soak/soak/sim/CallCounts" "failed" "J" (.long (zf1 + (1 : Int64))) := P3.same W2
  have f4 : Exa Z h2 zo "com/example/soak/soak/sim/CallCounts" := P0.wr W2
  have f5 : Fld Z h2 zo "com/example/soak/soak/sim/CallCounts" "offered" "J" (.long zo1) := P1.other W2 (Or.inr (slot_ne (Or.inl (hw _ (List.mem_of_getElem? (i := 26) rfl))) (Or.inl (hw _ (List.mem_of_getElem? (i := 15) rfl))) (by decide) (t := .long) (t' := .long) (by decide) (by decide)))
  have f6 : Fld Z h2 zo "com/example/soak/soak/sim/CallCounts" "good" "J" (.long zg1) := P2.other W2 (Or.inr (slot_ne (Or.inl (hw _ (List.mem_of_getElem? (i := 33) rfl))) (Or.inl (hw _ (List.mem_of_getElem? (i := 15) rfl))) (by decide) (t := .long) (t' := .long) (by decide) (by decide)))
  have f8 : Fld Z h2 zo "com/example/soak/soak/sim/CallCounts" "rejected" "J" (.long zr1) := P4.other W2 (Or.inr (slot_ne (Or.inl (hw _ (List.mem_of_getElem? (i := 17) rfl))) (Or.inl (hw _ (List.mem_of_getElem? (i := 15) rfl))) (by decide) (t := .long) (t' := .long) (by decide) (by decide)))
  have f9 : Fld Z h2 zo "com/example/soak/soak/sim/CallCounts" "serverRejected" "J" (.long zs1) := P5.other W2 (Or.inr (slot_ne (Or.inl (hw _ (List.mem_of_getElem? (i := 19) rfl))) (Or.inl (hw _ (List.mem_of_getElem? (i := 15) rfl))) (by decide) (t := .long) (t' := .long) (by decide) (by decide)))
  have K10 : Keep h0 h2 [zo] := K0.wr W2 (Or.inl (List.mem_of_getElem? (i := 0) rfl))
  have N11 := Fr.snoc X2 N0 g_zo
  show own_WP _ _ _ _ T2 (mkF m 10 #[.val (.ref zo), .val (.int zq)] [])
  refine own_go (fun t k => XS.aloadN X2.here hx rfl (hb hby d3_10) rfl rfl  k) ?_
  show own_WP _ _ _ _ T2 (mkF m 11 #[.val (.ref zo), .val (.int zq)] [(.ref zo)])
  refine own_go (fun t k => XS.dup X2.here hx rfl (hb hby d3_11) rfl rfl k) ?_
  show own_WP _ _ _ _ T2 (mkF m 12 #[.val (.ref zo), .val (.int zq)] [(.ref zo), (.ref zo)])
  obtain ⟨T12, X12, e12, st12⟩ := getF X2 hx hZ hown (host := "") (Or.inl (hw _ (List.mem_of_getElem? (i := 16) rfl))) Via.refl e2 f8 (g := (mkF m 12 #[.val (.ref zo), .val (.int zq)] [(.ref zo), (.ref zo)])) rfl rfl (hb hby d3_12)
  refine own_go st12 ?_
  show own_WP _ _ _ _ T12 (mkF m 15 #[.val (.ref zo), .val (.int zq)] [(.long zr1), (.ref zo)])
  refine own_go (fun t k => XS.lconst X12.here hx rfl (hb hby d3_15) k) ?_
  show own_WP _ _ _ _ T12 (mkF m 16 #[.val (.ref zo), .val (.int zq)] [(.long (1 : Int64)), (.long zr1), (.ref zo)])
  refine own_go (fun t k => XS.ladd X12.here hx rfl (hb hby d3_16) rfl k) ?_
  show own_WP _ _ _ _ T12 (mkF m 17 #[.val (.ref zo), .val (.int zq)] [(.long (zr1 + (1 : Int64))), (.ref zo)])
  obtain ⟨T13, h13, X13, e13, W13, st13⟩ := putF X12 hx hZ hown (host := "") (Or.inl (hw _ (List.mem_of_getElem? (i := 16) rfl))) Via.refl e12 f8 f4 (Or.inl (hw _ (List.mem_of_getElem? (i := 17) rfl))) (hw _ (List.mem_of_getElem? (i := 1) rfl)) (ty := .long) (by decide) rfl rfl (g := (mkF m 17 #[.val (.ref zo), .val (.int zq)] [(.long (zr1 + (1 : Int64))), (.ref zo)])) rfl rfl (hb hby d3_17)
  refine own_go st13 ?_
  have f14 : Fld Z h13 zo "com/example/soak/soak/sim/CallCounts" "rejected" "J" (.long (zr1 + (1 : Int64))) := f8.same W13
  have f15 : Exa Z h13 zo "com/example/soak/soak/sim/CallCounts" := f4.wr W13
  have f16 : Fld Z h13 zo "com/example/soak/soak/sim/CallCounts" "offered" "J" (.long zo1) := f5.other W13 (Or.inr (slot_ne (Or.inl (hw _ (List.mem_of_getElem? (i := 26) rfl))) (Or.inl (hw _ (List.mem_of_getElem? (i := 17) rfl))) (by decide) (t := .long) (t' := .long) (by decide) (by decide)))
  have f17 : Fld Z h13 zo "com/example/soak/soak/sim/CallCounts" "good" "J" (.long zg1) := f6.other W13 (Or.inr (slot_ne (Or.inl (hw _ (List.mem_of_getElem? (i := 33) rfl))) (Or.inl (hw _ (List.mem_of_getElem? (i := 17) rfl))) (by decide) (t := .long) (t' := .long) (by decide) (by decide)))
  have f19 : Fld Z h13 zo "com/example/soak/soak/sim/CallCounts" "serverRejected" "J" (.long zs1) := f9.other W13 (Or.inr (slot_ne (Or.inl (hw _ (List.mem_of_getElem? (i := 19) rfl))) (Or.inl (hw _ (List.mem_of_getElem? (i := 17) rfl))) (by decide) (t := .long) (t' := .long) (by decide) (by decide)))
  have f20 : Fld Z h13 zo "com/example/soak/soak/sim/CallCounts" "failed" "J" (.long (zf1 + (1 : Int64))) := f3.other W13 (Or.inr (slot_ne (Or.inl (hw _ (List.mem_of_getElem? (i := 15) rfl))) (Or.inl (hw _ (List.mem_of_getElem? (i := 17) rfl))) (by decide) (t := .long) (t' := .long) (by decide) (by decide)))
  have K21 : Keep h0 h13 [zo] := K10.wr W13 (Or.inl (List.mem_of_getElem? (i := 0) rfl))
  have N22 := Fr.snoc X13 N11 g_zo
  show own_WP _ _ _ _ T13 (mkF m 20 #[.val (.ref zo), .val (.int zq)] [])
  refine own_go (fun t k => XS.iloadN X13.here hx rfl (hb hby d3_20) rfl  k) ?_
  show own_WP _ _ _ _ T13 (mkF m 21 #[.val (.ref zo), .val (.int zq)] [(.int zq)])
  by_cases hc21 : zq = (0 : Int32)
  · refine own_go (fun t k => XS.ifYes X13.here hx rfl (pc0 := 21) (pc' := 34) rfl (hb hby d3_21) rfl ((if0 _ _).trans (teq hc21).1) (by decide) (by decide) k) ?_
    show own_WP _ _ _ _ T13 (mkF m 34 #[.val (.ref zo), .val (.int zq)] [])
    refine own_retV X13 hx Bd.notSynchronized Bd.returns (hb hby d3_34) (by decide) (by decide) ?_
    rw [e13]
    exact ⟨rfl, N22, K21, f15, f16, f17, f20, f14, ((show ((.long zs1) : Value) = (.long (own_sr zs1 zq)) from by first | (simp [nar, own_sr, hc21]; done) | (simp only [if_true, if_false, eq_self, ↓reduceIte, own_sr, hc21]; first | done | rfl | decide)) ▸ f19)⟩
  · refine own_go (fun t k => XS.ifNo X13.here hx rfl (hb hby d3_21) rfl ((if0 _ _).trans (feq hc21).1) k) ?_
    show own_WP _ _ _ _ T13 (mkF m 24 #[.val (.ref zo), .val (.int zq)] [])
    refine own_go (fun t k => XS.aloadN X13.here hx rfl (hb hby d3_24) rfl rfl  k) ?_
    show own_WP _ _ _ _ T13 (mkF m 25 #[.val (.ref zo), .val (.int zq)] [(.ref zo)])
    refine own_go (fun t k => XS.dup X13.here hx rfl (hb hby d3_25) rfl rfl k) ?_
    show own_WP _ _ _ _ T13 (mkF m 26 #[.val (.ref zo), .val (.int zq)] [(.ref zo), (.ref zo)])
    obtain ⟨T23, X23, e23, st23⟩ := getF X13 hx hZ hown (host := "") (Or.inl (hw _ (List.mem_of_getElem? (i := 18) rfl))) Via.refl e13 f19 (g := (mkF m 26 #[.val (.ref zo), .val (.int zq)] [(.ref zo), (.ref zo)])) rfl rfl (hb hby d3_26)
    refine own_go st23 ?_
    show own_WP _ _ _ _ T23 (mkF m 29 #[.val (.ref zo), .val (.int zq)] [(.long zs1), (.ref zo)])
    refine own_go (fun t k => XS.lconst X23.here hx rfl (hb hby d3_29) k) ?_
    show own_WP _ _ _ _ T23 (mkF m 30 #[.val (.ref zo), .val (.int zq)] [(.long (1 : Int64)), (.long zs1), (.ref zo)])
    refine own_go (fun t k => XS.ladd X23.here hx rfl (hb hby d3_30) rfl k) ?_
    show own_WP _ _ _ _ T23 (mkF m 31 #[.val (.ref zo), .val (.int zq)] [(.long (zs1 + (1 : Int64))), (.ref zo)])
    obtain ⟨T24, h24, X24, e24, W24, st24⟩ := putF X23 hx hZ hown (host := "") (Or.inl (hw _ (List.mem_of_getElem? (i := 18) rfl))) Via.refl e23 f19 f15 (Or.inl (hw _ (List.mem_of_getElem? (i := 19) rfl))) (hw _ (List.mem_of_getElem? (i := 1) rfl)) (ty := .long) (by decide) rfl rfl (g := (mkF m 31 #[.val (.ref zo), .val (.int zq)] [(.long (zs1 + (1 : Int64))), (.ref zo)])) rfl rfl (hb hby d3_31)
    refine own_go st24 ?_
    have f25 : Fld Z h24 zo "com/example/soak/soak/sim/CallCounts" "serverRejected" "J" (.long (zs1 + (1 : Int64))) := f19.same W24
    have f26 : Exa Z h24 zo "com/example/soak/soak/sim/CallCounts" := f15.wr W24
    have f27 : Fld Z h24 zo "com/example/soak/soak/sim/CallCounts" "offered" "J" (.long zo1) := f16.other W24 (Or.inr (slot_ne (Or.inl (hw _ (List.mem_of_getElem? (i := 26) rfl))) (Or.inl (hw _ (List.mem_of_getElem? (i := 19) rfl))) (by decide) (t := .long) (t' := .long) (by decide) (by decide)))
    have f28 : Fld Z h24 zo "com/example/soak/soak/sim/CallCounts" "good" "J" (.long zg1) := f17.other W24 (Or.inr (slot_ne (Or.inl (hw _ (List.mem_of_getElem? (i := 33) rfl))) (Or.inl (hw _ (List.mem_of_getElem? (i := 19) rfl))) (by decide) (t := .long) (t' := .long) (by decide) (by decide)))
    have f30 : Fld Z h24 zo "com/example/soak/soak/sim/CallCounts" "failed" "J" (.long (zf1 + (1 : Int64))) := f20.other W24 (Or.inr (slot_ne (Or.inl (hw _ (List.mem_of_getElem? (i := 15) rfl))) (Or.inl (hw _ (List.mem_of_getElem? (i := 19) rfl))) (by decide) (t := .long) (t' := .long) (by decide) (by decide)))
    have f31 : Fld Z h24 zo "com/example/soak/soak/sim/CallCounts" "rejected" "J" (.long (zr1 + (1 : Int64))) := f14.other W24 (Or.inr (slot_ne (Or.inl (hw _ (List.mem_of_getElem? (i := 17) rfl))) (Or.inl (hw _ (List.mem_of_getElem? (i := 19) rfl))) (by decide) (t := .long) (t' := .long) (by decide) (by decide)))
    have K32 : Keep h0 h24 [zo] := K21.wr W24 (Or.inl (List.mem_of_getElem? (i := 0) rfl))
    have N33 := Fr.snoc X24 N22 g_zo
    show own_WP _ _ _ _ T24 (mkF m 34 #[.val (.ref zo), .val (.int zq)] [])
    refine own_retV X24 hx Bd.notSynchronized Bd.returns (hb hby d3_34) (by decide) (by decide) ?_
    rw [e24]
    exact ⟨rfl, N33, K32, f26, f27, f28, f30, f31, ((show ((.long (zs1 + (1 : Int64))) : Value) = (.long (own_sr zs1 zq)) from by first | (simp [nar, own_sr, hc21]; done) | (simp only [if_true, if_false, eq_self, ↓reduceIte, own_sr, hc21]; first | done | rfl | decide)) ▸ f25)⟩
theorem d4_0 : decode prog_33_method_8_code 0 = .ok (.aload_n 0, 1) := by decide +kernel
theorem d4_1 : decode prog_33_method_8_code 1 = .ok (.getfield 21, 3) := by decide +kernel
theorem d4_4 : decode prog_33_method_8_code 4 = .ok (.lreturn, 1) := by decide +kernel
theorem ef_4 (m : MethodId) (zo : Addr) : entryFrame m #[(.ref zo)] 1 = mkF m 0 #[.val (.ref zo)] [] := by first | (simp [entryFrame, mkF, argsToLocals, Value.category]; done) | rfl
def Q4 (Z : State) (zo : Addr) (zo1 : Int64) (h0 : Heap) (n0 : Nat) (v : Option Value) (h : Heap) (L : List Loc) : Prop := v = some (.long zo1) ∧ Fr n0 L ∧ h = h0
set_option maxRecDepth 65536 in
set_option maxHeartbeats 40000000 in
theorem rm4 (l : Launch) (Z : State) (a0 : Array Value) (hw : ∀ d ∈ tables_1, d.before a0 Z = true) (ws : List Jvm.Cond) (zo : Addr) (zo1 : Int64) (h0 : Heap) (n0 : Nat) (Z0 : n0 ≤ h0.size) (P0 : Fld Z h0 zo "com/example/soak/soak/sim/CallCounts" "offered" "J" (.long zo1)) :
    MetFree l (⟨"com/example/soak/soak/sim/CallCounts", "offered", "()J"⟩ : MethodName) (head1 (Jvm.Cond.code (⟨"com/example/soak/soak/sim/CallCounts", "offered", "()J"⟩ : MethodName) prog_33_method_8_code 1 (some .long) :: ws) ({ frames := 0, cells := 0, slots := 0, locals := 0 } : Room)) (fun a U => a = #[(.ref zo)] ∧ Z.Warmed39 U.vm ∧ U.heap = h0) (fun _ _ _ _ _ => True) (fun _ U o U' => ∃ v L, o = .returned v ∧ Q4 Z zo zo1 h0 n0 v U'.heap L ∧ FrameEnd U o U' L ({ frames := 0, cells := 0, slots := 0, locals := 0 } : Room).cells ({ frames := 0, cells := 0, slots := 0, locals := 0 } : Room).slots) := by
  refine MetFree.of_bodySF (plainFor_of_name own_pn6777) hisR ?_
  intro p e s m args below meth c s₁ Bd hml0 hP hK
  obtain ⟨rfl, hZ, hh⟩ := hP
  have hx := Bd.exec
  have hby := Bd.bytes
  have hml : c.maxLocals = 1 := hml0
  have hown : s.vm.findClass "com/example/soak/soak/sim/CallCounts" = some m.cls := findClass_of_methodNamed Bd.named
  have hnm := (name_of_methodNamed Bd.named Bd.method).1
  have X0 : Stand p l e ({ frames := 0, cells := 0, slots := 0, locals := 0 } : Room) s m #[(.ref zo)] below meth c s₁ [] 0 0 := Stand.of_body Bd
  have e0 : s₁.heap = h0 := by rw [← hh, Bd.state]; rfl
  have N0 := Fr.nil n0
  have K0 := Keep.refl h0 ([] : List Addr)
  show own_WP p e below (own_E s (Q4 Z zo zo1 h0 n0) 0 0) s₁ (entryFrame m #[(.ref zo)] 1)
  rw [ef_4 m zo]
  show own_WP _ _ _ _ s₁ (mkF m 0 #[.val (.ref zo)] [])
  refine own_go (fun t k => XS.aloadN X0.here hx rfl (hb hby d4_0) rfl rfl  k) ?_
  show own_WP _ _ _ _ s₁ (mkF m 1 #[.val (.ref zo)] [(.ref zo)])
  obtain ⟨T1, X1, e1, st1⟩ := getF X0 hx hZ hown (host := "") (Or.inl (hw _ (List.mem_of_getElem? (i := 25) rfl))) Via.refl e0 P0 (g := (mkF m 1 #[.val (.ref zo)] [(.ref zo)])) rfl rfl (hb hby d4_1)
  refine own_go st1 ?_
  show own_WP _ _ _ _ T1 (mkF m 4 #[.val (.ref zo)] [(.long zo1)])
  refine own_retJ X1 hx Bd.notSynchronized Bd.returns (hb hby d4_4) (by decide) (by decide) ?_
  rw [e1]
  exact ⟨rfl, N0, rfl⟩
theorem d5_0 : decode prog_33_method_9_code 0 = .ok (.aload_n 0, 1) := by decide +kernel
theorem d5_1 : decode prog_33_method_9_code 1 = .ok (.getfield 27, 3) := by decide +kernel
theorem d5_4 : decode prog_33_method_9_code 4 = .ok (.lreturn, 1) := by decide +kernel
theorem ef_5 (m : MethodId) (zo : Addr) : entryFrame m #[(.ref zo)] 1 = mkF m 0 #[.val (.ref zo)] [] := by first | (simp [entryFrame, mkF, argsToLocals, Value.category]; done) | rfl
def Q5 (Z : State) (zo : Addr) (zg1 : Int64) (h0 : Heap) (n0 : Nat) (v : Option Value) (h : Heap) (L : List Loc) : Prop := v = some (.long zg1) ∧ Fr n0 L ∧ h = h0
set_option maxRecDepth 65536 in
set_option maxHeartbeats 40000000 in
theorem rm5 (l : Launch) (Z : State) (a0 : Array Value) (hw : ∀ d ∈ tables_1, d.before a0 Z = true) (ws : List Jvm.Cond) (zo : Addr) (zg1 : Int64) (h0 : Heap) (n0 : Nat) (Z0 : n0 ≤ h0.size) (P0 : Fld Z h0 zo "com/example/soak/soak/sim/CallCounts" "good" "J" (.long zg1)) :
    MetFree l (⟨"com/example/soak/soak/sim/CallCounts", "good", "()J"⟩ : MethodName) (head1 (Jvm.Cond.code (⟨"com/example/soak/soak/sim/CallCounts", "good", "()J"⟩ : MethodName) prog_33_method_9_code 1 (some .long) :: ws) ({ frames := 0, cells := 0, slots := 0, locals := 0 } : Room)) (fun a U => a = #[(.ref zo)] ∧ Z.Warmed39 U.vm ∧ U.heap = h0) (fun _ _ _ _ _ => True) (fun _ U o U' => ∃ v L, o = .returned v ∧ Q5 Z zo zg1 h0 n0 v U'.heap L ∧ FrameEnd U o U' L ({ frames := 0, cells := 0, slots := 0, locals := 0 } : Room).cells ({ frames := 0, cells := 0, slots := 0, locals := 0 } : Room).slots) := by
  refine MetFree.of_bodySF (plainFor_of_name own_pn6777) hisR ?_
  intro p e s m args below meth c s₁ Bd hml0 hP hK
  obtain ⟨rfl, hZ, hh⟩ := hP
  have hx := Bd.exec
  have hby := Bd.bytes
  have hml : c.maxLocals = 1 := hml0
  have hown : s.vm.findClass "com/example/soak/soak/sim/CallCounts" = some m.cls := findClass_of_methodNamed Bd.named
  have hnm := (name_of_methodNamed Bd.named Bd.method).1
  have X0 : Stand p l e ({ frames := 0, cells := 0, slots := 0, locals := 0 } : Room) s m #[(.ref zo)] below meth c s₁ [] 0 0 := Stand.of_body Bd
  have e0 : s₁.heap = h0 := by rw [← hh, Bd.state]; rfl
  have N0 := Fr.nil n0
  have K0 := Keep.refl h0 ([] : List Addr)
  show own_WP p e below (own_E s (Q5 Z zo zg1 h0 n0) 0 0) s₁ (entryFrame m #[(.ref zo)] 1)
  rw [ef_5 m zo]
  show own_WP _ _ _ _ s₁ (mkF m 0 #[.val (.ref zo)] [])
  refine own_go (fun t k => XS.aloadN X0.here hx rfl (hb hby d5_0) rfl rfl  k) ?_
  show own_WP _ _ _ _ s₁ (mkF m 1 #[.val (.ref zo)] [(.ref zo)])
  obtain ⟨T1, X1, e1, st1⟩ := getF X0 hx hZ hown (host := "") (Or.inl (hw _ (List.mem_of_getElem? (i := 32) rfl))) Via.refl e0 P0 (g := (mkF m 1 #[.val (.ref zo)] [(.ref zo)])) rfl rfl (hb hby d5_1)
  refine own_go st1 ?_
  show own_WP _ _ _ _ T1 (mkF m 4 #[.val (.ref zo)] [(.long zg1)])
  refine own_retJ X1 hx Bd.notSynchronized Bd.returns (hb hby d5_4) (by decide) (by decide) ?_
  rw [e1]
  exact ⟨rfl, N0, rfl⟩
theorem d6_0 : decode prog_33_method_10_code 0 = .ok (.aload_n 0, 1) := by decide +kernel
theorem d6_1 : decode prog_33_method_10_code 1 = .ok (.getfield 30, 3) := by decide +kernel
theorem d6_4 : decode prog_33_method_10_code 4 = .ok (.lreturn, 1) := by decide +kernel
theorem ef_6 (m : MethodId) (zo : Addr) : entryFrame m #[(.ref zo)] 1 = mkF m 0 #[.val (.ref zo)] [] := by first | (simp [entryFrame, mkF, argsToLocals, Value.category]; done) | rfl
def Q6 (Z : State) (zo : Addr) (zf1 : Int64) (h0 : Heap) (n0 : Nat) (v : Option Value) (h : Heap) (L : List Loc) : Prop := v = some (.long zf1) ∧ Fr n0 L ∧ h = h0
set_option maxRecDepth 65536 in
set_option maxHeartbeats 40000000 in
theorem rm6 (l : Launch) (Z : State) (a0 : Array Value) (hw : ∀ d ∈ tables_1, d.before a0 Z = true) (ws : List Jvm.Cond) (zo : Addr) (zf1 : Int64) (h0 : Heap) (n0 : Nat) (Z0 : n0 ≤ h0.size) (P0 : Fld Z h0 zo "com/example/soak/soak/sim/CallCounts" "failed" "J" (.long zf1)) :
    MetFree l (⟨"com/example/soak/soak/sim/CallCounts", "failed", "()J"⟩ : MethodName) (head1 (Jvm.Cond.code (⟨"com/example/soak/soak/sim/CallCounts", "failed", "()J"⟩ : MethodName) prog_33_method_10_code 1 (some .long) :: ws) ({ frames := 0, cells := 0, slots := 0, locals := 0 } : Room)) (fun a U => a = #[(.ref zo)] ∧ Z.Warmed39 U.vm ∧ U.heap = h0) (fun _ _ _ _ _ => True) (fun _ U o U' => ∃ v L, o = .returned v ∧ Q6 Z zo zf1 h0 n0 v U'.heap L ∧ FrameEnd U o U' L ({ frames := 0, cells := 0, slots := 0, locals := 0 } : Room).cells ({ frames := 0, cells := 0, slots := 0, locals := 0 } : Room).slots) := by
  refine MetFree.of_bodySF (plainFor_of_name own_pn6777) hisR ?_
  intro p e s m args below meth c s₁ Bd hml0 hP hK
  obtain ⟨rfl, hZ, hh⟩ := hP
  have hx := Bd.exec
  have hby := Bd.bytes
  have hml : c.maxLocals = 1 := hml0
  have hown : s.vm.findClass "com/example/soak/soak/sim/CallCounts" = some m.cls := findClass_of_methodNamed Bd.named
  have hnm := (name_of_methodNamed Bd.named Bd.method).1
  have X0 : Stand p l e ({ frames := 0, cells := 0, slots := 0, locals := 0 } : Room) s m #[(.ref zo)] below meth c s₁ [] 0 0 := Stand.of_body Bd
  have e0 : s₁.heap = h0 := by rw [← hh, Bd.state]; rfl
  have N0 := Fr.nil n0
  have K0 := Keep.refl h0 ([] : List Addr)
  show own_WP p e below (own_E s (Q6 Z zo zf1 h0 n0) 0 0) s₁ (entryFrame m #[(.ref zo)] 1)
  rw [ef_6 m zo]
  show own_WP _ _ _ _ s₁ (mkF m 0 #[.val (.ref zo)] [])
  refine own_go (fun t k => XS.aloadN X0.here hx rfl (hb hby d6_0) rfl rfl  k) ?_
  show own_WP _ _ _ _ s₁ (mkF m 1 #[.val (.ref zo)] [(.ref zo)])
  obtain ⟨T1, X1, e1, st1⟩ := getF X0 hx hZ hown (host := "") (Or.inl (hw _ (List.mem_of_getElem? (i := 14) rfl))) Via.refl e0 P0 (g := (mkF m 1 #[.val (.ref zo)] [(.ref zo)])) rfl rfl (hb hby d6_1)
  refine own_go st1 ?_
  show own_WP _ _ _ _ T1 (mkF m 4 #[.val (.ref zo)] [(.long zf1)])
  refine own_retJ X1 hx Bd.notSynchronized Bd.returns (hb hby d6_4) (by decide) (by decide) ?_
  rw [e1]
  exact ⟨rfl, N0, rfl⟩
theorem d7_0 : decode prog_33_method_11_code 0 = .ok (.aload_n 0, 1) := by decide +kernel
theorem d7_1 : decode prog_33_method_11_code 1 = .ok (.getfield 33, 3) := by decide +kernel
theorem d7_4 : decode prog_33_method_11_code 4 = .ok (.lreturn, 1) := by decide +kernel
theorem ef_7 (m : MethodId) (zo : Addr) : entryFrame m #[(.ref zo)] 1 = mkF m 0 #[.val (.ref zo)] [] := by first | (simp [entryFrame, mkF, argsToLocals, Value.category]; done) | rfl
def Q7 (Z : State) (zo : Addr) (zr1 : Int64) (h0 : Heap) (n0 : Nat) (v : Option Value) (h : Heap) (L : List Loc) : Prop := v = some (.long zr1) ∧ Fr n0 L ∧ h = h0
set_option maxRecDepth 65536 in
set_option maxHeartbeats 40000000 in
theorem rm7 (l : Launch) (Z : State) (a0 : Array Value) (hw : ∀ d ∈ tables_1, d.before a0 Z = true) (ws : List Jvm.Cond) (zo : Addr) (zr1 : Int64) (h0 : Heap) (n0 : Nat) (Z0 : n0 ≤ h0.size) (P0 : Fld Z h0 zo "com/example/soak/soak/sim/CallCounts" "rejected" "J" (.long zr1)) :
    MetFree l (⟨"com/example/soak/soak/sim/CallCounts", "rejected", "()J"⟩ : MethodName) (head1 (Jvm.Cond.code (⟨"com/example/soak/soak/sim/CallCounts", "rejected", "()J"⟩ : MethodName) prog_33_method_11_code 1 (some .long) :: ws) ({ frames := 0, cells := 0, slots := 0, locals := 0 } : Room)) (fun a U => a = #[(.ref zo)] ∧ Z.Warmed39 U.vm ∧ U.heap = h0) (fun _ _ _ _ _ => True) (fun _ U o U' => ∃ v L, o = .returned v ∧ Q7 Z zo zr1 h0 n0 v U'.heap L ∧ FrameEnd U o U' L ({ frames := 0, cells := 0, slots := 0, locals := 0 } : Room).cells ({ frames := 0, cells := 0, slots := 0, locals := 0 } : Room).slots) := by
  refine MetFree.of_bodySF (plainFor_of_name own_pn6777) hisR ?_
  intro p e s m args below meth c s₁ Bd hml0 hP hK
  obtain ⟨rfl, hZ, hh⟩ := hP
  have hx := Bd.exec
  have hby := Bd.bytes
  have hml : c.maxLocals = 1 := hml0
  have hown : s.vm.findClass "com/example/soak/soak/sim/CallCounts" = some m.cls := findClass_of_methodNamed Bd.named
  have hnm := (name_of_methodNamed Bd.named Bd.method).1
  have X0 : Stand p l e ({ frames := 0, cells := 0, slots := 0, locals := 0 } : Room) s m #[(.ref zo)] below meth c s₁ [] 0 0 := Stand.of_body Bd
  have e0 : s₁.heap = h0 := by rw [← hh, Bd.state]; rfl
  have N0 := Fr.nil n0
  have K0 := Keep.refl h0 ([] : List Addr)
  show own_WP p e below (own_E s (Q7 Z zo zr1 h0 n0) 0 0) s₁ (entryFrame m #[(.ref zo)] 1)
  rw [ef_7 m zo]
  show own_WP _ _ _ _ s₁ (mkF m 0 #[.val (.ref zo)] [])
  refine own_go (fun t k => XS.aloadN X0.here hx rfl (hb hby d7_0) rfl rfl  k) ?_
  show own_WP _ _ _ _ s₁ (mkF m 1 #[.val (.ref zo)] [(.ref zo)])
  obtain ⟨T1, X1, e1, st1⟩ := getF X0 hx hZ hown (host := "") (Or.inl (hw _ (List.mem_of_getElem? (i := 16) rfl))) Via.refl e0 P0 (g := (mkF m 1 #[.val (.ref zo)] [(.ref zo)])) rfl rfl (hb hby d7_1)
  refine own_go st1 ?_
  show own_WP _ _ _ _ T1 (mkF m 4 #[.val (.ref zo)] [(.long zr1)])
  refine own_retJ X1 hx Bd.notSynchronized Bd.returns (hb hby d7_4) (by decide) (by decide) ?_
  rw [e1]
  exact ⟨rfl, N0, rfl⟩
theorem d8_0 : decode prog_33_method_12_code 0 = .ok (.aload_n 0, 1) := by decide +kernel
theorem d8_1 : decode prog_33_method_12_code 1 = .ok (.getfield 36, 3) := by decide +kernel
theorem d8_4 : decode prog_33_method_12_code 4 = .ok (.lreturn, 1) := by decide +kernel
theorem ef_8 (m : MethodId) (zo : Addr) : entryFrame m #[(.ref zo)] 1 = mkF m 0 #[.val (.ref zo)] [] := by first | (simp [entryFrame, mkF, argsToLocals, Value.category]; done) | rfl
def Q8 (Z : State) (zo : Addr) (zs1 : Int64) (h0 : Heap) (n0 : Nat) (v : Option Value) (h : Heap) (L : List Loc) : Prop := v = some (.long zs1) ∧ Fr n0 L ∧ h = h0
set_option maxRecDepth 65536 in
set_option maxHeartbeats 40000000 in
theorem rm8 (l : Launch) (Z : State) (a0 : Array Value) (hw : ∀ d ∈ tables_1, d.before a0 Z = true) (ws : List Jvm.Cond) (zo : Addr) (zs1 : Int64) (h0 : Heap) (n0 : Nat) (Z0 : n0 ≤ h0.size) (P0 : Fld Z h0 zo "com/example/soak/soak/sim/CallCounts" "serverRejected" "J" (.long zs1)) :
    MetFree l (⟨"com/example/soak/soak/sim/CallCounts", "serverRejected", "()J"⟩ : MethodName) (head1 (Jvm.Cond.code (⟨"com/example/soak/soak/sim/CallCounts", "serverRejected", "()J"⟩ : MethodName) prog_33_method_12_code 1 (some .long) :: ws) ({ frames := 0, cells := 0, slots := 0, locals := 0 } : Room)) (fun a U => a = #[(.ref zo)] ∧ Z.Warmed39 U.vm ∧ U.heap = h0) (fun _ _ _ _ _ => True) (fun _ U o U' => ∃ v L, o = .returned v ∧ Q8 Z zo zs1 h0 n0 v U'.heap L ∧ FrameEnd U o U' L ({ frames := 0, cells := 0, slots := 0, locals := 0 } : Room).cells ({ frames := 0, cells := 0, slots := 0, locals := 0 } : Room).slots) := by
  refine MetFree.of_bodySF (plainFor_of_name own_pn6777) hisR ?_
  intro p e s m args below meth c s₁ Bd hml0 hP hK
  obtain ⟨rfl, hZ, hh⟩ := hP
  have hx := Bd.exec
  have hby := Bd.bytes
  have hml : c.maxLocals = 1 := hml0
  have hown : s.vm.findClass "com/example/soak/soak/sim/CallCounts" = some m.cls := findClass_of_methodNamed Bd.named
  have hnm := (name_of_methodNamed Bd.named Bd.method).1
  have X0 : Stand p l e ({ frames := 0, cells := 0, slots := 0, locals := 0 } : Room) s m #[(.ref zo)] below meth c s₁ [] 0 0 := Stand.of_body Bd
  have e0 : s₁.heap = h0 := by rw [← hh, Bd.state]; rfl
  have N0 := Fr.nil n0
  have K0 := Keep.refl h0 ([] : List Addr)
  show own_WP p e below (own_E s (Q8 Z zo zs1 h0 n0) 0 0) s₁ (entryFrame m #[(.ref zo)] 1)
  rw [ef_8 m zo]
  show own_WP _ _ _ _ s₁ (mkF m 0 #[.val (.ref zo)] [])
  refine own_go (fun t k => XS.aloadN X0.here hx rfl (hb hby d8_0) rfl rfl  k) ?_
  show own_WP _ _ _ _ s₁ (mkF m 1 #[.val (.ref zo)] [(.ref zo)])
  obtain ⟨T1, X1, e1, st1⟩ := getF X0 hx hZ hown (host := "") (Or.inl (hw _ (List.mem_of_getElem? (i := 18) rfl))) Via.refl e0 P0 (g := (mkF m 1 #[.val (.ref zo)] [(.ref zo)])) rfl rfl (hb hby d8_1)
  refine own_go st1 ?_
  show own_WP _ _ _ _ T1 (mkF m 4 #[.val (.ref zo)] [(.long zs1)])
  refine own_retJ X1 hx Bd.notSynchronized Bd.returns (hb hby d8_4) (by decide) (by decide) ?_
  rw [e1]
  exact ⟨rfl, N0, rfl⟩
theorem own_pd91897 : parseMethodDescriptor "()V" = some ⟨[], none⟩ := by decide +kernel
theorem own_pd73587 : parseMethodDescriptor "(Z)V" = some ⟨[.boolean], none⟩ := by decide +kernel
theorem own_pd91885 : parseMethodDescriptor "()J" = some ⟨[], some .long⟩ := by decide +kernel
theorem own_pn39445 : plainName "com/example/soak/soak/sim/CallCountsCountRejectedPinLaw" = true := by first | (simp [plainName, overriddenIn]; done) | decide +kernel
theorem ef_0 (m : MethodId) (zu : Int32) (zl : Int32) : entryFrame m #[(.int zu), (.int zl)] maxLocals = mkF m 0 #[.val (.int zu), .val (.int zl), .unset, .unset, .unset, .unset, .unset, .unset, .unset, .unset, .unset, .unset, .unset, .unset, .unset, .unset] [] := by first | (simp [entryFrame, mkF, argsToLocals, Value.category, maxLocals]; done) | rfl
def Q0 (Z : State) (zu : Int32) (zl : Int32) (h0 : Heap) (n0 : Nat) (v : Option Value) (h : Heap) (L : List Loc) : Prop := v = some (.int 1) ∧ Fr n0 L
set_option maxRecDepth 65536 in
set_option maxHeartbeats 40000000 in
theorem rm0 (l : Launch) (Z : State) (a0 : Array Value) (hw : ∀ d ∈ tables_1, d.before a0 Z = true) (ws : List Jvm.Cond) (zu : Int32) (zl : Int32) (h0 : Heap) (n0 : Nat) (Z0 : n0 ≤ h0.size)  :
    MetFree l x (head1 (Jvm.Cond.code x code maxLocals ret :: ws) room_1) (fun a U => a = #[(.int zu), (.int zl)] ∧ Z.Warmed39 U.vm ∧ U.heap = h0) (fun _ _ _ _ _ => True) (fun _ U o U' => ∃ v L, o = .returned v ∧ Q0 Z zu zl h0 n0 v U'.heap L ∧ FrameEnd U o U' L 1 5) := by
  refine MetFree.of_bodySF (plainFor_of_name own_pn39445) hisR ?_
  intro p e s m args below meth c s₁ Bd hml0 hP hK
  obtain ⟨rfl, hZ, hh⟩ := hP
  have hx := Bd.exec
  have hby := Bd.bytes
  have hml : c.maxLocals = 16 := hml0
  have hown : s.vm.findClass "com/example/soak/soak/sim/CallCountsCountRejectedPinLaw" = some m.cls := findClass_of_methodNamed Bd.named
  have hnm := (name_of_methodNamed Bd.named Bd.method).1
  have X0 : Stand p l e room_1 s m #[(.int zu), (.int zl)] below meth c s₁ [] 0 0 := Stand.of_body Bd
  have e0 : s₁.heap = h0 := by rw [← hh, Bd.state]; rfl
  have N0 := Fr.nil n0
  have K0 := Keep.refl h0 ([] : List Addr)
  show own_WP p e below (own_E s (Q0 Z zu zl h0 n0) 1 5) s₁ (entryFrame m #[(.int zu), (.int zl)] maxLocals)
  rw [ef_0 m zu zl]
  have J12 : ∀ (zb : Int32) (T1 : State) (h1 : Heap) (L1 : List Loc), Stand p l e room_1 s m #[(.int zu), (.int zl)] below meth c T1 L1 0 0 → T1.heap = h1 → Fr n0 L1 → Keep h0 h1 [] → own_WP p e below (own_E s (Q0 Z zu zl h0 n0) 1 5) T1 (mkF m 12 #[.val (.int zu), .val (.int zl), .val (.int zb), .unset, .unset, .unset, .unset, .unset, .unset, .unset, .unset, .unset, .unset, .unset, .unset, .unset] []) := by
    intro zb T1 h1 L1 X1 e1 N1 K1j
    show own_WP _ _ _ _ T1 (mkF m 12 #[.val (.int zu), .val (.int zl), .val (.int zb), .unset, .unset, .unset, .unset, .unset, .unset, .unset, .unset, .unset, .unset, .unset, .unset, .unset] [])
    obtain ⟨T2, h2, X2, e2, E2, A2, D2, -, st2⟩ := newO X1 hx hZ hown (hw _ (List.mem_of_getElem? (i := 0) rfl)) (hw _ (List.mem_of_getElem? (i := 1) rfl)) (hw _ (List.mem_of_getElem? (i := 2) rfl)) e1 (g := (mkF m 12 #[.val (.int zu), .val (.int zl), .val (.int zb), .unset, .unset, .unset, .unset, .unset, .unset, .unset, .unset, .unset, .unset, .unset, .unset, .unset] [])) rfl (hb hby at_12) (by decide) (by decide)
    obtain ⟨zo, q2⟩ : ∃ z, z = h1.size := ⟨_, rfl⟩
    rw [← q2] at A2 D2 st2
    refine own_go st2 ?_
    have g_zo : n0 ≤ zo := Nat.le_trans (own_le Z0 K1j) (Nat.le_of_eq q2.symm)
    have sz_zo : h0.size ≤ zo := Nat.le_trans K1j.1 (Nat.le_of_eq q2.symm)
    have K3 : Keep h0 h2 [] := K1j.ext E2
    have f4 : Fld Z h2 zo "com/example/soak/soak/sim/CallCounts" "failed" "J" (.long (0 : Int64)) := D2 (Or.inl (hw _ (List.mem_of_getElem? (i := 15) rfl))) (ty := .long) (by decide)
    have f5 : Fld Z h2 zo "com/example/soak/soak/sim/CallCounts" "rejected" "J" (.long (0 : Int64)) := D2 (Or.inl (hw _ (List.mem_of_getElem? (i := 17) rfl))) (ty := .long) (by decide)
    have f6 : Fld Z h2 zo "com/example/soak/soak/sim/CallCounts" "serverRejected" "J" (.long (0 : Int64)) := D2 (Or.inl (hw _ (List.mem_of_getElem? (i := 19) rfl))) (ty := .long) (by decide)
    have f7 : Fld Z h2 zo "com/example/soak/soak/sim/CallCounts" "offered" "J" (.long (0 : Int64)) := D2 (Or.inl (hw _ (List.mem_of_getElem? (i := 26) rfl))) (ty := .long) (by decide)
    have f8 : Fld Z h2 zo "com/example/soak/soak/sim/CallCounts" "good" "J" (.long (0 : Int64)) := D2 (Or.inl (hw _ (List.mem_of_getElem? (i := 33) rfl))) (ty := .long) (by decide)
    show own_WP _ _ _ _ T2 (mkF m 15 #[.val (.int zu), .val (.int zl), .val (.int zb), .unset, .unset, .unset, .unset, .unset, .unset, .unset, .unset, .unset, .unset, .unset, .unset, .unset] [(.ref zo)])
    refine own_go (fun t k => XS.dup X2.here hx rfl (hb hby at_15) rfl rfl k) ?_
    show own_WP _ _ _ _ T2 (mkF m 16 #[.val (.int zu), .val (.int zl), .val (.int zb), .unset, .unset, .unset, .unset, .unset, .unset, .unset, .unset, .unset, .unset, .unset, .unset, .unset] [(.ref zo), (.ref zo)])
    obtain ⟨_, _, ⟨T9, L9, k9, n9⟩, -, X9, ⟨Lc9, hQ9, l9, y9, z9⟩, st9⟩ := X2.specialBack hx (y := (⟨"com/example/soak/soak/sim/CallCounts", "<init>", "()V"⟩ : MethodName)) rfl hown (mvT hZ (hw _ (List.mem_of_getElem? (i := 3) rfl))) (mvT hZ (hw _ (List.mem_of_getElem? (i := 4) rfl))) (mvT hZ (hw _ (List.mem_of_getElem? (i := 5) rfl))) (by decide) (backOf (W := 1) (rm1 l Z a0 hw [] zo  h2 n0 (own_le Z0 K3) ) hZ (hw _ (List.mem_of_getElem? (i := 5) rfl)) (hw _ (List.mem_of_getElem? (i := 2) rfl)) (by decide) (by decide)) (g := (mkF m 16 #[.val (.int zu), .val (.int zl), .val (.int zb), .unset, .unset, .unset, .unset, .unset, .unset, .unset, .unset, .unset, .unset, .unset, .unset, .unset] [(.ref zo), (.ref zo)])) rfl (by rw [hml]; rfl) (Steps.refl _) (a := zo) (argsL := []) (rest := [(.ref zo)]) (lenOf own_pd91897 rfl) rfl (by show 2 * 0 + _ ≤ _; exact Nat.le_of_eq rfl) (hb hby at_16) (fun _ _ => ⟨rfl, e2, (by decide : 1 + 0 ≤ _), (by decide : 5 + 0 ≤ _)⟩)
    dsimp only [Pt.U, Pt.locs, Pt.cells, Pt.slots] at X9 l9 y9 z9 st9 hQ9
    subst l9 y9 z9
    obtain ⟨rfl, N9q, eq9⟩ := hQ9
    have N9 := Fr.app N1 N9q
    refine own_tr st9 ?_
    show own_WP _ _ _ _ T9 (mkF m 19 #[.val (.int zu), .val (.int zl), .val (.int zb), .unset, .unset, .unset, .unset, .unset, .unset, .unset, .unset, .unset, .unset, .unset, .unset, .unset] [(.ref zo)])
    refine own_go (fun t k => XS.astoreN X9.here hx rfl (hb hby at_19) rfl rfl (l' := #[.val (.int zu), .val (.int zl), .val (.int zb), .val (.ref zo), .unset, .unset, .unset, .unset, .unset, .unset, .unset, .unset, .unset, .unset, .unset, .unset]) rfl k) ?_
    show own_WP _ _ _ _ T9 (mkF m 20 #[.val (.int zu), .val (.int zl), .val (.int zb), .val (.ref zo), .unset, .unset, .unset, .unset, .unset, .unset, .unset, .unset, .unset, .unset, .unset, .unset] [])
    refine own_go (fun t k => XS.lconst X9.here hx rfl (hb hby at_20) k) ?_
    show own_WP _ _ _ _ T9 (mkF m 21 #[.val (.int zu), .val (.int zl), .val (.int zb), .val (.ref zo), .unset, .unset, .unset, .unset, .unset, .unset, .unset, .unset, .unset, .unset, .unset, .unset] [(.long (0 : Int64))])
    refine own_go (fun t k => XS.lstore X9.here hx rfl (hb hby at_21) rfl (l' := #[.val (.int zu), .val (.int zl), .val (.int zb), .val (.ref zo), .val (.long (0 : Int64)), .second, .unset, .unset, .unset, .unset, .unset, .unset, .unset, .unset, .unset, .unset]) rfl k) ?_
    show own_WP _ _ _ _ T9 (mkF m 23 #[.val (.int zu), .val (.int zl), .val (.int zb), .val (.ref zo), .val (.long (0 : Int64)), .second, .unset, .unset, .unset, .unset, .unset, .unset, .unset, .unset, .unset, .unset] [])
    refine own_go (fun t k => XS.lconst X9.here hx rfl (hb hby at_23) k) ?_
    show own_WP _ _ _ _ T9 (mkF m 24 #[.val (.int zu), .val (.int zl), .val (.int zb), .val (.ref zo), .val (.long (0 : Int64)), .second, .unset, .unset, .unset, .unset, .unset, .unset, .unset, .unset, .unset, .unset] [(.long (0 : Int64))])
    refine own_go (fun t k => XS.lstore X9.here hx rfl (hb hby at_24) rfl (l' := #[.val (.int zu), .val (.int zl), .val (.int zb), .val (.ref zo), .val (.long (0 : Int64)), .second, .val (.long (0 : Int64)), .second, .unset, .unset, .unset, .unset, .unset, .unset, .unset, .unset]) rfl k) ?_
    show own_WP _ _ _ _ T9 (mkF m 26 #[.val (.int zu), .val (.int zl), .val (.int zb), .val (.ref zo), .val (.long (0 : Int64)), .second, .val (.long (0 : Int64)), .second, .unset, .unset, .unset, .unset, .unset, .unset, .unset, .unset] [])
    refine own_go (fun t k => XS.lconst X9.here hx rfl (hb hby at_26) k) ?_
    show own_WP _ _ _ _ T9 (mkF m 27 #[.val (.int zu), .val (.int zl), .val (.int zb), .val (.ref zo), .val (.long (0 : Int64)), .second, .val (.long (0 : Int64)), .second, .unset, .unset, .unset, .unset, .unset, .unset, .unset, .unset] [(.long (0 : Int64))])
    refine own_go (fun t k => XS.lstore X9.here hx rfl (hb hby at_27) rfl (l' := #[.val (.int zu), .val (.int zl), .val (.int zb), .val (.ref zo), .val (.long (0 : Int64)), .second, .val (.long (0 : Int64)), .second, .val (.long (0 : Int64)), .second, .unset, .unset, .unset, .unset, .unset, .unset]) rfl k) ?_
    show own_WP _ _ _ _ T9 (mkF m 29 #[.val (.int zu), .val (.int zl), .val (.int zb), .val (.ref zo), .val (.long (0 : Int64)), .second, .val (.long (0 : Int64)), .second, .val (.long (0 : Int64)), .second, .unset, .unset, .unset, .unset, .unset, .unset] [])
    refine own_go (fun t k => XS.lconst X9.here hx rfl (hb hby at_29) k) ?_
    show own_WP _ _ _ _ T9 (mkF m 30 #[.val (.int zu), .val (.int zl), .val (.int zb), .val (.ref zo), .val (.long (0 : Int64)), .second, .val (.long (0 : Int64)), .second, .val (.long (0 : Int64)), .second, .unset, .unset, .unset, .unset, .unset, .unset] [(.long (0 : Int64))])
    refine own_go (fun t k => XS.lstore X9.here hx rfl (hb hby at_30) rfl (l' := #[.val (.int zu), .val (.int zl), .val (.int zb), .val (.ref zo), .val (.long (0 : Int64)), .second, .val (.long (0 : Int64)), .second, .val (.long (0 : Int64)), .second, .val (.long (0 : Int64)), .second, .unset, .unset, .unset, .unset]) rfl k) ?_
    show own_WP _ _ _ _ T9 (mkF m 32 #[.val (.int zu), .val (.int zl), .val (.int zb), .val (.ref zo), .val (.long (0 : Int64)), .second, .val (.long (0 : Int64)), .second, .val (.long (0 : Int64)), .second, .val (.long (0 : Int64)), .second, .unset, .unset, .unset, .unset] [])
    refine own_go (fun t k => XS.lconst X9.here hx rfl (hb hby at_32) k) ?_
    show own_WP _ _ _ _ T9 (mkF m 33 #[.val (.int zu), .val (.int zl), .val (.int zb), .val (.ref zo), .val (.long (0 : Int64)), .second, .val (.long (0 : Int64)), .second, .val (.long (0 : Int64)), .second, .val (.long (0 : Int64)), .second, .unset, .unset, .unset, .unset] [(.long (0 : Int64))])
    refine own_go (fun t k => XS.lstore X9.here hx rfl (hb hby at_33) rfl (l' := #[.val (.int zu), .val (.int zl), .val (.int zb), .val (.ref zo), .val (.long (0 : Int64)), .second, .val (.long (0 : Int64)), .second, .val (.long (0 : Int64)), .second, .val (.long (0 : Int64)), .second, .val (.long (0 : Int64)), .second, .unset, .unset]) rfl k) ?_
    have J48 : ∀ (zo1 : Int64) (T10 : State) (h10 : Heap) (L10 : List Loc), Stand p l e room_1 s m #[(.int zu), (.int zl)] below meth c T10 L10 1 5 → T10.heap = h10 → Fr n0 L10 → Keep h0 h10 [] → Exa Z h10 zo "com/example/soak/soak/sim/CallCounts" → Fld Z h10 zo "com/example/soak/soak/sim/CallCounts" "failed" "J" (.long (0 : Int64)) → Fld Z h10 zo "com/example/soak/soak/sim/CallCounts" "rejected" "J" (.long (0 : Int64)) → Fld Z h10 zo "com/example/soak/soak/sim/CallCounts" "serverRejected" "J" (.long (0 : Int64)) → Fld Z h10 zo "com/example/soak/soak/sim/CallCounts" "offered" "J" (.long zo1) → Fld Z h10 zo "com/example/soak/soak/sim/CallCounts" "good" "J" (.long (0 : Int64)) → own_WP p e below (own_E s (Q0 Z zu zl h0 n0) 1 5) T10 (mkF m 48 #[.val (.int zu), .val (.int zl), .val (.int zb), .val (.ref zo), .val (.long zo1), .second, .val (.long (0 : Int64)), .second, .val (.long (0 : Int64)), .second, .val (.long (0 : Int64)), .second, .val (.long (0 : Int64)), .second, .unset, .unset] []) := by
      intro zo1 T10 h10 L10 X10 e10 N10 K10j f11 f12 f13 f14 f15 f16
      have J61 : ∀ (zg1 : Int64) (T17 : State) (h17 : Heap) (L17 : List Loc), Stand p l e room_1 s m #[(.int zu), (.int zl)] below meth c T17 L17 1 5 → T17.heap = h17 → Fr n0 L17 → Keep h0 h17 [] → Exa Z h17 zo "com/example/soak/soak/sim/CallCounts" → Fld Z h17 zo "com/example/soak/soak/sim/CallCounts" "failed" "J" (.long (0 : Int64)) → Fld Z h17 zo "com/example/soak/soak/sim/CallCounts" "rejected" "J" (.long (0 : Int64)) → Fld Z h17 zo "com/example/soak/soak/sim/CallCounts" "serverRejected" "J" (.long (0 : Int64)) → Fld Z h17 zo "com/example/soak/soak/sim/CallCounts" "offered" "J" (.long zo1) → Fld Z h17 zo "com/example/soak/soak/sim/CallCounts" "good" "J" (.long zg1) → own_WP p e below (own_E s (Q0 Z zu zl h0 n0) 1 5) T17 (mkF m 61 #[.val (.int zu), .val (.int zl), .val (.int zb), .val (.ref zo), .val (.long zo1), .second, .val (.long zg1), .second, .val (.long (0 : Int64)), .second, .val (.long (0 : Int64)), .second, .val (.long (0 : Int64)), .second, .unset, .unset] []) := by
        intro zg1 T17 h17 L17 X17 e17 N17 K17j f18 f19 f20 f21 f22 f23
        have J74 : ∀ (zf1 : Int64) (T24 : State) (h24 : Heap) (L24 : List Loc), Stand p l e room_1 s m #[(.int zu), (.int zl)] below meth c T24 L24 1 5 → T24.heap = h24 → Fr n0 L24 → Keep h0 h24 [] → Exa Z h24 zo "com/example/soak/soak/sim/CallCounts" → Fld Z h24 zo "com/example/soak/soak/sim/CallCounts" "failed" "J" (.long zf1) → Fld Z h24 zo "com/example/soak/soak/sim/CallCounts" "rejected" "J" (.long (0 : Int64)) → Fld Z h24 zo "com/example/soak/soak/sim/CallCounts" "serverRejected" "J" (.long (0 : Int64)) → Fld Z h24 zo "com/example/soak/soak/sim/CallCounts" "offered" "J" (.long zo1) → Fld Z h24 zo "com/example/soak/soak/sim/CallCounts" "good" "J" (.long zg1) → own_WP p e below (own_E s (Q0 Z zu zl h0 n0) 1 5) T24 (mkF m 74 #[.val (.int zu), .val (.int zl), .val (.int zb), .val (.ref zo), .val (.long zo1), .second, .val (.long zg1), .second, .val (.long zf1), .second, .val (.long (0 : Int64)), .second, .val (.long (0 : Int64)), .second, .unset, .unset] []) := by
          intro zf1 T24 h24 L24 X24 e24 N24 K24j f25 f26 f27 f28 f29 f30
          show own_WP _ _ _ _ T24 (mkF m 74 #[.val (.int zu), .val (.int zl), .val (.int zb), .val (.ref zo), .val (.long zo1), .second, .val (.long zg1), .second, .val (.long zf1), .second, .val (.long (0 : Int64)), .second, .val (.long (0 : Int64)), .second, .unset, .unset] [])
          refine own_go (fun t k => XS.iloadN X24.here hx rfl (hb hby at_74) rfl  k) ?_
          show own_WP _ _ _ _ T24 (mkF m 75 #[.val (.int zu), .val (.int zl), .val (.int zb), .val (.ref zo), .val (.long zo1), .second, .val (.long zg1), .second, .val (.long zf1), .second, .val (.long (0 : Int64)), .second, .val (.long (0 : Int64)), .second, .unset, .unset] [(.int zu)])
          refine own_go (fun t k => XS.bipush X24.here hx rfl (hb hby at_75) k) ?_
          show own_WP _ _ _ _ T24 (mkF m 77 #[.val (.int zu), .val (.int zl), .val (.int zb), .val (.ref zo), .val (.long zo1), .second, .val (.long zg1), .second, .val (.long zf1), .second, .val (.long (0 : Int64)), .second, .val (.long (0 : Int64)), .second, .unset, .unset] [(.int (8 : Int32)), (.int zu)])
          refine own_go (fun t k => XS.iand X24.here hx rfl (hb hby at_77) rfl k) ?_
          show own_WP _ _ _ _ T24 (mkF m 78 #[.val (.int zu), .val (.int zl), .val (.int zb), .val (.ref zo), .val (.long zo1), .second, .val (.long zg1), .second, .val (.long zf1), .second, .val (.long (0 : Int64)), .second, .val (.long (0 : Int64)), .second, .unset, .unset] [(.int (zu &&& (8 : Int32)))])
          by_cases hc78 : (zu &&& (8 : Int32)) = (0 : Int32)
          · refine own_go (fun t k => XS.ifYes X24.here hx rfl (pc0 := 78) (pc' := 122) rfl (hb hby at_78) rfl ((if0 _ _).trans (teq hc78).1) (by decide) (by decide) k) ?_
            show own_WP _ _ _ _ T24 (mkF m 122 #[.val (.int zu), .val (.int zl), .val (.int zb), .val (.ref zo), .val (.long zo1), .second, .val (.long zg1), .second, .val (.long zf1), .second, .val (.long (0 : Int64)), .second, .val (.long (0 : Int64)), .second, .unset, .unset] [])
            refine own_go (fun t k => XS.aloadN X24.here hx rfl (hb hby at_122) rfl rfl  k) ?_
            show own_WP _ _ _ _ T24 (mkF m 123 #[.val (.int zu), .val (.int zl), .val (.int zb), .val (.ref zo), .val (.long zo1), .second, .val (.long zg1), .second, .val (.long zf1), .second, .val (.long (0 : Int64)), .second, .val (.long (0 : Int64)), .second, .unset, .unset] [(.ref zo)])
            refine own_go (fun t k => XS.iloadN X24.here hx rfl (hb hby at_123) rfl  k) ?_
            show own_WP _ _ _ _ T24 (mkF m 124 #[.val (.int zu), .val (.int zl), .val (.int zb), .val (.ref zo), .val (.long zo1), .second, .val (.long zg1), .second, .val (.long zf1), .second, .val (.long (0 : Int64)), .second, .val (.long (0 : Int64)), .second, .unset, .unset] [(.int zb), (.ref zo)])
            obtain ⟨cq31, kq31, q31a, q31b, q31c⟩ := isOf hZ e24 f25
            obtain ⟨_, _, ⟨T31, L31, k31, n31⟩, -, X31, ⟨Lc31, hQ31, l31, y31, z31⟩, st31⟩ := X24.virtualBack hx (y := (⟨"com/example/soak/soak/sim/CallCounts", "countRejected", "(Z)V"⟩ : MethodName)) (z := (⟨"com/example/soak/soak/sim/CallCounts", "countRejected", "(Z)V"⟩ : MethodName)) hown (mvT hZ (hw _ (List.mem_of_getElem? (i := 9) rfl))) (mvT hZ (hw _ (List.mem_of_getElem? (i := 10) rfl))) (notFace_of_selects (args := #[]) (mvT hZ (hw _ (List.mem_of_getElem? (i := 12) rfl)))) (mvT hZ (hw _ (List.mem_of_getElem? (i := 12) rfl))) (mvT hZ (hw _ (List.mem_of_getElem? (i := 11) rfl))) (by decide) (backOf (W := 0) (rm3 l Z a0 hw [] zo zb zo1 zg1 zf1 (0 : Int64) (0 : Int64) h24 n0 (own_le Z0 K24j) f25 f29 f30 f26 f27 f28 g_zo) hZ (hw _ (List.mem_of_getElem? (i := 13) rfl)) (hw _ (List.mem_of_getElem? (i := 2) rfl)) (by decide) (by decide)) q31a q31c (g := (mkF m 124 #[.val (.int zu), .val (.int zl), .val (.int zb), .val (.ref zo), .val (.long zo1), .second, .val (.long zg1), .second, .val (.long zf1), .second, .val (.long (0 : Int64)), .second, .val (.long (0 : Int64)), .second, .unset, .unset] [(.int zb), (.ref zo)])) rfl (by rw [hml]; rfl) (Steps.refl _) (argsL := [(.int zb)]) (rest := []) (lenOf own_pd73587 rfl) rfl (by show 2 * 0 + _ ≤ _; exact Nat.le_of_eq rfl) (hb hby at_124) (fun _ _ => ⟨rfl, e24, (by decide : 1 + 0 ≤ _), (by decide : 5 + 0 ≤ _)⟩)
            dsimp only [Pt.U, Pt.locs, Pt.cells, Pt.slots] at X31 l31 y31 z31 st31 hQ31
            subst l31 y31 z31
            obtain ⟨rfl, N31q, Kc31, f32, f33, f34, f35, f36, f37⟩ := hQ31
            have N31 := Fr.app N24 N31q
            refine own_tr st31 ?_
            have f38 : Exa Z T31.heap zo "com/example/soak/soak/sim/CallCounts" := f25.keep Kc31
            have K44 : Keep h0 T31.heap [] := K24j.trans Kc31 (fun x hx => by cases List.mem_singleton.mp hx; exact Or.inr sz_zo)
            show own_WP _ _ _ _ T31 (mkF m 127 #[.val (.int zu), .val (.int zl), .val (.int zb), .val (.ref zo), .val (.long zo1), .second, .val (.long zg1), .second, .val (.long zf1), .second, .val (.long (0 : Int64)), .second, .val (.long (0 : Int64)), .second, .unset, .unset] [])
            refine own_go (fun t k => XS.lload X31.here hx rfl (hb hby at_127) rfl  k) ?_
            show own_WP _ _ _ _ T31 (mkF m 129 #[.val (.int zu), .val (.int zl), .val (.int zb), .val (.ref zo), .val (.long zo1), .second, .val (.long zg1), .second, .val (.long zf1), .second, .val (.long (0 : Int64)), .second, .val (.long (0 : Int64)), .second, .unset, .unset] [(.long (0 : Int64))])
            refine own_go (fun t k => XS.iloadN X31.here hx rfl (hb hby at_129) rfl  k) ?_
            show own_WP _ _ _ _ T31 (mkF m 130 #[.val (.int zu), .val (.int zl), .val (.int zb), .val (.ref zo), .val (.long zo1), .second, .val (.long zg1), .second, .val (.long zf1), .second, .val (.long (0 : Int64)), .second, .val (.long (0 : Int64)), .second, .unset, .unset] [(.int zb), (.long (0 : Int64))])
            by_cases hc130 : zb = (0 : Int32)
            · refine own_go (fun t k => XS.ifYes X31.here hx rfl (pc0 := 130) (pc' := 137) rfl (hb hby at_130) rfl ((if0 _ _).trans (teq hc130).1) (by decide) (by decide) k) ?_
              show own_WP _ _ _ _ T31 (mkF m 137 #[.val (.int zu), .val (.int zl), .val (.int zb), .val (.ref zo), .val (.long zo1), .second, .val (.long zg1), .second, .val (.long zf1), .second, .val (.long (0 : Int64)), .second, .val (.long (0 : Int64)), .second, .unset, .unset] [(.long (0 : Int64))])
              refine own_go (fun t k => XS.iconst X31.here hx rfl (hb hby at_137) k) ?_
              show own_WP _ _ _ _ T31 (mkF m 138 #[.val (.int zu), .val (.int zl), .val (.int zb), .val (.ref zo), .val (.long zo1), .second, .val (.long zg1), .second, .val (.long zf1), .second, .val (.long (0 : Int64)), .second, .val (.long (0 : Int64)), .second, .unset, .unset] [(.int (0 : Int32)), (.long (0 : Int64))])
              refine own_go (fun t k => XS.i2l X31.here hx rfl (hb hby at_138) rfl k) ?_
              show own_WP _ _ _ _ T31 (mkF m 139 #[.val (.int zu), .val (.int zl), .val (.int zb), .val (.ref zo), .val (.long zo1), .second, .val (.long zg1), .second, .val (.long zf1), .second, .val (.long (0 : Int64)), .second, .val (.long (0 : Int64)), .second, .unset, .unset] [(.long ((0 : Int32).toInt64)), (.long (0 : Int64))])
              refine own_go (fun t k => XS.ladd X31.here hx rfl (hb hby at_139) rfl k) ?_
              show own_WP _ _ _ _ T31 (mkF m 140 #[.val (.int zu), .val (.int zl), .val (.int zb), .val (.ref zo), .val (.long zo1), .second, .val (.long zg1), .second, .val (.long zf1), .second, .val (.long (0 : Int64)), .second, .val (.long (0 : Int64)), .second, .unset, .unset] [(.long ((0 : Int64) + ((0 : Int32).toInt64)))])
              refine own_go (fun t k => XS.lstore X31.here hx rfl (hb hby at_140) rfl (l' := #[.val (.int zu), .val (.int zl), .val (.int zb), .val (.ref zo), .val (.long zo1), .second, .val (.long zg1), .second, .val (.long zf1), .second, .val (.long (0 : Int64)), .second, .val (.long (0 : Int64)), .second, .val (.long ((0 : Int64) + ((0 : Int32).toInt64))), .second]) rfl k) ?_
              show own_WP _ _ _ _ T31 (mkF m 142 #[.val (.int zu), .val (.int zl), .val (.int zb), .val (.ref zo), .val (.long zo1), .second, .val (.long zg1), .second, .val (.long zf1), .second, .val (.long (0 : Int64)), .second, .val (.long (0 : Int64)), .second, .val (.long ((0 : Int64) + ((0 : Int32).toInt64))), .second] [])
              refine own_go (fun t k => XS.aloadN X31.here hx rfl (hb hby at_142) rfl rfl  k) ?_
              show own_WP _ _ _ _ T31 (mkF m 143 #[.val (.int zu), .val (.int zl), .val (.int zb), .val (.ref zo), .val (.long zo1), .second, .val (.long zg1), .second, .val (.long zf1), .second, .val (.long (0 : Int64)), .second, .val (.long (0 : Int64)), .second, .val (.long ((0 : Int64) + ((0 : Int32).toInt64))), .second] [(.ref zo)])
              obtain ⟨cq45, kq45, q45a, q45b, q45c⟩ := isOf hZ rfl f32
              obtain ⟨_, _, ⟨T45, L45, k45, n45⟩, -, X45, ⟨Lc45, hQ45, l45, y45, z45⟩, st45⟩ := X31.virtualBack hx (y := (⟨"com/example/soak/soak/sim/CallCounts", "offered", "()J"⟩ : MethodName)) (z := (⟨"com/example/soak/soak/sim/CallCounts", "offered", "()J"⟩ : MethodName)) hown (mvT hZ (hw _ (List.mem_of_getElem? (i := 20) rfl))) (mvT hZ (hw _ (List.mem_of_getElem? (i := 21) rfl))) (notFace_of_selects (args := #[]) (mvT hZ (hw _ (List.mem_of_getElem? (i := 23) rfl)))) (mvT hZ (hw _ (List.mem_of_getElem? (i := 23) rfl))) (mvT hZ (hw _ (List.mem_of_getElem? (i := 22) rfl))) (by decide) (backOf (W := 0) (rm4 l Z a0 hw [] zo zo1 T31.heap n0 (own_le Z0 K44) f33) hZ (hw _ (List.mem_of_getElem? (i := 24) rfl)) (hw _ (List.mem_of_getElem? (i := 2) rfl)) (by decide) (by decide)) q45a q45c (g := (mkF m 143 #[.val (.int zu), .val (.int zl), .val (.int zb), .val (.ref zo), .val (.long zo1), .second, .val (.long zg1), .second, .val (.long zf1), .second, .val (.long (0 : Int64)), .second, .val (.long (0 : Int64)), .second, .val (.long ((0 : Int64) + ((0 : Int32).toInt64))), .second] [(.ref zo)])) rfl (by rw [hml]; rfl) (Steps.refl _) (argsL := []) (rest := []) (lenOf own_pd91885 rfl) rfl (by show 2 * 0 + _ ≤ _; exact Nat.le_of_eq rfl) (hb hby at_143) (fun _ _ => ⟨rfl, rfl, (by decide : 1 + 0 ≤ _), (by decide : 5 + 0 ≤ _)⟩)
              dsimp only [Pt.U, Pt.locs, Pt.cells, Pt.slots] at X45 l45 y45 z45 st45 hQ45
              subst l45 y45 z45
              obtain ⟨rfl, N45q, eq45⟩ := hQ45
              have N45 := Fr.app N31 N45q
              refine own_tr st45 ?_
              show own_WP _ _ _ _ T45 (mkF m 146 #[.val (.int zu), .val (.int zl), .val (.int zb), .val (.ref zo), .val (.long zo1), .second, .val (.long zg1), .second, .val (.long zf1), .second, .val (.long (0 : Int64)), .second, .val (.long (0 : Int64)), .second, .val (.long ((0 : Int64) + ((0 : Int32).toInt64))), .second] [(.long zo1)])
              refine own_go (fun t k => XS.lload X45.here hx rfl (hb hby at_146) rfl  k) ?_
              show own_WP _ _ _ _ T45 (mkF m 148 #[.val (.int zu), .val (.int zl), .val (.int zb), .val (.ref zo), .val (.long zo1), .second, .val (.long zg1), .second, .val (.long zf1), .second, .val (.long (0 : Int64)), .second, .val (.long (0 : Int64)), .second, .val (.long ((0 : Int64) + ((0 : Int32).toInt64))), .second] [(.long zo1), (.long zo1)])
              refine own_go (fun t k => XS.lcmp X45.here hx rfl (hb hby at_148) rfl k) ?_
              show own_WP _ _ _ _ T45 (mkF m 149 #[.val (.int zu), .val (.int zl), .val (.int zb), .val (.ref zo), .val (.long zo1), .second, .val (.long zg1), .second, .val (.long zf1), .second, .val (.long (0 : Int64)), .second, .val (.long (0 : Int64)), .second, .val (.long ((0 : Int64) + ((0 : Int32).toInt64))), .second] [(.int (lcmpW zo1 zo1))])
              have hc149 : zo1 = zo1 := rfl
              refine own_go (fun t k => XS.ifNo X45.here hx rfl (hb hby at_149) rfl ((if0 _ _).trans (teq ((lw_eq zo1 zo1).mpr hc149)).2) k) ?_
              show own_WP _ _ _ _ T45 (mkF m 152 #[.val (.int zu), .val (.int zl), .val (.int zb), .val (.ref zo), .val (.long zo1), .second, .val (.long zg1), .second, .val (.long zf1), .second, .val (.long (0 : Int64)), .second, .val (.long (0 : Int64)), .second, .val (.long ((0 : Int64) + ((0 : Int32).toInt64))), .second] [])
              refine own_go (fun t k => XS.aloadN X45.here hx rfl (hb hby at_152) rfl rfl  k) ?_
              show own_WP _ _ _ _ T45 (mkF m 153 #[.val (.int zu), .val (.int zl), .val (.int zb), .val (.ref zo), .val (.long zo1), .second, .val (.long zg1), .second, .val (.long zf1), .second, .val (.long (0 : Int64)), .second, .val (.long (0 : Int64)), .second, .val (.long ((0 : Int64) + ((0 : Int32).toInt64))), .second] [(.ref zo)])
              obtain ⟨cq46, kq46, q46a, q46b, q46c⟩ := isOf hZ eq45 f32
              obtain ⟨_, _, ⟨T46, L46, k46, n46⟩, -, X46, ⟨Lc46, hQ46, l46, y46, z46⟩, st46⟩ := X45.virtualBack hx (y := (⟨"com/example/soak/soak/sim/CallCounts", "good", "()J"⟩ : MethodName)) (z := (⟨"com/example/soak/soak/sim/CallCounts", "good", "()J"⟩ : MethodName)) hown (mvT hZ (hw _ (List.mem_of_getElem? (i := 27) rfl))) (mvT hZ (hw _ (List.mem_of_getElem? (i := 28) rfl))) (notFace_of_selects (args := #[]) (mvT hZ (hw _ (List.mem_of_getElem? (i := 30) rfl)))) (mvT hZ (hw _ (List.mem_of_getElem? (i := 30) rfl))) (mvT hZ (hw _ (List.mem_of_getElem? (i := 29) rfl))) (by decide) (backOf (W := 0) (rm5 l Z a0 hw [] zo zg1 T31.heap n0 (own_le Z0 K44) f34) hZ (hw _ (List.mem_of_getElem? (i := 31) rfl)) (hw _ (List.mem_of_getElem? (i := 2) rfl)) (by decide) (by decide)) q46a q46c (g := (mkF m 153 #[.val (.int zu), .val (.int zl), .val (.int zb), .val (.ref zo), .val (.long zo1), .second, .val (.long zg1), .second, .val (.long zf1), .second, .val (.long (0 : Int64)), .second, .val (.long (0 : Int64)), .second, .val (.long ((0 : Int64) + ((0 : Int32).toInt64))), .second] [(.ref zo)])) rfl (by rw [hml]; rfl) (Steps.refl _) (argsL := []) (rest := []) (lenOf own_pd91885 rfl) rfl (by show 2 * 0 + _ ≤ _; exact Nat.le_of_eq rfl) (hb hby at_153) (fun _ _ => ⟨rfl, eq45, (by decide : 1 + 0 ≤ _), (by decide : 5 + 0 ≤ _)⟩)
              dsimp only [Pt.U, Pt.locs, Pt.cells, Pt.slots] at X46 l46 y46 z46 st46 hQ46
              subst l46 y46 z46
              obtain ⟨rfl, N46q, eq46⟩ := hQ46
              have N46 := Fr.app N45 N46q
              refine own_tr st46 ?_
              show own_WP _ _ _ _ T46 (mkF m 156 #[.val (.int zu), .val (.int zl), .val (.int zb), .val (.ref zo), .val (.long zo1), .second, .val (.long zg1), .second, .val (.long zf1), .second, .val (.long (0 : Int64)), .second, .val (.long (0 : Int64)), .second, .val (.long ((0 : Int64) + ((0 : Int32).toInt64))), .second] [(.long zg1)])
              refine own_go (fun t k => XS.lload X46.here hx rfl (hb hby at_156) rfl  k) ?_
              show own_WP _ _ _ _ T46 (mkF m 158 #[.val (.int zu), .val (.int zl), .val (.int zb), .val (.ref zo), .val (.long zo1), .second, .val (.long zg1), .second, .val (.long zf1), .second, .val (.long (0 : Int64)), .second, .val (.long (0 : Int64)), .second, .val (.long ((0 : Int64) + ((0 : Int32).toInt64))), .second] [(.long zg1), (.long zg1)])
              refine own_go (fun t k => XS.lcmp X46.here hx rfl (hb hby at_158) rfl k) ?_
              show own_WP _ _ _ _ T46 (mkF m 159 #[.val (.int zu), .val (.int zl), .val (.int zb), .val (.ref zo), .val (.long zo1), .second, .val (.long zg1), .second, .val (.long zf1), .second, .val (.long (0 : Int64)), .second, .val (.long (0 : Int64)), .second, .val (.long ((0 : Int64) + ((0 : Int32).toInt64))), .second] [(.int (lcmpW zg1 zg1))])
              have hc159 : zg1 = zg1 := rfl
              refine own_go (fun t k => XS.ifNo X46.here hx rfl (hb hby at_159) rfl ((if0 _ _).trans (teq ((lw_eq zg1 zg1).mpr hc159)).2) k) ?_
              show own_WP _ _ _ _ T46 (mkF m 162 #[.val (.int zu), .val (.int zl), .val (.int zb), .val (.ref zo), .val (.long zo1), .second, .val (.long zg1), .second, .val (.long zf1), .second, .val (.long (0 : Int64)), .second, .val (.long (0 : Int64)), .second, .val (.long ((0 : Int64) + ((0 : Int32).toInt64))), .second] [])
              refine own_go (fun t k => XS.aloadN X46.here hx rfl (hb hby at_162) rfl rfl  k) ?_
              show own_WP _ _ _ _ T46 (mkF m 163 #[.val (.int zu), .val (.int zl), .val (.int zb), .val (.ref zo), .val (.long zo1), .second, .val (.long zg1), .second, .val (.long zf1), .second, .val (.long (0 : Int64)), .second, .val (.long (0 : Int64)), .second, .val (.long ((0 : Int64) + ((0 : Int32).toInt64))), .second] [(.ref zo)])
              obtain ⟨cq47, kq47, q47a, q47b, q47c⟩ := isOf hZ eq46 f32
              obtain ⟨_, _, ⟨T47, L47, k47, n47⟩, -, X47, ⟨Lc47, hQ47, l47, y47, z47⟩, st47⟩ := X46.virtualBack hx (y := (⟨"com/example/soak/soak/sim/CallCounts", "failed", "()J"⟩ : MethodName)) (z := (⟨"com/example/soak/soak/sim/CallCounts", "failed", "()J"⟩ : MethodName)) hown (mvT hZ (hw _ (List.mem_of_getElem? (i := 34) rfl))) (mvT hZ (hw _ (List.mem_of_getElem? (i := 35) rfl))) (notFace_of_selects (args := #[]) (mvT hZ (hw _ (List.mem_of_getElem? (i := 37) rfl)))) (mvT hZ (hw _ (List.mem_of_getElem? (i := 37) rfl))) (mvT hZ (hw _ (List.mem_of_getElem? (i := 36) rfl))) (by decide) (backOf (W := 0) (rm6 l Z a0 hw [] zo (zf1 + (1 : Int64)) T31.heap n0 (own_le Z0 K44) f35) hZ (hw _ (List.mem_of_getElem? (i := 38) rfl)) (hw _ (List.mem_of_getElem? (i := 2) rfl)) (by decide) (by decide)) q47a q47c (g := (mkF m 163 #[.val (.int zu), .val (.int zl), .val (.int zb), .val (.ref zo), .val (.long zo1), .second, .val (.long zg1), .second, .val (.long zf1), .second, .val (.long (0 : Int64)), .second, .val (.long (0 : Int64)), .second, .val (.long ((0 : Int64) + ((0 : Int32).toInt64))), .second] [(.ref zo)])) rfl (by rw [hml]; rfl) (Steps.refl _) (argsL := []) (rest := []) (lenOf own_pd91885 rfl) rfl (by show 2 * 0 + _ ≤ _; exact Nat.le_of_eq rfl) (hb hby at_163) (fun _ _ => ⟨rfl, eq46, (by decide : 1 + 0 ≤ _), (by decide : 5 + 0 ≤ _)⟩)
              dsimp only [Pt.U, Pt.locs, Pt.cells, Pt.slots] at X47 l47 y47 z47 st47 hQ47
              subst l47 y47 z47
              obtain ⟨rfl, N47q, eq47⟩ := hQ47
              have N47 := Fr.app N46 N47q
              refine own_tr st47 ?_
              show own_WP _ _ _ _ T47 (mkF m 166 #[.val (.int zu), .val (.int zl), .val (.int zb), .val (.ref zo), .val (.long zo1), .second, .val (.long zg1), .second, .val (.long zf1), .second, .val (.long (0 : Int64)), .second, .val (.long (0 : Int64)), .second, .val (.long ((0 : Int64) + ((0 : Int32).toInt64))), .second] [(.long (zf1 + (1 : Int64)))])
              refine own_go (fun t k => XS.lload X47.here hx rfl (hb hby at_166) rfl  k) ?_
              show own_WP _ _ _ _ T47 (mkF m 168 #[.val (.int zu), .val (.int zl), .val (.int zb), .val (.ref zo), .val (.long zo1), .second, .val (.long zg1), .second, .val (.long zf1), .second, .val (.long (0 : Int64)), .second, .val (.long (0 : Int64)), .second, .val (.long ((0 : Int64) + ((0 : Int32).toInt64))), .second] [(.long zf1), (.long (zf1 + (1 : Int64)))])
              refine own_go (fun t k => XS.lconst X47.here hx rfl (hb hby at_168) k) ?_
              show own_WP _ _ _ _ T47 (mkF m 169 #[.val (.int zu), .val (.int zl), .val (.int zb), .val (.ref zo), .val (.long zo1), .second, .val (.long zg1), .second, .val (.long zf1), .second, .val (.long (0 : Int64)), .second, .val (.long (0 : Int64)), .second, .val (.long ((0 : Int64) + ((0 : Int32).toInt64))), .second] [(.long (1 : Int64)), (.long zf1), (.long (zf1 + (1 : Int64)))])
              refine own_go (fun t k => XS.ladd X47.here hx rfl (hb hby at_169) rfl k) ?_
              show own_WP _ _ _ _ T47 (mkF m 170 #[.val (.int zu), .val (.int zl), .val (.int zb), .val (.ref zo), .val (.long zo1), .second, .val (.long zg1), .second, .val (.long zf1), .second, .val (.long (0 : Int64)), .second, .val (.long (0 : Int64)), .second, .val (.long ((0 : Int64) + ((0 : Int32).toInt64))), .second] [(.long (zf1 + (1 : Int64))), (.long (zf1 + (1 : Int64)))])
              refine own_go (fun t k => XS.lcmp X47.here hx rfl (hb hby at_170) rfl k) ?_
              show own_WP _ _ _ _ T47 (mkF m 171 #[.val (.int zu), .val (.int zl), .val (.int zb), .val (.ref zo), .val (.long zo1), .second, .val (.long zg1), .second, .val (.long zf1), .second, .val (.long (0 : Int64)), .second, .val (.long (0 : Int64)), .second, .val (.long ((0 : Int64) + ((0 : Int32).toInt64))), .second] [(.int (lcmpW (zf1 + (1 : Int64)) (zf1 + (1 : Int64))))])
              have hc171 : (zf1 + (1 : Int64)) = (zf1 + (1 : Int64)) := rfl
              refine own_go (fun t k => XS.ifNo X47.here hx rfl (hb hby at_171) rfl ((if0 _ _).trans (teq ((lw_eq (zf1 + (1 : Int64)) (zf1 + (1 : Int64))).mpr hc171)).2) k) ?_
              show own_WP _ _ _ _ T47 (mkF m 174 #[.val (.int zu), .val (.int zl), .val (.int zb), .val (.ref zo), .val (.long zo1), .second, .val (.long zg1), .second, .val (.long zf1), .second, .val (.long (0 : Int64)), .second, .val (.long (0 : Int64)), .second, .val (.long ((0 : Int64) + ((0 : Int32).toInt64))), .second] [])
              refine own_go (fun t k => XS.aloadN X47.here hx rfl (hb hby at_174) rfl rfl  k) ?_
              show own_WP _ _ _ _ T47 (mkF m 175 #[.val (.int zu), .val (.int zl), .val (.int zb), .val (.ref zo), .val (.long zo1), .second, .val (.long zg1), .second, .val (.long zf1), .second, .val (.long (0 : Int64)), .second, .val (.long (0 : Int64)), .second, .val (.long ((0 : Int64) + ((0 : Int32).toInt64))), .second] [(.ref zo)])
              obtain ⟨cq48, kq48, q48a, q48b, q48c⟩ := isOf hZ eq47 f32
              obtain ⟨_, _, ⟨T48, L48, k48, n48⟩, -, X48, ⟨Lc48, hQ48, l48, y48, z48⟩, st48⟩ := X47.virtualBack hx (y := (⟨"com/example/soak/soak/sim/CallCounts", "rejected", "()J"⟩ : MethodName)) (z := (⟨"com/example/soak/soak/sim/CallCounts", "rejected", "()J"⟩ : MethodName)) hown (mvT hZ (hw _ (List.mem_of_getElem? (i := 39) rfl))) (mvT hZ (hw _ (List.mem_of_getElem? (i := 40) rfl))) (notFace_of_selects (args := #[]) (mvT hZ (hw _ (List.mem_of_getElem? (i := 42) rfl)))) (mvT hZ (hw _ (List.mem_of_getElem? (i := 42) rfl))) (mvT hZ (hw _ (List.mem_of_getElem? (i := 41) rfl))) (by decide) (backOf (W := 0) (rm7 l Z a0 hw [] zo ((0 : Int64) + (1 : Int64)) T31.heap n0 (own_le Z0 K44) f36) hZ (hw _ (List.mem_of_getElem? (i := 43) rfl)) (hw _ (List.mem_of_getElem? (i := 2) rfl)) (by decide) (by decide)) q48a q48c (g := (mkF m 175 #[.val (.int zu), .val (.int zl), .val (.int zb), .val (.ref zo), .val (.long zo1), .second, .val (.long zg1), .second, .val (.long zf1), .second, .val (.long (0 : Int64)), .second, .val (.long (0 : Int64)), .second, .val (.long ((0 : Int64) + ((0 : Int32).toInt64))), .second] [(.ref zo)])) rfl (by rw [hml]; rfl) (Steps.refl _) (argsL := []) (rest := []) (lenOf own_pd91885 rfl) rfl (by show 2 * 0 + _ ≤ _; exact Nat.le_of_eq rfl) (hb hby at_175) (fun _ _ => ⟨rfl, eq47, (by decide : 1 + 0 ≤ _), (by decide : 5 + 0 ≤ _)⟩)
              dsimp only [Pt.U, Pt.locs, Pt.cells, Pt.slots] at X48 l48 y48 z48 st48 hQ48
              subst l48 y48 z48
              obtain ⟨rfl, N48q, eq48⟩ := hQ48
              have N48 := Fr.app N47 N48q
              refine own_tr st48 ?_
              show own_WP _ _ _ _ T48 (mkF m 178 #[.val (.int zu), .val (.int zl), .val (.int zb), .val (.ref zo), .val (.long zo1), .second, .val (.long zg1), .second, .val (.long zf1), .second, .val (.long (0 : Int64)), .second, .val (.long (0 : Int64)), .second, .val (.long ((0 : Int64) + ((0 : Int32).toInt64))), .second] [(.long ((0 : Int64) + (1 : Int64)))])
              refine own_go (fun t k => XS.lload X48.here hx rfl (hb hby at_178) rfl  k) ?_
              show own_WP _ _ _ _ T48 (mkF m 180 #[.val (.int zu), .val (.int zl), .val (.int zb), .val (.ref zo), .val (.long zo1), .second, .val (.long zg1), .second, .val (.long zf1), .second, .val (.long (0 : Int64)), .second, .val (.long (0 : Int64)), .second, .val (.long ((0 : Int64) + ((0 : Int32).toInt64))), .second] [(.long (0 : Int64)), (.long ((0 : Int64) + (1 : Int64)))])
              refine own_go (fun t k => XS.lconst X48.here hx rfl (hb hby at_180) k) ?_
              show own_WP _ _ _ _ T48 (mkF m 181 #[.val (.int zu), .val (.int zl), .val (.int zb), .val (.ref zo), .val (.long zo1), .second, .val (.long zg1), .second, .val (.long zf1), .second, .val (.long (0 : Int64)), .second, .val (.long (0 : Int64)), .second, .val (.long ((0 : Int64) + ((0 : Int32).toInt64))), .second] [(.long (1 : Int64)), (.long (0 : Int64)), (.long ((0 : Int64) + (1 : Int64)))])
              refine own_go (fun t k => XS.ladd X48.here hx rfl (hb hby at_181) rfl k) ?_
              show own_WP _ _ _ _ T48 (mkF m 182 #[.val (.int zu), .val (.int zl), .val (.int zb), .val (.ref zo), .val (.long zo1), .second, .val (.long zg1), .second, .val (.long zf1), .second, .val (.long (0 : Int64)), .second, .val (.long (0 : Int64)), .second, .val (.long ((0 : Int64) + ((0 : Int32).toInt64))), .second] [(.long ((0 : Int64) + (1 : Int64))), (.long ((0 : Int64) + (1 : Int64)))])
              refine own_go (fun t k => XS.lcmp X48.here hx rfl (hb hby at_182) rfl k) ?_
              show own_WP _ _ _ _ T48 (mkF m 183 #[.val (.int zu), .val (.int zl), .val (.int zb), .val (.ref zo), .val (.long zo1), .second, .val (.long zg1), .second, .val (.long zf1), .second, .val (.long (0 : Int64)), .second, .val (.long (0 : Int64)), .second, .val (.long ((0 : Int64) + ((0 : Int32).toInt64))), .second] [(.int (lcmpW ((0 : Int64) + (1 : Int64)) ((0 : Int64) + (1 : Int64))))])
              have hc183 : ((0 : Int64) + (1 : Int64)) = ((0 : Int64) + (1 : Int64)) := rfl
              refine own_go (fun t k => XS.ifNo X48.here hx rfl (hb hby at_183) rfl ((if0 _ _).trans (teq ((lw_eq ((0 : Int64) + (1 : Int64)) ((0 : Int64) + (1 : Int64))).mpr hc183)).2) k) ?_
              show own_WP _ _ _ _ T48 (mkF m 186 #[.val (.int zu), .val (.int zl), .val (.int zb), .val (.ref zo), .val (.long zo1), .second, .val (.long zg1), .second, .val (.long zf1), .second, .val (.long (0 : Int64)), .second, .val (.long (0 : Int64)), .second, .val (.long ((0 : Int64) + ((0 : Int32).toInt64))), .second] [])
              refine own_go (fun t k => XS.aloadN X48.here hx rfl (hb hby at_186) rfl rfl  k) ?_
              show own_WP _ _ _ _ T48 (mkF m 187 #[.val (.int zu), .val (.int zl), .val (.int zb), .val (.ref zo), .val (.long zo1), .second, .val (.long zg1), .second, .val (.long zf1), .second, .val (.long (0 : Int64)), .second, .val (.long (0 : Int64)), .second, .val (.long ((0 : Int64) + ((0 : Int32).toInt64))), .second] [(.ref zo)])
              obtain ⟨cq49, kq49, q49a, q49b, q49c⟩ := isOf hZ eq48 f32
              obtain ⟨_, _, ⟨T49, L49, k49, n49⟩, -, X49, ⟨Lc49, hQ49, l49, y49, z49⟩, st49⟩ := X48.virtualBack hx (y := (⟨"com/example/soak/soak/sim/CallCounts", "serverRejected", "()J"⟩ : MethodName)) (z := (⟨"com/example/soak/soak/sim/CallCounts", "serverRejected", "()J"⟩ : MethodName)) hown (mvT hZ (hw _ (List.mem_of_getElem? (i := 44) rfl))) (mvT hZ (hw _ (List.mem_of_getElem? (i := 45) rfl))) (notFace_of_selects (args := #[]) (mvT hZ (hw _ (List.mem_of_getElem? (i := 47) rfl)))) (mvT hZ (hw _ (List.mem_of_getElem? (i := 47) rfl))) (mvT hZ (hw _ (List.mem_of_getElem? (i := 46) rfl))) (by decide) (backOf (W := 0) (rm8 l Z a0 hw [] zo (own_sr (0 : Int64) zb) T31.heap n0 (own_le Z0 K44) f37) hZ (hw _ (List.mem_of_getElem? (i := 48) rfl)) (hw _ (List.mem_of_getElem? (i := 2) rfl)) (by decide) (by decide)) q49a q49c (g := (mkF m 187 #[.val (.int zu), .val (.int zl), .val (.int zb), .val (.ref zo), .val (.long zo1), .second, .val (.long zg1), .second, .val (.long zf1), .second, .val (.long (0 : Int64)), .second, .val (.long (0 : Int64)), .second, .val (.long ((0 : Int64) + ((0 : Int32).toInt64))), .second] [(.ref zo)])) rfl (by rw [hml]; rfl) (Steps.refl _) (argsL := []) (rest := []) (lenOf own_pd91885 rfl) rfl (by show 2 * 0 + _ ≤ _; exact Nat.le_of_eq rfl) (hb hby at_187) (fun _ _ => ⟨rfl, eq48, (by decide : 1 + 0 ≤ _), (by decide : 5 + 0 ≤ _)⟩)
              dsimp only [Pt.U, Pt.locs, Pt.cells, Pt.slots] at X49 l49 y49 z49 st49 hQ49
              subst l49 y49 z49
              obtain ⟨rfl, N49q, eq49⟩ := hQ49
              have N49 := Fr.app N48 N49q
              refine own_tr st49 ?_
              show own_WP _ _ _ _ T49 (mkF m 190 #[.val (.int zu), .val (.int zl), .val (.int zb), .val (.ref zo), .val (.long zo1), .second, .val (.long zg1), .second, .val (.long zf1), .second, .val (.long (0 : Int64)), .second, .val (.long (0 : Int64)), .second, .val (.long ((0 : Int64) + ((0 : Int32).toInt64))), .second] [(.long (own_sr (0 : Int64) zb))])
              refine own_go (fun t k => XS.lload X49.here hx rfl (hb hby at_190) rfl  k) ?_
              show own_WP _ _ _ _ T49 (mkF m 192 #[.val (.int zu), .val (.int zl), .val (.int zb), .val (.ref zo), .val (.long zo1), .second, .val (.long zg1), .second, .val (.long zf1), .second, .val (.long (0 : Int64)), .second, .val (.long (0 : Int64)), .second, .val (.long ((0 : Int64) + ((0 : Int32).toInt64))), .second] [(.long ((0 : Int64) + ((0 : Int32).toInt64))), (.long (own_sr (0 : Int64) zb))])
              refine own_go (fun t k => XS.lcmp X49.here hx rfl (hb hby at_192) rfl k) ?_
              show own_WP _ _ _ _ T49 (mkF m 193 #[.val (.int zu), .val (.int zl), .val (.int zb), .val (.ref zo), .val (.long zo1), .second, .val (.long zg1), .second, .val (.long zf1), .second, .val (.long (0 : Int64)), .second, .val (.long (0 : Int64)), .second, .val (.long ((0 : Int64) + ((0 : Int32).toInt64))), .second] [(.int (lcmpW (own_sr (0 : Int64) zb) ((0 : Int64) + ((0 : Int32).toInt64))))])
              have hc193 : (own_sr (0 : Int64) zb) = ((0 : Int64) + ((0 : Int32).toInt64)) := by
                simp [own_sr, hc130]
              refine own_go (fun t k => XS.ifNo X49.here hx rfl (hb hby at_193) rfl ((if0 _ _).trans (teq ((lw_eq (own_sr (0 : Int64) zb) ((0 : Int64) + ((0 : Int32).toInt64))).mpr hc193)).2) k) ?_
              show own_WP _ _ _ _ T49 (mkF m 196 #[.val (.int zu), .val (.int zl), .val (.int zb), .val (.ref zo), .val (.long zo1), .second, .val (.long zg1), .second, .val (.long zf1), .second, .val (.long (0 : Int64)), .second, .val (.long (0 : Int64)), .second, .val (.long ((0 : Int64) + ((0 : Int32).toInt64))), .second] [])
              refine own_go (fun t k => XS.iconst X49.here hx rfl (hb hby at_196) k) ?_
              show own_WP _ _ _ _ T49 (mkF m 197 #[.val (.int zu), .val (.int zl), .val (.int zb), .val (.ref zo), .val (.long zo1), .second, .val (.long zg1), .second, .val (.long zf1), .second, .val (.long (0 : Int64)), .second, .val (.long (0 : Int64)), .second, .val (.long ((0 : Int64) + ((0 : Int32).toInt64))), .second] [(.int (1 : Int32))])
              refine own_go (fun t k => XS.goto X49.here hx rfl (pc0 := 197) (pc' := 201) rfl (hb hby at_197) (by decide) (by decide) k) ?_
              show own_WP _ _ _ _ T49 (mkF m 201 #[.val (.int zu), .val (.int zl), .val (.int zb), .val (.ref zo), .val (.long zo1), .second, .val (.long zg1), .second, .val (.long zf1), .second, .val (.long (0 : Int64)), .second, .val (.long (0 : Int64)), .second, .val (.long ((0 : Int64) + ((0 : Int32).toInt64))), .second] [(.int (1 : Int32))])
              refine own_retN X49 hx Bd.notSynchronized (t := .boolean) (by simp) Bd.returns (hb hby at_201) (by decide) (by decide) ?_
              rw [eq49]
              exact ⟨rfl, N49⟩
            · refine own_go (fun t k => XS.ifNo X31.here hx rfl (hb hby at_130) rfl ((if0 _ _).trans (feq hc130).1) k) ?_
              show own_WP _ _ _ _ T31 (mkF m 133 #[.val (.int zu), .val (.int zl), .val (.int zb), .val (.ref zo), .val (.long zo1), .second, .val (.long zg1), .second, .val (.long zf1), .second, .val (.long (0 : Int64)), .second, .val (.long (0 : Int64)), .second, .unset, .unset] [(.long (0 : Int64))])
              refine own_go (fun t k => XS.iconst X31.here hx rfl (hb hby at_133) k) ?_
              show own_WP _ _ _ _ T31 (mkF m 134 #[.val (.int zu), .val (.int zl), .val (.int zb), .val (.ref zo), .val (.long zo1), .second, .val (.long zg1), .second, .val (.long zf1), .second, .val (.long (0 : Int64)), .second, .val (.long (0 : Int64)), .second, .unset, .unset] [(.int (1 : Int32)), (.long (0 : Int64))])
              refine own_go (fun t k => XS.goto X31.here hx rfl (pc0 := 134) (pc' := 138) rfl (hb hby at_134) (by decide) (by decide) k) ?_
              show own_WP _ _ _ _ T31 (mkF m 138 #[.val (.int zu), .val (.int zl), .val (.int zb), .val (.ref zo), .val (.long zo1), .second, .val (.long zg1), .second, .val (.long zf1), .second, .val (.long (0 : Int64)), .second, .val (.long (0 : Int64)), .second, .unset, .unset] [(.int (1 : Int32)), (.long (0 : Int64))])
              refine own_go (fun t k => XS.i2l X31.here hx rfl (hb hby at_138) rfl k) ?_
              show own_WP _ _ _ _ T31 (mkF m 139 #[.val (.int zu), .val (.int zl), .val (.int zb), .val (.ref zo), .val (.long zo1), .second, .val (.long zg1), .second, .val (.long zf1), .second, .val (.long (0 : Int64)), .second, .val (.long (0 : Int64)), .second, .unset, .unset] [(.long ((1 : Int32).toInt64)), (.long (0 : Int64))])
              refine own_go (fun t k => XS.ladd X31.here hx rfl (hb hby at_139) rfl k) ?_
              show own_WP _ _ _ _ T31 (mkF m 140 #[.val (.int zu), .val (.int zl), .val (.int zb), .val (.ref zo), .val (.long zo1), .second, .val (.long zg1), .second, .val (.long zf1), .second, .val (.long (0 : Int64)), .second, .val (.long (0 : Int64)), .second, .unset, .unset] [(.long ((0 : Int64) + ((1 : Int32).toInt64)))])
              refine own_go (fun t k => XS.lstore X31.here hx rfl (hb hby at_140) rfl (l' := #[.val (.int zu), .val (.int zl), .val (.int zb), .val (.ref zo), .val (.long zo1), .second, .val (.long zg1), .second, .val (.long zf1), .second, .val (.long (0 : Int64)), .second, .val (.long (0 : Int64)), .second, .val (.long ((0 : Int64) + ((1 : Int32).toInt64))), .second]) rfl k) ?_
              show own_WP _ _ _ _ T31 (mkF m 142 #[.val (.int zu), .val (.int zl), .val (.int zb), .val (.ref zo), .val (.long zo1), .second, .val (.long zg1), .second, .val (.long zf1), .second, .val (.long (0 : Int64)), .second, .val (.long (0 : Int64)), .second, .val (.long ((0 : Int64) + ((1 : Int32).toInt64))), .second] [])
              refine own_go (fun t k => XS.aloadN X31.here hx rfl (hb hby at_142) rfl rfl  k) ?_
              show own_WP _ _ _ _ T31 (mkF m 143 #[.val (.int zu), .val (.int zl), .val (.int zb), .val (.ref zo), .val (.long zo1), .second, .val (.long zg1), .second, .val (.long zf1), .second, .val (.long (0 : Int64)), .second, .val (.long (0 : Int64)), .second, .val (.long ((0 : Int64) + ((1 : Int32).toInt64))), .second] [(.ref zo)])
              obtain ⟨cq50, kq50, q50a, q50b, q50c⟩ := isOf hZ rfl f32
              obtain ⟨_, _, ⟨T50, L50, k50, n50⟩, -, X50, ⟨Lc50, hQ50, l50, y50, z50⟩, st50⟩ := X31.virtualBack hx (y := (⟨"com/example/soak/soak/sim/CallCounts", "offered", "()J"⟩ : MethodName)) (z := (⟨"com/example/soak/soak/sim/CallCounts", "offered", "()J"⟩ : MethodName)) hown (mvT hZ (hw _ (List.mem_of_getElem? (i := 20) rfl))) (mvT hZ (hw _ (List.mem_of_getElem? (i := 21) rfl))) (notFace_of_selects (args := #[]) (mvT hZ (hw _ (List.mem_of_getElem? (i := 23) rfl)))) (mvT hZ (hw _ (List.mem_of_getElem? (i := 23) rfl))) (mvT hZ (hw _ (List.mem_of_getElem? (i := 22) rfl))) (by decide) (backOf (W := 0) (rm4 l Z a0 hw [] zo zo1 T31.heap n0 (own_le Z0 K44) f33) hZ (hw _ (List.mem_of_getElem? (i := 24) rfl)) (hw _ (List.mem_of_getElem? (i := 2) rfl)) (by decide) (by decide)) q50a q50c (g := (mkF m 143 #[.val (.int zu), .val (.int zl), .val (.int zb), .val (.ref zo), .val (.long zo1), .second, .val (.long zg1), .second, .val (.long zf1), .second, .val (.long (0 : Int64)), .second, .val (.long (0 : Int64)), .second, .val (.long ((0 : Int64) + ((1 : Int32).toInt64))), .second] [(.ref zo)])) rfl (by rw [hml]; rfl) (Steps.refl _) (argsL := []) (rest := []) (lenOf own_pd91885 rfl) rfl (by show 2 * 0 + _ ≤ _; exact Nat.le_of_eq rfl) (hb hby at_143) (fun _ _ => ⟨rfl, rfl, (by decide : 1 + 0 ≤ _), (by decide : 5 + 0 ≤ _)⟩)
              dsimp only [Pt.U, Pt.locs, Pt.cells, Pt.slots] at X50 l50 y50 z50 st50 hQ50
              subst l50 y50 z50
              obtain ⟨rfl, N50q, eq50⟩ := hQ50
              have N50 := Fr.app N31 N50q
              refine own_tr st50 ?_
              show own_WP _ _ _ _ T50 (mkF m 146 #[.val (.int zu), .val (.int zl), .val (.int zb), .val (.ref zo), .val (.long zo1), .second, .val (.long zg1), .second, .val (.long zf1), .second, .val (.long (0 : Int64)), .second, .val (.long (0 : Int64)), .second, .val (.long ((0 : Int64) + ((1 : Int32).toInt64))), .second] [(.long zo1)])
              refine own_go (fun t k => XS.lload X50.here hx rfl (hb hby at_146) rfl  k) ?_
              show own_WP _ _ _ _ T50 (mkF m 148 #[.val (.int zu), .val (.int zl), .val (.int zb), .val (.ref zo), .val (.long zo1), .second, .val (.long zg1), .second, .val (.long zf1), .second, .val (.long (0 : Int64)), .second, .val (.long (0 : Int64)), .second, .val (.long ((0 : Int64) + ((1 : Int32).toInt64))), .second] [(.long zo1), (.long zo1)])
              refine own_go (fun t k => XS.lcmp X50.here hx rfl (hb hby at_148) rfl k) ?_
              show own_WP _ _ _ _ T50 (mkF m 149 #[.val (.int zu), .val (.int zl), .val (.int zb), .val (.ref zo), .val (.long zo1), .second, .val (.long zg1), .second, .val (.long zf1), .second, .val (.long (0 : Int64)), .second, .val (.long (0 : Int64)), .second, .val (.long ((0 : Int64) + ((1 : Int32).toInt64))), .second] [(.int (lcmpW zo1 zo1))])
              have hc149 : zo1 = zo1 := rfl
              refine own_go (fun t k => XS.ifNo X50.here hx rfl (hb hby at_149) rfl ((if0 _ _).trans (teq ((lw_eq zo1 zo1).mpr hc149)).2) k) ?_
              show own_WP _ _ _ _ T50 (mkF m 152 #[.val (.int zu), .val (.int zl), .val (.int zb), .val (.ref zo), .val (.long zo1), .second, .val (.long zg1), .second, .val (.long zf1), .second, .val (.long (0 : Int64)), .second, .val (.long (0 : Int64)), .second, .val (.long ((0 : Int64) + ((1 : Int32).toInt64))), .second] [])
              refine own_go (fun t k => XS.aloadN X50.here hx rfl (hb hby at_152) rfl rfl  k) ?_
              show own_WP _ _ _ _ T50 (mkF m 153 #[.val (.int zu), .val (.int zl), .val (.int zb), .val (.ref zo), .val (.long zo1), .second, .val (.long zg1), .second, .val (.long zf1), .second, .val (.long (0 : Int64)), .second, .val (.long (0 : Int64)), .second, .val (.long ((0 : Int64) + ((1 : Int32).toInt64))), .second] [(.ref zo)])
              obtain ⟨cq51, kq51, q51a, q51b, q51c⟩ := isOf hZ eq50 f32
              obtain ⟨_, _, ⟨T51, L51, k51, n51⟩, -, X51, ⟨Lc51, hQ51, l51, y51, z51⟩, st51⟩ := X50.virtualBack hx (y := (⟨"com/example/soak/soak/sim/CallCounts", "good", "()J"⟩ : MethodName)) (z := (⟨"com/example/soak/soak/sim/CallCounts", "good", "()J"⟩ : MethodName)) hown (mvT hZ (hw _ (List.mem_of_getElem? (i := 27) rfl))) (mvT hZ (hw _ (List.mem_of_getElem? (i := 28) rfl))) (notFace_of_selects (args := #[]) (mvT hZ (hw _ (List.mem_of_getElem? (i := 30) rfl)))) (mvT hZ (hw _ (List.mem_of_getElem? (i := 30) rfl))) (mvT hZ (hw _ (List.mem_of_getElem? (i := 29) rfl))) (by decide) (backOf (W := 0) (rm5 l Z a0 hw [] zo zg1 T31.heap n0 (own_le Z0 K44) f34) hZ (hw _ (List.mem_of_getElem? (i := 31) rfl)) (hw _ (List.mem_of_getElem? (i := 2) rfl)) (by decide) (by decide)) q51a q51c (g := (mkF m 153 #[.val (.int zu), .val (.int zl), .val (.int zb), .val (.ref zo), .val (.long zo1), .second, .val (.long zg1), .second, .val (.long zf1), .second, .val (.long (0 : Int64)), .second, .val (.long (0 : Int64)), .second, .val (.long ((0 : Int64) + ((1 : Int32).toInt64))), .second] [(.ref zo)])) rfl (by rw [hml]; rfl) (Steps.refl _) (argsL := []) (rest := []) (lenOf own_pd91885 rfl) rfl (by show 2 * 0 + _ ≤ _; exact Nat.le_of_eq rfl) (hb hby at_153) (fun _ _ => ⟨rfl, eq50, (by decide : 1 + 0 ≤ _), (by decide : 5 + 0 ≤ _)⟩)
              dsimp only [Pt.U, Pt.locs, Pt.cells, Pt.slots] at X51 l51 y51 z51 st51 hQ51
              subst l51 y51 z51
              obtain ⟨rfl, N51q, eq51⟩ := hQ51
              have N51 := Fr.app N50 N51q
              refine own_tr st51 ?_
              show own_WP _ _ _ _ T51 (mkF m 156 #[.val (.int zu), .val (.int zl), .val (.int zb), .val (.ref zo), .val (.long zo1), .second, .val (.long zg1), .second, .val (.long zf1), .second, .val (.long (0 : Int64)), .second, .val (.long (0 : Int64)), .second, .val (.long ((0 : Int64) + ((1 : Int32).toInt64))), .second] [(.long zg1)])
              refine own_go (fun t k => XS.lload X51.here hx rfl (hb hby at_156) rfl  k) ?_
              show own_WP _ _ _ _ T51 (mkF m 158 #[.val (.int zu), .val (.int zl), .val (.int zb), .val (.ref zo), .val (.long zo1), .second, .val (.long zg1), .second, .val (.long zf1), .second, .val (.long (0 : Int64)), .second, .val (.long (0 : Int64)), .second, .val (.long ((0 : Int64) + ((1 : Int32).toInt64))), .second] [(.long zg1), (.long zg1)])
              refine own_go (fun t k => XS.lcmp X51.here hx rfl (hb hby at_158) rfl k) ?_
              show own_WP _ _ _ _ T51 (mkF m 159 #[.val (.int zu), .val (.int zl), .val (.int zb), .val (.ref zo), .val (.long zo1), .second, .val (.long zg1), .second, .val (.long zf1), .second, .val (.long (0 : Int64)), .second, .val (.long (0 : Int64)), .second, .val (.long ((0 : Int64) + ((1 : Int32).toInt64))), .second] [(.int (lcmpW zg1 zg1))])
              have hc159 : zg1 = zg1 := rfl
              refine own_go (fun t k => XS.ifNo X51.here hx rfl (hb hby at_159) rfl ((if0 _ _).trans (teq ((lw_eq zg1 zg1).mpr hc159)).2) k) ?_
              show own_WP _ _ _ _ T51 (mkF m 162 #[.val (.int zu), .val (.int zl), .val (.int zb), .val (.ref zo), .val (.long zo1), .second, .val (.long zg1), .second, .val (.long zf1), .second, .val (.long (0 : Int64)), .second, .val (.long (0 : Int64)), .second, .val (.long ((0 : Int64) + ((1 : Int32).toInt64))), .second] [])
              refine own_go (fun t k => XS.aloadN X51.here hx rfl (hb hby at_162) rfl rfl  k) ?_
              show own_WP _ _ _ _ T51 (mkF m 163 #[.val (.int zu), .val (.int zl), .val (.int zb), .val (.ref zo), .val (.long zo1), .second, .val (.long zg1), .second, .val (.long zf1), .second, .val (.long (0 : Int64)), .second, .val (.long (0 : Int64)), .second, .val (.long ((0 : Int64) + ((1 : Int32).toInt64))), .second] [(.ref zo)])
              obtain ⟨cq52, kq52, q52a, q52b, q52c⟩ := isOf hZ eq51 f32
              obtain ⟨_, _, ⟨T52, L52, k52, n52⟩, -, X52, ⟨Lc52, hQ52, l52, y52, z52⟩, st52⟩ := X51.virtualBack hx (y := (⟨"com/example/soak/soak/sim/CallCounts", "failed", "()J"⟩ : MethodName)) (z := (⟨"com/example/soak/soak/sim/CallCounts", "failed", "()J"⟩ : MethodName)) hown (mvT hZ (hw _ (List.mem_of_getElem? (i := 34) rfl))) (mvT hZ (hw _ (List.mem_of_getElem? (i := 35) rfl))) (notFace_of_selects (args := #[]) (mvT hZ (hw _ (List.mem_of_getElem? (i := 37) rfl)))) (mvT hZ (hw _ (List.mem_of_getElem? (i := 37) rfl))) (mvT hZ (hw _ (List.mem_of_getElem? (i := 36) rfl))) (by decide) (backOf (W := 0) (rm6 l Z a0 hw [] zo (zf1 + (1 : Int64)) T31.heap n0 (own_le Z0 K44) f35) hZ (hw _ (List.mem_of_getElem? (i := 38) rfl)) (hw _ (List.mem_of_getElem? (i := 2) rfl)) (by decide) (by decide)) q52a q52c (g := (mkF m 163 #[.val (.int zu), .val (.int zl), .val (.int zb), .val (.ref zo), .val (.long zo1), .second, .val (.long zg1), .second, .val (.long zf1), .second, .val (.long (0 : Int64)), .second, .val (.long (0 : Int64)), .second, .val (.long ((0 : Int64) + ((1 : Int32).toInt64))), .second] [(.ref zo)])) rfl (by rw [hml]; rfl) (Steps.refl _) (argsL := []) (rest := []) (lenOf own_pd91885 rfl) rfl (by show 2 * 0 + _ ≤ _; exact Nat.le_of_eq rfl) (hb hby at_163) (fun _ _ => ⟨rfl, eq51, (by decide : 1 + 0 ≤ _), (by decide : 5 + 0 ≤ _)⟩)
              dsimp only [Pt.U, Pt.locs, Pt.cells, Pt.slots] at X52 l52 y52 z52 st52 hQ52
              subst l52 y52 z52
              obtain ⟨rfl, N52q, eq52⟩ := hQ52
              have N52 := Fr.app N51 N52q
              refine own_tr st52 ?_
              show own_WP _ _ _ _ T52 (mkF m 166 #[.val (.int zu), .val (.int zl), .val (.int zb), .val (.ref zo), .val (.long zo1), .second, .val (.long zg1), .second, .val (.long zf1), .second, .val (.long (0 : Int64)), .second, .val (.long (0 : Int64)), .second, .val (.long ((0 : Int64) + ((1 : Int32).toInt64))), .second] [(.long (zf1 + (1 : Int64)))])
              refine own_go (fun t k => XS.lload X52.here hx rfl (hb hby at_166) rfl  k) ?_
              show own_WP _ _ _ _ T52 (mkF m 168 #[.val (.int zu), .val (.int zl), .val (.int zb), .val (.ref zo), .val (.long zo1), .second, .val (.long zg1), .second, .val (.long zf1), .second, .val (.long (0 : Int64)), .second, .val (.long (0 : Int64)), .second, .val (.long ((0 : Int64) + ((1 : Int32).toInt64))), .second] [(.long zf1), (.long (zf1 + (1 : Int64)))])
              refine own_go (fun t k => XS.lconst X52.here hx rfl (hb hby at_168) k) ?_
              show own_WP _ _ _ _ T52 (mkF m 169 #[.val (.int zu), .val (.int zl), .val (.int zb), .val (.ref zo), .val (.long zo1), .second, .val (.long zg1), .second, .val (.long zf1), .second, .val (.long (0 : Int64)), .second, .val (.long (0 : Int64)), .second, .val (.long ((0 : Int64) + ((1 : Int32).toInt64))), .second] [(.long (1 : Int64)), (.long zf1), (.long (zf1 + (1 : Int64)))])
              refine own_go (fun t k => XS.ladd X52.here hx rfl (hb hby at_169) rfl k) ?_
              show own_WP _ _ _ _ T52 (mkF m 170 #[.val (.int zu), .val (.int zl), .val (.int zb), .val (.ref zo), .val (.long zo1), .second, .val (.long zg1), .second, .val (.long zf1), .second, .val (.long (0 : Int64)), .second, .val (.long (0 : Int64)), .second, .val (.long ((0 : Int64) + ((1 : Int32).toInt64))), .second] [(.long (zf1 + (1 : Int64))), (.long (zf1 + (1 : Int64)))])
              refine own_go (fun t k => XS.lcmp X52.here hx rfl (hb hby at_170) rfl k) ?_
              show own_WP _ _ _ _ T52 (mkF m 171 #[.val (.int zu), .val (.int zl), .val (.int zb), .val (.ref zo), .val (.long zo1), .second, .val (.long zg1), .second, .val (.long zf1), .second, .val (.long (0 : Int64)), .second, .val (.long (0 : Int64)), .second, .val (.long ((0 : Int64) + ((1 : Int32).toInt64))), .second] [(.int (lcmpW (zf1 + (1 : Int64)) (zf1 + (1 : Int64))))])
              have hc171 : (zf1 + (1 : Int64)) = (zf1 + (1 : Int64)) := rfl
              refine own_go (fun t k => XS.ifNo X52.here hx rfl (hb hby at_171) rfl ((if0 _ _).trans (teq ((lw_eq (zf1 + (1 : Int64)) (zf1 + (1 : Int64))).mpr hc171)).2) k) ?_
              show own_WP _ _ _ _ T52 (mkF m 174 #[.val (.int zu), .val (.int zl), .val (.int zb), .val (.ref zo), .val (.long zo1), .second, .val (.long zg1), .second, .val (.long zf1), .second, .val (.long (0 : Int64)), .second, .val (.long (0 : Int64)), .second, .val (.long ((0 : Int64) + ((1 : Int32).toInt64))), .second] [])
              refine own_go (fun t k => XS.aloadN X52.here hx rfl (hb hby at_174) rfl rfl  k) ?_
              show own_WP _ _ _ _ T52 (mkF m 175 #[.val (.int zu), .val (.int zl), .val (.int zb), .val (.ref zo), .val (.long zo1), .second, .val (.long zg1), .second, .val (.long zf1), .second, .val (.long (0 : Int64)), .second, .val (.long (0 : Int64)), .second, .val (.long ((0 : Int64) + ((1 : Int32).toInt64))), .second] [(.ref zo)])
              obtain ⟨cq53, kq53, q53a, q53b, q53c⟩ := isOf hZ eq52 f32
              obtain ⟨_, _, ⟨T53, L53, k53, n53⟩, -, X53, ⟨Lc53, hQ53, l53, y53, z53⟩, st53⟩ := X52.virtualBack hx (y := (⟨"com/example/soak/soak/sim/CallCounts", "rejected", "()J"⟩ : MethodName)) (z := (⟨"com/example/soak/soak/sim/CallCounts", "rejected", "()J"⟩ : MethodName)) hown (mvT hZ (hw _ (List.mem_of_getElem? (i := 39) rfl))) (mvT hZ (hw _ (List.mem_of_getElem? (i := 40) rfl))) (notFace_of_selects (args := #[]) (mvT hZ (hw _ (List.mem_of_getElem? (i := 42) rfl)))) (mvT hZ (hw _ (List.mem_of_getElem? (i := 42) rfl))) (mvT hZ (hw _ (List.mem_of_getElem? (i := 41) rfl))) (by decide) (backOf (W := 0) (rm7 l Z a0 hw [] zo ((0 : Int64) + (1 : Int64)) T31.heap n0 (own_le Z0 K44) f36) hZ (hw _ (List.mem_of_getElem? (i := 43) rfl)) (hw _ (List.mem_of_getElem? (i := 2) rfl)) (by decide) (by decide)) q53a q53c (g := (mkF m 175 #[.val (.int zu), .val (.int zl), .val (.int zb), .val (.ref zo), .val (.long zo1), .second, .val (.long zg1), .second, .val (.long zf1), .second, .val (.long (0 : Int64)), .second, .val (.long (0 : Int64)), .second, .val (.long ((0 : Int64) + ((1 : Int32).toInt64))), .second] [(.ref zo)])) rfl (by rw [hml]; rfl) (Steps.refl _) (argsL := []) (rest := []) (lenOf own_pd91885 rfl) rfl (by show 2 * 0 + _ ≤ _; exact Nat.le_of_eq rfl) (hb hby at_175) (fun _ _ => ⟨rfl, eq52, (by decide : 1 + 0 ≤ _), (by decide : 5 + 0 ≤ _)⟩)
              dsimp only [Pt.U, Pt.locs, Pt.cells, Pt.slots] at X53 l53 y53 z53 st53 hQ53
              subst l53 y53 z53
              obtain ⟨rfl, N53q, eq53⟩ := hQ53
              have N53 := Fr.app N52 N53q
              refine own_tr st53 ?_
              show own_WP _ _ _ _ T53 (mkF m 178 #[.val (.int zu), .val (.int zl), .val (.int zb), .val (.ref zo), .val (.long zo1), .second, .val (.long zg1), .second, .val (.long zf1), .second, .val (.long (0 : Int64)), .second, .val (.long (0 : Int64)), .second, .val (.long ((0 : Int64) + ((1 : Int32).toInt64))), .second] [(.long ((0 : Int64) + (1 : Int64)))])
              refine own_go (fun t k => XS.lload X53.here hx rfl (hb hby at_178) rfl  k) ?_
              show own_WP _ _ _ _ T53 (mkF m 180 #[.val (.int zu), .val (.int zl), .val (.int zb), .val (.ref zo), .val (.long zo1), .second, .val (.long zg1), .second, .val (.long zf1), .second, .val (.long (0 : Int64)), .second, .val (.long (0 : Int64)), .second, .val (.long ((0 : Int64) + ((1 : Int32).toInt64))), .second] [(.long (0 : Int64)), (.long ((0 : Int64) + (1 : Int64)))])
              refine own_go (fun t k => XS.lconst X53.here hx rfl (hb hby at_180) k) ?_
              show own_WP _ _ _ _ T53 (mkF m 181 #[.val (.int zu), .val (.int zl), .val (.int zb), .val (.ref zo), .val (.long zo1), .second, .val (.long zg1), .second, .val (.long zf1), .second, .val (.long (0 : Int64)), .second, .val (.long (0 : Int64)), .second, .val (.long ((0 : Int64) + ((1 : Int32).toInt64))), .second] [(.long (1 : Int64)), (.long (0 : Int64)), (.long ((0 : Int64) + (1 : Int64)))])
              refine own_go (fun t k => XS.ladd X53.here hx rfl (hb hby at_181) rfl k) ?_
              show own_WP _ _ _ _ T53 (mkF m 182 #[.val (.int zu), .val (.int zl), .val (.int zb), .val (.ref zo), .val (.long zo1), .second, .val (.long zg1), .second, .val (.long zf1), .second, .val (.long (0 : Int64)), .second, .val (.long (0 : Int64)), .second, .val (.long ((0 : Int64) + ((1 : Int32).toInt64))), .second] [(.long ((0 : Int64) + (1 : Int64))), (.long ((0 : Int64) + (1 : Int64)))])
              refine own_go (fun t k => XS.lcmp X53.here hx rfl (hb hby at_182) rfl k) ?_
              show own_WP _ _ _ _ T53 (mkF m 183 #[.val (.int zu), .val (.int zl), .val (.int zb), .val (.ref zo), .val (.long zo1), .second, .val (.long zg1), .second, .val (.long zf1), .second, .val (.long (0 : Int64)), .second, .val (.long (0 : Int64)), .second, .val (.long ((0 : Int64) + ((1 : Int32).toInt64))), .second] [(.int (lcmpW ((0 : Int64) + (1 : Int64)) ((0 : Int64) + (1 : Int64))))])
              have hc183 : ((0 : Int64) + (1 : Int64)) = ((0 : Int64) + (1 : Int64)) := rfl
              refine own_go (fun t k => XS.ifNo X53.here hx rfl (hb hby at_183) rfl ((if0 _ _).trans (teq ((lw_eq ((0 : Int64) + (1 : Int64)) ((0 : Int64) + (1 : Int64))).mpr hc183)).2) k) ?_
              show own_WP _ _ _ _ T53 (mkF m 186 #[.val (.int zu), .val (.int zl), .val (.int zb), .val (.ref zo), .val (.long zo1), .second, .val (.long zg1), .second, .val (.long zf1), .second, .val (.long (0 : Int64)), .second, .val (.long (0 : Int64)), .second, .val (.long ((0 : Int64) + ((1 : Int32).toInt64))), .second] [])
              refine own_go (fun t k => XS.aloadN X53.here hx rfl (hb hby at_186) rfl rfl  k) ?_
              show own_WP _ _ _ _ T53 (mkF m 187 #[.val (.int zu), .val (.int zl), .val (.int zb), .val (.ref zo), .val (.long zo1), .second, .val (.long zg1), .second, .val (.long zf1), .second, .val (.long (0 : Int64)), .second, .val (.long (0 : Int64)), .second, .val (.long ((0 : Int64) + ((1 : Int32).toInt64))), .second] [(.ref zo)])
              obtain ⟨cq54, kq54, q54a, q54b, q54c⟩ := isOf hZ eq53 f32
              obtain ⟨_, _, ⟨T54, L54, k54, n54⟩, -, X54, ⟨Lc54, hQ54, l54, y54, z54⟩, st54⟩ := X53.virtualBack hx (y := (⟨"com/example/soak/soak/sim/CallCounts", "serverRejected", "()J"⟩ : MethodName)) (z := (⟨"com/example/soak/soak/sim/CallCounts", "serverRejected", "()J"⟩ : MethodName)) hown (mvT hZ (hw _ (List.mem_of_getElem? (i := 44) rfl))) (mvT hZ (hw _ (List.mem_of_getElem? (i := 45) rfl))) (notFace_of_selects (args := #[]) (mvT hZ (hw _ (List.mem_of_getElem? (i := 47) rfl)))) (mvT hZ (hw _ (List.mem_of_getElem? (i := 47) rfl))) (mvT hZ (hw _ (List.mem_of_getElem? (i := 46) rfl))) (by decide) (backOf (W := 0) (rm8 l Z a0 hw [] zo (own_sr (0 : Int64) zb) T31.heap n0 (own_le Z0 K44) f37) hZ (hw _ (List.mem_of_getElem? (i := 48) rfl)) (hw _ (List.mem_of_getElem? (i := 2) rfl)) (by decide) (by decide)) q54a q54c (g := (mkF m 187 #[.val (.int zu), .val (.int zl), .val (.int zb), .val (.ref zo), .val (.long zo1), .second, .val (.long zg1), .second, .val (.long zf1), .second, .val (.long (0 : Int64)), .second, .val (.long (0 : Int64)), .second, .val (.long ((0 : Int64) + ((1 : Int32).toInt64))), .second] [(.ref zo)])) rfl (by rw [hml]; rfl) (Steps.refl _) (argsL := []) (rest := []) (lenOf own_pd91885 rfl) rfl (by show 2 * 0 + _ ≤ _; exact Nat.le_of_eq rfl) (hb hby at_187) (fun _ _ => ⟨rfl, eq53, (by decide : 1 + 0 ≤ _), (by decide : 5 + 0 ≤ _)⟩)
              dsimp only [Pt.U, Pt.locs, Pt.cells, Pt.slots] at X54 l54 y54 z54 st54 hQ54
              subst l54 y54 z54
              obtain ⟨rfl, N54q, eq54⟩ := hQ54
              have N54 := Fr.app N53 N54q
              refine own_tr st54 ?_
              show own_WP _ _ _ _ T54 (mkF m 190 #[.val (.int zu), .val (.int zl), .val (.int zb), .val (.ref zo), .val (.long zo1), .second, .val (.long zg1), .second, .val (.long zf1), .second, .val (.long (0 : Int64)), .second, .val (.long (0 : Int64)), .second, .val (.long ((0 : Int64) + ((1 : Int32).toInt64))), .second] [(.long (own_sr (0 : Int64) zb))])
              refine own_go (fun t k => XS.lload X54.here hx rfl (hb hby at_190) rfl  k) ?_
              show own_WP _ _ _ _ T54 (mkF m 192 #[.val (.int zu), .val (.int zl), .val (.int zb), .val (.ref zo), .val (.long zo1), .second, .val (.long zg1), .second, .val (.long zf1), .second, .val (.long (0 : Int64)), .second, .val (.long (0 : Int64)), .second, .val (.long ((0 : Int64) + ((1 : Int32).toInt64))), .second] [(.long ((0 : Int64) + ((1 : Int32).toInt64))), (.long (own_sr (0 : Int64) zb))])
              refine own_go (fun t k => XS.lcmp X54.here hx rfl (hb hby at_192) rfl k) ?_
              show own_WP _ _ _ _ T54 (mkF m 193 #[.val (.int zu), .val (.int zl), .val (.int zb), .val (.ref zo), .val (.long zo1), .second, .val (.long zg1), .second, .val (.long zf1), .second, .val (.long (0 : Int64)), .second, .val (.long (0 : Int64)), .second, .val (.long ((0 : Int64) + ((1 : Int32).toInt64))), .second] [(.int (lcmpW (own_sr (0 : Int64) zb) ((0 : Int64) + ((1 : Int32).toInt64))))])
              have hc193 : (own_sr (0 : Int64) zb) = ((0 : Int64) + ((1 : Int32).toInt64)) := by
                simp [own_sr, hc130]
              refine own_go (fun t k => XS.ifNo X54.here hx rfl (hb hby at_193) rfl ((if0 _ _).trans (teq ((lw_eq (own_sr (0 : Int64) zb) ((0 : Int64) + ((1 : Int32).toInt64))).mpr hc193)).2) k) ?_
              show own_WP _ _ _ _ T54 (mkF m 196 #[.val (.int zu), .val (.int zl), .val (.int zb), .val (.ref zo), .val (.long zo1), .second, .val (.long zg1), .second, .val (.long zf1), .second, .val (.long (0 : Int64)), .second, .val (.long (0 : Int64)), .second, .val (.long ((0 : Int64) + ((1 : Int32).toInt64))), .second] [])
              refine own_go (fun t k => XS.iconst X54.here hx rfl (hb hby at_196) k) ?_
              show own_WP _ _ _ _ T54 (mkF m 197 #[.val (.int zu), .val (.int zl), .val (.int zb), .val (.ref zo), .val (.long zo1), .second, .val (.long zg1), .second, .val (.long zf1), .second, .val (.long (0 : Int64)), .second, .val (.long (0 : Int64)), .second, .val (.long ((0 : Int64) + ((1 : Int32).toInt64))), .second] [(.int (1 : Int32))])
              refine own_go (fun t k => XS.goto X54.here hx rfl (pc0 := 197) (pc' := 201) rfl (hb hby at_197) (by decide) (by decide) k) ?_
              show own_WP _ _ _ _ T54 (mkF m 201 #[.val (.int zu), .val (.int zl), .val (.int zb), .val (.ref zo), .val (.long zo1), .second, .val (.long zg1), .second, .val (.long zf1), .second, .val (.long (0 : Int64)), .second, .val (.long (0 : Int64)), .second, .val (.long ((0 : Int64) + ((1 : Int32).toInt64))), .second] [(.int (1 : Int32))])
              refine own_retN X54 hx Bd.notSynchronized (t := .boolean) (by simp) Bd.returns (hb hby at_201) (by decide) (by decide) ?_
              rw [eq54]
              exact ⟨rfl, N54⟩
          · refine own_go (fun t k => XS.ifNo X24.here hx rfl (hb hby at_78) rfl ((if0 _ _).trans (feq hc78).1) k) ?_
            show own_WP _ _ _ _ T24 (mkF m 81 #[.val (.int zu), .val (.int zl), .val (.int zb), .val (.ref zo), .val (.long zo1), .second, .val (.long zg1), .second, .val (.long zf1), .second, .val (.long (0 : Int64)), .second, .val (.long (0 : Int64)), .second, .unset, .unset] [])
            refine own_go (fun t k => XS.iloadN X24.here hx rfl (hb hby at_81) rfl  k) ?_
            show own_WP _ _ _ _ T24 (mkF m 82 #[.val (.int zu), .val (.int zl), .val (.int zb), .val (.ref zo), .val (.long zo1), .second, .val (.long zg1), .second, .val (.long zf1), .second, .val (.long (0 : Int64)), .second, .val (.long (0 : Int64)), .second, .unset, .unset] [(.int zu)])
            refine own_go (fun t k => XS.bipush X24.here hx rfl (hb hby at_82) k) ?_
            show own_WP _ _ _ _ T24 (mkF m 84 #[.val (.int zu), .val (.int zl), .val (.int zb), .val (.ref zo), .val (.long zo1), .second, .val (.long zg1), .second, .val (.long zf1), .second, .val (.long (0 : Int64)), .second, .val (.long (0 : Int64)), .second, .unset, .unset] [(.int (16 : Int32)), (.int zu)])
            refine own_go (fun t k => XS.iand X24.here hx rfl (hb hby at_84) rfl k) ?_
            show own_WP _ _ _ _ T24 (mkF m 85 #[.val (.int zu), .val (.int zl), .val (.int zb), .val (.ref zo), .val (.long zo1), .second, .val (.long zg1), .second, .val (.long zf1), .second, .val (.long (0 : Int64)), .second, .val (.long (0 : Int64)), .second, .unset, .unset] [(.int (zu &&& (16 : Int32)))])
            by_cases hc85 : (zu &&& (16 : Int32)) = (0 : Int32)
            · refine own_go (fun t k => XS.ifYes X24.here hx rfl (pc0 := 85) (pc' := 92) rfl (hb hby at_85) rfl ((if0 _ _).trans (teq hc85).1) (by decide) (by decide) k) ?_
              show own_WP _ _ _ _ T24 (mkF m 92 #[.val (.int zu), .val (.int zl), .val (.int zb), .val (.ref zo), .val (.long zo1), .second, .val (.long zg1), .second, .val (.long zf1), .second, .val (.long (0 : Int64)), .second, .val (.long (0 : Int64)), .second, .unset, .unset] [])
              refine own_go (fun t k => XS.iconst X24.here hx rfl (hb hby at_92) k) ?_
              show own_WP _ _ _ _ T24 (mkF m 93 #[.val (.int zu), .val (.int zl), .val (.int zb), .val (.ref zo), .val (.long zo1), .second, .val (.long zg1), .second, .val (.long zf1), .second, .val (.long (0 : Int64)), .second, .val (.long (0 : Int64)), .second, .unset, .unset] [(.int (0 : Int32))])
              refine own_go (fun t k => XS.istore X24.here hx rfl (hb hby at_93) rfl (l' := #[.val (.int zu), .val (.int zl), .val (.int zb), .val (.ref zo), .val (.long zo1), .second, .val (.long zg1), .second, .val (.long zf1), .second, .val (.long (0 : Int64)), .second, .val (.long (0 : Int64)), .second, .val (.int (0 : Int32)), .unset]) rfl k) ?_
              show own_WP _ _ _ _ T24 (mkF m 95 #[.val (.int zu), .val (.int zl), .val (.int zb), .val (.ref zo), .val (.long zo1), .second, .val (.long zg1), .second, .val (.long zf1), .second, .val (.long (0 : Int64)), .second, .val (.long (0 : Int64)), .second, .val (.int (0 : Int32)), .unset] [])
              refine own_go (fun t k => XS.aloadN X24.here hx rfl (hb hby at_95) rfl rfl  k) ?_
              show own_WP _ _ _ _ T24 (mkF m 96 #[.val (.int zu), .val (.int zl), .val (.int zb), .val (.ref zo), .val (.long zo1), .second, .val (.long zg1), .second, .val (.long zf1), .second, .val (.long (0 : Int64)), .second, .val (.long (0 : Int64)), .second, .val (.int (0 : Int32)), .unset] [(.ref zo)])
              refine own_go (fun t k => XS.iload X24.here hx rfl (hb hby at_96) rfl  k) ?_
              show own_WP _ _ _ _ T24 (mkF m 98 #[.val (.int zu), .val (.int zl), .val (.int zb), .val (.ref zo), .val (.long zo1), .second, .val (.long zg1), .second, .val (.long zf1), .second, .val (.long (0 : Int64)), .second, .val (.long (0 : Int64)), .second, .val (.int (0 : Int32)), .unset] [(.int (0 : Int32)), (.ref zo)])
              obtain ⟨cq55, kq55, q55a, q55b, q55c⟩ := isOf hZ e24 f25
              obtain ⟨_, _, ⟨T55, L55, k55, n55⟩, -, X55, ⟨Lc55, hQ55, l55, y55, z55⟩, st55⟩ := X24.virtualBack hx (y := (⟨"com/example/soak/soak/sim/CallCounts", "countRejected", "(Z)V"⟩ : MethodName)) (z := (⟨"com/example/soak/soak/sim/CallCounts", "countRejected", "(Z)V"⟩ : MethodName)) hown (mvT hZ (hw _ (List.mem_of_getElem? (i := 9) rfl))) (mvT hZ (hw _ (List.mem_of_getElem? (i := 10) rfl))) (notFace_of_selects (args := #[]) (mvT hZ (hw _ (List.mem_of_getElem? (i := 12) rfl)))) (mvT hZ (hw _ (List.mem_of_getElem? (i := 12) rfl))) (mvT hZ (hw _ (List.mem_of_getElem? (i := 11) rfl))) (by decide) (backOf (W := 0) (rm3 l Z a0 hw [] zo (0 : Int32) zo1 zg1 zf1 (0 : Int64) (0 : Int64) h24 n0 (own_le Z0 K24j) f25 f29 f30 f26 f27 f28 g_zo) hZ (hw _ (List.mem_of_getElem? (i := 13) rfl)) (hw _ (List.mem_of_getElem? (i := 2) rfl)) (by decide) (by decide)) q55a q55c (g := (mkF m 98 #[.val (.int zu), .val (.int zl), .val (.int zb), .val (.ref zo), .val (.long zo1), .second, .val (.long zg1), .second, .val (.long zf1), .second, .val (.long (0 : Int64)), .second, .val (.long (0 : Int64)), .second, .val (.int (0 : Int32)), .unset] [(.int (0 : Int32)), (.ref zo)])) rfl (by rw [hml]; rfl) (Steps.refl _) (argsL := [(.int (0 : Int32))]) (rest := []) (lenOf own_pd73587 rfl) rfl (by show 2 * 0 + _ ≤ _; exact Nat.le_of_eq rfl) (hb hby at_98) (fun _ _ => ⟨rfl, e24, (by decide : 1 + 0 ≤ _), (by decide : 5 + 0 ≤ _)⟩)
              dsimp only [Pt.U, Pt.locs, Pt.cells, Pt.slots] at X55 l55 y55 z55 st55 hQ55
              subst l55 y55 z55
              obtain ⟨rfl, N55q, Kc55, f56, f57, f58, f59, f60, f61⟩ := hQ55
              have N55 := Fr.app N24 N55q
              refine own_tr st55 ?_
              have f62 : Exa Z T55.heap zo "com/example/soak/soak/sim/CallCounts" := f25.keep Kc55
              have K68 : Keep h0 T55.heap [] := K24j.trans Kc55 (fun x hx => by cases List.mem_singleton.mp hx; exact Or.inr sz_zo)
              show own_WP _ _ _ _ T55 (mkF m 101 #[.val (.int zu), .val (.int zl), .val (.int zb), .val (.ref zo), .val (.long zo1), .second, .val (.long zg1), .second, .val (.long zf1), .second, .val (.long (0 : Int64)), .second, .val (.long (0 : Int64)), .second, .val (.int (0 : Int32)), .unset] [])
              refine own_go (fun t k => XS.lload X55.here hx rfl (hb hby at_101) rfl  k) ?_
              show own_WP _ _ _ _ T55 (mkF m 103 #[.val (.int zu), .val (.int zl), .val (.int zb), .val (.ref zo), .val (.long zo1), .second, .val (.long zg1), .second, .val (.long zf1), .second, .val (.long (0 : Int64)), .second, .val (.long (0 : Int64)), .second, .val (.int (0 : Int32)), .unset] [(.long zf1)])
              refine own_go (fun t k => XS.lconst X55.here hx rfl (hb hby at_103) k) ?_
              show own_WP _ _ _ _ T55 (mkF m 104 #[.val (.int zu), .val (.int zl), .val (.int zb), .val (.ref zo), .val (.long zo1), .second, .val (.long zg1), .second, .val (.long zf1), .second, .val (.long (0 : Int64)), .second, .val (.long (0 : Int64)), .second, .val (.int (0 : Int32)), .unset] [(.long (1 : Int64)), (.long zf1)])
              refine own_go (fun t k => XS.ladd X55.here hx rfl (hb hby at_104) rfl k) ?_
              show own_WP _ _ _ _ T55 (mkF m 105 #[.val (.int zu), .val (.int zl), .val (.int zb), .val (.ref zo), .val (.long zo1), .second, .val (.long zg1), .second, .val (.long zf1), .second, .val (.long (0 : Int64)), .second, .val (.long (0 : Int64)), .second, .val (.int (0 : Int32)), .unset] [(.long (zf1 + (1 : Int64)))])
              refine own_go (fun t k => XS.lstore X55.here hx rfl (hb hby at_105) rfl (l' := #[.val (.int zu), .val (.int zl), .val (.int zb), .val (.ref zo), .val (.long zo1), .second, .val (.long zg1), .second, .val (.long (zf1 + (1 : Int64))), .second, .val (.long (0 : Int64)), .second, .val (.long (0 : Int64)), .second, .val (.int (0 : Int32)), .unset]) rfl k) ?_
              show own_WP _ _ _ _ T55 (mkF m 107 #[.val (.int zu), .val (.int zl), .val (.int zb), .val (.ref zo), .val (.long zo1), .second, .val (.long zg1), .second, .val (.long (zf1 + (1 : Int64))), .second, .val (.long (0 : Int64)), .second, .val (.long (0 : Int64)), .second, .val (.int (0 : Int32)), .unset] [])
              refine own_go (fun t k => XS.lconst X55.here hx rfl (hb hby at_107) k) ?_
              show own_WP _ _ _ _ T55 (mkF m 108 #[.val (.int zu), .val (.int zl), .val (.int zb), .val (.ref zo), .val (.long zo1), .second, .val (.long zg1), .second, .val (.long (zf1 + (1 : Int64))), .second, .val (.long (0 : Int64)), .second, .val (.long (0 : Int64)), .second, .val (.int (0 : Int32)), .unset] [(.long (1 : Int64))])
              refine own_go (fun t k => XS.lstore X55.here hx rfl (hb hby at_108) rfl (l' := #[.val (.int zu), .val (.int zl), .val (.int zb), .val (.ref zo), .val (.long zo1), .second, .val (.long zg1), .second, .val (.long (zf1 + (1 : Int64))), .second, .val (.long (1 : Int64)), .second, .val (.long (0 : Int64)), .second, .val (.int (0 : Int32)), .unset]) rfl k) ?_
              show own_WP _ _ _ _ T55 (mkF m 110 #[.val (.int zu), .val (.int zl), .val (.int zb), .val (.ref zo), .val (.long zo1), .second, .val (.long zg1), .second, .val (.long (zf1 + (1 : Int64))), .second, .val (.long (1 : Int64)), .second, .val (.long (0 : Int64)), .second, .val (.int (0 : Int32)), .unset] [])
              refine own_go (fun t k => XS.iload X55.here hx rfl (hb hby at_110) rfl  k) ?_
              show own_WP _ _ _ _ T55 (mkF m 112 #[.val (.int zu), .val (.int zl), .val (.int zb), .val (.ref zo), .val (.long zo1), .second, .val (.long zg1), .second, .val (.long (zf1 + (1 : Int64))), .second, .val (.long (1 : Int64)), .second, .val (.long (0 : Int64)), .second, .val (.int (0 : Int32)), .unset] [(.int (0 : Int32))])
              have hc112 : (0 : Int32) = (0 : Int32) := rfl
              refine own_go (fun t k => XS.ifYes X55.here hx rfl (pc0 := 112) (pc' := 119) rfl (hb hby at_112) rfl ((if0 _ _).trans (teq hc112).1) (by decide) (by decide) k) ?_
              show own_WP _ _ _ _ T55 (mkF m 119 #[.val (.int zu), .val (.int zl), .val (.int zb), .val (.ref zo), .val (.long zo1), .second, .val (.long zg1), .second, .val (.long (zf1 + (1 : Int64))), .second, .val (.long (1 : Int64)), .second, .val (.long (0 : Int64)), .second, .val (.int (0 : Int32)), .unset] [])
              refine own_go (fun t k => XS.lconst X55.here hx rfl (hb hby at_119) k) ?_
              show own_WP _ _ _ _ T55 (mkF m 120 #[.val (.int zu), .val (.int zl), .val (.int zb), .val (.ref zo), .val (.long zo1), .second, .val (.long zg1), .second, .val (.long (zf1 + (1 : Int64))), .second, .val (.long (1 : Int64)), .second, .val (.long (0 : Int64)), .second, .val (.int (0 : Int32)), .unset] [(.long (0 : Int64))])
              refine own_go (fun t k => XS.lstore X55.here hx rfl (hb hby at_120) rfl (l' := #[.val (.int zu), .val (.int zl), .val (.int zb), .val (.ref zo), .val (.long zo1), .second, .val (.long zg1), .second, .val (.long (zf1 + (1 : Int64))), .second, .val (.long (1 : Int64)), .second, .val (.long (0 : Int64)), .second, .val (.int (0 : Int32)), .unset]) rfl k) ?_
              show own_WP _ _ _ _ T55 (mkF m 122 #[.val (.int zu), .val (.int zl), .val (.int zb), .val (.ref zo), .val (.long zo1), .second, .val (.long zg1), .second, .val (.long (zf1 + (1 : Int64))), .second, .val (.long (1 : Int64)), .second, .val (.long (0 : Int64)), .second, .val (.int (0 : Int32)), .unset] [])
              refine own_go (fun t k => XS.aloadN X55.here hx rfl (hb hby at_122) rfl rfl  k) ?_
              show own_WP _ _ _ _ T55 (mkF m 123 #[.val (.int zu), .val (.int zl), .val (.int zb), .val (.ref zo), .val (.long zo1), .second, .val (.long zg1), .second, .val (.long (zf1 + (1 : Int64))), .second, .val (.long (1 : Int64)), .second, .val (.long (0 : Int64)), .second, .val (.int (0 : Int32)), .unset] [(.ref zo)])
              refine own_go (fun t k => XS.iloadN X55.here hx rfl (hb hby at_123) rfl  k) ?_
              show own_WP _ _ _ _ T55 (mkF m 124 #[.val (.int zu), .val (.int zl), .val (.int zb), .val (.ref zo), .val (.long zo1), .second, .val (.long zg1), .second, .val (.long (zf1 + (1 : Int64))), .second, .val (.long (1 : Int64)), .second, .val (.long (0 : Int64)), .second, .val (.int (0 : Int32)), .unset] [(.int zb), (.ref zo)])
              obtain ⟨cq69, kq69, q69a, q69b, q69c⟩ := isOf hZ rfl f56
              obtain ⟨_, _, ⟨T69, L69, k69, n69⟩, -, X69, ⟨Lc69, hQ69, l69, y69, z69⟩, st69⟩ := X55.virtualBack hx (y := (⟨"com/example/soak/soak/sim/CallCounts", "countRejected", "(Z)V"⟩ : MethodName)) (z := (⟨"com/example/soak/soak/sim/CallCounts", "countRejected", "(Z)V"⟩ : MethodName)) hown (mvT hZ (hw _ (List.mem_of_getElem? (i := 9) rfl))) (mvT hZ (hw _ (List.mem_of_getElem? (i := 10) rfl))) (notFace_of_selects (args := #[]) (mvT hZ (hw _ (List.mem_of_getElem? (i := 12) rfl)))) (mvT hZ (hw _ (List.mem_of_getElem? (i := 12) rfl))) (mvT hZ (hw _ (List.mem_of_getElem? (i := 11) rfl))) (by decide) (backOf (W := 0) (rm3 l Z a0 hw [] zo zb zo1 zg1 (zf1 + (1 : Int64)) ((0 : Int64) + (1 : Int64)) (own_sr (0 : Int64) (0 : Int32)) T55.heap n0 (own_le Z0 K68) f56 f57 f58 f59 f60 f61 g_zo) hZ (hw _ (List.mem_of_getElem? (i := 13) rfl)) (hw _ (List.mem_of_getElem? (i := 2) rfl)) (by decide) (by decide)) q69a q69c (g := (mkF m 124 #[.val (.int zu), .val (.int zl), .val (.int zb), .val (.ref zo), .val (.long zo1), .second, .val (.long zg1), .second, .val (.long (zf1 + (1 : Int64))), .second, .val (.long (1 : Int64)), .second, .val (.long (0 : Int64)), .second, .val (.int (0 : Int32)), .unset] [(.int zb), (.ref zo)])) rfl (by rw [hml]; rfl) (Steps.refl _) (argsL := [(.int zb)]) (rest := []) (lenOf own_pd73587 rfl) rfl (by show 2 * 0 + _ ≤ _; exact Nat.le_of_eq rfl) (hb hby at_124) (fun _ _ => ⟨rfl, rfl, (by decide : 1 + 0 ≤ _), (by decide : 5 + 0 ≤ _)⟩)
              dsimp only [Pt.U, Pt.locs, Pt.cells, Pt.slots] at X69 l69 y69 z69 st69 hQ69
              subst l69 y69 z69
              obtain ⟨rfl, N69q, Kc69, f70, f71, f72, f73, f74, f75⟩ := hQ69
              have N69 := Fr.app N55 N69q
              refine own_tr st69 ?_
              have f76 : Exa Z T69.heap zo "com/example/soak/soak/sim/CallCounts" := f56.keep Kc69
              have K82 : Keep h0 T69.heap [] := K68.trans Kc69 (fun x hx => by cases List.mem_singleton.mp hx; exact Or.inr sz_zo)
              show own_WP _ _ _ _ T69 (mkF m 127 #[.val (.int zu), .val (.int zl), .val (.int zb), .val (.ref zo), .val (.long zo1), .second, .val (.long zg1), .second, .val (.long (zf1 + (1 : Int64))), .second, .val (.long (1 : Int64)), .second, .val (.long (0 : Int64)), .second, .val (.int (0 : Int32)), .unset] [])
              refine own_go (fun t k => XS.lload X69.here hx rfl (hb hby at_127) rfl  k) ?_
              show own_WP _ _ _ _ T69 (mkF m 129 #[.val (.int zu), .val (.int zl), .val (.int zb), .val (.ref zo), .val (.long zo1), .second, .val (.long zg1), .second, .val (.long (zf1 + (1 : Int64))), .second, .val (.long (1 : Int64)), .second, .val (.long (0 : Int64)), .second, .val (.int (0 : Int32)), .unset] [(.long (0 : Int64))])
              refine own_go (fun t k => XS.iloadN X69.here hx rfl (hb hby at_129) rfl  k) ?_
              show own_WP _ _ _ _ T69 (mkF m 130 #[.val (.int zu), .val (.int zl), .val (.int zb), .val (.ref zo), .val (.long zo1), .second, .val (.long zg1), .second, .val (.long (zf1 + (1 : Int64))), .second, .val (.long (1 : Int64)), .second, .val (.long (0 : Int64)), .second, .val (.int (0 : Int32)), .unset] [(.int zb), (.long (0 : Int64))])
              by_cases hc130 : zb = (0 : Int32)
              · refine own_go (fun t k => XS.ifYes X69.here hx rfl (pc0 := 130) (pc' := 137) rfl (hb hby at_130) rfl ((if0 _ _).trans (teq hc130).1) (by decide) (by decide) k) ?_
                show own_WP _ _ _ _ T69 (mkF m 137 #[.val (.int zu), .val (.int zl), .val (.int zb), .val (.ref zo), .val (.long zo1), .second, .val (.long zg1), .second, .val (.long (zf1 + (1 : Int64))), .second, .val (.long (1 : Int64)), .second, .val (.long (0 : Int64)), .second, .val (.int (0 : Int32)), .unset] [(.long (0 : Int64))])
                refine own_go (fun t k => XS.iconst X69.here hx rfl (hb hby at_137) k) ?_
                show own_WP _ _ _ _ T69 (mkF m 138 #[.val (.int zu), .val (.int zl), .val (.int zb), .val (.ref zo), .val (.long zo1), .second, .val (.long zg1), .second, .val (.long (zf1 + (1 : Int64))), .second, .val (.long (1 : Int64)), .second, .val (.long (0 : Int64)), .second, .val (.int (0 : Int32)), .unset] [(.int (0 : Int32)), (.long (0 : Int64))])
                refine own_go (fun t k => XS.i2l X69.here hx rfl (hb hby at_138) rfl k) ?_
                show own_WP _ _ _ _ T69 (mkF m 139 #[.val (.int zu), .val (.int zl), .val (.int zb), .val (.ref zo), .val (.long zo1), .second, .val (.long zg1), .second, .val (.long (zf1 + (1 : Int64))), .second, .val (.long (1 : Int64)), .second, .val (.long (0 : Int64)), .second, .val (.int (0 : Int32)), .unset] [(.long ((0 : Int32).toInt64)), (.long (0 : Int64))])
                refine own_go (fun t k => XS.ladd X69.here hx rfl (hb hby at_139) rfl k) ?_
                show own_WP _ _ _ _ T69 (mkF m 140 #[.val (.int zu), .val (.int zl), .val (.int zb), .val (.ref zo), .val (.long zo1), .second, .val (.long zg1), .second, .val (.long (zf1 + (1 : Int64))), .second, .val (.long (1 : Int64)), .second, .val (.long (0 : Int64)), .second, .val (.int (0 : Int32)), .unset] [(.long ((0 : Int64) + ((0 : Int32).toInt64)))])
                refine own_go (fun t k => XS.lstore X69.here hx rfl (hb hby at_140) rfl (l' := #[.val (.int zu), .val (.int zl), .val (.int zb), .val (.ref zo), .val (.long zo1), .second, .val (.long zg1), .second, .val (.long (zf1 + (1 : Int64))), .second, .val (.long (1 : Int64)), .second, .val (.long (0 : Int64)), .second, .val (.long ((0 : Int64) + ((0 : Int32).toInt64))), .second]) rfl k) ?_
                show own_WP _ _ _ _ T69 (mkF m 142 #[.val (.int zu), .val (.int zl), .val (.int zb), .val (.ref zo), .val (.long zo1), .second, .val (.long zg1), .second, .val (.long (zf1 + (1 : Int64))), .second, .val (.long (1 : Int64)), .second, .val (.long (0 : Int64)), .second, .val (.long ((0 : Int64) + ((0 : Int32).toInt64))), .second] [])
                refine own_go (fun t k => XS.aloadN X69.here hx rfl (hb hby at_142) rfl rfl  k) ?_
                show own_WP _ _ _ _ T69 (mkF m 143 #[.val (.int zu), .val (.int zl), .val (.int zb), .val (.ref zo), .val (.long zo1), .second, .val (.long zg1), .second, .val (.long (zf1 + (1 : Int64))), .second, .val (.long (1 : Int64)), .second, .val (.long (0 : Int64)), .second, .val (.long ((0 : Int64) + ((0 : Int32).toInt64))), .second] [(.ref zo)])
                obtain ⟨cq83, kq83, q83a, q83b, q83c⟩ := isOf hZ rfl f70
                obtain ⟨_, _, ⟨T83, L83, k83, n83⟩, -, X83, ⟨Lc83, hQ83, l83, y83, z83⟩, st83⟩ := X69.virtualBack hx (y := (⟨"com/example/soak/soak/sim/CallCounts", "offered", "()J"⟩ : MethodName)) (z := (⟨"com/example/soak/soak/sim/CallCounts", "offered", "()J"⟩ : MethodName)) hown (mvT hZ (hw _ (List.mem_of_getElem? (i := 20) rfl))) (mvT hZ (hw _ (List.mem_of_getElem? (i := 21) rfl))) (notFace_of_selects (args := #[]) (mvT hZ (hw _ (List.mem_of_getElem? (i := 23) rfl)))) (mvT hZ (hw _ (List.mem_of_getElem? (i := 23) rfl))) (mvT hZ (hw _ (List.mem_of_getElem? (i := 22) rfl))) (by decide) (backOf (W := 0) (rm4 l Z a0 hw [] zo zo1 T69.heap n0 (own_le Z0 K82) f71) hZ (hw _ (List.mem_of_getElem? (i := 24) rfl)) (hw _ (List.mem_of_getElem? (i := 2) rfl)) (by decide) (by decide)) q83a q83c (g := (mkF m 143 #[.val (.int zu), .val (.int zl), .val (.int zb), .val (.ref zo), .val (.long zo1), .second, .val (.long zg1), .second, .val (.long (zf1 + (1 : Int64))), .second, .val (.long (1 : Int64)), .second, .val (.long (0 : Int64)), .second, .val (.long ((0 : Int64) + ((0 : Int32).toInt64))), .second] [(.ref zo)])) rfl (by rw [hml]; rfl) (Steps.refl _) (argsL := []) (rest := []) (lenOf own_pd91885 rfl) rfl (by show 2 * 0 + _ ≤ _; exact Nat.le_of_eq rfl) (hb hby at_143) (fun _ _ => ⟨rfl, rfl, (by decide : 1 + 0 ≤ _), (by decide : 5 + 0 ≤ _)⟩)
                dsimp only [Pt.U, Pt.locs, Pt.cells, Pt.slots] at X83 l83 y83 z83 st83 hQ83
                subst l83 y83 z83
                obtain ⟨rfl, N83q, eq83⟩ := hQ83
                have N83 := Fr.app N69 N83q
                refine own_tr st83 ?_
                show own_WP _ _ _ _ T83 (mkF m 146 #[.val (.int zu), .val (.int zl), .val (.int zb), .val (.ref zo), .val (.long zo1), .second, .val (.long zg1), .second, .val (.long (zf1 + (1 : Int64))), .second, .val (.long (1 : Int64)), .second, .val (.long (0 : Int64)), .second, .val (.long ((0 : Int64) + ((0 : Int32).toInt64))), .second] [(.long zo1)])
                refine own_go (fun t k => XS.lload X83.here hx rfl (hb hby at_146) rfl  k) ?_
                show own_WP _ _ _ _ T83 (mkF m 148 #[.val (.int zu), .val (.int zl), .val (.int zb), .val (.ref zo), .val (.long zo1), .second, .val (.long zg1), .second, .val (.long (zf1 + (1 : Int64))), .second, .val (.long (1 : Int64)), .second, .val (.long (0 : Int64)), .second, .val (.long ((0 : Int64) + ((0 : Int32).toInt64))), .second] [(.long zo1), (.long zo1)])
                refine own_go (fun t k => XS.lcmp X83.here hx rfl (hb hby at_148) rfl k) ?_
                show own_WP _ _ _ _ T83 (mkF m 149 #[.val (.int zu), .val (.int zl), .val (.int zb), .val (.ref zo), .val (.long zo1), .second, .val (.long zg1), .second, .val (.long (zf1 + (1 : Int64))), .second, .val (.long (1 : Int64)), .second, .val (.long (0 : Int64)), .second, .val (.long ((0 : Int64) + ((0 : Int32).toInt64))), .second] [(.int (lcmpW zo1 zo1))])
                have hc149 : zo1 = zo1 := rfl
                refine own_go (fun t k => XS.ifNo X83.here hx rfl (hb hby at_149) rfl ((if0 _ _).trans (teq ((lw_eq zo1 zo1).mpr hc149)).2) k) ?_
                show own_WP _ _ _ _ T83 (mkF m 152 #[.val (.int zu), .val (.int zl), .val (.int zb), .val (.ref zo), .val (.long zo1), .second, .val (.long zg1), .second, .val (.long (zf1 + (1 : Int64))), .second, .val (.long (1 : Int64)), .second, .val (.long (0 : Int64)), .second, .val (.long ((0 : Int64) + ((0 : Int32).toInt64))), .second] [])
                refine own_go (fun t k => XS.aloadN X83.here hx rfl (hb hby at_152) rfl rfl  k) ?_
                show own_WP _ _ _ _ T83 (mkF m 153 #[.val (.int zu), .val (.int zl), .val (.int zb), .val (.ref zo), .val (.long zo1), .second, .val (.long zg1), .second, .val (.long (zf1 + (1 : Int64))), .second, .val (.long (1 : Int64)), .second, .val (.long (0 : Int64)), .second, .val (.long ((0 : Int64) + ((0 : Int32).toInt64))), .second] [(.ref zo)])
                obtain ⟨cq84, kq84, q84a, q84b, q84c⟩ := isOf hZ eq83 f70
                obtain ⟨_, _, ⟨T84, L84, k84, n84⟩, -, X84, ⟨Lc84, hQ84, l84, y84, z84⟩, st84⟩ := X83.virtualBack hx (y := (⟨"com/example/soak/soak/sim/CallCounts", "good", "()J"⟩ : MethodName)) (z := (⟨"com/example/soak/soak/sim/CallCounts", "good", "()J"⟩ : MethodName)) hown (mvT hZ (hw _ (List.mem_of_getElem? (i := 27) rfl))) (mvT hZ (hw _ (List.mem_of_getElem? (i := 28) rfl))) (notFace_of_selects (args := #[]) (mvT hZ (hw _ (List.mem_of_getElem? (i := 30) rfl)))) (mvT hZ (hw _ (List.mem_of_getElem? (i := 30) rfl))) (mvT hZ (hw _ (List.mem_of_getElem? (i := 29) rfl))) (by decide) (backOf (W := 0) (rm5 l Z a0 hw [] zo zg1 T69.heap n0 (own_le Z0 K82) f72) hZ (hw _ (List.mem_of_getElem? (i := 31) rfl)) (hw _ (List.mem_of_getElem? (i := 2) rfl)) (by decide) (by decide)) q84a q84c (g := (mkF m 153 #[.val (.int zu), .val (.int zl), .val (.int zb), .val (.ref zo), .val (.long zo1), .second, .val (.long zg1), .second, .val (.long (zf1 + (1 : Int64))), .second, .val (.long (1 : Int64)), .second, .val (.long (0 : Int64)), .second, .val (.long ((0 : Int64) + ((0 : Int32).toInt64))), .second] [(.ref zo)])) rfl (by rw [hml]; rfl) (Steps.refl _) (argsL := []) (rest := []) (lenOf own_pd91885 rfl) rfl (by show 2 * 0 + _ ≤ _; exact Nat.le_of_eq rfl) (hb hby at_153) (fun _ _ => ⟨rfl, eq83, (by decide : 1 + 0 ≤ _), (by decide : 5 + 0 ≤ _)⟩)
                dsimp only [Pt.U, Pt.locs, Pt.cells, Pt.slots] at X84 l84 y84 z84 st84 hQ84
                subst l84 y84 z84
                obtain ⟨rfl, N84q, eq84⟩ := hQ84
                have N84 := Fr.app N83 N84q
                refine own_tr st84 ?_
                show own_WP _ _ _ _ T84 (mkF m 156 #[.val (.int zu), .val (.int zl), .val (.int zb), .val (.ref zo), .val (.long zo1), .second, .val (.long zg1), .second, .val (.long (zf1 + (1 : Int64))), .second, .val (.long (1 : Int64)), .second, .val (.long (0 : Int64)), .second, .val (.long ((0 : Int64) + ((0 : Int32).toInt64))), .second] [(.long zg1)])
                refine own_go (fun t k => XS.lload X84.here hx rfl (hb hby at_156) rfl  k) ?_
                show own_WP _ _ _ _ T84 (mkF m 158 #[.val (.int zu), .val (.int zl), .val (.int zb), .val (.ref zo), .val (.long zo1), .second, .val (.long zg1), .second, .val (.long (zf1 + (1 : Int64))), .second, .val (.long (1 : Int64)), .second, .val (.long (0 : Int64)), .second, .val (.long ((0 : Int64) + ((0 : Int32).toInt64))), .second] [(.long zg1), (.long zg1)])
                refine own_go (fun t k => XS.lcmp X84.here hx rfl (hb hby at_158) rfl k) ?_
                show own_WP _ _ _ _ T84 (mkF m 159 #[.val (.int zu), .val (.int zl), .val (.int zb), .val (.ref zo), .val (.long zo1), .second, .val (.long zg1), .second, .val (.long (zf1 + (1 : Int64))), .second, .val (.long (1 : Int64)), .second, .val (.long (0 : Int64)), .second, .val (.long ((0 : Int64) + ((0 : Int32).toInt64))), .second] [(.int (lcmpW zg1 zg1))])
                have hc159 : zg1 = zg1 := rfl
                refine own_go (fun t k => XS.ifNo X84.here hx rfl (hb hby at_159) rfl ((if0 _ _).trans (teq ((lw_eq zg1 zg1).mpr hc159)).2) k) ?_
                show own_WP _ _ _ _ T84 (mkF m 162 #[.val (.int zu), .val (.int zl), .val (.int zb), .val (.ref zo), .val (.long zo1), .second, .val (.long zg1), .second, .val (.long (zf1 + (1 : Int64))), .second, .val (.long (1 : Int64)), .second, .val (.long (0 : Int64)), .second, .val (.long ((0 : Int64) + ((0 : Int32).toInt64))), .second] [])
                refine own_go (fun t k => XS.aloadN X84.here hx rfl (hb hby at_162) rfl rfl  k) ?_
                show own_WP _ _ _ _ T84 (mkF m 163 #[.val (.int zu), .val (.int zl), .val (.int zb), .val (.ref zo), .val (.long zo1), .second, .val (.long zg1), .second, .val (.long (zf1 + (1 : Int64))), .second, .val (.long (1 : Int64)), .second, .val (.long (0 : Int64)), .second, .val (.long ((0 : Int64) + ((0 : Int32).toInt64))), .second] [(.ref zo)])
                obtain ⟨cq85, kq85, q85a, q85b, q85c⟩ := isOf hZ eq84 f70
                obtain ⟨_, _, ⟨T85, L85, k85, n85⟩, -, X85, ⟨Lc85, hQ85, l85, y85, z85⟩, st85⟩ := X84.virtualBack hx (y := (⟨"com/example/soak/soak/sim/CallCounts", "failed", "()J"⟩ : MethodName)) (z := (⟨"com/example/soak/soak/sim/CallCounts", "failed", "()J"⟩ : MethodName)) hown (mvT hZ (hw _ (List.mem_of_getElem? (i := 34) rfl))) (mvT hZ (hw _ (List.mem_of_getElem? (i := 35) rfl))) (notFace_of_selects (args := #[]) (mvT hZ (hw _ (List.mem_of_getElem? (i := 37) rfl)))) (mvT hZ (hw _ (List.mem_of_getElem? (i := 37) rfl))) (mvT hZ (hw _ (List.mem_of_getElem? (i := 36) rfl))) (by decide) (backOf (W := 0) (rm6 l Z a0 hw [] zo ((zf1 + (1 : Int64)) + (1 : Int64)) T69.heap n0 (own_le Z0 K82) f73) hZ (hw _ (List.mem_of_getElem? (i := 38) rfl)) (hw _ (List.mem_of_getElem? (i := 2) rfl)) (by decide) (by decide)) q85a q85c (g := (mkF m 163 #[.val (.int zu), .val (.int zl), .val (.int zb), .val (.ref zo), .val (.long zo1), .second, .val (.long zg1), .second, .val (.long (zf1 + (1 : Int64))), .second, .val (.long (1 : Int64)), .second, .val (.long (0 : Int64)), .second, .val (.long ((0 : Int64) + ((0 : Int32).toInt64))), .second] [(.ref zo)])) rfl (by rw [hml]; rfl) (Steps.refl _) (argsL := []) (rest := []) (lenOf own_pd91885 rfl) rfl (by show 2 * 0 + _ ≤ _; exact Nat.le_of_eq rfl) (hb hby at_163) (fun _ _ => ⟨rfl, eq84, (by decide : 1 + 0 ≤ _), (by decide : 5 + 0 ≤ _)⟩)
                dsimp only [Pt.U, Pt.locs, Pt.cells, Pt.slots] at X85 l85 y85 z85 st85 hQ85
                subst l85 y85 z85
                obtain ⟨rfl, N85q, eq85⟩ := hQ85
                have N85 := Fr.app N84 N85q
                refine own_tr st85 ?_
                show own_WP _ _ _ _ T85 (mkF m 166 #[.val (.int zu), .val (.int zl), .val (.int zb), .val (.ref zo), .val (.long zo1), .second, .val (.long zg1), .second, .val (.long (zf1 + (1 : Int64))), .second, .val (.long (1 : Int64)), .second, .val (.long (0 : Int64)), .second, .val (.long ((0 : Int64) + ((0 : Int32).toInt64))), .second] [(.long ((zf1 + (1 : Int64)) + (1 : Int64)))])
                refine own_go (fun t k => XS.lload X85.here hx rfl (hb hby at_166) rfl  k) ?_
                show own_WP _ _ _ _ T85 (mkF m 168 #[.val (.int zu), .val (.int zl), .val (.int zb), .val (.ref zo), .val (.long zo1), .second, .val (.long zg1), .second, .val (.long (zf1 + (1 : Int64))), .second, .val (.long (1 : Int64)), .second, .val (.long (0 : Int64)), .second, .val (.long ((0 : Int64) + ((0 : Int32).toInt64))), .second] [(.long (zf1 + (1 : Int64))), (.long ((zf1 + (1 : Int64)) + (1 : Int64)))])
                refine own_go (fun t k => XS.lconst X85.here hx rfl (hb hby at_168) k) ?_
                show own_WP _ _ _ _ T85 (mkF m 169 #[.val (.int zu), .val (.int zl), .val (.int zb), .val (.ref zo), .val (.long zo1), .second, .val (.long zg1), .second, .val (.long (zf1 + (1 : Int64))), .second, .val (.long (1 : Int64)), .second, .val (.long (0 : Int64)), .second, .val (.long ((0 : Int64) + ((0 : Int32).toInt64))), .second] [(.long (1 : Int64)), (.long (zf1 + (1 : Int64))), (.long ((zf1 + (1 : Int64)) + (1 : Int64)))])
                refine own_go (fun t k => XS.ladd X85.here hx rfl (hb hby at_169) rfl k) ?_
                show own_WP _ _ _ _ T85 (mkF m 170 #[.val (.int zu), .val (.int zl), .val (.int zb), .val (.ref zo), .val (.long zo1), .second, .val (.long zg1), .second, .val (.long (zf1 + (1 : Int64))), .second, .val (.long (1 : Int64)), .second, .val (.long (0 : Int64)), .second, .val (.long ((0 : Int64) + ((0 : Int32).toInt64))), .second] [(.long ((zf1 + (1 : Int64)) + (1 : Int64))), (.long ((zf1 + (1 : Int64)) + (1 : Int64)))])
                refine own_go (fun t k => XS.lcmp X85.here hx rfl (hb hby at_170) rfl k) ?_
                show own_WP _ _ _ _ T85 (mkF m 171 #[.val (.int zu), .val (.int zl), .val (.int zb), .val (.ref zo), .val (.long zo1), .second, .val (.long zg1), .second, .val (.long (zf1 + (1 : Int64))), .second, .val (.long (1 : Int64)), .second, .val (.long (0 : Int64)), .second, .val (.long ((0 : Int64) + ((0 : Int32).toInt64))), .second] [(.int (lcmpW ((zf1 + (1 : Int64)) + (1 : Int64)) ((zf1 + (1 : Int64)) + (1 : Int64))))])
                have hc171 : ((zf1 + (1 : Int64)) + (1 : Int64)) = ((zf1 + (1 : Int64)) + (1 : Int64)) := rfl
                refine own_go (fun t k => XS.ifNo X85.here hx rfl (hb hby at_171) rfl ((if0 _ _).trans (teq ((lw_eq ((zf1 + (1 : Int64)) + (1 : Int64)) ((zf1 + (1 : Int64)) + (1 : Int64))).mpr hc171)).2) k) ?_
                show own_WP _ _ _ _ T85 (mkF m 174 #[.val (.int zu), .val (.int zl), .val (.int zb), .val (.ref zo), .val (.long zo1), .second, .val (.long zg1), .second, .val (.long (zf1 + (1 : Int64))), .second, .val (.long (1 : Int64)), .second, .val (.long (0 : Int64)), .second, .val (.long ((0 : Int64) + ((0 : Int32).toInt64))), .second] [])
                refine own_go (fun t k => XS.aloadN X85.here hx rfl (hb hby at_174) rfl rfl  k) ?_
                show own_WP _ _ _ _ T85 (mkF m 175 #[.val (.int zu), .val (.int zl), .val (.int zb), .val (.ref zo), .val (.long zo1), .second, .val (.long zg1), .second, .val (.long (zf1 + (1 : Int64))), .second, .val (.long (1 : Int64)), .second, .val (.long (0 : Int64)), .second, .val (.long ((0 : Int64) + ((0 : Int32).toInt64))), .second] [(.ref zo)])
                obtain ⟨cq86, kq86, q86a, q86b, q86c⟩ := isOf hZ eq85 f70
                obtain ⟨_, _, ⟨T86, L86, k86, n86⟩, -, X86, ⟨Lc86, hQ86, l86, y86, z86⟩, st86⟩ := X85.virtualBack hx (y := (⟨"com/example/soak/soak/sim/CallCounts", "rejected", "()J"⟩ : MethodName)) (z := (⟨"com/example/soak/soak/sim/CallCounts", "rejected", "()J"⟩ : MethodName)) hown (mvT hZ (hw _ (List.mem_of_getElem? (i := 39) rfl))) (mvT hZ (hw _ (List.mem_of_getElem? (i := 40) rfl))) (notFace_of_selects (args := #[]) (mvT hZ (hw _ (List.mem_of_getElem? (i := 42) rfl)))) (mvT hZ (hw _ (List.mem_of_getElem? (i := 42) rfl))) (mvT hZ (hw _ (List.mem_of_getElem? (i := 41) rfl))) (by decide) (backOf (W := 0) (rm7 l Z a0 hw [] zo (((0 : Int64) + (1 : Int64)) + (1 : Int64)) T69.heap n0 (own_le Z0 K82) f74) hZ (hw _ (List.mem_of_getElem? (i := 43) rfl)) (hw _ (List.mem_of_getElem? (i := 2) rfl)) (by decide) (by decide)) q86a q86c (g := (mkF m 175 #[.val (.int zu), .val (.int zl), .val (.int zb), .val (.ref zo), .val (.long zo1), .second, .val (.long zg1), .second, .val (.long (zf1 + (1 : Int64))), .second, .val (.long (1 : Int64)), .second, .val (.long (0 : Int64)), .second, .val (.long ((0 : Int64) + ((0 : Int32).toInt64))), .second] [(.ref zo)])) rfl (by rw [hml]; rfl) (Steps.refl _) (argsL := []) (rest := []) (lenOf own_pd91885 rfl) rfl (by show 2 * 0 + _ ≤ _; exact Nat.le_of_eq rfl) (hb hby at_175) (fun _ _ => ⟨rfl, eq85, (by decide : 1 + 0 ≤ _), (by decide : 5 + 0 ≤ _)⟩)
                dsimp only [Pt.U, Pt.locs, Pt.cells, Pt.slots] at X86 l86 y86 z86 st86 hQ86
                subst l86 y86 z86
                obtain ⟨rfl, N86q, eq86⟩ := hQ86
                have N86 := Fr.app N85 N86q
                refine own_tr st86 ?_
                show own_WP _ _ _ _ T86 (mkF m 178 #[.val (.int zu), .val (.int zl), .val (.int zb), .val (.ref zo), .val (.long zo1), .second, .val (.long zg1), .second, .val (.long (zf1 + (1 : Int64))), .second, .val (.long (1 : Int64)), .second, .val (.long (0 : Int64)), .second, .val (.long ((0 : Int64) + ((0 : Int32).toInt64))), .second] [(.long (((0 : Int64) + (1 : Int64)) + (1 : Int64)))])
                refine own_go (fun t k => XS.lload X86.here hx rfl (hb hby at_178) rfl  k) ?_
                show own_WP _ _ _ _ T86 (mkF m 180 #[.val (.int zu), .val (.int zl), .val (.int zb), .val (.ref zo), .val (.long zo1), .second, .val (.long zg1), .second, .val (.long (zf1 + (1 : Int64))), .second, .val (.long (1 : Int64)), .second, .val (.long (0 : Int64)), .second, .val (.long ((0 : Int64) + ((0 : Int32).toInt64))), .second] [(.long (1 : Int64)), (.long (((0 : Int64) + (1 : Int64)) + (1 : Int64)))])
                refine own_go (fun t k => XS.lconst X86.here hx rfl (hb hby at_180) k) ?_
                show own_WP _ _ _ _ T86 (mkF m 181 #[.val (.int zu), .val (.int zl), .val (.int zb), .val (.ref zo), .val (.long zo1), .second, .val (.long zg1), .second, .val (.long (zf1 + (1 : Int64))), .second, .val (.long (1 : Int64)), .second, .val (.long (0 : Int64)), .second, .val (.long ((0 : Int64) + ((0 : Int32).toInt64))), .second] [(.long (1 : Int64)), (.long (1 : Int64)), (.long (((0 : Int64) + (1 : Int64)) + (1 : Int64)))])
                refine own_go (fun t k => XS.ladd X86.here hx rfl (hb hby at_181) rfl k) ?_
                show own_WP _ _ _ _ T86 (mkF m 182 #[.val (.int zu), .val (.int zl), .val (.int zb), .val (.ref zo), .val (.long zo1), .second, .val (.long zg1), .second, .val (.long (zf1 + (1 : Int64))), .second, .val (.long (1 : Int64)), .second, .val (.long (0 : Int64)), .second, .val (.long ((0 : Int64) + ((0 : Int32).toInt64))), .second] [(.long ((1 : Int64) + (1 : Int64))), (.long (((0 : Int64) + (1 : Int64)) + (1 : Int64)))])
                refine own_go (fun t k => XS.lcmp X86.here hx rfl (hb hby at_182) rfl k) ?_
                show own_WP _ _ _ _ T86 (mkF m 183 #[.val (.int zu), .val (.int zl), .val (.int zb), .val (.ref zo), .val (.long zo1), .second, .val (.long zg1), .second, .val (.long (zf1 + (1 : Int64))), .second, .val (.long (1 : Int64)), .second, .val (.long (0 : Int64)), .second, .val (.long ((0 : Int64) + ((0 : Int32).toInt64))), .second] [(.int (lcmpW (((0 : Int64) + (1 : Int64)) + (1 : Int64)) ((1 : Int64) + (1 : Int64))))])
                have hc183 : (((0 : Int64) + (1 : Int64)) + (1 : Int64)) = ((1 : Int64) + (1 : Int64)) := by
                  first | rfl | decide
                refine own_go (fun t k => XS.ifNo X86.here hx rfl (hb hby at_183) rfl ((if0 _ _).trans (teq ((lw_eq (((0 : Int64) + (1 : Int64)) + (1 : Int64)) ((1 : Int64) + (1 : Int64))).mpr hc183)).2) k) ?_
                show own_WP _ _ _ _ T86 (mkF m 186 #[.val (.int zu), .val (.int zl), .val (.int zb), .val (.ref zo), .val (.long zo1), .second, .val (.long zg1), .second, .val (.long (zf1 + (1 : Int64))), .second, .val (.long (1 : Int64)), .second, .val (.long (0 : Int64)), .second, .val (.long ((0 : Int64) + ((0 : Int32).toInt64))), .second] [])
                refine own_go (fun t k => XS.aloadN X86.here hx rfl (hb hby at_186) rfl rfl  k) ?_
                show own_WP _ _ _ _ T86 (mkF m 187 #[.val (.int zu), .val (.int zl), .val (.int zb), .val (.ref zo), .val (.long zo1), .second, .val (.long zg1), .second, .val (.long (zf1 + (1 : Int64))), .second, .val (.long (1 : Int64)), .second, .val (.long (0 : Int64)), .second, .val (.long ((0 : Int64) + ((0 : Int32).toInt64))), .second] [(.ref zo)])
                obtain ⟨cq87, kq87, q87a, q87b, q87c⟩ := isOf hZ eq86 f70
                obtain ⟨_, _, ⟨T87, L87, k87, n87⟩, -, X87, ⟨Lc87, hQ87, l87, y87, z87⟩, st87⟩ := X86.virtualBack hx (y := (⟨"com/example/soak/soak/sim/CallCounts", "serverRejected", "()J"⟩ : MethodName)) (z := (⟨"com/example/soak/soak/sim/CallCounts", "serverRejected", "()J"⟩ : MethodName)) hown (mvT hZ (hw _ (List.mem_of_getElem? (i := 44) rfl))) (mvT hZ (hw _ (List.mem_of_getElem? (i := 45) rfl))) (notFace_of_selects (args := #[]) (mvT hZ (hw _ (List.mem_of_getElem? (i := 47) rfl)))) (mvT hZ (hw _ (List.mem_of_getElem? (i := 47) rfl))) (mvT hZ (hw _ (List.mem_of_getElem? (i := 46) rfl))) (by decide) (backOf (W := 0) (rm8 l Z a0 hw [] zo (own_sr (own_sr (0 : Int64) (0 : Int32)) zb) T69.heap n0 (own_le Z0 K82) f75) hZ (hw _ (List.mem_of_getElem? (i := 48) rfl)) (hw _ (List.mem_of_getElem? (i := 2) rfl)) (by decide) (by decide)) q87a q87c (g := (mkF m 187 #[.val (.int zu), .val (.int zl), .val (.int zb), .val (.ref zo), .val (.long zo1), .second, .val (.long zg1), .second, .val (.long (zf1 + (1 : Int64))), .second, .val (.long (1 : Int64)), .second, .val (.long (0 : Int64)), .second, .val (.long ((0 : Int64) + ((0 : Int32).toInt64))), .second] [(.ref zo)])) rfl (by rw [hml]; rfl) (Steps.refl _) (argsL := []) (rest := []) (lenOf own_pd91885 rfl) rfl (by show 2 * 0 + _ ≤ _; exact Nat.le_of_eq rfl) (hb hby at_187) (fun _ _ => ⟨rfl, eq86, (by decide : 1 + 0 ≤ _), (by decide : 5 + 0 ≤ _)⟩)
                dsimp only [Pt.U, Pt.locs, Pt.cells, Pt.slots] at X87 l87 y87 z87 st87 hQ87
                subst l87 y87 z87
                obtain ⟨rfl, N87q, eq87⟩ := hQ87
                have N87 := Fr.app N86 N87q
                refine own_tr st87 ?_
                show own_WP _ _ _ _ T87 (mkF m 190 #[.val (.int zu), .val (.int zl), .val (.int zb), .val (.ref zo), .val (.long zo1), .second, .val (.long zg1), .second, .val (.long (zf1 + (1 : Int64))), .second, .val (.long (1 : Int64)), .second, .val (.long (0 : Int64)), .second, .val (.long ((0 : Int64) + ((0 : Int32).toInt64))), .second] [(.long (own_sr (own_sr (0 : Int64) (0 : Int32)) zb))])
                refine own_go (fun t k => XS.lload X87.here hx rfl (hb hby at_190) rfl  k) ?_
                show own_WP _ _ _ _ T87 (mkF m 192 #[.val (.int zu), .val (.int zl), .val (.int zb), .val (.ref zo), .val (.long zo1), .second, .val (.long zg1), .second, .val (.long (zf1 + (1 : Int64))), .second, .val (.long (1 : Int64)), .second, .val (.long (0 : Int64)), .second, .val (.long ((0 : Int64) + ((0 : Int32).toInt64))), .second] [(.long ((0 : Int64) + ((0 : Int32).toInt64))), (.long (own_sr (own_sr (0 : Int64) (0 : Int32)) zb))])
                refine own_go (fun t k => XS.lcmp X87.here hx rfl (hb hby at_192) rfl k) ?_
                show own_WP _ _ _ _ T87 (mkF m 193 #[.val (.int zu), .val (.int zl), .val (.int zb), .val (.ref zo), .val (.long zo1), .second, .val (.long zg1), .second, .val (.long (zf1 + (1 : Int64))), .second, .val (.long (1 : Int64)), .second, .val (.long (0 : Int64)), .second, .val (.long ((0 : Int64) + ((0 : Int32).toInt64))), .second] [(.int (lcmpW (own_sr (own_sr (0 : Int64) (0 : Int32)) zb) ((0 : Int64) + ((0 : Int32).toInt64))))])
                have hc193 : (own_sr (own_sr (0 : Int64) (0 : Int32)) zb) = ((0 : Int64) + ((0 : Int32).toInt64)) := by
                  simp [own_sr, hc130]
                refine own_go (fun t k => XS.ifNo X87.here hx rfl (hb hby at_193) rfl ((if0 _ _).trans (teq ((lw_eq (own_sr (own_sr (0 : Int64) (0 : Int32)) zb) ((0 : Int64) + ((0 : Int32).toInt64))).mpr hc193)).2) k) ?_
                show own_WP _ _ _ _ T87 (mkF m 196 #[.val (.int zu), .val (.int zl), .val (.int zb), .val (.ref zo), .val (.long zo1), .second, .val (.long zg1), .second, .val (.long (zf1 + (1 : Int64))), .second, .val (.long (1 : Int64)), .second, .val (.long (0 : Int64)), .second, .val (.long ((0 : Int64) + ((0 : Int32).toInt64))), .second] [])
                refine own_go (fun t k => XS.iconst X87.here hx rfl (hb hby at_196) k) ?_
                show own_WP _ _ _ _ T87 (mkF m 197 #[.val (.int zu), .val (.int zl), .val (.int zb), .val (.ref zo), .val (.long zo1), .second, .val (.long zg1), .second, .val (.long (zf1 + (1 : Int64))), .second, .val (.long (1 : Int64)), .second, .val (.long (0 : Int64)), .second, .val (.long ((0 : Int64) + ((0 : Int32).toInt64))), .second] [(.int (1 : Int32))])
                refine own_go (fun t k => XS.goto X87.here hx rfl (pc0 := 197) (pc' := 201) rfl (hb hby at_197) (by decide) (by decide) k) ?_
                show own_WP _ _ _ _ T87 (mkF m 201 #[.val (.int zu), .val (.int zl), .val (.int zb), .val (.ref zo), .val (.long zo1), .second, .val (.long zg1), .second, .val (.long (zf1 + (1 : Int64))), .second, .val (.long (1 : Int64)), .second, .val (.long (0 : Int64)), .second, .val (.long ((0 : Int64) + ((0 : Int32).toInt64))), .second] [(.int (1 : Int32))])
                refine own_retN X87 hx Bd.notSynchronized (t := .boolean) (by simp) Bd.returns (hb hby at_201) (by decide) (by decide) ?_
                rw [eq87]
                exact ⟨rfl, N87⟩
              · refine own_go (fun t k => XS.ifNo X69.here hx rfl (hb hby at_130) rfl ((if0 _ _).trans (feq hc130).1) k) ?_
                show own_WP _ _ _ _ T69 (mkF m 133 #[.val (.int zu), .val (.int zl), .val (.int zb), .val (.ref zo), .val (.long zo1), .second, .val (.long zg1), .second, .val (.long (zf1 + (1 : Int64))), .second, .val (.long (1 : Int64)), .second, .val (.long (0 : Int64)), .second, .val (.int (0 : Int32)), .unset] [(.long (0 : Int64))])
                refine own_go (fun t k => XS.iconst X69.here hx rfl (hb hby at_133) k) ?_
                show own_WP _ _ _ _ T69 (mkF m 134 #[.val (.int zu), .val (.int zl), .val (.int zb), .val (.ref zo), .val (.long zo1), .second, .val (.long zg1), .second, .val (.long (zf1 + (1 : Int64))), .second, .val (.long (1 : Int64)), .second, .val (.long (0 : Int64)), .second, .val (.int (0 : Int32)), .unset] [(.int (1 : Int32)), (.long (0 : Int64))])
                refine own_go (fun t k => XS.goto X69.here hx rfl (pc0 := 134) (pc' := 138) rfl (hb hby at_134) (by decide) (by decide) k) ?_
                show own_WP _ _ _ _ T69 (mkF m 138 #[.val (.int zu), .val (.int zl), .val (.int zb), .val (.ref zo), .val (.long zo1), .second, .val (.long zg1), .second, .val (.long (zf1 + (1 : Int64))), .second, .val (.long (1 : Int64)), .second, .val (.long (0 : Int64)), .second, .val (.int (0 : Int32)), .unset] [(.int (1 : Int32)), (.long (0 : Int64))])
                refine own_go (fun t k => XS.i2l X69.here hx rfl (hb hby at_138) rfl k) ?_
                show own_WP _ _ _ _ T69 (mkF m 139 #[.val (.int zu), .val (.int zl), .val (.int zb), .val (.ref zo), .val (.long zo1), .second, .val (.long zg1), .second, .val (.long (zf1 + (1 : Int64))), .second, .val (.long (1 : Int64)), .second, .val (.long (0 : Int64)), .second, .val (.int (0 : Int32)), .unset] [(.long ((1 : Int32).toInt64)), (.long (0 : Int64))])
                refine own_go (fun t k => XS.ladd X69.here hx rfl (hb hby at_139) rfl k) ?_
                show own_WP _ _ _ _ T69 (mkF m 140 #[.val (.int zu), .val (.int zl), .val (.int zb), .val (.ref zo), .val (.long zo1), .second, .val (.long zg1), .second, .val (.long (zf1 + (1 : Int64))), .second, .val (.long (1 : Int64)), .second, .val (.long (0 : Int64)), .second, .val (.int (0 : Int32)), .unset] [(.long ((0 : Int64) + ((1 : Int32).toInt64)))])
                refine own_go (fun t k => XS.lstore X69.here hx rfl (hb hby at_140) rfl (l' := #[.val (.int zu), .val (.int zl), .val (.int zb), .val (.ref zo), .val (.long zo1), .second, .val (.long zg1), .second, .val (.long (zf1 + (1 : Int64))), .second, .val (.long (1 : Int64)), .second, .val (.long (0 : Int64)), .second, .val (.long ((0 : Int64) + ((1 : Int32).toInt64))), .second]) rfl k) ?_
                show own_WP _ _ _ _ T69 (mkF m 142 #[.val (.int zu), .val (.int zl), .val (.int zb), .val (.ref zo), .val (.long zo1), .second, .val (.long zg1), .second, .val (.long (zf1 + (1 : Int64))), .second, .val (.long (1 : Int64)), .second, .val (.long (0 : Int64)), .second, .val (.long ((0 : Int64) + ((1 : Int32).toInt64))), .second] [])
                refine own_go (fun t k => XS.aloadN X69.here hx rfl (hb hby at_142) rfl rfl  k) ?_
                show own_WP _ _ _ _ T69 (mkF m 143 #[.val (.int zu), .val (.int zl), .val (.int zb), .val (.ref zo), .val (.long zo1), .second, .val (.long zg1), .second, .val (.long (zf1 + (1 : Int64))), .second, .val (.long (1 : Int64)), .second, .val (.long (0 : Int64)), .second, .val (.long ((0 : Int64) + ((1 : Int32).toInt64))), .second] [(.ref zo)])
                obtain ⟨cq88, kq88, q88a, q88b, q88c⟩ := isOf hZ rfl f70
                obtain ⟨_, _, ⟨T88, L88, k88, n88⟩, -, X88, ⟨Lc88, hQ88, l88, y88, z88⟩, st88⟩ := X69.virtualBack hx (y := (⟨"com/example/soak/soak/sim/CallCounts", "offered", "()J"⟩ : MethodName)) (z := (⟨"com/example/soak/soak/sim/CallCounts", "offered", "()J"⟩ : MethodName)) hown (mvT hZ (hw _ (List.mem_of_getElem? (i := 20) rfl))) (mvT hZ (hw _ (List.mem_of_getElem? (i := 21) rfl))) (notFace_of_selects (args := #[]) (mvT hZ (hw _ (List.mem_of_getElem? (i := 23) rfl)))) (mvT hZ (hw _ (List.mem_of_getElem? (i := 23) rfl))) (mvT hZ (hw _ (List.mem_of_getElem? (i := 22) rfl))) (by decide) (backOf (W := 0) (rm4 l Z a0 hw [] zo zo1 T69.heap n0 (own_le Z0 K82) f71) hZ (hw _ (List.mem_of_getElem? (i := 24) rfl)) (hw _ (List.mem_of_getElem? (i := 2) rfl)) (by decide) (by decide)) q88a q88c (g := (mkF m 143 #[.val (.int zu), .val (.int zl), .val (.int zb), .val (.ref zo), .val (.long zo1), .second, .val (.long zg1), .second, .val (.long (zf1 + (1 : Int64))), .second, .val (.long (1 : Int64)), .second, .val (.long (0 : Int64)), .second, .val (.long ((0 : Int64) + ((1 : Int32).toInt64))), .second] [(.ref zo)])) rfl (by rw [hml]; rfl) (Steps.refl _) (argsL := []) (rest := []) (lenOf own_pd91885 rfl) rfl (by show 2 * 0 + _ ≤ _; exact Nat.le_of_eq rfl) (hb hby at_143) (fun _ _ => ⟨rfl, rfl, (by decide : 1 + 0 ≤ _), (by decide : 5 + 0 ≤ _)⟩)
                dsimp only [Pt.U, Pt.locs, Pt.cells, Pt.slots] at X88 l88 y88 z88 st88 hQ88
                subst l88 y88 z88
                obtain ⟨rfl, N88q, eq88⟩ := hQ88
                have N88 := Fr.app N69 N88q
                refine own_tr st88 ?_
                show own_WP _ _ _ _ T88 (mkF m 146 #[.val (.int zu), .val (.int zl), .val (.int zb), .val (.ref zo), .val (.long zo1), .second, .val (.long zg1), .second, .val (.long (zf1 + (1 : Int64))), .second, .val (.long (1 : Int64)), .second, .val (.long (0 : Int64)), .second, .val (.long ((0 : Int64) + ((1 : Int32).toInt64))), .second] [(.long zo1)])
                refine own_go (fun t k => XS.lload X88.here hx rfl (hb hby at_146) rfl  k) ?_
                show own_WP _ _ _ _ T88 (mkF m 148 #[.val (.int zu), .val (.int zl), .val (.int zb), .val (.ref zo), .val (.long zo1), .second, .val (.long zg1), .second, .val (.long (zf1 + (1 : Int64))), .second, .val (.long (1 : Int64)), .second, .val (.long (0 : Int64)), .second, .val (.long ((0 : Int64) + ((1 : Int32).toInt64))), .second] [(.long zo1), (.long zo1)])
                refine own_go (fun t k => XS.lcmp X88.here hx rfl (hb hby at_148) rfl k) ?_
                show own_WP _ _ _ _ T88 (mkF m 149 #[.val (.int zu), .val (.int zl), .val (.int zb), .val (.ref zo), .val (.long zo1), .second, .val (.long zg1), .second, .val (.long (zf1 + (1 : Int64))), .second, .val (.long (1 : Int64)), .second, .val (.long (0 : Int64)), .second, .val (.long ((0 : Int64) + ((1 : Int32).toInt64))), .second] [(.int (lcmpW zo1 zo1))])
                have hc149 : zo1 = zo1 := rfl
                refine own_go (fun t k => XS.ifNo X88.here hx rfl (hb hby at_149) rfl ((if0 _ _).trans (teq ((lw_eq zo1 zo1).mpr hc149)).2) k) ?_
                show own_WP _ _ _ _ T88 (mkF m 152 #[.val (.int zu), .val (.int zl), .val (.int zb), .val (.ref zo), .val (.long zo1), .second, .val (.long zg1), .second, .val (.long (zf1 + (1 : Int64))), .second, .val (.long (1 : Int64)), .second, .val (.long (0 : Int64)), .second, .val (.long ((0 : Int64) + ((1 : Int32).toInt64))), .second] [])
                refine own_go (fun t k => XS.aloadN X88.here hx rfl (hb hby at_152) rfl rfl  k) ?_
                show own_WP _ _ _ _ T88 (mkF m 153 #[.val (.int zu), .val (.int zl), .val (.int zb), .val (.ref zo), .val (.long zo1), .second, .val (.long zg1), .second, .val (.long (zf1 + (1 : Int64))), .second, .val (.long (1 : Int64)), .second, .val (.long (0 : Int64)), .second, .val (.long ((0 : Int64) + ((1 : Int32).toInt64))), .second] [(.ref zo)])
                obtain ⟨cq89, kq89, q89a, q89b, q89c⟩ := isOf hZ eq88 f70
                obtain ⟨_, _, ⟨T89, L89, k89, n89⟩, -, X89, ⟨Lc89, hQ89, l89, y89, z89⟩, st89⟩ := X88.virtualBack hx (y := (⟨"com/example/soak/soak/sim/CallCounts", "good", "()J"⟩ : MethodName)) (z := (⟨"com/example/soak/soak/sim/CallCounts", "good", "()J"⟩ : MethodName)) hown (mvT hZ (hw _ (List.mem_of_getElem? (i := 27) rfl))) (mvT hZ (hw _ (List.mem_of_getElem? (i := 28) rfl))) (notFace_of_selects (args := #[]) (mvT hZ (hw _ (List.mem_of_getElem? (i := 30) rfl)))) (mvT hZ (hw _ (List.mem_of_getElem? (i := 30) rfl))) (mvT hZ (hw _ (List.mem_of_getElem? (i := 29) rfl))) (by decide) (backOf (W := 0) (rm5 l Z a0 hw [] zo zg1 T69.heap n0 (own_le Z0 K82) f72) hZ (hw _ (List.mem_of_getElem? (i := 31) rfl)) (hw _ (List.mem_of_getElem? (i := 2) rfl)) (by decide) (by decide)) q89a q89c (g := (mkF m 153 #[.val (.int zu), .val (.int zl), .val (.int zb), .val (.ref zo), .val (.long zo1), .second, .val (.long zg1), .second, .val (.long (zf1 + (1 : Int64))), .second, .val (.long (1 : Int64)), .second, .val (.long (0 : Int64)), .second, .val (.long ((0 : Int64) + ((1 : Int32).toInt64))), .second] [(.ref zo)])) rfl (by rw [hml]; rfl) (Steps.refl _) (argsL := []) (rest := []) (lenOf own_pd91885 rfl) rfl (by show 2 * 0 + _ ≤ _; exact Nat.le_of_eq rfl) (hb hby at_153) (fun _ _ => ⟨rfl, eq88, (by decide : 1 + 0 ≤ _), (by decide : 5 + 0 ≤ _)⟩)
                dsimp only [Pt.U, Pt.locs, Pt.cells, Pt.slots] at X89 l89 y89 z89 st89 hQ89
                subst l89 y89 z89
                obtain ⟨rfl, N89q, eq89⟩ := hQ89
                have N89 := Fr.app N88 N89q
                refine own_tr st89 ?_
                show own_WP _ _ _ _ T89 (mkF m 156 #[.val (.int zu), .val (.int zl), .val (.int zb), .val (.ref zo), .val (.long zo1), .second, .val (.long zg1), .second, .val (.long (zf1 + (1 : Int64))), .second, .val (.long (1 : Int64)), .second, .val (.long (0 : Int64)), .second, .val (.long ((0 : Int64) + ((1 : Int32).toInt64))), .second] [(.long zg1)])
                refine own_go (fun t k => XS.lload X89.here hx rfl (hb hby at_156) rfl  k) ?_
                show own_WP _ _ _ _ T89 (mkF m 158 #[.val (.int zu), .val (.int zl), .val (.int zb), .val (.ref zo), .val (.long zo1), .second, .val (.long zg1), .second, .val (.long (zf1 + (1 : Int64))), .second, .val (.long (1 : Int64)), .second, .val (.long (0 : Int64)), .second, .val (.long ((0 : Int64) + ((1 : Int32).toInt64))), .second] [(.long zg1), (.long zg1)])
                refine own_go (fun t k => XS.lcmp X89.here hx rfl (hb hby at_158) rfl k) ?_
                show own_WP _ _ _ _ T89 (mkF m 159 #[.val (.int zu), .val (.int zl), .val (.int zb), .val (.ref zo), .val (.long zo1), .second, .val (.long zg1), .second, .val (.long (zf1 + (1 : Int64))), .second, .val (.long (1 : Int64)), .second, .val (.long (0 : Int64)), .second, .val (.long ((0 : Int64) + ((1 : Int32).toInt64))), .second] [(.int (lcmpW zg1 zg1))])
                have hc159 : zg1 = zg1 := rfl
                refine own_go (fun t k => XS.ifNo X89.here hx rfl (hb hby at_159) rfl ((if0 _ _).trans (teq ((lw_eq zg1 zg1).mpr hc159)).2) k) ?_
                show own_WP _ _ _ _ T89 (mkF m 162 #[.val (.int zu), .val (.int zl), .val (.int zb), .val (.ref zo), .val (.long zo1), .second, .val (.long zg1), .second, .val (.long (zf1 + (1 : Int64))), .second, .val (.long (1 : Int64)), .second, .val (.long (0 : Int64)), .second, .val (.long ((0 : Int64) + ((1 : Int32).toInt64))), .second] [])
                refine own_go (fun t k => XS.aloadN X89.here hx rfl (hb hby at_162) rfl rfl  k) ?_
                show own_WP _ _ _ _ T89 (mkF m 163 #[.val (.int zu), .val (.int zl), .val (.int zb), .val (.ref zo), .val (.long zo1), .second, .val (.long zg1), .second, .val (.long (zf1 + (1 : Int64))), .second, .val (.long (1 : Int64)), .second, .val (.long (0 : Int64)), .second, .val (.long ((0 : Int64) + ((1 : Int32).toInt64))), .second] [(.ref zo)])
                obtain ⟨cq90, kq90, q90a, q90b, q90c⟩ := isOf hZ eq89 f70
                obtain ⟨_, _, ⟨T90, L90, k90, n90⟩, -, X90, ⟨Lc90, hQ90, l90, y90, z90⟩, st90⟩ := X89.virtualBack hx (y := (⟨"com/example/soak/soak/sim/CallCounts", "failed", "()J"⟩ : MethodName)) (z := (⟨"com/example/soak/soak/sim/CallCounts", "failed", "()J"⟩ : MethodName)) hown (mvT hZ (hw _ (List.mem_of_getElem? (i := 34) rfl))) (mvT hZ (hw _ (List.mem_of_getElem? (i := 35) rfl))) (notFace_of_selects (args := #[]) (mvT hZ (hw _ (List.mem_of_getElem? (i := 37) rfl)))) (mvT hZ (hw _ (List.mem_of_getElem? (i := 37) rfl))) (mvT hZ (hw _ (List.mem_of_getElem? (i := 36) rfl))) (by decide) (backOf (W := 0) (rm6 l Z a0 hw [] zo ((zf1 + (1 : Int64)) + (1 : Int64)) T69.heap n0 (own_le Z0 K82) f73) hZ (hw _ (List.mem_of_getElem? (i := 38) rfl)) (hw _ (List.mem_of_getElem? (i := 2) rfl)) (by decide) (by decide)) q90a q90c (g := (mkF m 163 #[.val (.int zu), .val (.int zl), .val (.int zb), .val (.ref zo), .val (.long zo1), .second, .val (.long zg1), .second, .val (.long (zf1 + (1 : Int64))), .second, .val (.long (1 : Int64)), .second, .val (.long (0 : Int64)), .second, .val (.long ((0 : Int64) + ((1 : Int32).toInt64))), .second] [(.ref zo)])) rfl (by rw [hml]; rfl) (Steps.refl _) (argsL := []) (rest := []) (lenOf own_pd91885 rfl) rfl (by show 2 * 0 + _ ≤ _; exact Nat.le_of_eq rfl) (hb hby at_163) (fun _ _ => ⟨rfl, eq89, (by decide : 1 + 0 ≤ _), (by decide : 5 + 0 ≤ _)⟩)
                dsimp only [Pt.U, Pt.locs, Pt.cells, Pt.slots] at X90 l90 y90 z90 st90 hQ90
                subst l90 y90 z90
                obtain ⟨rfl, N90q, eq90⟩ := hQ90
                have N90 := Fr.app N89 N90q
                refine own_tr st90 ?_
                show own_WP _ _ _ _ T90 (mkF m 166 #[.val (.int zu), .val (.int zl), .val (.int zb), .val (.ref zo), .val (.long zo1), .second, .val (.long zg1), .second, .val (.long (zf1 + (1 : Int64))), .second, .val (.long (1 : Int64)), .second, .val (.long (0 : Int64)), .second, .val (.long ((0 : Int64) + ((1 : Int32).toInt64))), .second] [(.long ((zf1 + (1 : Int64)) + (1 : Int64)))])
                refine own_go (fun t k => XS.lload X90.here hx rfl (hb hby at_166) rfl  k) ?_
                show own_WP _ _ _ _ T90 (mkF m 168 #[.val (.int zu), .val (.int zl), .val (.int zb), .val (.ref zo), .val (.long zo1), .second, .val (.long zg1), .second, .val (.long (zf1 + (1 : Int64))), .second, .val (.long (1 : Int64)), .second, .val (.long (0 : Int64)), .second, .val (.long ((0 : Int64) + ((1 : Int32).toInt64))), .second] [(.long (zf1 + (1 : Int64))), (.long ((zf1 + (1 : Int64)) + (1 : Int64)))])
                refine own_go (fun t k => XS.lconst X90.here hx rfl (hb hby at_168) k) ?_
                show own_WP _ _ _ _ T90 (mkF m 169 #[.val (.int zu), .val (.int zl), .val (.int zb), .val (.ref zo), .val (.long zo1), .second, .val (.long zg1), .second, .val (.long (zf1 + (1 : Int64))), .second, .val (.long (1 : Int64)), .second, .val (.long (0 : Int64)), .second, .val (.long ((0 : Int64) + ((1 : Int32).toInt64))), .second] [(.long (1 : Int64)), (.long (zf1 + (1 : Int64))), (.long ((zf1 + (1 : Int64)) + (1 : Int64)))])
                refine own_go (fun t k => XS.ladd X90.here hx rfl (hb hby at_169) rfl k) ?_
                show own_WP _ _ _ _ T90 (mkF m 170 #[.val (.int zu), .val (.int zl), .val (.int zb), .val (.ref zo), .val (.long zo1), .second, .val (.long zg1), .second, .val (.long (zf1 + (1 : Int64))), .second, .val (.long (1 : Int64)), .second, .val (.long (0 : Int64)), .second, .val (.long ((0 : Int64) + ((1 : Int32).toInt64))), .second] [(.long ((zf1 + (1 : Int64)) + (1 : Int64))), (.long ((zf1 + (1 : Int64)) + (1 : Int64)))])
                refine own_go (fun t k => XS.lcmp X90.here hx rfl (hb hby at_170) rfl k) ?_
                show own_WP _ _ _ _ T90 (mkF m 171 #[.val (.int zu), .val (.int zl), .val (.int zb), .val (.ref zo), .val (.long zo1), .second, .val (.long zg1), .second, .val (.long (zf1 + (1 : Int64))), .second, .val (.long (1 : Int64)), .second, .val (.long (0 : Int64)), .second, .val (.long ((0 : Int64) + ((1 : Int32).toInt64))), .second] [(.int (lcmpW ((zf1 + (1 : Int64)) + (1 : Int64)) ((zf1 + (1 : Int64)) + (1 : Int64))))])
                have hc171 : ((zf1 + (1 : Int64)) + (1 : Int64)) = ((zf1 + (1 : Int64)) + (1 : Int64)) := rfl
                refine own_go (fun t k => XS.ifNo X90.here hx rfl (hb hby at_171) rfl ((if0 _ _).trans (teq ((lw_eq ((zf1 + (1 : Int64)) + (1 : Int64)) ((zf1 + (1 : Int64)) + (1 : Int64))).mpr hc171)).2) k) ?_
                show own_WP _ _ _ _ T90 (mkF m 174 #[.val (.int zu), .val (.int zl), .val (.int zb), .val (.ref zo), .val (.long zo1), .second, .val (.long zg1), .second, .val (.long (zf1 + (1 : Int64))), .second, .val (.long (1 : Int64)), .second, .val (.long (0 : Int64)), .second, .val (.long ((0 : Int64) + ((1 : Int32).toInt64))), .second] [])
                refine own_go (fun t k => XS.aloadN X90.here hx rfl (hb hby at_174) rfl rfl  k) ?_
                show own_WP _ _ _ _ T90 (mkF m 175 #[.val (.int zu), .val (.int zl), .val (.int zb), .val (.ref zo), .val (.long zo1), .second, .val (.long zg1), .second, .val (.long (zf1 + (1 : Int64))), .second, .val (.long (1 : Int64)), .second, .val (.long (0 : Int64)), .second, .val (.long ((0 : Int64) + ((1 : Int32).toInt64))), .second] [(.ref zo)])
                obtain ⟨cq91, kq91, q91a, q91b, q91c⟩ := isOf hZ eq90 f70
                obtain ⟨_, _, ⟨T91, L91, k91, n91⟩, -, X91, ⟨Lc91, hQ91, l91, y91, z91⟩, st91⟩ := X90.virtualBack hx (y := (⟨"com/example/soak/soak/sim/CallCounts", "rejected", "()J"⟩ : MethodName)) (z := (⟨"com/example/soak/soak/sim/CallCounts", "rejected", "()J"⟩ : MethodName)) hown (mvT hZ (hw _ (List.mem_of_getElem? (i := 39) rfl))) (mvT hZ (hw _ (List.mem_of_getElem? (i := 40) rfl))) (notFace_of_selects (args := #[]) (mvT hZ (hw _ (List.mem_of_getElem? (i := 42) rfl)))) (mvT hZ (hw _ (List.mem_of_getElem? (i := 42) rfl))) (mvT hZ (hw _ (List.mem_of_getElem? (i := 41) rfl))) (by decide) (backOf (W := 0) (rm7 l Z a0 hw [] zo (((0 : Int64) + (1 : Int64)) + (1 : Int64)) T69.heap n0 (own_le Z0 K82) f74) hZ (hw _ (List.mem_of_getElem? (i := 43) rfl)) (hw _ (List.mem_of_getElem? (i := 2) rfl)) (by decide) (by decide)) q91a q91c (g := (mkF m 175 #[.val (.int zu), .val (.int zl), .val (.int zb), .val (.ref zo), .val (.long zo1), .second, .val (.long zg1), .second, .val (.long (zf1 + (1 : Int64))), .second, .val (.long (1 : Int64)), .second, .val (.long (0 : Int64)), .second, .val (.long ((0 : Int64) + ((1 : Int32).toInt64))), .second] [(.ref zo)])) rfl (by rw [hml]; rfl) (Steps.refl _) (argsL := []) (rest := []) (lenOf own_pd91885 rfl) rfl (by show 2 * 0 + _ ≤ _; exact Nat.le_of_eq rfl) (hb hby at_175) (fun _ _ => ⟨rfl, eq90, (by decide : 1 + 0 ≤ _), (by decide : 5 + 0 ≤ _)⟩)
                dsimp only [Pt.U, Pt.locs, Pt.cells, Pt.slots] at X91 l91 y91 z91 st91 hQ91
                subst l91 y91 z91
                obtain ⟨rfl, N91q, eq91⟩ := hQ91
                have N91 := Fr.app N90 N91q
                refine own_tr st91 ?_
                show own_WP _ _ _ _ T91 (mkF m 178 #[.val (.int zu), .val (.int zl), .val (.int zb), .val (.ref zo), .val (.long zo1), .second, .val (.long zg1), .second, .val (.long (zf1 + (1 : Int64))), .second, .val (.long (1 : Int64)), .second, .val (.long (0 : Int64)), .second, .val (.long ((0 : Int64) + ((1 : Int32).toInt64))), .second] [(.long (((0 : Int64) + (1 : Int64)) + (1 : Int64)))])
                refine own_go (fun t k => XS.lload X91.here hx rfl (hb hby at_178) rfl  k) ?_
                show own_WP _ _ _ _ T91 (mkF m 180 #[.val (.int zu), .val (.int zl), .val (.int zb), .val (.ref zo), .val (.long zo1), .second, .val (.long zg1), .second, .val (.long (zf1 + (1 : Int64))), .second, .val (.long (1 : Int64)), .second, .val (.long (0 : Int64)), .second, .val (.long ((0 : Int64) + ((1 : Int32).toInt64))), .second] [(.long (1 : Int64)), (.long (((0 : Int64) + (1 : Int64)) + (1 : Int64)))])
                refine own_go (fun t k => XS.lconst X91.here hx rfl (hb hby at_180) k) ?_
                show own_WP _ _ _ _ T91 (mkF m 181 #[.val (.int zu), .val (.int zl), .val (.int zb), .val (.ref zo), .val (.long zo1), .second, .val (.long zg1), .second, .val (.long (zf1 + (1 : Int64))), .second, .val (.long (1 : Int64)), .second, .val (.long (0 : Int64)), .second, .val (.long ((0 : Int64) + ((1 : Int32).toInt64))), .second] [(.long (1 : Int64)), (.long (1 : Int64)), (.long (((0 : Int64) + (1 : Int64)) + (1 : Int64)))])
                refine own_go (fun t k => XS.ladd X91.here hx rfl (hb hby at_181) rfl k) ?_
                show own_WP _ _ _ _ T91 (mkF m 182 #[.val (.int zu), .val (.int zl), .val (.int zb), .val (.ref zo), .val (.long zo1), .second, .val (.long zg1), .second, .val (.long (zf1 + (1 : Int64))), .second, .val (.long (1 : Int64)), .second, .val (.long (0 : Int64)), .second, .val (.long ((0 : Int64) + ((1 : Int32).toInt64))), .second] [(.long ((1 : Int64) + (1 : Int64))), (.long (((0 : Int64) + (1 : Int64)) + (1 : Int64)))])
                refine own_go (fun t k => XS.lcmp X91.here hx rfl (hb hby at_182) rfl k) ?_
                show own_WP _ _ _ _ T91 (mkF m 183 #[.val (.int zu), .val (.int zl), .val (.int zb), .val (.ref zo), .val (.long zo1), .second, .val (.long zg1), .second, .val (.long (zf1 + (1 : Int64))), .second, .val (.long (1 : Int64)), .second, .val (.long (0 : Int64)), .second, .val (.long ((0 : Int64) + ((1 : Int32).toInt64))), .second] [(.int (lcmpW (((0 : Int64) + (1 : Int64)) + (1 : Int64)) ((1 : Int64) + (1 : Int64))))])
                have hc183 : (((0 : Int64) + (1 : Int64)) + (1 : Int64)) = ((1 : Int64) + (1 : Int64)) := by
                  first | rfl | decide
                refine own_go (fun t k => XS.ifNo X91.here hx rfl (hb hby at_183) rfl ((if0 _ _).trans (teq ((lw_eq (((0 : Int64) + (1 : Int64)) + (1 : Int64)) ((1 : Int64) + (1 : Int64))).mpr hc183)).2) k) ?_
                show own_WP _ _ _ _ T91 (mkF m 186 #[.val (.int zu), .val (.int zl), .val (.int zb), .val (.ref zo), .val (.long zo1), .second, .val (.long zg1), .second, .val (.long (zf1 + (1 : Int64))), .second, .val (.long (1 : Int64)), .second, .val (.long (0 : Int64)), .second, .val (.long ((0 : Int64) + ((1 : Int32).toInt64))), .second] [])
                refine own_go (fun t k => XS.aloadN X91.here hx rfl (hb hby at_186) rfl rfl  k) ?_
                show own_WP _ _ _ _ T91 (mkF m 187 #[.val (.int zu), .val (.int zl), .val (.int zb), .val (.ref zo), .val (.long zo1), .second, .val (.long zg1), .second, .val (.long (zf1 + (1 : Int64))), .second, .val (.long (1 : Int64)), .second, .val (.long (0 : Int64)), .second, .val (.long ((0 : Int64) + ((1 : Int32).toInt64))), .second] [(.ref zo)])
                obtain ⟨cq92, kq92, q92a, q92b, q92c⟩ := isOf hZ eq91 f70
                obtain ⟨_, _, ⟨T92, L92, k92, n92⟩, -, X92, ⟨Lc92, hQ92, l92, y92, z92⟩, st92⟩ := X91.virtualBack hx (y := (⟨"com/example/soak/soak/sim/CallCounts", "serverRejected", "()J"⟩ : MethodName)) (z := (⟨"com/example/soak/soak/sim/CallCounts", "serverRejected", "()J"⟩ : MethodName)) hown (mvT hZ (hw _ (List.mem_of_getElem? (i := 44) rfl))) (mvT hZ (hw _ (List.mem_of_getElem? (i := 45) rfl))) (notFace_of_selects (args := #[]) (mvT hZ (hw _ (List.mem_of_getElem? (i := 47) rfl)))) (mvT hZ (hw _ (List.mem_of_getElem? (i := 47) rfl))) (mvT hZ (hw _ (List.mem_of_getElem? (i := 46) rfl))) (by decide) (backOf (W := 0) (rm8 l Z a0 hw [] zo (own_sr (own_sr (0 : Int64) (0 : Int32)) zb) T69.heap n0 (own_le Z0 K82) f75) hZ (hw _ (List.mem_of_getElem? (i := 48) rfl)) (hw _ (List.mem_of_getElem? (i := 2) rfl)) (by decide) (by decide)) q92a q92c (g := (mkF m 187 #[.val (.int zu), .val (.int zl), .val (.int zb), .val (.ref zo), .val (.long zo1), .second, .val (.long zg1), .second, .val (.long (zf1 + (1 : Int64))), .second, .val (.long (1 : Int64)), .second, .val (.long (0 : Int64)), .second, .val (.long ((0 : Int64) + ((1 : Int32).toInt64))), .second] [(.ref zo)])) rfl (by rw [hml]; rfl) (Steps.refl _) (argsL := []) (rest := []) (lenOf own_pd91885 rfl) rfl (by show 2 * 0 + _ ≤ _; exact Nat.le_of_eq rfl) (hb hby at_187) (fun _ _ => ⟨rfl, eq91, (by decide : 1 + 0 ≤ _), (by decide : 5 + 0 ≤ _)⟩)
                dsimp only [Pt.U, Pt.locs, Pt.cells, Pt.slots] at X92 l92 y92 z92 st92 hQ92
                subst l92 y92 z92
                obtain ⟨rfl, N92q, eq92⟩ := hQ92
                have N92 := Fr.app N91 N92q
                refine own_tr st92 ?_
                show own_WP _ _ _ _ T92 (mkF m 190 #[.val (.int zu), .val (.int zl), .val (.int zb), .val (.ref zo), .val (.long zo1), .second, .val (.long zg1), .second, .val (.long (zf1 + (1 : Int64))), .second, .val (.long (1 : Int64)), .second, .val (.long (0 : Int64)), .second, .val (.long ((0 : Int64) + ((1 : Int32).toInt64))), .second] [(.long (own_sr (own_sr (0 : Int64) (0 : Int32)) zb))])
                refine own_go (fun t k => XS.lload X92.here hx rfl (hb hby at_190) rfl  k) ?_
                show own_WP _ _ _ _ T92 (mkF m 192 #[.val (.int zu), .val (.int zl), .val (.int zb), .val (.ref zo), .val (.long zo1), .second, .val (.long zg1), .second, .val (.long (zf1 + (1 : Int64))), .second, .val (.long (1 : Int64)), .second, .val (.long (0 : Int64)), .second, .val (.long ((0 : Int64) + ((1 : Int32).toInt64))), .second] [(.long ((0 : Int64) + ((1 : Int32).toInt64))), (.long (own_sr (own_sr (0 : Int64) (0 : Int32)) zb))])
                refine own_go (fun t k => XS.lcmp X92.here hx rfl (hb hby at_192) rfl k) ?_
                show own_WP _ _ _ _ T92 (mkF m 193 #[.val (.int zu), .val (.int zl), .val (.int zb), .val (.ref zo), .val (.long zo1), .second, .val (.long zg1), .second, .val (.long (zf1 + (1 : Int64))), .second, .val (.long (1 : Int64)), .second, .val (.long (0 : Int64)), .second, .val (.long ((0 : Int64) + ((1 : Int32).toInt64))), .second] [(.int (lcmpW (own_sr (own_sr (0 : Int64) (0 : Int32)) zb) ((0 : Int64) + ((1 : Int32).toInt64))))])
                have hc193 : (own_sr (own_sr (0 : Int64) (0 : Int32)) zb) = ((0 : Int64) + ((1 : Int32).toInt64)) := by
                  simp [own_sr, hc130]
                refine own_go (fun t k => XS.ifNo X92.here hx rfl (hb hby at_193) rfl ((if0 _ _).trans (teq ((lw_eq (own_sr (own_sr (0 : Int64) (0 : Int32)) zb) ((0 : Int64) + ((1 : Int32).toInt64))).mpr hc193)).2) k) ?_
                show own_WP _ _ _ _ T92 (mkF m 196 #[.val (.int zu), .val (.int zl), .val (.int zb), .val (.ref zo), .val (.long zo1), .second, .val (.long zg1), .second, .val (.long (zf1 + (1 : Int64))), .second, .val (.long (1 : Int64)), .second, .val (.long (0 : Int64)), .second, .val (.long ((0 : Int64) + ((1 : Int32).toInt64))), .second] [])
                refine own_go (fun t k => XS.iconst X92.here hx rfl (hb hby at_196) k) ?_
                show own_WP _ _ _ _ T92 (mkF m 197 #[.val (.int zu), .val (.int zl), .val (.int zb), .val (.ref zo), .val (.long zo1), .second, .val (.long zg1), .second, .val (.long (zf1 + (1 : Int64))), .second, .val (.long (1 : Int64)), .second, .val (.long (0 : Int64)), .second, .val (.long ((0 : Int64) + ((1 : Int32).toInt64))), .second] [(.int (1 : Int32))])
                refine own_go (fun t k => XS.goto X92.here hx rfl (pc0 := 197) (pc' := 201) rfl (hb hby at_197) (by decide) (by decide) k) ?_
                show own_WP _ _ _ _ T92 (mkF m 201 #[.val (.int zu), .val (.int zl), .val (.int zb), .val (.ref zo), .val (.long zo1), .second, .val (.long zg1), .second, .val (.long (zf1 + (1 : Int64))), .second, .val (.long (1 : Int64)), .second, .val (.long (0 : Int64)), .second, .val (.long ((0 : Int64) + ((1 : Int32).toInt64))), .second] [(.int (1 : Int32))])
                refine own_retN X92 hx Bd.notSynchronized (t := .boolean) (by simp) Bd.returns (hb hby at_201) (by decide) (by decide) ?_
                rw [eq92]
                exact ⟨rfl, N92⟩
            · refine own_go (fun t k => XS.ifNo X24.here hx rfl (hb hby at_85) rfl ((if0 _ _).trans (feq hc85).1) k) ?_
              show own_WP _ _ _ _ T24 (mkF m 88 #[.val (.int zu), .val (.int zl), .val (.int zb), .val (.ref zo), .val (.long zo1), .second, .val (.long zg1), .second, .val (.long zf1), .second, .val (.long (0 : Int64)), .second, .val (.long (0 : Int64)), .second, .unset, .unset] [])
              refine own_go (fun t k => XS.iconst X24.here hx rfl (hb hby at_88) k) ?_
              show own_WP _ _ _ _ T24 (mkF m 89 #[.val (.int zu), .val (.int zl), .val (.int zb), .val (.ref zo), .val (.long zo1), .second, .val (.long zg1), .second, .val (.long zf1), .second, .val (.long (0 : Int64)), .second, .val (.long (0 : Int64)), .second, .unset, .unset] [(.int (1 : Int32))])
              refine own_go (fun t k => XS.goto X24.here hx rfl (pc0 := 89) (pc' := 93) rfl (hb hby at_89) (by decide) (by decide) k) ?_
              show own_WP _ _ _ _ T24 (mkF m 93 #[.val (.int zu), .val (.int zl), .val (.int zb), .val (.ref zo), .val (.long zo1), .second, .val (.long zg1), .second, .val (.long zf1), .second, .val (.long (0 : Int64)), .second, .val (.long (0 : Int64)), .second, .unset, .unset] [(.int (1 : Int32))])
              refine own_go (fun t k => XS.istore X24.here hx rfl (hb hby at_93) rfl (l' := #[.val (.int zu), .val (.int zl), .val (.int zb), .val (.ref zo), .val (.long zo1), .second, .val (.long zg1), .second, .val (.long zf1), .second, .val (.long (0 : Int64)), .second, .val (.long (0 : Int64)), .second, .val (.int (1 : Int32)), .unset]) rfl k) ?_
              show own_WP _ _ _ _ T24 (mkF m 95 #[.val (.int zu), .val (.int zl), .val (.int zb), .val (.ref zo), .val (.long zo1), .second, .val (.long zg1), .second, .val (.long zf1), .second, .val (.long (0 : Int64)), .second, .val (.long (0 : Int64)), .second, .val (.int (1 : Int32)), .unset] [])
              refine own_go (fun t k => XS.aloadN X24.here hx rfl (hb hby at_95) rfl rfl  k) ?_
              show own_WP _ _ _ _ T24 (mkF m 96 #[.val (.int zu), .val (.int zl), .val (.int zb), .val (.ref zo), .val (.long zo1), .second, .val (.long zg1), .second, .val (.long zf1), .second, .val (.long (0 : Int64)), .second, .val (.long (0 : Int64)), .second, .val (.int (1 : Int32)), .unset] [(.ref zo)])
              refine own_go (fun t k => XS.iload X24.here hx rfl (hb hby at_96) rfl  k) ?_
              show own_WP _ _ _ _ T24 (mkF m 98 #[.val (.int zu), .val (.int zl), .val (.int zb), .val (.ref zo), .val (.long zo1), .second, .val (.long zg1), .second, .val (.long zf1), .second, .val (.long (0 : Int64)), .second, .val (.long (0 : Int64)), .second, .val (.int (1 : Int32)), .unset] [(.int (1 : Int32)), (.ref zo)])
              obtain ⟨cq93, kq93, q93a, q93b, q93c⟩ := isOf hZ e24 f25
              obtain ⟨_, _, ⟨T93, L93, k93, n93⟩, -, X93, ⟨Lc93, hQ93, l93, y93, z93⟩, st93⟩ := X24.virtualBack hx (y := (⟨"com/example/soak/soak/sim/CallCounts", "countRejected", "(Z)V"⟩ : MethodName)) (z := (⟨"com/example/soak/soak/sim/CallCounts", "countRejected", "(Z)V"⟩ : MethodName)) hown (mvT hZ (hw _ (List.mem_of_getElem? (i := 9) rfl))) (mvT hZ (hw _ (List.mem_of_getElem? (i := 10) rfl))) (notFace_of_selects (args := #[]) (mvT hZ (hw _ (List.mem_of_getElem? (i := 12) rfl)))) (mvT hZ (hw _ (List.mem_of_getElem? (i := 12) rfl))) (mvT hZ (hw _ (List.mem_of_getElem? (i := 11) rfl))) (by decide) (backOf (W := 0) (rm3 l Z a0 hw [] zo (1 : Int32) zo1 zg1 zf1 (0 : Int64) (0 : Int64) h24 n0 (own_le Z0 K24j) f25 f29 f30 f26 f27 f28 g_zo) hZ (hw _ (List.mem_of_getElem? (i := 13) rfl)) (hw _ (List.mem_of_getElem? (i := 2) rfl)) (by decide) (by decide)) q93a q93c (g := (mkF m 98 #[.val (.int zu), .val (.int zl), .val (.int zb), .val (.ref zo), .val (.long zo1), .second, .val (.long zg1), .second, .val (.long zf1), .second, .val (.long (0 : Int64)), .second, .val (.long (0 : Int64)), .second, .val (.int (1 : Int32)), .unset] [(.int (1 : Int32)), (.ref zo)])) rfl (by rw [hml]; rfl) (Steps.refl _) (argsL := [(.int (1 : Int32))]) (rest := []) (lenOf own_pd73587 rfl) rfl (by show 2 * 0 + _ ≤ _; exact Nat.le_of_eq rfl) (hb hby at_98) (fun _ _ => ⟨rfl, e24, (by decide : 1 + 0 ≤ _), (by decide : 5 + 0 ≤ _)⟩)
              dsimp only [Pt.U, Pt.locs, Pt.cells, Pt.slots] at X93 l93 y93 z93 st93 hQ93
              subst l93 y93 z93
              obtain ⟨rfl, N93q, Kc93, f94, f95, f96, f97, f98, f99⟩ := hQ93
              have N93 := Fr.app N24 N93q
              refine own_tr st93 ?_
              have f100 : Exa Z T93.heap zo "com/example/soak/soak/sim/CallCounts" := f25.keep Kc93
              have K106 : Keep h0 T93.heap [] := K24j.trans Kc93 (fun x hx => by cases List.mem_singleton.mp hx; exact Or.inr sz_zo)
              show own_WP _ _ _ _ T93 (mkF m 101 #[.val (.int zu), .val (.int zl), .val (.int zb), .val (.ref zo), .val (.long zo1), .second, .val (.long zg1), .second, .val (.long zf1), .second, .val (.long (0 : Int64)), .second, .val (.long (0 : Int64)), .second, .val (.int (1 : Int32)), .unset] [])
              refine own_go (fun t k => XS.lload X93.here hx rfl (hb hby at_101) rfl  k) ?_
              show own_WP _ _ _ _ T93 (mkF m 103 #[.val (.int zu), .val (.int zl), .val (.int zb), .val (.ref zo), .val (.long zo1), .second, .val (.long zg1), .second, .val (.long zf1), .second, .val (.long (0 : Int64)), .second, .val (.long (0 : Int64)), .second, .val (.int (1 : Int32)), .unset] [(.long zf1)])
              refine own_go (fun t k => XS.lconst X93.here hx rfl (hb hby at_103) k) ?_
              show own_WP _ _ _ _ T93 (mkF m 104 #[.val (.int zu), .val (.int zl), .val (.int zb), .val (.ref zo), .val (.long zo1), .second, .val (.long zg1), .second, .val (.long zf1), .second, .val (.long (0 : Int64)), .second, .val (.long (0 : Int64)), .second, .val (.int (1 : Int32)), .unset] [(.long (1 : Int64)), (.long zf1)])
              refine own_go (fun t k => XS.ladd X93.here hx rfl (hb hby at_104) rfl k) ?_
              show own_WP _ _ _ _ T93 (mkF m 105 #[.val (.int zu), .val (.int zl), .val (.int zb), .val (.ref zo), .val (.long zo1), .second, .val (.long zg1), .second, .val (.long zf1), .second, .val (.long (0 : Int64)), .second, .val (.long (0 : Int64)), .second, .val (.int (1 : Int32)), .unset] [(.long (zf1 + (1 : Int64)))])
              refine own_go (fun t k => XS.lstore X93.here hx rfl (hb hby at_105) rfl (l' := #[.val (.int zu), .val (.int zl), .val (.int zb), .val (.ref zo), .val (.long zo1), .second, .val (.long zg1), .second, .val (.long (zf1 + (1 : Int64))), .second, .val (.long (0 : Int64)), .second, .val (.long (0 : Int64)), .second, .val (.int (1 : Int32)), .unset]) rfl k) ?_
              show own_WP _ _ _ _ T93 (mkF m 107 #[.val (.int zu), .val (.int zl), .val (.int zb), .val (.ref zo), .val (.long zo1), .second, .val (.long zg1), .second, .val (.long (zf1 + (1 : Int64))), .second, .val (.long (0 : Int64)), .second, .val (.long (0 : Int64)), .second, .val (.int (1 : Int32)), .unset] [])
              refine own_go (fun t k => XS.lconst X93.here hx rfl (hb hby at_107) k) ?_
              show own_WP _ _ _ _ T93 (mkF m 108 #[.val (.int zu), .val (.int zl), .val (.int zb), .val (.ref zo), .val (.long zo1), .second, .val (.long zg1), .second, .val (.long (zf1 + (1 : Int64))), .second, .val (.long (0 : Int64)), .second, .val (.long (0 : Int64)), .second, .val (.int (1 : Int32)), .unset] [(.long (1 : Int64))])
              refine own_go (fun t k => XS.lstore X93.here hx rfl (hb hby at_108) rfl (l' := #[.val (.int zu), .val (.int zl), .val (.int zb), .val (.ref zo), .val (.long zo1), .second, .val (.long zg1), .second, .val (.long (zf1 + (1 : Int64))), .second, .val (.long (1 : Int64)), .second, .val (.long (0 : Int64)), .second, .val (.int (1 : Int32)), .unset]) rfl k) ?_
              show own_WP _ _ _ _ T93 (mkF m 110 #[.val (.int zu), .val (.int zl), .val (.int zb), .val (.ref zo), .val (.long zo1), .second, .val (.long zg1), .second, .val (.long (zf1 + (1 : Int64))), .second, .val (.long (1 : Int64)), .second, .val (.long (0 : Int64)), .second, .val (.int (1 : Int32)), .unset] [])
              refine own_go (fun t k => XS.iload X93.here hx rfl (hb hby at_110) rfl  k) ?_
              show own_WP _ _ _ _ T93 (mkF m 112 #[.val (.int zu), .val (.int zl), .val (.int zb), .val (.ref zo), .val (.long zo1), .second, .val (.long zg1), .second, .val (.long (zf1 + (1 : Int64))), .second, .val (.long (1 : Int64)), .second, .val (.long (0 : Int64)), .second, .val (.int (1 : Int32)), .unset] [(.int (1 : Int32))])
              have hc112 : ¬ ((1 : Int32) = (0 : Int32)) := by decide
              refine own_go (fun t k => XS.ifNo X93.here hx rfl (hb hby at_112) rfl ((if0 _ _).trans (feq hc112).1) k) ?_
              show own_WP _ _ _ _ T93 (mkF m 115 #[.val (.int zu), .val (.int zl), .val (.int zb), .val (.ref zo), .val (.long zo1), .second, .val (.long zg1), .second, .val (.long (zf1 + (1 : Int64))), .second, .val (.long (1 : Int64)), .second, .val (.long (0 : Int64)), .second, .val (.int (1 : Int32)), .unset] [])
              refine own_go (fun t k => XS.lconst X93.here hx rfl (hb hby at_115) k) ?_
              show own_WP _ _ _ _ T93 (mkF m 116 #[.val (.int zu), .val (.int zl), .val (.int zb), .val (.ref zo), .val (.long zo1), .second, .val (.long zg1), .second, .val (.long (zf1 + (1 : Int64))), .second, .val (.long (1 : Int64)), .second, .val (.long (0 : Int64)), .second, .val (.int (1 : Int32)), .unset] [(.long (1 : Int64))])
              refine own_go (fun t k => XS.goto X93.here hx rfl (pc0 := 116) (pc' := 120) rfl (hb hby at_116) (by decide) (by decide) k) ?_
              show own_WP _ _ _ _ T93 (mkF m 120 #[.val (.int zu), .val (.int zl), .val (.int zb), .val (.ref zo), .val (.long zo1), .second, .val (.long zg1), .second, .val (.long (zf1 + (1 : Int64))), .second, .val (.long (1 : Int64)), .second, .val (.long (0 : Int64)), .second, .val (.int (1 : Int32)), .unset] [(.long (1 : Int64))])
              refine own_go (fun t k => XS.lstore X93.here hx rfl (hb hby at_120) rfl (l' := #[.val (.int zu), .val (.int zl), .val (.int zb), .val (.ref zo), .val (.long zo1), .second, .val (.long zg1), .second, .val (.long (zf1 + (1 : Int64))), .second, .val (.long (1 : Int64)), .second, .val (.long (1 : Int64)), .second, .val (.int (1 : Int32)), .unset]) rfl k) ?_
              show own_WP _ _ _ _ T93 (mkF m 122 #[.val (.int zu), .val (.int zl), .val (.int zb), .val (.ref zo), .val (.long zo1), .second, .val (.long zg1), .second, .val (.long (zf1 + (1 : Int64))), .second, .val (.long (1 : Int64)), .second, .val (.long (1 : Int64)), .second, .val (.int (1 : Int32)), .unset] [])
              refine own_go (fun t k => XS.aloadN X93.here hx rfl (hb hby at_122) rfl rfl  k) ?_
              show own_WP _ _ _ _ T93 (mkF m 123 #[.val (.int zu), .val (.int zl), .val (.int zb), .val (.ref zo), .val (.long zo1), .second, .val (.long zg1), .second, .val (.long (zf1 + (1 : Int64))), .second, .val (.long (1 : Int64)), .second, .val (.long (1 : Int64)), .second, .val (.int (1 : Int32)), .unset] [(.ref zo)])
              refine own_go (fun t k => XS.iloadN X93.here hx rfl (hb hby at_123) rfl  k) ?_
              show own_WP _ _ _ _ T93 (mkF m 124 #[.val (.int zu), .val (.int zl), .val (.int zb), .val (.ref zo), .val (.long zo1), .second, .val (.long zg1), .second, .val (.long (zf1 + (1 : Int64))), .second, .val (.long (1 : Int64)), .second, .val (.long (1 : Int64)), .second, .val (.int (1 : Int32)), .unset] [(.int zb), (.ref zo)])
              obtain ⟨cq107, kq107, q107a, q107b, q107c⟩ := isOf hZ rfl f94
              obtain ⟨_, _, ⟨T107, L107, k107, n107⟩, -, X107, ⟨Lc107, hQ107, l107, y107, z107⟩, st107⟩ := X93.virtualBack hx (y := (⟨"com/example/soak/soak/sim/CallCounts", "countRejected", "(Z)V"⟩ : MethodName)) (z := (⟨"com/example/soak/soak/sim/CallCounts", "countRejected", "(Z)V"⟩ : MethodName)) hown (mvT hZ (hw _ (List.mem_of_getElem? (i := 9) rfl))) (mvT hZ (hw _ (List.mem_of_getElem? (i := 10) rfl))) (notFace_of_selects (args := #[]) (mvT hZ (hw _ (List.mem_of_getElem? (i := 12) rfl)))) (mvT hZ (hw _ (List.mem_of_getElem? (i := 12) rfl))) (mvT hZ (hw _ (List.mem_of_getElem? (i := 11) rfl))) (by decide) (backOf (W := 0) (rm3 l Z a0 hw [] zo zb zo1 zg1 (zf1 + (1 : Int64)) ((0 : Int64) + (1 : Int64)) (own_sr (0 : Int64) (1 : Int32)) T93.heap n0 (own_le Z0 K106) f94 f95 f96 f97 f98 f99 g_zo) hZ (hw _ (List.mem_of_getElem? (i := 13) rfl)) (hw _ (List.mem_of_getElem? (i := 2) rfl)) (by decide) (by decide)) q107a q107c (g := (mkF m 124 #[.val (.int zu), .val (.int zl), .val (.int zb), .val (.ref zo), .val (.long zo1), .second, .val (.long zg1), .second, .val (.long (zf1 + (1 : Int64))), .second, .val (.long (1 : Int64)), .second, .val (.long (1 : Int64)), .second, .val (.int (1 : Int32)), .unset] [(.int zb), (.ref zo)])) rfl (by rw [hml]; rfl) (Steps.refl _) (argsL := [(.int zb)]) (rest := []) (lenOf own_pd73587 rfl) rfl (by show 2 * 0 + _ ≤ _; exact Nat.le_of_eq rfl) (hb hby at_124) (fun _ _ => ⟨rfl, rfl, (by decide : 1 + 0 ≤ _), (by decide : 5 + 0 ≤ _)⟩)
              dsimp only [Pt.U, Pt.locs, Pt.cells, Pt.slots] at X107 l107 y107 z107 st107 hQ107
              subst l107 y107 z107
              obtain ⟨rfl, N107q, Kc107, f108, f109, f110, f111, f112, f113⟩ := hQ107
              have N107 := Fr.app N93 N107q
              refine own_tr st107 ?_
              have f114 : Exa Z T107.heap zo "com/example/soak/soak/sim/CallCounts" := f94.keep Kc107
              have K120 : Keep h0 T107.heap [] := K106.trans Kc107 (fun x hx => by cases List.mem_singleton.mp hx; exact Or.inr sz_zo)
              show own_WP _ _ _ _ T107 (mkF m 127 #[.val (.int zu), .val (.int zl), .val (.int zb), .val (.ref zo), .val (.long zo1), .second, .val (.long zg1), .second, .val (.long (zf1 + (1 : Int64))), .second, .val (.long (1 : Int64)), .second, .val (.long (1 : Int64)), .second, .val (.int (1 : Int32)), .unset] [])
              refine own_go (fun t k => XS.lload X107.here hx rfl (hb hby at_127) rfl  k) ?_
              show own_WP _ _ _ _ T107 (mkF m 129 #[.val (.int zu), .val (.int zl), .val (.int zb), .val (.ref zo), .val (.long zo1), .second, .val (.long zg1), .second, .val (.long (zf1 + (1 : Int64))), .second, .val (.long (1 : Int64)), .second, .val (.long (1 : Int64)), .second, .val (.int (1 : Int32)), .unset] [(.long (1 : Int64))])
              refine own_go (fun t k => XS.iloadN X107.here hx rfl (hb hby at_129) rfl  k) ?_
              show own_WP _ _ _ _ T107 (mkF m 130 #[.val (.int zu), .val (.int zl), .val (.int zb), .val (.ref zo), .val (.long zo1), .second, .val (.long zg1), .second, .val (.long (zf1 + (1 : Int64))), .second, .val (.long (1 : Int64)), .second, .val (.long (1 : Int64)), .second, .val (.int (1 : Int32)), .unset] [(.int zb), (.long (1 : Int64))])
              by_cases hc130 : zb = (0 : Int32)
              · refine own_go (fun t k => XS.ifYes X107.here hx rfl (pc0 := 130) (pc' := 137) rfl (hb hby at_130) rfl ((if0 _ _).trans (teq hc130).1) (by decide) (by decide) k) ?_
                show own_WP _ _ _ _ T107 (mkF m 137 #[.val (.int zu), .val (.int zl), .val (.int zb), .val (.ref zo), .val (.long zo1), .second, .val (.long zg1), .second, .val (.long (zf1 + (1 : Int64))), .second, .val (.long (1 : Int64)), .second, .val (.long (1 : Int64)), .second, .val (.int (1 : Int32)), .unset] [(.long (1 : Int64))])
                refine own_go (fun t k => XS.iconst X107.here hx rfl (hb hby at_137) k) ?_
                show own_WP _ _ _ _ T107 (mkF m 138 #[.val (.int zu), .val (.int zl), .val (.int zb), .val (.ref zo), .val (.long zo1), .second, .val (.long zg1), .second, .val (.long (zf1 + (1 : Int64))), .second, .val (.long (1 : Int64)), .second, .val (.long (1 : Int64)), .second, .val (.int (1 : Int32)), .unset] [(.int (0 : Int32)), (.long (1 : Int64))])
                refine own_go (fun t k => XS.i2l X107.here hx rfl (hb hby at_138) rfl k) ?_
                show own_WP _ _ _ _ T107 (mkF m 139 #[.val (.int zu), .val (.int zl), .val (.int zb), .val (.ref zo), .val (.long zo1), .second, .val (.long zg1), .second, .val (.long (zf1 + (1 : Int64))), .second, .val (.long (1 : Int64)), .second, .val (.long (1 : Int64)), .second, .val (.int (1 : Int32)), .unset] [(.long ((0 : Int32).toInt64)), (.long (1 : Int64))])
                refine own_go (fun t k => XS.ladd X107.here hx rfl (hb hby at_139) rfl k) ?_
                show own_WP _ _ _ _ T107 (mkF m 140 #[.val (.int zu), .val (.int zl), .val (.int zb), .val (.ref zo), .val (.long zo1), .second, .val (.long zg1), .second, .val (.long (zf1 + (1 : Int64))), .second, .val (.long (1 : Int64)), .second, .val (.long (1 : Int64)), .second, .val (.int (1 : Int32)), .unset] [(.long ((1 : Int64) + ((0 : Int32).toInt64)))])
                refine own_go (fun t k => XS.lstore X107.here hx rfl (hb hby at_140) rfl (l' := #[.val (.int zu), .val (.int zl), .val (.int zb), .val (.ref zo), .val (.long zo1), .second, .val (.long zg1), .second, .val (.long (zf1 + (1 : Int64))), .second, .val (.long (1 : Int64)), .second, .val (.long (1 : Int64)), .second, .val (.long ((1 : Int64) + ((0 : Int32).toInt64))), .second]) rfl k) ?_
                show own_WP _ _ _ _ T107 (mkF m 142 #[.val (.int zu), .val (.int zl), .val (.int zb), .val (.ref zo), .val (.long zo1), .second, .val (.long zg1), .second, .val (.long (zf1 + (1 : Int64))), .second, .val (.long (1 : Int64)), .second, .val (.long (1 : Int64)), .second, .val (.long ((1 : Int64) + ((0 : Int32).toInt64))), .second] [])
                refine own_go (fun t k => XS.aloadN X107.here hx rfl (hb hby at_142) rfl rfl  k) ?_
                show own_WP _ _ _ _ T107 (mkF m 143 #[.val (.int zu), .val (.int zl), .val (.int zb), .val (.ref zo), .val (.long zo1), .second, .val (.long zg1), .second, .val (.long (zf1 + (1 : Int64))), .second, .val (.long (1 : Int64)), .second, .val (.long (1 : Int64)), .second, .val (.long ((1 : Int64) + ((0 : Int32).toInt64))), .second] [(.ref zo)])
                obtain ⟨cq121, kq121, q121a, q121b, q121c⟩ := isOf hZ rfl f108
                obtain ⟨_, _, ⟨T121, L121, k121, n121⟩, -, X121, ⟨Lc121, hQ121, l121, y121, z121⟩, st121⟩ := X107.virtualBack hx (y := (⟨"com/example/soak/soak/sim/CallCounts", "offered", "()J"⟩ : MethodName)) (z := (⟨"com/example/soak/soak/sim/CallCounts", "offered", "()J"⟩ : MethodName)) hown (mvT hZ (hw _ (List.mem_of_getElem? (i := 20) rfl))) (mvT hZ (hw _ (List.mem_of_getElem? (i := 21) rfl))) (notFace_of_selects (args := #[]) (mvT hZ (hw _ (List.mem_of_getElem? (i := 23) rfl)))) (mvT hZ (hw _ (List.mem_of_getElem? (i := 23) rfl))) (mvT hZ (hw _ (List.mem_of_getElem? (i := 22) rfl))) (by decide) (backOf (W := 0) (rm4 l Z a0 hw [] zo zo1 T107.heap n0 (own_le Z0 K120) f109) hZ (hw _ (List.mem_of_getElem? (i := 24) rfl)) (hw _ (List.mem_of_getElem? (i := 2) rfl)) (by decide) (by decide)) q121a q121c (g := (mkF m 143 #[.val (.int zu), .val (.int zl), .val (.int zb), .val (.ref zo), .val (.long zo1), .second, .val (.long zg1), .second, .val (.long (zf1 + (1 : Int64))), .second, .val (.long (1 : Int64)), .second, .val (.long (1 : Int64)), .second, .val (.long ((1 : Int64) + ((0 : Int32).toInt64))), .second] [(.ref zo)])) rfl (by rw [hml]; rfl) (Steps.refl _) (argsL := []) (rest := []) (lenOf own_pd91885 rfl) rfl (by show 2 * 0 + _ ≤ _; exact Nat.le_of_eq rfl) (hb hby at_143) (fun _ _ => ⟨rfl, rfl, (by decide : 1 + 0 ≤ _), (by decide : 5 + 0 ≤ _)⟩)
                dsimp only [Pt.U, Pt.locs, Pt.cells, Pt.slots] at X121 l121 y121 z121 st121 hQ121
                subst l121 y121 z121
                obtain ⟨rfl, N121q, eq121⟩ := hQ121
                have N121 := Fr.app N107 N121q
                refine own_tr st121 ?_
                show own_WP _ _ _ _ T121 (mkF m 146 #[.val (.int zu), .val (.int zl), .val (.int zb), .val (.ref zo), .val (.long zo1), .second, .val (.long zg1), .second, .val (.long (zf1 + (1 : Int64))), .second, .val (.long (1 : Int64)), .second, .val (.long (1 : Int64)), .second, .val (.long ((1 : Int64) + ((0 : Int32).toInt64))), .second] [(.long zo1)])
                refine own_go (fun t k => XS.lload X121.here hx rfl (hb hby at_146) rfl  k) ?_
                show own_WP _ _ _ _ T121 (mkF m 148 #[.val (.int zu), .val (.int zl), .val (.int zb), .val (.ref zo), .val (.long zo1), .second, .val (.long zg1), .second, .val (.long (zf1 + (1 : Int64))), .second, .val (.long (1 : Int64)), .second, .val (.long (1 : Int64)), .second, .val (.long ((1 : Int64) + ((0 : Int32).toInt64))), .second] [(.long zo1), (.long zo1)])
                refine own_go (fun t k => XS.lcmp X121.here hx rfl (hb hby at_148) rfl k) ?_
                show own_WP _ _ _ _ T121 (mkF m 149 #[.val (.int zu), .val (.int zl), .val (.int zb), .val (.ref zo), .val (.long zo1), .second, .val (.long zg1), .second, .val (.long (zf1 + (1 : Int64))), .second, .val (.long (1 : Int64)), .second, .val (.long (1 : Int64)), .second, .val (.long ((1 : Int64) + ((0 : Int32).toInt64))), .second] [(.int (lcmpW zo1 zo1))])
                have hc149 : zo1 = zo1 := rfl
                refine own_go (fun t k => XS.ifNo X121.here hx rfl (hb hby at_149) rfl ((if0 _ _).trans (teq ((lw_eq zo1 zo1).mpr hc149)).2) k) ?_
                show own_WP _ _ _ _ T121 (mkF m 152 #[.val (.int zu), .val (.int zl), .val (.int zb), .val (.ref zo), .val (.long zo1), .second, .val (.long zg1), .second, .val (.long (zf1 + (1 : Int64))), .second, .val (.long (1 : Int64)), .second, .val (.long (1 : Int64)), .second, .val (.long ((1 : Int64) + ((0 : Int32).toInt64))), .second] [])
                refine own_go (fun t k => XS.aloadN X121.here hx rfl (hb hby at_152) rfl rfl  k) ?_
                show own_WP _ _ _ _ T121 (mkF m 153 #[.val (.int zu), .val (.int zl), .val (.int zb), .val (.ref zo), .val (.long zo1), .second, .val (.long zg1), .second, .val (.long (zf1 + (1 : Int64))), .second, .val (.long (1 : Int64)), .second, .val (.long (1 : Int64)), .second, .val (.long ((1 : Int64) + ((0 : Int32).toInt64))), .second] [(.ref zo)])
                obtain ⟨cq122, kq122, q122a, q122b, q122c⟩ := isOf hZ eq121 f108
                obtain ⟨_, _, ⟨T122, L122, k122, n122⟩, -, X122, ⟨Lc122, hQ122, l122, y122, z122⟩, st122⟩ := X121.virtualBack hx (y := (⟨"com/example/soak/soak/sim/CallCounts", "good", "()J"⟩ : MethodName)) (z := (⟨"com/example/soak/soak/sim/CallCounts", "good", "()J"⟩ : MethodName)) hown (mvT hZ (hw _ (List.mem_of_getElem? (i := 27) rfl))) (mvT hZ (hw _ (List.mem_of_getElem? (i := 28) rfl))) (notFace_of_selects (args := #[]) (mvT hZ (hw _ (List.mem_of_getElem? (i := 30) rfl)))) (mvT hZ (hw _ (List.mem_of_getElem? (i := 30) rfl))) (mvT hZ (hw _ (List.mem_of_getElem? (i := 29) rfl))) (by decide) (backOf (W := 0) (rm5 l Z a0 hw [] zo zg1 T107.heap n0 (own_le Z0 K120) f110) hZ (hw _ (List.mem_of_getElem? (i := 31) rfl)) (hw _ (List.mem_of_getElem? (i := 2) rfl)) (by decide) (by decide)) q122a q122c (g := (mkF m 153 #[.val (.int zu), .val (.int zl), .val (.int zb), .val (.ref zo), .val (.long zo1), .second, .val (.long zg1), .second, .val (.long (zf1 + (1 : Int64))), .second, .val (.long (1 : Int64)), .second, .val (.long (1 : Int64)), .second, .val (.long ((1 : Int64) + ((0 : Int32).toInt64))), .second] [(.ref zo)])) rfl (by rw [hml]; rfl) (Steps.refl _) (argsL := []) (rest := []) (lenOf own_pd91885 rfl) rfl (by show 2 * 0 + _ ≤ _; exact Nat.le_of_eq rfl) (hb hby at_153) (fun _ _ => ⟨rfl, eq121, (by decide : 1 + 0 ≤ _), (by decide : 5 + 0 ≤ _)⟩)
                dsimp only [Pt.U, Pt.locs, Pt.cells, Pt.slots] at X122 l122 y122 z122 st122 hQ122
                subst l122 y122 z122
                obtain ⟨rfl, N122q, eq122⟩ := hQ122
                have N122 := Fr.app N121 N122q
                refine own_tr st122 ?_
                show own_WP _ _ _ _ T122 (mkF m 156 #[.val (.int zu), .val (.int zl), .val (.int zb), .val (.ref zo), .val (.long zo1), .second, .val (.long zg1), .second, .val (.long (zf1 + (1 : Int64))), .second, .val (.long (1 : Int64)), .second, .val (.long (1 : Int64)), .second, .val (.long ((1 : Int64) + ((0 : Int32).toInt64))), .second] [(.long zg1)])
                refine own_go (fun t k => XS.lload X122.here hx rfl (hb hby at_156) rfl  k) ?_
                show own_WP _ _ _ _ T122 (mkF m 158 #[.val (.int zu), .val (.int zl), .val (.int zb), .val (.ref zo), .val (.long zo1), .second, .val (.long zg1), .second, .val (.long (zf1 + (1 : Int64))), .second, .val (.long (1 : Int64)), .second, .val (.long (1 : Int64)), .second, .val (.long ((1 : Int64) + ((0 : Int32).toInt64))), .second] [(.long zg1), (.long zg1)])
                refine own_go (fun t k => XS.lcmp X122.here hx rfl (hb hby at_158) rfl k) ?_
                show own_WP _ _ _ _ T122 (mkF m 159 #[.val (.int zu), .val (.int zl), .val (.int zb), .val (.ref zo), .val (.long zo1), .second, .val (.long zg1), .second, .val (.long (zf1 + (1 : Int64))), .second, .val (.long (1 : Int64)), .second, .val (.long (1 : Int64)), .second, .val (.long ((1 : Int64) + ((0 : Int32).toInt64))), .second] [(.int (lcmpW zg1 zg1))])
                have hc159 : zg1 = zg1 := rfl
                refine own_go (fun t k => XS.ifNo X122.here hx rfl (hb hby at_159) rfl ((if0 _ _).trans (teq ((lw_eq zg1 zg1).mpr hc159)).2) k) ?_
                show own_WP _ _ _ _ T122 (mkF m 162 #[.val (.int zu), .val (.int zl), .val (.int zb), .val (.ref zo), .val (.long zo1), .second, .val (.long zg1), .second, .val (.long (zf1 + (1 : Int64))), .second, .val (.long (1 : Int64)), .second, .val (.long (1 : Int64)), .second, .val (.long ((1 : Int64) + ((0 : Int32).toInt64))), .second] [])
                refine own_go (fun t k => XS.aloadN X122.here hx rfl (hb hby at_162) rfl rfl  k) ?_
                show own_WP _ _ _ _ T122 (mkF m 163 #[.val (.int zu), .val (.int zl), .val (.int zb), .val (.ref zo), .val (.long zo1), .second, .val (.long zg1), .second, .val (.long (zf1 + (1 : Int64))), .second, .val (.long (1 : Int64)), .second, .val (.long (1 : Int64)), .second, .val (.long ((1 : Int64) + ((0 : Int32).toInt64))), .second] [(.ref zo)])
                obtain ⟨cq123, kq123, q123a, q123b, q123c⟩ := isOf hZ eq122 f108
                obtain ⟨_, _, ⟨T123, L123, k123, n123⟩, -, X123, ⟨Lc123, hQ123, l123, y123, z123⟩, st123⟩ := X122.virtualBack hx (y := (⟨"com/example/soak/soak/sim/CallCounts", "failed", "()J"⟩ : MethodName)) (z := (⟨"com/example/soak/soak/sim/CallCounts", "failed", "()J"⟩ : MethodName)) hown (mvT hZ (hw _ (List.mem_of_getElem? (i := 34) rfl))) (mvT hZ (hw _ (List.mem_of_getElem? (i := 35) rfl))) (notFace_of_selects (args := #[]) (mvT hZ (hw _ (List.mem_of_getElem? (i := 37) rfl)))) (mvT hZ (hw _ (List.mem_of_getElem? (i := 37) rfl))) (mvT hZ (hw _ (List.mem_of_getElem? (i := 36) rfl))) (by decide) (backOf (W := 0) (rm6 l Z a0 hw [] zo ((zf1 + (1 : Int64)) + (1 : Int64)) T107.heap n0 (own_le Z0 K120) f111) hZ (hw _ (List.mem_of_getElem? (i := 38) rfl)) (hw _ (List.mem_of_getElem? (i := 2) rfl)) (by decide) (by decide)) q123a q123c (g := (mkF m 163 #[.val (.int zu), .val (.int zl), .val (.int zb), .val (.ref zo), .val (.long zo1), .second, .val (.long zg1), .second, .val (.long (zf1 + (1 : Int64))), .second, .val (.long (1 : Int64)), .second, .val (.long (1 : Int64)), .second, .val (.long ((1 : Int64) + ((0 : Int32).toInt64))), .second] [(.ref zo)])) rfl (by rw [hml]; rfl) (Steps.refl _) (argsL := []) (rest := []) (lenOf own_pd91885 rfl) rfl (by show 2 * 0 + _ ≤ _; exact Nat.le_of_eq rfl) (hb hby at_163) (fun _ _ => ⟨rfl, eq122, (by decide : 1 + 0 ≤ _), (by decide : 5 + 0 ≤ _)⟩)
                dsimp only [Pt.U, Pt.locs, Pt.cells, Pt.slots] at X123 l123 y123 z123 st123 hQ123
                subst l123 y123 z123
                obtain ⟨rfl, N123q, eq123⟩ := hQ123
                have N123 := Fr.app N122 N123q
                refine own_tr st123 ?_
                show own_WP _ _ _ _ T123 (mkF m 166 #[.val (.int zu), .val (.int zl), .val (.int zb), .val (.ref zo), .val (.long zo1), .second, .val (.long zg1), .second, .val (.long (zf1 + (1 : Int64))), .second, .val (.long (1 : Int64)), .second, .val (.long (1 : Int64)), .second, .val (.long ((1 : Int64) + ((0 : Int32).toInt64))), .second] [(.long ((zf1 + (1 : Int64)) + (1 : Int64)))])
                refine own_go (fun t k => XS.lload X123.here hx rfl (hb hby at_166) rfl  k) ?_
                show own_WP _ _ _ _ T123 (mkF m 168 #[.val (.int zu), .val (.int zl), .val (.int zb), .val (.ref zo), .val (.long zo1), .second, .val (.long zg1), .second, .val (.long (zf1 + (1 : Int64))), .second, .val (.long (1 : Int64)), .second, .val (.long (1 : Int64)), .second, .val (.long ((1 : Int64) + ((0 : Int32).toInt64))), .second] [(.long (zf1 + (1 : Int64))), (.long ((zf1 + (1 : Int64)) + (1 : Int64)))])
                refine own_go (fun t k => XS.lconst X123.here hx rfl (hb hby at_168) k) ?_
                show own_WP _ _ _ _ T123 (mkF m 169 #[.val (.int zu), .val (.int zl), .val (.int zb), .val (.ref zo), .val (.long zo1), .second, .val (.long zg1), .second, .val (.long (zf1 + (1 : Int64))), .second, .val (.long (1 : Int64)), .second, .val (.long (1 : Int64)), .second, .val (.long ((1 : Int64) + ((0 : Int32).toInt64))), .second] [(.long (1 : Int64)), (.long (zf1 + (1 : Int64))), (.long ((zf1 + (1 : Int64)) + (1 : Int64)))])
                refine own_go (fun t k => XS.ladd X123.here hx rfl (hb hby at_169) rfl k) ?_
                show own_WP _ _ _ _ T123 (mkF m 170 #[.val (.int zu), .val (.int zl), .val (.int zb), .val (.ref zo), .val (.long zo1), .second, .val (.long zg1), .second, .val (.long (zf1 + (1 : Int64))), .second, .val (.long (1 : Int64)), .second, .val (.long (1 : Int64)), .second, .val (.long ((1 : Int64) + ((0 : Int32).toInt64))), .second] [(.long ((zf1 + (1 : Int64)) + (1 : Int64))), (.long ((zf1 + (1 : Int64)) + (1 : Int64)))])
                refine own_go (fun t k => XS.lcmp X123.here hx rfl (hb hby at_170) rfl k) ?_
                show own_WP _ _ _ _ T123 (mkF m 171 #[.val (.int zu), .val (.int zl), .val (.int zb), .val (.ref zo), .val (.long zo1), .second, .val (.long zg1), .second, .val (.long (zf1 + (1 : Int64))), .second, .val (.long (1 : Int64)), .second, .val (.long (1 : Int64)), .second, .val (.long ((1 : Int64) + ((0 : Int32).toInt64))), .second] [(.int (lcmpW ((zf1 + (1 : Int64)) + (1 : Int64)) ((zf1 + (1 : Int64)) + (1 : Int64))))])
                have hc171 : ((zf1 + (1 : Int64)) + (1 : Int64)) = ((zf1 + (1 : Int64)) + (1 : Int64)) := rfl
                refine own_go (fun t k => XS.ifNo X123.here hx rfl (hb hby at_171) rfl ((if0 _ _).trans (teq ((lw_eq ((zf1 + (1 : Int64)) + (1 : Int64)) ((zf1 + (1 : Int64)) + (1 : Int64))).mpr hc171)).2) k) ?_
                show own_WP _ _ _ _ T123 (mkF m 174 #[.val (.int zu), .val (.int zl), .val (.int zb), .val (.ref zo), .val (.long zo1), .second, .val (.long zg1), .second, .val (.long (zf1 + (1 : Int64))), .second, .val (.long (1 : Int64)), .second, .val (.long (1 : Int64)), .second, .val (.long ((1 : Int64) + ((0 : Int32).toInt64))), .second] [])
                refine own_go (fun t k => XS.aloadN X123.here hx rfl (hb hby at_174) rfl rfl  k) ?_
                show own_WP _ _ _ _ T123 (mkF m 175 #[.val (.int zu), .val (.int zl), .val (.int zb), .val (.ref zo), .val (.long zo1), .second, .val (.long zg1), .second, .val (.long (zf1 + (1 : Int64))), .second, .val (.long (1 : Int64)), .second, .val (.long (1 : Int64)), .second, .val (.long ((1 : Int64) + ((0 : Int32).toInt64))), .second] [(.ref zo)])
                obtain ⟨cq124, kq124, q124a, q124b, q124c⟩ := isOf hZ eq123 f108
                obtain ⟨_, _, ⟨T124, L124, k124, n124⟩, -, X124, ⟨Lc124, hQ124, l124, y124, z124⟩, st124⟩ := X123.virtualBack hx (y := (⟨"com/example/soak/soak/sim/CallCounts", "rejected", "()J"⟩ : MethodName)) (z := (⟨"com/example/soak/soak/sim/CallCounts", "rejected", "()J"⟩ : MethodName)) hown (mvT hZ (hw _ (List.mem_of_getElem? (i := 39) rfl))) (mvT hZ (hw _ (List.mem_of_getElem? (i := 40) rfl))) (notFace_of_selects (args := #[]) (mvT hZ (hw _ (List.mem_of_getElem? (i := 42) rfl)))) (mvT hZ (hw _ (List.mem_of_getElem? (i := 42) rfl))) (mvT hZ (hw _ (List.mem_of_getElem? (i := 41) rfl))) (by decide) (backOf (W := 0) (rm7 l Z a0 hw [] zo (((0 : Int64) + (1 : Int64)) + (1 : Int64)) T107.heap n0 (own_le Z0 K120) f112) hZ (hw _ (List.mem_of_getElem? (i := 43) rfl)) (hw _ (List.mem_of_getElem? (i := 2) rfl)) (by decide) (by decide)) q124a q124c (g := (mkF m 175 #[.val (.int zu), .val (.int zl), .val (.int zb), .val (.ref zo), .val (.long zo1), .second, .val (.long zg1), .second, .val (.long (zf1 + (1 : Int64))), .second, .val (.long (1 : Int64)), .second, .val (.long (1 : Int64)), .second, .val (.long ((1 : Int64) + ((0 : Int32).toInt64))), .second] [(.ref zo)])) rfl (by rw [hml]; rfl) (Steps.refl _) (argsL := []) (rest := []) (lenOf own_pd91885 rfl) rfl (by show 2 * 0 + _ ≤ _; exact Nat.le_of_eq rfl) (hb hby at_175) (fun _ _ => ⟨rfl, eq123, (by decide : 1 + 0 ≤ _), (by decide : 5 + 0 ≤ _)⟩)
                dsimp only [Pt.U, Pt.locs, Pt.cells, Pt.slots] at X124 l124 y124 z124 st124 hQ124
                subst l124 y124 z124
                obtain ⟨rfl, N124q, eq124⟩ := hQ124
                have N124 := Fr.app N123 N124q
                refine own_tr st124 ?_
                show own_WP _ _ _ _ T124 (mkF m 178 #[.val (.int zu), .val (.int zl), .val (.int zb), .val (.ref zo), .val (.long zo1), .second, .val (.long zg1), .second, .val (.long (zf1 + (1 : Int64))), .second, .val (.long (1 : Int64)), .second, .val (.long (1 : Int64)), .second, .val (.long ((1 : Int64) + ((0 : Int32).toInt64))), .second] [(.long (((0 : Int64) + (1 : Int64)) + (1 : Int64)))])
                refine own_go (fun t k => XS.lload X124.here hx rfl (hb hby at_178) rfl  k) ?_
                show own_WP _ _ _ _ T124 (mkF m 180 #[.val (.int zu), .val (.int zl), .val (.int zb), .val (.ref zo), .val (.long zo1), .second, .val (.long zg1), .second, .val (.long (zf1 + (1 : Int64))), .second, .val (.long (1 : Int64)), .second, .val (.long (1 : Int64)), .second, .val (.long ((1 : Int64) + ((0 : Int32).toInt64))), .second] [(.long (1 : Int64)), (.long (((0 : Int64) + (1 : Int64)) + (1 : Int64)))])
                refine own_go (fun t k => XS.lconst X124.here hx rfl (hb hby at_180) k) ?_
                show own_WP _ _ _ _ T124 (mkF m 181 #[.val (.int zu), .val (.int zl), .val (.int zb), .val (.ref zo), .val (.long zo1), .second, .val (.long zg1), .second, .val (.long (zf1 + (1 : Int64))), .second, .val (.long (1 : Int64)), .second, .val (.long (1 : Int64)), .second, .val (.long ((1 : Int64) + ((0 : Int32).toInt64))), .second] [(.long (1 : Int64)), (.long (1 : Int64)), (.long (((0 : Int64) + (1 : Int64)) + (1 : Int64)))])
                refine own_go (fun t k => XS.ladd X124.here hx rfl (hb hby at_181) rfl k) ?_
                show own_WP _ _ _ _ T124 (mkF m 182 #[.val (.int zu), .val (.int zl), .val (.int zb), .val (.ref zo), .val (.long zo1), .second, .val (.long zg1), .second, .val (.long (zf1 + (1 : Int64))), .second, .val (.long (1 : Int64)), .second, .val (.long (1 : Int64)), .second, .val (.long ((1 : Int64) + ((0 : Int32).toInt64))), .second] [(.long ((1 : Int64) + (1 : Int64))), (.long (((0 : Int64) + (1 : Int64)) + (1 : Int64)))])
                refine own_go (fun t k => XS.lcmp X124.here hx rfl (hb hby at_182) rfl k) ?_
                show own_WP _ _ _ _ T124 (mkF m 183 #[.val (.int zu), .val (.int zl), .val (.int zb), .val (.ref zo), .val (.long zo1), .second, .val (.long zg1), .second, .val (.long (zf1 + (1 : Int64))), .second, .val (.long (1 : Int64)), .second, .val (.long (1 : Int64)), .second, .val (.long ((1 : Int64) + ((0 : Int32).toInt64))), .second] [(.int (lcmpW (((0 : Int64) + (1 : Int64)) + (1 : Int64)) ((1 : Int64) + (1 : Int64))))])
                have hc183 : (((0 : Int64) + (1 : Int64)) + (1 : Int64)) = ((1 : Int64) + (1 : Int64)) := by
                  first | rfl | decide
                refine own_go (fun t k => XS.ifNo X124.here hx rfl (hb hby at_183) rfl ((if0 _ _).trans (teq ((lw_eq (((0 : Int64) + (1 : Int64)) + (1 : Int64)) ((1 : Int64) + (1 : Int64))).mpr hc183)).2) k) ?_
                show own_WP _ _ _ _ T124 (mkF m 186 #[.val (.int zu), .val (.int zl), .val (.int zb), .val (.ref zo), .val (.long zo1), .second, .val (.long zg1), .second, .val (.long (zf1 + (1 : Int64))), .second, .val (.long (1 : Int64)), .second, .val (.long (1 : Int64)), .second, .val (.long ((1 : Int64) + ((0 : Int32).toInt64))), .second] [])
                refine own_go (fun t k => XS.aloadN X124.here hx rfl (hb hby at_186) rfl rfl  k) ?_
                show own_WP _ _ _ _ T124 (mkF m 187 #[.val (.int zu), .val (.int zl), .val (.int zb), .val (.ref zo), .val (.long zo1), .second, .val (.long zg1), .second, .val (.long (zf1 + (1 : Int64))), .second, .val (.long (1 : Int64)), .second, .val (.long (1 : Int64)), .second, .val (.long ((1 : Int64) + ((0 : Int32).toInt64))), .second] [(.ref zo)])
                obtain ⟨cq125, kq125, q125a, q125b, q125c⟩ := isOf hZ eq124 f108
                obtain ⟨_, _, ⟨T125, L125, k125, n125⟩, -, X125, ⟨Lc125, hQ125, l125, y125, z125⟩, st125⟩ := X124.virtualBack hx (y := (⟨"com/example/soak/soak/sim/CallCounts", "serverRejected", "()J"⟩ : MethodName)) (z := (⟨"com/example/soak/soak/sim/CallCounts", "serverRejected", "()J"⟩ : MethodName)) hown (mvT hZ (hw _ (List.mem_of_getElem? (i := 44) rfl))) (mvT hZ (hw _ (List.mem_of_getElem? (i := 45) rfl))) (notFace_of_selects (args := #[]) (mvT hZ (hw _ (List.mem_of_getElem? (i := 47) rfl)))) (mvT hZ (hw _ (List.mem_of_getElem? (i := 47) rfl))) (mvT hZ (hw _ (List.mem_of_getElem? (i := 46) rfl))) (by decide) (backOf (W := 0) (rm8 l Z a0 hw [] zo (own_sr (own_sr (0 : Int64) (1 : Int32)) zb) T107.heap n0 (own_le Z0 K120) f113) hZ (hw _ (List.mem_of_getElem? (i := 48) rfl)) (hw _ (List.mem_of_getElem? (i := 2) rfl)) (by decide) (by decide)) q125a q125c (g := (mkF m 187 #[.val (.int zu), .val (.int zl), .val (.int zb), .val (.ref zo), .val (.long zo1), .second, .val (.long zg1), .second, .val (.long (zf1 + (1 : Int64))), .second, .val (.long (1 : Int64)), .second, .val (.long (1 : Int64)), .second, .val (.long ((1 : Int64) + ((0 : Int32).toInt64))), .second] [(.ref zo)])) rfl (by rw [hml]; rfl) (Steps.refl _) (argsL := []) (rest := []) (lenOf own_pd91885 rfl) rfl (by show 2 * 0 + _ ≤ _; exact Nat.le_of_eq rfl) (hb hby at_187) (fun _ _ => ⟨rfl, eq124, (by decide : 1 + 0 ≤ _), (by decide : 5 + 0 ≤ _)⟩)
                dsimp only [Pt.U, Pt.locs, Pt.cells, Pt.slots] at X125 l125 y125 z125 st125 hQ125
                subst l125 y125 z125
                obtain ⟨rfl, N125q, eq125⟩ := hQ125
                have N125 := Fr.app N124 N125q
                refine own_tr st125 ?_
                show own_WP _ _ _ _ T125 (mkF m 190 #[.val (.int zu), .val (.int zl), .val (.int zb), .val (.ref zo), .val (.long zo1), .second, .val (.long zg1), .second, .val (.long (zf1 + (1 : Int64))), .second, .val (.long (1 : Int64)), .second, .val (.long (1 : Int64)), .second, .val (.long ((1 : Int64) + ((0 : Int32).toInt64))), .second] [(.long (own_sr (own_sr (0 : Int64) (1 : Int32)) zb))])
                refine own_go (fun t k => XS.lload X125.here hx rfl (hb hby at_190) rfl  k) ?_
                show own_WP _ _ _ _ T125 (mkF m 192 #[.val (.int zu), .val (.int zl), .val (.int zb), .val (.ref zo), .val (.long zo1), .second, .val (.long zg1), .second, .val (.long (zf1 + (1 : Int64))), .second, .val (.long (1 : Int64)), .second, .val (.long (1 : Int64)), .second, .val (.long ((1 : Int64) + ((0 : Int32).toInt64))), .second] [(.long ((1 : Int64) + ((0 : Int32).toInt64))), (.long (own_sr (own_sr (0 : Int64) (1 : Int32)) zb))])
                refine own_go (fun t k => XS.lcmp X125.here hx rfl (hb hby at_192) rfl k) ?_
                show own_WP _ _ _ _ T125 (mkF m 193 #[.val (.int zu), .val (.int zl), .val (.int zb), .val (.ref zo), .val (.long zo1), .second, .val (.long zg1), .second, .val (.long (zf1 + (1 : Int64))), .second, .val (.long (1 : Int64)), .second, .val (.long (1 : Int64)), .second, .val (.long ((1 : Int64) + ((0 : Int32).toInt64))), .second] [(.int (lcmpW (own_sr (own_sr (0 : Int64) (1 : Int32)) zb) ((1 : Int64) + ((0 : Int32).toInt64))))])
                have hc193 : (own_sr (own_sr (0 : Int64) (1 : Int32)) zb) = ((1 : Int64) + ((0 : Int32).toInt64)) := by
                  simp [own_sr, hc130]
                refine own_go (fun t k => XS.ifNo X125.here hx rfl (hb hby at_193) rfl ((if0 _ _).trans (teq ((lw_eq (own_sr (own_sr (0 : Int64) (1 : Int32)) zb) ((1 : Int64) + ((0 : Int32).toInt64))).mpr hc193)).2) k) ?_
                show own_WP _ _ _ _ T125 (mkF m 196 #[.val (.int zu), .val (.int zl), .val (.int zb), .val (.ref zo), .val (.long zo1), .second, .val (.long zg1), .second, .val (.long (zf1 + (1 : Int64))), .second, .val (.long (1 : Int64)), .second, .val (.long (1 : Int64)), .second, .val (.long ((1 : Int64) + ((0 : Int32).toInt64))), .second] [])
                refine own_go (fun t k => XS.iconst X125.here hx rfl (hb hby at_196) k) ?_
                show own_WP _ _ _ _ T125 (mkF m 197 #[.val (.int zu), .val (.int zl), .val (.int zb), .val (.ref zo), .val (.long zo1), .second, .val (.long zg1), .second, .val (.long (zf1 + (1 : Int64))), .second, .val (.long (1 : Int64)), .second, .val (.long (1 : Int64)), .second, .val (.long ((1 : Int64) + ((0 : Int32).toInt64))), .second] [(.int (1 : Int32))])
                refine own_go (fun t k => XS.goto X125.here hx rfl (pc0 := 197) (pc' := 201) rfl (hb hby at_197) (by decide) (by decide) k) ?_
                show own_WP _ _ _ _ T125 (mkF m 201 #[.val (.int zu), .val (.int zl), .val (.int zb), .val (.ref zo), .val (.long zo1), .second, .val (.long zg1), .second, .val (.long (zf1 + (1 : Int64))), .second, .val (.long (1 : Int64)), .second, .val (.long (1 : Int64)), .second, .val (.long ((1 : Int64) + ((0 : Int32).toInt64))), .second] [(.int (1 : Int32))])
                refine own_retN X125 hx Bd.notSynchronized (t := .boolean) (by simp) Bd.returns (hb hby at_201) (by decide) (by decide) ?_
                rw [eq125]
                exact ⟨rfl, N125⟩
              · refine own_go (fun t k => XS.ifNo X107.here hx rfl (hb hby at_130) rfl ((if0 _ _).trans (feq hc130).1) k) ?_
                show own_WP _ _ _ _ T107 (mkF m 133 #[.val (.int zu), .val (.int zl), .val (.int zb), .val (.ref zo), .val (.long zo1), .second, .val (.long zg1), .second, .val (.long (zf1 + (1 : Int64))), .second, .val (.long (1 : Int64)), .second, .val (.long (1 : Int64)), .second, .val (.int (1 : Int32)), .unset] [(.long (1 : Int64))])
                refine own_go (fun t k => XS.iconst X107.here hx rfl (hb hby at_133) k) ?_
                show own_WP _ _ _ _ T107 (mkF m 134 #[.val (.int zu), .val (.int zl), .val (.int zb), .val (.ref zo), .val (.long zo1), .second, .val (.long zg1), .second, .val (.long (zf1 + (1 : Int64))), .second, .val (.long (1 : Int64)), .second, .val (.long (1 : Int64)), .second, .val (.int (1 : Int32)), .unset] [(.int (1 : Int32)), (.long (1 : Int64))])
                refine own_go (fun t k => XS.goto X107.here hx rfl (pc0 := 134) (pc' := 138) rfl (hb hby at_134) (by decide) (by decide) k) ?_
                show own_WP _ _ _ _ T107 (mkF m 138 #[.val (.int zu), .val (.int zl), .val (.int zb), .val (.ref zo), .val (.long zo1), .second, .val (.long zg1), .second, .val (.long (zf1 + (1 : Int64))), .second, .val (.long (1 : Int64)), .second, .val (.long (1 : Int64)), .second, .val (.int (1 : Int32)), .unset] [(.int (1 : Int32)), (.long (1 : Int64))])
                refine own_go (fun t k => XS.i2l X107.here hx rfl (hb hby at_138) rfl k) ?_
                show own_WP _ _ _ _ T107 (mkF m 139 #[.val (.int zu), .val (.int zl), .val (.int zb), .val (.ref zo), .val (.long zo1), .second, .val (.long zg1), .second, .val (.long (zf1 + (1 : Int64))), .second, .val (.long (1 : Int64)), .second, .val (.long (1 : Int64)), .second, .val (.int (1 : Int32)), .unset] [(.long ((1 : Int32).toInt64)), (.long (1 : Int64))])
                refine own_go (fun t k => XS.ladd X107.here hx rfl (hb hby at_139) rfl k) ?_
                show own_WP _ _ _ _ T107 (mkF m 140 #[.val (.int zu), .val (.int zl), .val (.int zb), .val (.ref zo), .val (.long zo1), .second, .val (.long zg1), .second, .val (.long (zf1 + (1 : Int64))), .second, .val (.long (1 : Int64)), .second, .val (.long (1 : Int64)), .second, .val (.int (1 : Int32)), .unset] [(.long ((1 : Int64) + ((1 : Int32).toInt64)))])
                refine own_go (fun t k => XS.lstore X107.here hx rfl (hb hby at_140) rfl (l' := #[.val (.int zu), .val (.int zl), .val (.int zb), .val (.ref zo), .val (.long zo1), .second, .val (.long zg1), .second, .val (.long (zf1 + (1 : Int64))), .second, .val (.long (1 : Int64)), .second, .val (.long (1 : Int64)), .second, .val (.long ((1 : Int64) + ((1 : Int32).toInt64))), .second]) rfl k) ?_
                show own_WP _ _ _ _ T107 (mkF m 142 #[.val (.int zu), .val (.int zl), .val (.int zb), .val (.ref zo), .val (.long zo1), .second, .val (.long zg1), .second, .val (.long (zf1 + (1 : Int64))), .second, .val (.long (1 : Int64)), .second, .val (.long (1 : Int64)), .second, .val (.long ((1 : Int64) + ((1 : Int32).toInt64))), .second] [])
                refine own_go (fun t k => XS.aloadN X107.here hx rfl (hb hby at_142) rfl rfl  k) ?_
                show own_WP _ _ _ _ T107 (mkF m 143 #[.val (.int zu), .val (.int zl), .val (.int zb), .val (.ref zo), .val (.long zo1), .second, .val (.long zg1), .second, .val (.long (zf1 + (1 : Int64))), .second, .val (.long (1 : Int64)), .second, .val (.long (1 : Int64)), .second, .val (.long ((1 : Int64) + ((1 : Int32).toInt64))), .second] [(.ref zo)])
                obtain ⟨cq126, kq126, q126a, q126b, q126c⟩ := isOf hZ rfl f108
                obtain ⟨_, _, ⟨T126, L126, k126, n126⟩, -, X126, ⟨Lc126, hQ126, l126, y126, z126⟩, st126⟩ := X107.virtualBack hx (y := (⟨"com/example/soak/soak/sim/CallCounts", "offered", "()J"⟩ : MethodName)) (z := (⟨"com/example/soak/soak/sim/CallCounts", "offered", "()J"⟩ : MethodName)) hown (mvT hZ (hw _ (List.mem_of_getElem? (i := 20) rfl))) (mvT hZ (hw _ (List.mem_of_getElem? (i := 21) rfl))) (notFace_of_selects (args := #[]) (mvT hZ (hw _ (List.mem_of_getElem? (i := 23) rfl)))) (mvT hZ (hw _ (List.mem_of_getElem? (i := 23) rfl))) (mvT hZ (hw _ (List.mem_of_getElem? (i := 22) rfl))) (by decide) (backOf (W := 0) (rm4 l Z a0 hw [] zo zo1 T107.heap n0 (own_le Z0 K120) f109) hZ (hw _ (List.mem_of_getElem? (i := 24) rfl)) (hw _ (List.mem_of_getElem? (i := 2) rfl)) (by decide) (by decide)) q126a q126c (g := (mkF m 143 #[.val (.int zu), .val (.int zl), .val (.int zb), .val (.ref zo), .val (.long zo1), .second, .val (.long zg1), .second, .val (.long (zf1 + (1 : Int64))), .second, .val (.long (1 : Int64)), .second, .val (.long (1 : Int64)), .second, .val (.long ((1 : Int64) + ((1 : Int32).toInt64))), .second] [(.ref zo)])) rfl (by rw [hml]; rfl) (Steps.refl _) (argsL := []) (rest := []) (lenOf own_pd91885 rfl) rfl (by show 2 * 0 + _ ≤ _; exact Nat.le_of_eq rfl) (hb hby at_143) (fun _ _ => ⟨rfl, rfl, (by decide : 1 + 0 ≤ _), (by decide : 5 + 0 ≤ _)⟩)
                dsimp only [Pt.U, Pt.locs, Pt.cells, Pt.slots] at X126 l126 y126 z126 st126 hQ126
                subst l126 y126 z126
                obtain ⟨rfl, N126q, eq126⟩ := hQ126
                have N126 := Fr.app N107 N126q
                refine own_tr st126 ?_
                show own_WP _ _ _ _ T126 (mkF m 146 #[.val (.int zu), .val (.int zl), .val (.int zb), .val (.ref zo), .val (.long zo1), .second, .val (.long zg1), .second, .val (.long (zf1 + (1 : Int64))), .second, .val (.long (1 : Int64)), .second, .val (.long (1 : Int64)), .second, .val (.long ((1 : Int64) + ((1 : Int32).toInt64))), .second] [(.long zo1)])
                refine own_go (fun t k => XS.lload X126.here hx rfl (hb hby at_146) rfl  k) ?_
                show own_WP _ _ _ _ T126 (mkF m 148 #[.val (.int zu), .val (.int zl), .val (.int zb), .val (.ref zo), .val (.long zo1), .second, .val (.long zg1), .second, .val (.long (zf1 + (1 : Int64))), .second, .val (.long (1 : Int64)), .second, .val (.long (1 : Int64)), .second, .val (.long ((1 : Int64) + ((1 : Int32).toInt64))), .second] [(.long zo1), (.long zo1)])
                refine own_go (fun t k => XS.lcmp X126.here hx rfl (hb hby at_148) rfl k) ?_
                show own_WP _ _ _ _ T126 (mkF m 149 #[.val (.int zu), .val (.int zl), .val (.int zb), .val (.ref zo), .val (.long zo1), .second, .val (.long zg1), .second, .val (.long (zf1 + (1 : Int64))), .second, .val (.long (1 : Int64)), .second, .val (.long (1 : Int64)), .second, .val (.long ((1 : Int64) + ((1 : Int32).toInt64))), .second] [(.int (lcmpW zo1 zo1))])
                have hc149 : zo1 = zo1 := rfl
                refine own_go (fun t k => XS.ifNo X126.here hx rfl (hb hby at_149) rfl ((if0 _ _).trans (teq ((lw_eq zo1 zo1).mpr hc149)).2) k) ?_
                show own_WP _ _ _ _ T126 (mkF m 152 #[.val (.int zu), .val (.int zl), .val (.int zb), .val (.ref zo), .val (.long zo1), .second, .val (.long zg1), .second, .val (.long (zf1 + (1 : Int64))), .second, .val (.long (1 : Int64)), .second, .val (.long (1 : Int64)), .second, .val (.long ((1 : Int64) + ((1 : Int32).toInt64))), .second] [])
                refine own_go (fun t k => XS.aloadN X126.here hx rfl (hb hby at_152) rfl rfl  k) ?_
                show own_WP _ _ _ _ T126 (mkF m 153 #[.val (.int zu), .val (.int zl), .val (.int zb), .val (.ref zo), .val (.long zo1), .second, .val (.long zg1), .second, .val (.long (zf1 + (1 : Int64))), .second, .val (.long (1 : Int64)), .second, .val (.long (1 : Int64)), .second, .val (.long ((1 : Int64) + ((1 : Int32).toInt64))), .second] [(.ref zo)])
                obtain ⟨cq127, kq127, q127a, q127b, q127c⟩ := isOf hZ eq126 f108
                obtain ⟨_, _, ⟨T127, L127, k127, n127⟩, -, X127, ⟨Lc127, hQ127, l127, y127, z127⟩, st127⟩ := X126.virtualBack hx (y := (⟨"com/example/soak/soak/sim/CallCounts", "good", "()J"⟩ : MethodName)) (z := (⟨"com/example/soak/soak/sim/CallCounts", "good", "()J"⟩ : MethodName)) hown (mvT hZ (hw _ (List.mem_of_getElem? (i := 27) rfl))) (mvT hZ (hw _ (List.mem_of_getElem? (i := 28) rfl))) (notFace_of_selects (args := #[]) (mvT hZ (hw _ (List.mem_of_getElem? (i := 30) rfl)))) (mvT hZ (hw _ (List.mem_of_getElem? (i := 30) rfl))) (mvT hZ (hw _ (List.mem_of_getElem? (i := 29) rfl))) (by decide) (backOf (W := 0) (rm5 l Z a0 hw [] zo zg1 T107.heap n0 (own_le Z0 K120) f110) hZ (hw _ (List.mem_of_getElem? (i := 31) rfl)) (hw _ (List.mem_of_getElem? (i := 2) rfl)) (by decide) (by decide)) q127a q127c (g := (mkF m 153 #[.val (.int zu), .val (.int zl), .val (.int zb), .val (.ref zo), .val (.long zo1), .second, .val (.long zg1), .second, .val (.long (zf1 + (1 : Int64))), .second, .val (.long (1 : Int64)), .second, .val (.long (1 : Int64)), .second, .val (.long ((1 : Int64) + ((1 : Int32).toInt64))), .second] [(.ref zo)])) rfl (by rw [hml]; rfl) (Steps.refl _) (argsL := []) (rest := []) (lenOf own_pd91885 rfl) rfl (by show 2 * 0 + _ ≤ _; exact Nat.le_of_eq rfl) (hb hby at_153) (fun _ _ => ⟨rfl, eq126, (by decide : 1 + 0 ≤ _), (by decide : 5 + 0 ≤ _)⟩)
                dsimp only [Pt.U, Pt.locs, Pt.cells, Pt.slots] at X127 l127 y127 z127 st127 hQ127
                subst l127 y127 z127
                obtain ⟨rfl, N127q, eq127⟩ := hQ127
                have N127 := Fr.app N126 N127q
                refine own_tr st127 ?_
                show own_WP _ _ _ _ T127 (mkF m 156 #[.val (.int zu), .val (.int zl), .val (.int zb), .val (.ref zo), .val (.long zo1), .second, .val (.long zg1), .second, .val (.long (zf1 + (1 : Int64))), .second, .val (.long (1 : Int64)), .second, .val (.long (1 : Int64)), .second, .val (.long ((1 : Int64) + ((1 : Int32).toInt64))), .second] [(.long zg1)])
                refine own_go (fun t k => XS.lload X127.here hx rfl (hb hby at_156) rfl  k) ?_
                show own_WP _ _ _ _ T127 (mkF m 158 #[.val (.int zu), .val (.int zl), .val (.int zb), .val (.ref zo), .val (.long zo1), .second, .val (.long zg1), .second, .val (.long (zf1 + (1 : Int64))), .second, .val (.long (1 : Int64)), .second, .val (.long (1 : Int64)), .second, .val (.long ((1 : Int64) + ((1 : Int32).toInt64))), .second] [(.long zg1), (.long zg1)])
                refine own_go (fun t k => XS.lcmp X127.here hx rfl (hb hby at_158) rfl k) ?_
                show own_WP _ _ _ _ T127 (mkF m 159 #[.val (.int zu), .val (.int zl), .val (.int zb), .val (.ref zo), .val (.long zo1), .second, .val (.long zg1), .second, .val (.long (zf1 + (1 : Int64))), .second, .val (.long (1 : Int64)), .second, .val (.long (1 : Int64)), .second, .val (.long ((1 : Int64) + ((1 : Int32).toInt64))), .second] [(.int (lcmpW zg1 zg1))])
                have hc159 : zg1 = zg1 := rfl
                refine own_go (fun t k => XS.ifNo X127.here hx rfl (hb hby at_159) rfl ((if0 _ _).trans (teq ((lw_eq zg1 zg1).mpr hc159)).2) k) ?_
                show own_WP _ _ _ _ T127 (mkF m 162 #[.val (.int zu), .val (.int zl), .val (.int zb), .val (.ref zo), .val (.long zo1), .second, .val (.long zg1), .second, .val (.long (zf1 + (1 : Int64))), .second, .val (.long (1 : Int64)), .second, .val (.long (1 : Int64)), .second, .val (.long ((1 : Int64) + ((1 : Int32).toInt64))), .second] [])
                refine own_go (fun t k => XS.aloadN X127.here hx rfl (hb hby at_162) rfl rfl  k) ?_
                show own_WP _ _ _ _ T127 (mkF m 163 #[.val (.int zu), .val (.int zl), .val (.int zb), .val (.ref zo), .val (.long zo1), .second, .val (.long zg1), .second, .val (.long (zf1 + (1 : Int64))), .second, .val (.long (1 : Int64)), .second, .val (.long (1 : Int64)), .second, .val (.long ((1 : Int64) + ((1 : Int32).toInt64))), .second] [(.ref zo)])
                obtain ⟨cq128, kq128, q128a, q128b, q128c⟩ := isOf hZ eq127 f108
                obtain ⟨_, _, ⟨T128, L128, k128, n128⟩, -, X128, ⟨Lc128, hQ128, l128, y128, z128⟩, st128⟩ := X127.virtualBack hx (y := (⟨"com/example/soak/soak/sim/CallCounts", "failed", "()J"⟩ : MethodName)) (z := (⟨"com/example/soak/soak/sim/CallCounts", "failed", "()J"⟩ : MethodName)) hown (mvT hZ (hw _ (List.mem_of_getElem? (i := 34) rfl))) (mvT hZ (hw _ (List.mem_of_getElem? (i := 35) rfl))) (notFace_of_selects (args := #[]) (mvT hZ (hw _ (List.mem_of_getElem? (i := 37) rfl)))) (mvT hZ (hw _ (List.mem_of_getElem? (i := 37) rfl))) (mvT hZ (hw _ (List.mem_of_getElem? (i := 36) rfl))) (by decide) (backOf (W := 0) (rm6 l Z a0 hw [] zo ((zf1 + (1 : Int64)) + (1 : Int64)) T107.heap n0 (own_le Z0 K120) f111) hZ (hw _ (List.mem_of_getElem? (i := 38) rfl)) (hw _ (List.mem_of_getElem? (i := 2) rfl)) (by decide) (by decide)) q128a q128c (g := (mkF m 163 #[.val (.int zu), .val (.int zl), .val (.int zb), .val (.ref zo), .val (.long zo1), .second, .val (.long zg1), .second, .val (.long (zf1 + (1 : Int64))), .second, .val (.long (1 : Int64)), .second, .val (.long (1 : Int64)), .second, .val (.long ((1 : Int64) + ((1 : Int32).toInt64))), .second] [(.ref zo)])) rfl (by rw [hml]; rfl) (Steps.refl _) (argsL := []) (rest := []) (lenOf own_pd91885 rfl) rfl (by show 2 * 0 + _ ≤ _; exact Nat.le_of_eq rfl) (hb hby at_163) (fun _ _ => ⟨rfl, eq127, (by decide : 1 + 0 ≤ _), (by decide : 5 + 0 ≤ _)⟩)
                dsimp only [Pt.U, Pt.locs, Pt.cells, Pt.slots] at X128 l128 y128 z128 st128 hQ128
                subst l128 y128 z128
                obtain ⟨rfl, N128q, eq128⟩ := hQ128
                have N128 := Fr.app N127 N128q
                refine own_tr st128 ?_
                show own_WP _ _ _ _ T128 (mkF m 166 #[.val (.int zu), .val (.int zl), .val (.int zb), .val (.ref zo), .val (.long zo1), .second, .val (.long zg1), .second, .val (.long (zf1 + (1 : Int64))), .second, .val (.long (1 : Int64)), .second, .val (.long (1 : Int64)), .second, .val (.long ((1 : Int64) + ((1 : Int32).toInt64))), .second] [(.long ((zf1 + (1 : Int64)) + (1 : Int64)))])
                refine own_go (fun t k => XS.lload X128.here hx rfl (hb hby at_166) rfl  k) ?_
                show own_WP _ _ _ _ T128 (mkF m 168 #[.val (.int zu), .val (.int zl), .val (.int zb), .val (.ref zo), .val (.long zo1), .second, .val (.long zg1), .second, .val (.long (zf1 + (1 : Int64))), .second, .val (.long (1 : Int64)), .second, .val (.long (1 : Int64)), .second, .val (.long ((1 : Int64) + ((1 : Int32).toInt64))), .second] [(.long (zf1 + (1 : Int64))), (.long ((zf1 + (1 : Int64)) + (1 : Int64)))])
                refine own_go (fun t k => XS.lconst X128.here hx rfl (hb hby at_168) k) ?_
                show own_WP _ _ _ _ T128 (mkF m 169 #[.val (.int zu), .val (.int zl), .val (.int zb), .val (.ref zo), .val (.long zo1), .second, .val (.long zg1), .second, .val (.long (zf1 + (1 : Int64))), .second, .val (.long (1 : Int64)), .second, .val (.long (1 : Int64)), .second, .val (.long ((1 : Int64) + ((1 : Int32).toInt64))), .second] [(.long (1 : Int64)), (.long (zf1 + (1 : Int64))), (.long ((zf1 + (1 : Int64)) + (1 : Int64)))])
                refine own_go (fun t k => XS.ladd X128.here hx rfl (hb hby at_169) rfl k) ?_
                show own_WP _ _ _ _ T128 (mkF m 170 #[.val (.int zu), .val (.int zl), .val (.int zb), .val (.ref zo), .val (.long zo1), .second, .val (.long zg1), .second, .val (.long (zf1 + (1 : Int64))), .second, .val (.long (1 : Int64)), .second, .val (.long (1 : Int64)), .second, .val (.long ((1 : Int64) + ((1 : Int32).toInt64))), .second] [(.long ((zf1 + (1 : Int64)) + (1 : Int64))), (.long ((zf1 + (1 : Int64)) + (1 : Int64)))])
                refine own_go (fun t k => XS.lcmp X128.here hx rfl (hb hby at_170) rfl k) ?_
                show own_WP _ _ _ _ T128 (mkF m 171 #[.val (.int zu), .val (.int zl), .val (.int zb), .val (.ref zo), .val (.long zo1), .second, .val (.long zg1), .second, .val (.long (zf1 + (1 : Int64))), .second, .val (.long (1 : Int64)), .second, .val (.long (1 : Int64)), .second, .val (.long ((1 : Int64) + ((1 : Int32).toInt64))), .second] [(.int (lcmpW ((zf1 + (1 : Int64)) + (1 : Int64)) ((zf1 + (1 : Int64)) + (1 : Int64))))])
                have hc171 : ((zf1 + (1 : Int64)) + (1 : Int64)) = ((zf1 + (1 : Int64)) + (1 : Int64)) := rfl
                refine own_go (fun t k => XS.ifNo X128.here hx rfl (hb hby at_171) rfl ((if0 _ _).trans (teq ((lw_eq ((zf1 + (1 : Int64)) + (1 : Int64)) ((zf1 + (1 : Int64)) + (1 : Int64))).mpr hc171)).2) k) ?_
                show own_WP _ _ _ _ T128 (mkF m 174 #[.val (.int zu), .val (.int zl), .val (.int zb), .val (.ref zo), .val (.long zo1), .second, .val (.long zg1), .second, .val (.long (zf1 + (1 : Int64))), .second, .val (.long (1 : Int64)), .second, .val (.long (1 : Int64)), .second, .val (.long ((1 : Int64) + ((1 : Int32).toInt64))), .second] [])
                refine own_go (fun t k => XS.aloadN X128.here hx rfl (hb hby at_174) rfl rfl  k) ?_
                show own_WP _ _ _ _ T128 (mkF m 175 #[.val (.int zu), .val (.int zl), .val (.int zb), .val (.ref zo), .val (.long zo1), .second, .val (.long zg1), .second, .val (.long (zf1 + (1 : Int64))), .second, .val (.long (1 : Int64)), .second, .val (.long (1 : Int64)), .second, .val (.long ((1 : Int64) + ((1 : Int32).toInt64))), .second] [(.ref zo)])
                obtain ⟨cq129, kq129, q129a, q129b, q129c⟩ := isOf hZ eq128 f108
                obtain ⟨_, _, ⟨T129, L129, k129, n129⟩, -, X129, ⟨Lc129, hQ129, l129, y129, z129⟩, st129⟩ := X128.virtualBack hx (y := (⟨"com/example/soak/soak/sim/CallCounts", "rejected", "()J"⟩ : MethodName)) (z := (⟨"com/example/soak/soak/sim/CallCounts", "rejected", "()J"⟩ : MethodName)) hown (mvT hZ (hw _ (List.mem_of_getElem? (i := 39) rfl))) (mvT hZ (hw _ (List.mem_of_getElem? (i := 40) rfl))) (notFace_of_selects (args := #[]) (mvT hZ (hw _ (List.mem_of_getElem? (i := 42) rfl)))) (mvT hZ (hw _ (List.mem_of_getElem? (i := 42) rfl))) (mvT hZ (hw _ (List.mem_of_getElem? (i := 41) rfl))) (by decide) (backOf (W := 0) (rm7 l Z a0 hw [] zo (((0 : Int64) + (1 : Int64)) + (1 : Int64)) T107.heap n0 (own_le Z0 K120) f112) hZ (hw _ (List.mem_of_getElem? (i := 43) rfl)) (hw _ (List.mem_of_getElem? (i := 2) rfl)) (by decide) (by decide)) q129a q129c (g := (mkF m 175 #[.val (.int zu), .val (.int zl), .val (.int zb), .val (.ref zo), .val (.long zo1), .second, .val (.long zg1), .second, .val (.long (zf1 + (1 : Int64))), .second, .val (.long (1 : Int64)), .second, .val (.long (1 : Int64)), .second, .val (.long ((1 : Int64) + ((1 : Int32).toInt64))), .second] [(.ref zo)])) rfl (by rw [hml]; rfl) (Steps.refl _) (argsL := []) (rest := []) (lenOf own_pd91885 rfl) rfl (by show 2 * 0 + _ ≤ _; exact Nat.le_of_eq rfl) (hb hby at_175) (fun _ _ => ⟨rfl, eq128, (by decide : 1 + 0 ≤ _), (by decide : 5 + 0 ≤ _)⟩)
                dsimp only [Pt.U, Pt.locs, Pt.cells, Pt.slots] at X129 l129 y129 z129 st129 hQ129
                subst l129 y129 z129
                obtain ⟨rfl, N129q, eq129⟩ := hQ129
                have N129 := Fr.app N128 N129q
                refine own_tr st129 ?_
                show own_WP _ _ _ _ T129 (mkF m 178 #[.val (.int zu), .val (.int zl), .val (.int zb), .val (.ref zo), .val (.long zo1), .second, .val (.long zg1), .second, .val (.long (zf1 + (1 : Int64))), .second, .val (.long (1 : Int64)), .second, .val (.long (1 : Int64)), .second, .val (.long ((1 : Int64) + ((1 : Int32).toInt64))), .second] [(.long (((0 : Int64) + (1 : Int64)) + (1 : Int64)))])
                refine own_go (fun t k => XS.lload X129.here hx rfl (hb hby at_178) rfl  k) ?_
                show own_WP _ _ _ _ T129 (mkF m 180 #[.val (.int zu), .val (.int zl), .val (.int zb), .val (.ref zo), .val (.long zo1), .second, .val (.long zg1), .second, .val (.long (zf1 + (1 : Int64))), .second, .val (.long (1 : Int64)), .second, .val (.long (1 : Int64)), .second, .val (.long ((1 : Int64) + ((1 : Int32).toInt64))), .second] [(.long (1 : Int64)), (.long (((0 : Int64) + (1 : Int64)) + (1 : Int64)))])
                refine own_go (fun t k => XS.lconst X129.here hx rfl (hb hby at_180) k) ?_
                show own_WP _ _ _ _ T129 (mkF m 181 #[.val (.int zu), .val (.int zl), .val (.int zb), .val (.ref zo), .val (.long zo1), .second, .val (.long zg1), .second, .val (.long (zf1 + (1 : Int64))), .second, .val (.long (1 : Int64)), .second, .val (.long (1 : Int64)), .second, .val (.long ((1 : Int64) + ((1 : Int32).toInt64))), .second] [(.long (1 : Int64)), (.long (1 : Int64)), (.long (((0 : Int64) + (1 : Int64)) + (1 : Int64)))])
                refine own_go (fun t k => XS.ladd X129.here hx rfl (hb hby at_181) rfl k) ?_
                show own_WP _ _ _ _ T129 (mkF m 182 #[.val (.int zu), .val (.int zl), .val (.int zb), .val (.ref zo), .val (.long zo1), .second, .val (.long zg1), .second, .val (.long (zf1 + (1 : Int64))), .second, .val (.long (1 : Int64)), .second, .val (.long (1 : Int64)), .second, .val (.long ((1 : Int64) + ((1 : Int32).toInt64))), .second] [(.long ((1 : Int64) + (1 : Int64))), (.long (((0 : Int64) + (1 : Int64)) + (1 : Int64)))])
                refine own_go (fun t k => XS.lcmp X129.here hx rfl (hb hby at_182) rfl k) ?_
                show own_WP _ _ _ _ T129 (mkF m 183 #[.val (.int zu), .val (.int zl), .val (.int zb), .val (.ref zo), .val (.long zo1), .second, .val (.long zg1), .second, .val (.long (zf1 + (1 : Int64))), .second, .val (.long (1 : Int64)), .second, .val (.long (1 : Int64)), .second, .val (.long ((1 : Int64) + ((1 : Int32).toInt64))), .second] [(.int (lcmpW (((0 : Int64) + (1 : Int64)) + (1 : Int64)) ((1 : Int64) + (1 : Int64))))])
                have hc183 : (((0 : Int64) + (1 : Int64)) + (1 : Int64)) = ((1 : Int64) + (1 : Int64)) := by
                  first | rfl | decide
                refine own_go (fun t k => XS.ifNo X129.here hx rfl (hb hby at_183) rfl ((if0 _ _).trans (teq ((lw_eq (((0 : Int64) + (1 : Int64)) + (1 : Int64)) ((1 : Int64) + (1 : Int64))).mpr hc183)).2) k) ?_
                show own_WP _ _ _ _ T129 (mkF m 186 #[.val (.int zu), .val (.int zl), .val (.int zb), .val (.ref zo), .val (.long zo1), .second, .val (.long zg1), .second, .val (.long (zf1 + (1 : Int64))), .second, .val (.long (1 : Int64)), .second, .val (.long (1 : Int64)), .second, .val (.long ((1 : Int64) + ((1 : Int32).toInt64))), .second] [])
                refine own_go (fun t k => XS.aloadN X129.here hx rfl (hb hby at_186) rfl rfl  k) ?_
                show own_WP _ _ _ _ T129 (mkF m 187 #[.val (.int zu), .val (.int zl), .val (.int zb), .val (.ref zo), .val (.long zo1), .second, .val (.long zg1), .second, .val (.long (zf1 + (1 : Int64))), .second, .val (.long (1 : Int64)), .second, .val (.long (1 : Int64)), .second, .val (.long ((1 : Int64) + ((1 : Int32).toInt64))), .second] [(.ref zo)])
                obtain ⟨cq130, kq130, q130a, q130b, q130c⟩ := isOf hZ eq129 f108
                obtain ⟨_, _, ⟨T130, L130, k130, n130⟩, -, X130, ⟨Lc130, hQ130, l130, y130, z130⟩, st130⟩ := X129.virtualBack hx (y := (⟨"com/example/soak/soak/sim/CallCounts", "serverRejected", "()J"⟩ : MethodName)) (z := (⟨"com/example/soak/soak/sim/CallCounts", "serverRejected", "()J"⟩ : MethodName)) hown (mvT hZ (hw _ (List.mem_of_getElem? (i := 44) rfl))) (mvT hZ (hw _ (List.mem_of_getElem? (i := 45) rfl))) (notFace_of_selects (args := #[]) (mvT hZ (hw _ (List.mem_of_getElem? (i := 47) rfl)))) (mvT hZ (hw _ (List.mem_of_getElem? (i := 47) rfl))) (mvT hZ (hw _ (List.mem_of_getElem? (i := 46) rfl))) (by decide) (backOf (W := 0) (rm8 l Z a0 hw [] zo (own_sr (own_sr (0 : Int64) (1 : Int32)) zb) T107.heap n0 (own_le Z0 K120) f113) hZ (hw _ (List.mem_of_getElem? (i := 48) rfl)) (hw _ (List.mem_of_getElem? (i := 2) rfl)) (by decide) (by decide)) q130a q130c (g := (mkF m 187 #[.val (.int zu), .val (.int zl), .val (.int zb), .val (.ref zo), .val (.long zo1), .second, .val (.long zg1), .second, .val (.long (zf1 + (1 : Int64))), .second, .val (.long (1 : Int64)), .second, .val (.long (1 : Int64)), .second, .val (.long ((1 : Int64) + ((1 : Int32).toInt64))), .second] [(.ref zo)])) rfl (by rw [hml]; rfl) (Steps.refl _) (argsL := []) (rest := []) (lenOf own_pd91885 rfl) rfl (by show 2 * 0 + _ ≤ _; exact Nat.le_of_eq rfl) (hb hby at_187) (fun _ _ => ⟨rfl, eq129, (by decide : 1 + 0 ≤ _), (by decide : 5 + 0 ≤ _)⟩)
                dsimp only [Pt.U, Pt.locs, Pt.cells, Pt.slots] at X130 l130 y130 z130 st130 hQ130
                subst l130 y130 z130
                obtain ⟨rfl, N130q, eq130⟩ := hQ130
                have N130 := Fr.app N129 N130q
                refine own_tr st130 ?_
                show own_WP _ _ _ _ T130 (mkF m 190 #[.val (.int zu), .val (.int zl), .val (.int zb), .val (.ref zo), .val (.long zo1), .second, .val (.long zg1), .second, .val (.long (zf1 + (1 : Int64))), .second, .val (.long (1 : Int64)), .second, .val (.long (1 : Int64)), .second, .val (.long ((1 : Int64) + ((1 : Int32).toInt64))), .second] [(.long (own_sr (own_sr (0 : Int64) (1 : Int32)) zb))])
                refine own_go (fun t k => XS.lload X130.here hx rfl (hb hby at_190) rfl  k) ?_
                show own_WP _ _ _ _ T130 (mkF m 192 #[.val (.int zu), .val (.int zl), .val (.int zb), .val (.ref zo), .val (.long zo1), .second, .val (.long zg1), .second, .val (.long (zf1 + (1 : Int64))), .second, .val (.long (1 : Int64)), .second, .val (.long (1 : Int64)), .second, .val (.long ((1 : Int64) + ((1 : Int32).toInt64))), .second] [(.long ((1 : Int64) + ((1 : Int32).toInt64))), (.long (own_sr (own_sr (0 : Int64) (1 : Int32)) zb))])
                refine own_go (fun t k => XS.lcmp X130.here hx rfl (hb hby at_192) rfl k) ?_
                show own_WP _ _ _ _ T130 (mkF m 193 #[.val (.int zu), .val (.int zl), .val (.int zb), .val (.ref zo), .val (.long zo1), .second, .val (.long zg1), .second, .val (.long (zf1 + (1 : Int64))), .second, .val (.long (1 : Int64)), .second, .val (.long (1 : Int64)), .second, .val (.long ((1 : Int64) + ((1 : Int32).toInt64))), .second] [(.int (lcmpW (own_sr (own_sr (0 : Int64) (1 : Int32)) zb) ((1 : Int64) + ((1 : Int32).toInt64))))])
                have hc193 : (own_sr (own_sr (0 : Int64) (1 : Int32)) zb) = ((1 : Int64) + ((1 : Int32).toInt64)) := by
                  simp [own_sr, hc130]
                refine own_go (fun t k => XS.ifNo X130.here hx rfl (hb hby at_193) rfl ((if0 _ _).trans (teq ((lw_eq (own_sr (own_sr (0 : Int64) (1 : Int32)) zb) ((1 : Int64) + ((1 : Int32).toInt64))).mpr hc193)).2) k) ?_
                show own_WP _ _ _ _ T130 (mkF m 196 #[.val (.int zu), .val (.int zl), .val (.int zb), .val (.ref zo), .val (.long zo1), .second, .val (.long zg1), .second, .val (.long (zf1 + (1 : Int64))), .second, .val (.long (1 : Int64)), .second, .val (.long (1 : Int64)), .second, .val (.long ((1 : Int64) + ((1 : Int32).toInt64))), .second] [])
                refine own_go (fun t k => XS.iconst X130.here hx rfl (hb hby at_196) k) ?_
                show own_WP _ _ _ _ T130 (mkF m 197 #[.val (.int zu), .val (.int zl), .val (.int zb), .val (.ref zo), .val (.long zo1), .second, .val (.long zg1), .second, .val (.long (zf1 + (1 : Int64))), .second, .val (.long (1 : Int64)), .second, .val (.long (1 : Int64)), .second, .val (.long ((1 : Int64) + ((1 : Int32).toInt64))), .second] [(.int (1 : Int32))])
                refine own_go (fun t k => XS.goto X130.here hx rfl (pc0 := 197) (pc' := 201) rfl (hb hby at_197) (by decide) (by decide) k) ?_
                show own_WP _ _ _ _ T130 (mkF m 201 #[.val (.int zu), .val (.int zl), .val (.int zb), .val (.ref zo), .val (.long zo1), .second, .val (.long zg1), .second, .val (.long (zf1 + (1 : Int64))), .second, .val (.long (1 : Int64)), .second, .val (.long (1 : Int64)), .second, .val (.long ((1 : Int64) + ((1 : Int32).toInt64))), .second] [(.int (1 : Int32))])
                refine own_retN X130 hx Bd.notSynchronized (t := .boolean) (by simp) Bd.returns (hb hby at_201) (by decide) (by decide) ?_
                rw [eq130]
                exact ⟨rfl, N130⟩
        show own_WP _ _ _ _ T17 (mkF m 61 #[.val (.int zu), .val (.int zl), .val (.int zb), .val (.ref zo), .val (.long zo1), .second, .val (.long zg1), .second, .val (.long (0 : Int64)), .second, .val (.long (0 : Int64)), .second, .val (.long (0 : Int64)), .second, .unset, .unset] [])
        refine own_go (fun t k => XS.iloadN X17.here hx rfl (hb hby at_61) rfl  k) ?_
        show own_WP _ _ _ _ T17 (mkF m 62 #[.val (.int zu), .val (.int zl), .val (.int zb), .val (.ref zo), .val (.long zo1), .second, .val (.long zg1), .second, .val (.long (0 : Int64)), .second, .val (.long (0 : Int64)), .second, .val (.long (0 : Int64)), .second, .unset, .unset] [(.int zu)])
        refine own_go (fun t k => XS.iconst X17.here hx rfl (hb hby at_62) k) ?_
        show own_WP _ _ _ _ T17 (mkF m 63 #[.val (.int zu), .val (.int zl), .val (.int zb), .val (.ref zo), .val (.long zo1), .second, .val (.long zg1), .second, .val (.long (0 : Int64)), .second, .val (.long (0 : Int64)), .second, .val (.long (0 : Int64)), .second, .unset, .unset] [(.int (4 : Int32)), (.int zu)])
        refine own_go (fun t k => XS.iand X17.here hx rfl (hb hby at_63) rfl k) ?_
        show own_WP _ _ _ _ T17 (mkF m 64 #[.val (.int zu), .val (.int zl), .val (.int zb), .val (.ref zo), .val (.long zo1), .second, .val (.long zg1), .second, .val (.long (0 : Int64)), .second, .val (.long (0 : Int64)), .second, .val (.long (0 : Int64)), .second, .unset, .unset] [(.int (zu &&& (4 : Int32)))])
        by_cases hc64 : (zu &&& (4 : Int32)) = (0 : Int32)
        · refine own_go (fun t k => XS.ifYes X17.here hx rfl (pc0 := 64) (pc' := 74) rfl (hb hby at_64) rfl ((if0 _ _).trans (teq hc64).1) (by decide) (by decide) k) ?_
          show own_WP _ _ _ _ T17 (mkF m 74 #[.val (.int zu), .val (.int zl), .val (.int zb), .val (.ref zo), .val (.long zo1), .second, .val (.long zg1), .second, .val (.long (0 : Int64)), .second, .val (.long (0 : Int64)), .second, .val (.long (0 : Int64)), .second, .unset, .unset] [])
          exact J74 (0 : Int64) _ _ _ X17 e17 N17 K17j f18 f19 f20 f21 f22 f23 
        · refine own_go (fun t k => XS.ifNo X17.here hx rfl (hb hby at_64) rfl ((if0 _ _).trans (feq hc64).1) k) ?_
          show own_WP _ _ _ _ T17 (mkF m 67 #[.val (.int zu), .val (.int zl), .val (.int zb), .val (.ref zo), .val (.long zo1), .second, .val (.long zg1), .second, .val (.long (0 : Int64)), .second, .val (.long (0 : Int64)), .second, .val (.long (0 : Int64)), .second, .unset, .unset] [])
          refine own_go (fun t k => XS.aloadN X17.here hx rfl (hb hby at_67) rfl rfl  k) ?_
          show own_WP _ _ _ _ T17 (mkF m 68 #[.val (.int zu), .val (.int zl), .val (.int zb), .val (.ref zo), .val (.long zo1), .second, .val (.long zg1), .second, .val (.long (0 : Int64)), .second, .val (.long (0 : Int64)), .second, .val (.long (0 : Int64)), .second, .unset, .unset] [(.ref zo)])
          obtain ⟨cq131, kq131, q131a, q131b, q131c⟩ := isOf hZ e17 f18
          obtain ⟨_, _, ⟨T131, L131, k131, n131⟩, -, X131, ⟨Lc131, hQ131, l131, y131, z131⟩, st131⟩ := X17.virtualBack hx (y := (⟨"com/example/soak/soak/sim/CallCounts", "countFailed", "()V"⟩ : MethodName)) (z := (⟨"com/example/soak/soak/sim/CallCounts", "countFailed", "()V"⟩ : MethodName)) hown (mvT hZ (hw _ (List.mem_of_getElem? (i := 54) rfl))) (mvT hZ (hw _ (List.mem_of_getElem? (i := 55) rfl))) (notFace_of_selects (args := #[]) (mvT hZ (hw _ (List.mem_of_getElem? (i := 57) rfl)))) (mvT hZ (hw _ (List.mem_of_getElem? (i := 57) rfl))) (mvT hZ (hw _ (List.mem_of_getElem? (i := 56) rfl))) (by decide) (backOf (W := 0) (rm10 l Z a0 hw [] zo zo1 zg1 (0 : Int64) (0 : Int64) (0 : Int64) h17 n0 (own_le Z0 K17j) f18 f22 f23 f19 f20 f21 g_zo) hZ (hw _ (List.mem_of_getElem? (i := 58) rfl)) (hw _ (List.mem_of_getElem? (i := 2) rfl)) (by decide) (by decide)) q131a q131c (g := (mkF m 68 #[.val (.int zu), .val (.int zl), .val (.int zb), .val (.ref zo), .val (.long zo1), .second, .val (.long zg1), .second, .val (.long (0 : Int64)), .second, .val (.long (0 : Int64)), .second, .val (.long (0 : Int64)), .second, .unset, .unset] [(.ref zo)])) rfl (by rw [hml]; rfl) (Steps.refl _) (argsL := []) (rest := []) (lenOf own_pd91897 rfl) rfl (by show 2 * 0 + _ ≤ _; exact Nat.le_of_eq rfl) (hb hby at_68) (fun _ _ => ⟨rfl, e17, (by decide : 1 + 0 ≤ _), (by decide : 5 + 0 ≤ _)⟩)
          dsimp only [Pt.U, Pt.locs, Pt.cells, Pt.slots] at X131 l131 y131 z131 st131 hQ131
          subst l131 y131 z131
          obtain ⟨rfl, N131q, Kc131, f132, f133, f134, f135, f136, f137⟩ := hQ131
          have N131 := Fr.app N17 N131q
          refine own_tr st131 ?_
          have f138 : Exa Z T131.heap zo "com/example/soak/soak/sim/CallCounts" := f18.keep Kc131
          have K144 : Keep h0 T131.heap [] := K17j.trans Kc131 (fun x hx => by cases List.mem_singleton.mp hx; exact Or.inr sz_zo)
          show own_WP _ _ _ _ T131 (mkF m 71 #[.val (.int zu), .val (.int zl), .val (.int zb), .val (.ref zo), .val (.long zo1), .second, .val (.long zg1), .second, .val (.long (0 : Int64)), .second, .val (.long (0 : Int64)), .second, .val (.long (0 : Int64)), .second, .unset, .unset] [])
          refine own_go (fun t k => XS.lconst X131.here hx rfl (hb hby at_71) k) ?_
          show own_WP _ _ _ _ T131 (mkF m 72 #[.val (.int zu), .val (.int zl), .val (.int zb), .val (.ref zo), .val (.long zo1), .second, .val (.long zg1), .second, .val (.long (0 : Int64)), .second, .val (.long (0 : Int64)), .second, .val (.long (0 : Int64)), .second, .unset, .unset] [(.long (1 : Int64))])
          refine own_go (fun t k => XS.lstore X131.here hx rfl (hb hby at_72) rfl (l' := #[.val (.int zu), .val (.int zl), .val (.int zb), .val (.ref zo), .val (.long zo1), .second, .val (.long zg1), .second, .val (.long (1 : Int64)), .second, .val (.long (0 : Int64)), .second, .val (.long (0 : Int64)), .second, .unset, .unset]) rfl k) ?_
          show own_WP _ _ _ _ T131 (mkF m 74 #[.val (.int zu), .val (.int zl), .val (.int zb), .val (.ref zo), .val (.long zo1), .second, .val (.long zg1), .second, .val (.long (1 : Int64)), .second, .val (.long (0 : Int64)), .second, .val (.long (0 : Int64)), .second, .unset, .unset] [])
          exact J74 (1 : Int64) _ _ _ X131 rfl N131 K144 f132 (by simpa using f135) f136 f137 f133 f134 
      show own_WP _ _ _ _ T10 (mkF m 48 #[.val (.int zu), .val (.int zl), .val (.int zb), .val (.ref zo), .val (.long zo1), .second, .val (.long (0 : Int64)), .second, .val (.long (0 : Int64)), .second, .val (.long (0 : Int64)), .second, .val (.long (0 : Int64)), .second, .unset, .unset] [])
      refine own_go (fun t k => XS.iloadN X10.here hx rfl (hb hby at_48) rfl  k) ?_
      show own_WP _ _ _ _ T10 (mkF m 49 #[.val (.int zu), .val (.int zl), .val (.int zb), .val (.ref zo), .val (.long zo1), .second, .val (.long (0 : Int64)), .second, .val (.long (0 : Int64)), .second, .val (.long (0 : Int64)), .second, .val (.long (0 : Int64)), .second, .unset, .unset] [(.int zu)])
      refine own_go (fun t k => XS.iconst X10.here hx rfl (hb hby at_49) k) ?_
      show own_WP _ _ _ _ T10 (mkF m 50 #[.val (.int zu), .val (.int zl), .val (.int zb), .val (.ref zo), .val (.long zo1), .second, .val (.long (0 : Int64)), .second, .val (.long (0 : Int64)), .second, .val (.long (0 : Int64)), .second, .val (.long (0 : Int64)), .second, .unset, .unset] [(.int (2 : Int32)), (.int zu)])
      refine own_go (fun t k => XS.iand X10.here hx rfl (hb hby at_50) rfl k) ?_
      show own_WP _ _ _ _ T10 (mkF m 51 #[.val (.int zu), .val (.int zl), .val (.int zb), .val (.ref zo), .val (.long zo1), .second, .val (.long (0 : Int64)), .second, .val (.long (0 : Int64)), .second, .val (.long (0 : Int64)), .second, .val (.long (0 : Int64)), .second, .unset, .unset] [(.int (zu &&& (2 : Int32)))])
      by_cases hc51 : (zu &&& (2 : Int32)) = (0 : Int32)
      · refine own_go (fun t k => XS.ifYes X10.here hx rfl (pc0 := 51) (pc' := 61) rfl (hb hby at_51) rfl ((if0 _ _).trans (teq hc51).1) (by decide) (by decide) k) ?_
        show own_WP _ _ _ _ T10 (mkF m 61 #[.val (.int zu), .val (.int zl), .val (.int zb), .val (.ref zo), .val (.long zo1), .second, .val (.long (0 : Int64)), .second, .val (.long (0 : Int64)), .second, .val (.long (0 : Int64)), .second, .val (.long (0 : Int64)), .second, .unset, .unset] [])
        exact J61 (0 : Int64) _ _ _ X10 e10 N10 K10j f11 f12 f13 f14 f15 f16 
      · refine own_go (fun t k => XS.ifNo X10.here hx rfl (hb hby at_51) rfl ((if0 _ _).trans (feq hc51).1) k) ?_
        show own_WP _ _ _ _ T10 (mkF m 54 #[.val (.int zu), .val (.int zl), .val (.int zb), .val (.ref zo), .val (.long zo1), .second, .val (.long (0 : Int64)), .second, .val (.long (0 : Int64)), .second, .val (.long (0 : Int64)), .second, .val (.long (0 : Int64)), .second, .unset, .unset] [])
        refine own_go (fun t k => XS.aloadN X10.here hx rfl (hb hby at_54) rfl rfl  k) ?_
        show own_WP _ _ _ _ T10 (mkF m 55 #[.val (.int zu), .val (.int zl), .val (.int zb), .val (.ref zo), .val (.long zo1), .second, .val (.long (0 : Int64)), .second, .val (.long (0 : Int64)), .second, .val (.long (0 : Int64)), .second, .val (.long (0 : Int64)), .second, .unset, .unset] [(.ref zo)])
        obtain ⟨cq145, kq145, q145a, q145b, q145c⟩ := isOf hZ e10 f11
        obtain ⟨_, _, ⟨T145, L145, k145, n145⟩, -, X145, ⟨Lc145, hQ145, l145, y145, z145⟩, st145⟩ := X10.virtualBack hx (y := (⟨"com/example/soak/soak/sim/CallCounts", "countGood", "()V"⟩ : MethodName)) (z := (⟨"com/example/soak/soak/sim/CallCounts", "countGood", "()V"⟩ : MethodName)) hown (mvT hZ (hw _ (List.mem_of_getElem? (i := 49) rfl))) (mvT hZ (hw _ (List.mem_of_getElem? (i := 50) rfl))) (notFace_of_selects (args := #[]) (mvT hZ (hw _ (List.mem_of_getElem? (i := 52) rfl)))) (mvT hZ (hw _ (List.mem_of_getElem? (i := 52) rfl))) (mvT hZ (hw _ (List.mem_of_getElem? (i := 51) rfl))) (by decide) (backOf (W := 0) (rm9 l Z a0 hw [] zo zo1 (0 : Int64) (0 : Int64) (0 : Int64) (0 : Int64) h10 n0 (own_le Z0 K10j) f11 f15 f16 f12 f13 f14 g_zo) hZ (hw _ (List.mem_of_getElem? (i := 53) rfl)) (hw _ (List.mem_of_getElem? (i := 2) rfl)) (by decide) (by decide)) q145a q145c (g := (mkF m 55 #[.val (.int zu), .val (.int zl), .val (.int zb), .val (.ref zo), .val (.long zo1), .second, .val (.long (0 : Int64)), .second, .val (.long (0 : Int64)), .second, .val (.long (0 : Int64)), .second, .val (.long (0 : Int64)), .second, .unset, .unset] [(.ref zo)])) rfl (by rw [hml]; rfl) (Steps.refl _) (argsL := []) (rest := []) (lenOf own_pd91897 rfl) rfl (by show 2 * 0 + _ ≤ _; exact Nat.le_of_eq rfl) (hb hby at_55) (fun _ _ => ⟨rfl, e10, (by decide : 1 + 0 ≤ _), (by decide : 5 + 0 ≤ _)⟩)
        dsimp only [Pt.U, Pt.locs, Pt.cells, Pt.slots] at X145 l145 y145 z145 st145 hQ145
        subst l145 y145 z145
        obtain ⟨rfl, N145q, Kc145, f146, f147, f148, f149, f150, f151⟩ := hQ145
        have N145 := Fr.app N10 N145q
        refine own_tr st145 ?_
        have f152 : Exa Z T145.heap zo "com/example/soak/soak/sim/CallCounts" := f11.keep Kc145
        have K158 : Keep h0 T145.heap [] := K10j.trans Kc145 (fun x hx => by cases List.mem_singleton.mp hx; exact Or.inr sz_zo)
        show own_WP _ _ _ _ T145 (mkF m 58 #[.val (.int zu), .val (.int zl), .val (.int zb), .val (.ref zo), .val (.long zo1), .second, .val (.long (0 : Int64)), .second, .val (.long (0 : Int64)), .second, .val (.long (0 : Int64)), .second, .val (.long (0 : Int64)), .second, .unset, .unset] [])
        refine own_go (fun t k => XS.lconst X145.here hx rfl (hb hby at_58) k) ?_
        show own_WP _ _ _ _ T145 (mkF m 59 #[.val (.int zu), .val (.int zl), .val (.int zb), .val (.ref zo), .val (.long zo1), .second, .val (.long (0 : Int64)), .second, .val (.long (0 : Int64)), .second, .val (.long (0 : Int64)), .second, .val (.long (0 : Int64)), .second, .unset, .unset] [(.long (1 : Int64))])
        refine own_go (fun t k => XS.lstore X145.here hx rfl (hb hby at_59) rfl (l' := #[.val (.int zu), .val (.int zl), .val (.int zb), .val (.ref zo), .val (.long zo1), .second, .val (.long (1 : Int64)), .second, .val (.long (0 : Int64)), .second, .val (.long (0 : Int64)), .second, .val (.long (0 : Int64)), .second, .unset, .unset]) rfl k) ?_
        show own_WP _ _ _ _ T145 (mkF m 61 #[.val (.int zu), .val (.int zl), .val (.int zb), .val (.ref zo), .val (.long zo1), .second, .val (.long (1 : Int64)), .second, .val (.long (0 : Int64)), .second, .val (.long (0 : Int64)), .second, .val (.long (0 : Int64)), .second, .unset, .unset] [])
        exact J61 (1 : Int64) _ _ _ X145 rfl N145 K158 f146 f149 f150 f151 f147 (by simpa using f148) 
    show own_WP _ _ _ _ T9 (mkF m 35 #[.val (.int zu), .val (.int zl), .val (.int zb), .val (.ref zo), .val (.long (0 : Int64)), .second, .val (.long (0 : Int64)), .second, .val (.long (0 : Int64)), .second, .val (.long (0 : Int64)), .second, .val (.long (0 : Int64)), .second, .unset, .unset] [])
    refine own_go (fun t k => XS.iloadN X9.here hx rfl (hb hby at_35) rfl  k) ?_
    show own_WP _ _ _ _ T9 (mkF m 36 #[.val (.int zu), .val (.int zl), .val (.int zb), .val (.ref zo), .val (.long (0 : Int64)), .second, .val (.long (0 : Int64)), .second, .val (.long (0 : Int64)), .second, .val (.long (0 : Int64)), .second, .val (.long (0 : Int64)), .second, .unset, .unset] [(.int zu)])
    refine own_go (fun t k => XS.iconst X9.here hx rfl (hb hby at_36) k) ?_
    show own_WP _ _ _ _ T9 (mkF m 37 #[.val (.int zu), .val (.int zl), .val (.int zb), .val (.ref zo), .val (.long (0 : Int64)), .second, .val (.long (0 : Int64)), .second, .val (.long (0 : Int64)), .second, .val (.long (0 : Int64)), .second, .val (.long (0 : Int64)), .second, .unset, .unset] [(.int (1 : Int32)), (.int zu)])
    refine own_go (fun t k => XS.iand X9.here hx rfl (hb hby at_37) rfl k) ?_
    show own_WP _ _ _ _ T9 (mkF m 38 #[.val (.int zu), .val (.int zl), .val (.int zb), .val (.ref zo), .val (.long (0 : Int64)), .second, .val (.long (0 : Int64)), .second, .val (.long (0 : Int64)), .second, .val (.long (0 : Int64)), .second, .val (.long (0 : Int64)), .second, .unset, .unset] [(.int (zu &&& (1 : Int32)))])
    by_cases hc38 : (zu &&& (1 : Int32)) = (0 : Int32)
    · refine own_go (fun t k => XS.ifYes X9.here hx rfl (pc0 := 38) (pc' := 48) rfl (hb hby at_38) rfl ((if0 _ _).trans (teq hc38).1) (by decide) (by decide) k) ?_
      show own_WP _ _ _ _ T9 (mkF m 48 #[.val (.int zu), .val (.int zl), .val (.int zb), .val (.ref zo), .val (.long (0 : Int64)), .second, .val (.long (0 : Int64)), .second, .val (.long (0 : Int64)), .second, .val (.long (0 : Int64)), .second, .val (.long (0 : Int64)), .second, .unset, .unset] [])
      exact J48 (0 : Int64) _ _ _ X9 eq9 N9 K3 A2 f4 f5 f6 f7 f8 
    · refine own_go (fun t k => XS.ifNo X9.here hx rfl (hb hby at_38) rfl ((if0 _ _).trans (feq hc38).1) k) ?_
      show own_WP _ _ _ _ T9 (mkF m 41 #[.val (.int zu), .val (.int zl), .val (.int zb), .val (.ref zo), .val (.long (0 : Int64)), .second, .val (.long (0 : Int64)), .second, .val (.long (0 : Int64)), .second, .val (.long (0 : Int64)), .second, .val (.long (0 : Int64)), .second, .unset, .unset] [])
      refine own_go (fun t k => XS.aloadN X9.here hx rfl (hb hby at_41) rfl rfl  k) ?_
      show own_WP _ _ _ _ T9 (mkF m 42 #[.val (.int zu), .val (.int zl), .val (.int zb), .val (.ref zo), .val (.long (0 : Int64)), .second, .val (.long (0 : Int64)), .second, .val (.long (0 : Int64)), .second, .val (.long (0 : Int64)), .second, .val (.long (0 : Int64)), .second, .unset, .unset] [(.ref zo)])
      obtain ⟨cq159, kq159, q159a, q159b, q159c⟩ := isOf hZ eq9 A2
      obtain ⟨_, _, ⟨T159, L159, k159, n159⟩, -, X159, ⟨Lc159, hQ159, l159, y159, z159⟩, st159⟩ := X9.virtualBack hx (y := (⟨"com/example/soak/soak/sim/CallCounts", "countOffered", "()V"⟩ : MethodName)) (z := (⟨"com/example/soak/soak/sim/CallCounts", "countOffered", "()V"⟩ : MethodName)) hown (mvT hZ (hw _ (List.mem_of_getElem? (i := 59) rfl))) (mvT hZ (hw _ (List.mem_of_getElem? (i := 60) rfl))) (notFace_of_selects (args := #[]) (mvT hZ (hw _ (List.mem_of_getElem? (i := 62) rfl)))) (mvT hZ (hw _ (List.mem_of_getElem? (i := 62) rfl))) (mvT hZ (hw _ (List.mem_of_getElem? (i := 61) rfl))) (by decide) (backOf (W := 0) (rm11 l Z a0 hw [] zo (0 : Int64) (0 : Int64) (0 : Int64) (0 : Int64) (0 : Int64) h2 n0 (own_le Z0 K3) A2 f7 f8 f4 f5 f6 g_zo) hZ (hw _ (List.mem_of_getElem? (i := 63) rfl)) (hw _ (List.mem_of_getElem? (i := 2) rfl)) (by decide) (by decide)) q159a q159c (g := (mkF m 42 #[.val (.int zu), .val (.int zl), .val (.int zb), .val (.ref zo), .val (.long (0 : Int64)), .second, .val (.long (0 : Int64)), .second, .val (.long (0 : Int64)), .second, .val (.long (0 : Int64)), .second, .val (.long (0 : Int64)), .second, .unset, .unset] [(.ref zo)])) rfl (by rw [hml]; rfl) (Steps.refl _) (argsL := []) (rest := []) (lenOf own_pd91897 rfl) rfl (by show 2 * 0 + _ ≤ _; exact Nat.le_of_eq rfl) (hb hby at_42) (fun _ _ => ⟨rfl, eq9, (by decide : 1 + 0 ≤ _), (by decide : 5 + 0 ≤ _)⟩)
      dsimp only [Pt.U, Pt.locs, Pt.cells, Pt.slots] at X159 l159 y159 z159 st159 hQ159
      subst l159 y159 z159
      obtain ⟨rfl, N159q, Kc159, f160, f161, f162, f163, f164, f165⟩ := hQ159
      have N159 := Fr.app N9 N159q
      refine own_tr st159 ?_
      have f166 : Exa Z T159.heap zo "com/example/soak/soak/sim/CallCounts" := A2.keep Kc159
      have K172 : Keep h0 T159.heap [] := K3.trans Kc159 (fun x hx => by cases List.mem_singleton.mp hx; exact Or.inr sz_zo)
      show own_WP _ _ _ _ T159 (mkF m 45 #[.val (.int zu), .val (.int zl), .val (.int zb), .val (.ref zo), .val (.long (0 : Int64)), .second, .val (.long (0 : Int64)), .second, .val (.long (0 : Int64)), .second, .val (.long (0 : Int64)), .second, .val (.long (0 : Int64)), .second, .unset, .unset] [])
      refine own_go (fun t k => XS.lconst X159.here hx rfl (hb hby at_45) k) ?_
      show own_WP _ _ _ _ T159 (mkF m 46 #[.val (.int zu), .val (.int zl), .val (.int zb), .val (.ref zo), .val (.long (0 : Int64)), .second, .val (.long (0 : Int64)), .second, .val (.long (0 : Int64)), .second, .val (.long (0 : Int64)), .second, .val (.long (0 : Int64)), .second, .unset, .unset] [(.long (1 : Int64))])
      refine own_go (fun t k => XS.lstore X159.here hx rfl (hb hby at_46) rfl (l' := #[.val (.int zu), .val (.int zl), .val (.int zb), .val (.ref zo), .val (.long (1 : Int64)), .second, .val (.long (0 : Int64)), .second, .val (.long (0 : Int64)), .second, .val (.long (0 : Int64)), .second, .val (.long (0 : Int64)), .second, .unset, .unset]) rfl k) ?_
      show own_WP _ _ _ _ T159 (mkF m 48 #[.val (.int zu), .val (.int zl), .val (.int zb), .val (.ref zo), .val (.long (1 : Int64)), .second, .val (.long (0 : Int64)), .second, .val (.long (0 : Int64)), .second, .val (.long (0 : Int64)), .second, .val (.long (0 : Int64)), .second, .unset, .unset] [])
      exact J48 (1 : Int64) _ _ _ X159 rfl N159 K172 f160 f163 f164 f165 (by simpa using f161) f162 
  show own_WP _ _ _ _ s₁ (mkF m 0 #[.val (.int zu), .val (.int zl), .unset, .unset, .unset, .unset, .unset, .unset, .unset, .unset, .unset, .unset, .unset, .unset, .unset, .unset] [])
  refine own_go (fun t k => XS.iloadN X0.here hx rfl (hb hby at_0) rfl  k) ?_
  show own_WP _ _ _ _ s₁ (mkF m 1 #[.val (.int zu), .val (.int zl), .unset, .unset, .unset, .unset, .unset, .unset, .unset, .unset, .unset, .unset, .unset, .unset, .unset, .unset] [(.int zl)])
  refine own_go (fun t k => XS.iconst X0.here hx rfl (hb hby at_1) k) ?_
  show own_WP _ _ _ _ s₁ (mkF m 2 #[.val (.int zu), .val (.int zl), .unset, .unset, .unset, .unset, .unset, .unset, .unset, .unset, .unset, .unset, .unset, .unset, .unset, .unset] [(.int (1 : Int32)), (.int zl)])
  refine own_go (fun t k => XS.iand X0.here hx rfl (hb hby at_2) rfl k) ?_
  show own_WP _ _ _ _ s₁ (mkF m 3 #[.val (.int zu), .val (.int zl), .unset, .unset, .unset, .unset, .unset, .unset, .unset, .unset, .unset, .unset, .unset, .unset, .unset, .unset] [(.int (zl &&& (1 : Int32)))])
  by_cases hc3 : (zl &&& (1 : Int32)) = (0 : Int32)
  · refine own_go (fun t k => XS.ifYes X0.here hx rfl (pc0 := 3) (pc' := 10) rfl (hb hby at_3) rfl ((if0 _ _).trans (teq hc3).1) (by decide) (by decide) k) ?_
    show own_WP _ _ _ _ s₁ (mkF m 10 #[.val (.int zu), .val (.int zl), .unset, .unset, .unset, .unset, .unset, .unset, .unset, .unset, .unset, .unset, .unset, .unset, .unset, .unset] [])
    refine own_go (fun t k => XS.iconst X0.here hx rfl (hb hby at_10) k) ?_
    show own_WP _ _ _ _ s₁ (mkF m 11 #[.val (.int zu), .val (.int zl), .unset, .unset, .unset, .unset, .unset, .unset, .unset, .unset, .unset, .unset, .unset, .unset, .unset, .unset] [(.int (0 : Int32))])
    refine own_go (fun t k => XS.istoreN X0.here hx rfl (hb hby at_11) rfl (l' := #[.val (.int zu), .val (.int zl), .val (.int (0 : Int32)), .unset, .unset, .unset, .unset, .unset, .unset, .unset, .unset, .unset, .unset, .unset, .unset, .unset]) rfl k) ?_
    show own_WP _ _ _ _ s₁ (mkF m 12 #[.val (.int zu), .val (.int zl), .val (.int (0 : Int32)), .unset, .unset, .unset, .unset, .unset, .unset, .unset, .unset, .unset, .unset, .unset, .unset, .unset] [])
    exact J12 (0 : Int32) _ _ _ X0 e0 N0 K0  
  · refine own_go (fun t k => XS.ifNo X0.here hx rfl (hb hby at_3) rfl ((if0 _ _).trans (feq hc3).1) k) ?_
    show own_WP _ _ _ _ s₁ (mkF m 6 #[.val (.int zu), .val (.int zl), .unset, .unset, .unset, .unset, .unset, .unset, .unset, .unset, .unset, .unset, .unset, .unset, .unset, .unset] [])
    refine own_go (fun t k => XS.iconst X0.here hx rfl (hb hby at_6) k) ?_
    show own_WP _ _ _ _ s₁ (mkF m 7 #[.val (.int zu), .val (.int zl), .unset, .unset, .unset, .unset, .unset, .unset, .unset, .unset, .unset, .unset, .unset, .unset, .unset, .unset] [(.int (1 : Int32))])
    refine own_go (fun t k => XS.goto X0.here hx rfl (pc0 := 7) (pc' := 11) rfl (hb hby at_7) (by decide) (by decide) k) ?_
    show own_WP _ _ _ _ s₁ (mkF m 11 #[.val (.int zu), .val (.int zl), .unset, .unset, .unset, .unset, .unset, .unset, .unset, .unset, .unset, .unset, .unset, .unset, .unset, .unset] [(.int (1 : Int32))])
    refine own_go (fun t k => XS.istoreN X0.here hx rfl (hb hby at_11) rfl (l' := #[.val (.int zu), .val (.int zl), .val (.int (1 : Int32)), .unset, .unset, .unset, .unset, .unset, .unset, .unset, .unset, .unset, .unset, .unset, .unset, .unset]) rfl k) ?_
    show own_WP _ _ _ _ s₁ (mkF m 12 #[.val (.int zu), .val (.int zl), .val (.int (1 : Int32)), .unset, .unset, .unset, .unset, .unset, .unset, .unset, .unset, .unset, .unset, .unset, .unset, .unset] [])
    exact J12 (1 : Int32) _ _ _ X0 e0 N0 K0  
set_option maxRecDepth 65536 in
set_option maxHeartbeats 40000000 in
theorem comes_1 {Post : Tables → Env → Array Value → State → Outcome → State → Prop} (hpost : ∀ tb e args s v u, (limb_1_1.after args s (.returned v) u = true ∧ limb_1_2.after args s (.returned v) u = true ∧ True) → FrameEnd s (.returned v) u (Jvm.fieldLocs frame_1_writes args s ++ Jvm.arrayLocs frame_1_arrays args s ++ Jvm.staticLocs frame_1_statics s) 16 128 → Post tb e args s (.returned v) u) :
    ArmFor flags0 classFile x code maxLocals ret World_1 tables_1 room_1 Calls_1 rest_1 Pre_1 Post := by
  intro l hfl _ _ p e ha hc hk s m args below hf hA hF happ hP
  obtain ⟨hcalls, hrest, hpre⟩ := hP
  obtain ⟨-, -, -, hnamed, -, -, -, hat⟩ := (Spec.applies_iff hf).mp happ
  obtain ⟨hg, hn⟩ := and_e (Cond.before_iff.mp (show (Jvm.Cond.and given_1 narrow_1).before args s = true from hpre))
  obtain ⟨u0, v0⟩ := and_e hg
  obtain ⟨u1, v1⟩ := and_e v0
  obtain ⟨w0, w1, rfl⟩ : ∃ w0 w1 : Value, args = #[w0, w1] := by
    have hs : args.size = 2 := by simpa [Cond.value, given_1] using u0
    obtain ⟨L⟩ := args
    match L, hs with
    | [w0, w1], _ => exact ⟨w0, w1, rfl⟩
  have hw := fun d (hd : d ∈ tables_1) => atoms_spec (ws := Jvm.Cond.code x code maxLocals ret :: tables_1) hat d (List.mem_cons_of_mem _ hd)
  obtain ⟨i0, ei0⟩ := is_v u1
  obtain rfl : w0 = (.int i0) := Option.some.inj ei0
  obtain ⟨i1, ei1⟩ := is_v v1
  obtain rfl : w1 = (.int i1) := Option.some.inj ei1
  obtain ⟨n, o, h1, h2, h3, _, L, rfl, ⟨rfl, N⟩, hq⟩ := rm0 l s _ hw tables_1 i0 i1  s.heap s.heap.size (Nat.le_refl _)  p e ha hc hk s m _ below hf ((Spec.applies_iff_loose hf).mp happ).1 ⟨rfl, State.Warmed39.refl s, rfl⟩ trivial
  refine ⟨n, _, h1, h2, h3, hpost _ _ _ _ _ _ ⟨Cond.after_iff.mpr rfl, Cond.after_iff.mpr (eq_i res_at (Term.int_eval (1)) rfl), trivial⟩ ⟨hq.1, hq.2.1, (hq.2.2.sift fun y hy => Or.inr (N y hy)).mono (by decide) (by decide)⟩⟩
theorem main_1_1 : Claimed_1_1 := comes_1 fun _ _ _ _ _ _ h hF => ⟨h.1, hF⟩
theorem main_1_2 : Claimed_1_2 := comes_1 fun _ _ _ _ _ _ h hF => ⟨h.2.1, hF⟩
end Jvm.Pilot.@@N@@
namespace Jvm.Pilot.@@N@@
open Jvm Jvm.ClassFile Sem Op Lib Jvm.Free Jvm.Stand Jvm.Pilot.@@N@@.Jvm.D
/-! MADE BY PROGRAM (witnessworld.py) out of the Statement's table words and the real class files: 9 classes; the members and pool entries that the words name. The judged class is class 1, her method 1. -/
namespace start1
open Jvm.ClassFile
def u (s : String) : CpInfo := .utf8 (stringToUtf16 s)
/-- a pool by its gaps: so many unusable entries, then the entry; so many at the end -/
def gap : Nat → List CpInfo → List CpInfo
  | 0, r => r
  | n + 1, r => .unusable :: gap n r
def poolList (es : List (Nat × CpInfo)) (last : Nat) : List CpInfo := es.foldr (fun e r => gap e.1 (e.2 :: r)) (gap last [])
def pool (es : List (Nat × CpInfo)) (last : Nat) : Array CpInfo := ⟨poolList es last⟩
def fileOf (pool : Array CpInfo) (this : Nat) (attrs : Array Attribute := #[]) (ms : Array MethodInfo := #[]) (fl : Nat := 33) (sup : Nat := 0) (ifs : Array Nat := #[]) (fds : Array FieldInfo := #[]) : ClassFile where
  minorVersion := 0
  majorVersion := 65
  constantPool := pool
  accessFlags := fl
  thisClass := this
  superClass := sup
  interfaces := ifs
  fields := fds
  methods := ms
  attributes := attrs
def plain (name : String) (sup : Option ClassId) : Class where
  name := name
  kind := .ordinary
  loader := none
  accessFlags := 33
  super := sup
  interfaces := #[]
  cf := none
  fields := #[]
  methods := #[]
  instanceTypes := #[]
  staticTypes := #[]
  resolved := #[]
  callSites := []
  init := .initialized
  statics := none
  mirror := none

def pool0 : Array CpInfo := pool [(5, u "<init>"), (0, u "()V"), (1, .class_ 10), (1, u "java/lang/Object")] 113

def k0c0 : Code := { maxStack := 0, maxLocals := 1, code := object_method_1_code, exceptionTable := #[], attributes := #[] }
def k0m0 : Method := { name := "<init>", desc := "()V", sig := { parameters := [], returnType := none }, accessFlags := 1, code := some k0c0 }
/-- java/lang/Object -/
def k0 : Class := { plain "java/lang/Object" none with
  accessFlags := 33
  interfaces := #[]
  cf := some (fileOf pool0 8 #[] #[{ accessFlags := 1, nameIndex := 5, descriptorIndex := 6, attributes := #[] }] 33 0 #[] #[])
  fields := #[]
  methods := #[k0m0]
  instanceTypes := #[]
  staticTypes := #[]
  resolved := Array.replicate 124 none
  statics := none }

def pool1 : Array CpInfo := pool [(2, .class_ 4), (0, .nameAndType 5 6), (0, u "java/lang/Object"), (0, u "<init>"), (0, u "()V"), (0, .class_ 8), (0, u "com/example/soak/soak/sim/CallCounts"), (0, .methodref 7 3), (0, .methodref 7 11), (0, .nameAndType 12 6), (0, u "countOffered"), (0, .methodref 7 14), (0, .nameAndType 15 6), (0, u "countGood"), (0, .methodref 7 17), (0, .nameAndType 18 6), (0, u "countFailed"), (0, .methodref 7 20), (0, .nameAndType 21 22), (0, u "countRejected"), (0, u "(Z)V"), (0, .methodref 7 24), (0, .nameAndType 25 26), (0, u "offered"), (0, u "()J"), (0, .methodref 7 28), (0, .nameAndType 29 26), (0, u "good"), (0, .methodref 7 31), (0, .nameAndType 32 26), (0, u "failed"), (0, .methodref 7 34), (0, .nameAndType 35 26), (0, u "rejected"), (0, .methodref 7 37), (0, .nameAndType 38 26), (0, u "serverRejected"), (0, .class_ 40), (0, u "com/example/soak/soak/sim/CallCountsCountRejectedPinLaw"), (2, u "law"), (0, u "(II)Z")] 3

def k1m0 : Method := { name := "<init>", desc := "()V", sig := { parameters := [], returnType := none }, accessFlags := 1, code := none }
def k1c1 : Code := { maxStack := 6, maxLocals := 16, code := code, exceptionTable := #[], attributes := #[] }
def k1m1 : Method := { name := "law", desc := "(II)Z", sig := { parameters := [.int, .int], returnType := some .boolean }, accessFlags := 9, code := some k1c1 }
/-- com/example/soak/soak/sim/CallCountsCountRejectedPinLaw -/
def k1 : Class := { plain "com/example/soak/soak/sim/CallCountsCountRejectedPinLaw" (some 0) with
  accessFlags := 49
  interfaces := #[]
  cf := some (fileOf pool1 39 #[] #[{ accessFlags := 1, nameIndex := 5, descriptorIndex := 6, attributes := #[] }, { accessFlags := 9, nameIndex := 43, descriptorIndex := 44, attributes := #[] }] 49 2 #[] #[])
  fields := #[]
  methods := #[k1m0, k1m1]
  instanceTypes := #[]
  staticTypes := #[]
  resolved := Array.replicate 48 none
  statics := none }

def pool2 : Array CpInfo := pool [(1, .methodref 2 3), (0, .class_ 4), (0, .nameAndType 5 6), (0, u "java/lang/Object"), (0, u "<init>"), (0, u "()V"), (14, .fieldref 22 23), (0, .class_ 24), (0, .nameAndType 25 26), (0, u "com/example/soak/soak/sim/CallCounts"), (0, u "offered"), (0, u "J"), (0, .fieldref 22 28), (0, .nameAndType 29 26), (0, u "good"), (0, .fieldref 22 31), (0, .nameAndType 32 26), (0, u "failed"), (0, .fieldref 22 34), (0, .nameAndType 35 26), (0, u "rejected"), (0, .fieldref 22 37), (0, .nameAndType 38 26), (0, u "serverRejected"), (6, u "countOffered"), (0, u "countGood"), (0, u "countFailed"), (0, u "countRejected"), (0, u "(Z)V"), (4, u "()J")] 24

def k2c0 : Code := { maxStack := 1, maxLocals := 1, code := prog_33_method_1_code, exceptionTable := #[], attributes := #[] }
def k2m0 : Method := { name := "<init>", desc := "()V", sig := { parameters := [], returnType := none }, accessFlags := 0, code := some k2c0 }
def k2c1 : Code := { maxStack := 5, maxLocals := 1, code := prog_33_method_3_code, exceptionTable := #[], attributes := #[] }
def k2m1 : Method := { name := "countOffered", desc := "()V", sig := { parameters := [], returnType := none }, accessFlags := 0, code := some k2c1 }
def k2c2 : Code := { maxStack := 5, maxLocals := 1, code := prog_33_method_4_code, exceptionTable := #[], attributes := #[] }
def k2m2 : Method := { name := "countGood", desc := "()V", sig := { parameters := [], returnType := none }, accessFlags := 0, code := some k2c2 }
def k2c3 : Code := { maxStack := 5, maxLocals := 1, code := prog_33_method_5_code, exceptionTable := #[], attributes := #[] }
def k2m3 : Method := { name := "countFailed", desc := "()V", sig := { parameters := [], returnType := none }, accessFlags := 0, code := some k2c3 }
def k2c4 : Code := { maxStack := 5, maxLocals := 2, code := prog_33_method_6_code, exceptionTable := #[], attributes := #[] }
def k2m4 : Method := { name := "countRejected", desc := "(Z)V", sig := { parameters := [.boolean], returnType := none }, accessFlags := 0, code := some k2c4 }
def k2c5 : Code := { maxStack := 2, maxLocals := 1, code := prog_33_method_8_code, exceptionTable := #[], attributes := #[] }
def k2m5 : Method := { name := "offered", desc := "()J", sig := { parameters := [], returnType := some .long }, accessFlags := 0, code := some k2c5 }
def k2c6 : Code := { maxStack := 2, maxLocals := 1, code := prog_33_method_9_code, exceptionTable := #[], attributes := #[] }
def k2m6 : Method := { name := "good", desc := "()J", sig := { parameters := [], returnType := some .long }, accessFlags := 0, code := some k2c6 }
def k2c7 : Code := { maxStack := 2, maxLocals := 1, code := prog_33_method_10_code, exceptionTable := #[], attributes := #[] }
def k2m7 : Method := { name := "failed", desc := "()J", sig := { parameters := [], returnType := some .long }, accessFlags := 0, code := some k2c7 }
def k2c8 : Code := { maxStack := 2, maxLocals := 1, code := prog_33_method_11_code, exceptionTable := #[], attributes := #[] }
def k2m8 : Method := { name := "rejected", desc := "()J", sig := { parameters := [], returnType := some .long }, accessFlags := 0, code := some k2c8 }
def k2c9 : Code := { maxStack := 2, maxLocals := 1, code := prog_33_method_12_code, exceptionTable := #[], attributes := #[] }
def k2m9 : Method := { name := "serverRejected", desc := "()J", sig := { parameters := [], returnType := some .long }, accessFlags := 0, code := some k2c9 }
/-- com/example/soak/soak/sim/CallCounts -/
def k2 : Class := { plain "com/example/soak/soak/sim/CallCounts" (some 0) with
  accessFlags := 48
  interfaces := #[]
  cf := some (fileOf pool2 22 #[] #[{ accessFlags := 0, nameIndex := 5, descriptorIndex := 6, attributes := #[] }, { accessFlags := 0, nameIndex := 45, descriptorIndex := 6, attributes := #[] }, { accessFlags := 0, nameIndex := 46, descriptorIndex := 6, attributes := #[] }, { accessFlags := 0, nameIndex := 47, descriptorIndex := 6, attributes := #[] }, { accessFlags := 0, nameIndex := 48, descriptorIndex := 49, attributes := #[] }, { accessFlags := 0, nameIndex := 25, descriptorIndex := 54, attributes := #[] }, { accessFlags := 0, nameIndex := 29, descriptorIndex := 54, attributes := #[] }, { accessFlags := 0, nameIndex := 32, descriptorIndex := 54, attributes := #[] }, { accessFlags := 0, nameIndex := 35, descriptorIndex := 54, attributes := #[] }, { accessFlags := 0, nameIndex := 38, descriptorIndex := 54, attributes := #[] }] 48 2 #[] #[{ accessFlags := 2, nameIndex := 25, descriptorIndex := 26, attributes := #[] }, { accessFlags := 2, nameIndex := 29, descriptorIndex := 26, attributes := #[] }, { accessFlags := 2, nameIndex := 32, descriptorIndex := 26, attributes := #[] }, { accessFlags := 2, nameIndex := 35, descriptorIndex := 26, attributes := #[] }, { accessFlags := 2, nameIndex := 38, descriptorIndex := 26, attributes := #[] }])
  fields := #[{ name := "offered", type := .long, accessFlags := 2, slot := 0, constantValue := 0 }, { name := "good", type := .long, accessFlags := 2, slot := 1, constantValue := 0 }, { name := "failed", type := .long, accessFlags := 2, slot := 2, constantValue := 0 }, { name := "rejected", type := .long, accessFlags := 2, slot := 3, constantValue := 0 }, { name := "serverRejected", type := .long, accessFlags := 2, slot := 4, constantValue := 0 }]
  methods := #[k2m0, k2m1, k2m2, k2m3, k2m4, k2m5, k2m6, k2m7, k2m8, k2m9]
  instanceTypes := #[.long, .long, .long, .long, .long]
  staticTypes := #[]
  resolved := Array.replicate 79 none
  statics := none }

def pool3 : Array CpInfo := pool [(1, u "java/lang/Cloneable"), (0, .class_ 1), (0, u "java/lang/Object"), (0, .class_ 3)] 3

/-- java/lang/Cloneable -/
def k3 : Class := { plain "java/lang/Cloneable" (some 0) with
  accessFlags := 1537
  interfaces := #[]
  cf := some (fileOf pool3 2 #[] #[] 1537 4 #[] #[])
  fields := #[]
  methods := #[]
  instanceTypes := #[]
  staticTypes := #[]
  resolved := Array.replicate 8 none
  statics := none }

def pool4 : Array CpInfo := pool [(1, u "java/io/Serializable"), (0, .class_ 1), (0, u "java/lang/Object"), (0, .class_ 3)] 3

/-- java/io/Serializable -/
def k4 : Class := { plain "java/io/Serializable" (some 0) with
  accessFlags := 1537
  interfaces := #[]
  cf := some (fileOf pool4 2 #[] #[] 1537 4 #[] #[])
  fields := #[]
  methods := #[]
  instanceTypes := #[]
  staticTypes := #[]
  resolved := Array.replicate 8 none
  statics := none }

/-- the primitive byte -/
def k5 : Class := { plain "byte" none with kind := .primitive 'B', accessFlags := 0x411 }
/-- [B -/
def k6 : Class := { plain "[B" (some 0) with kind := .array 5 .byte, interfaces := #[3, 4], accessFlags := 1041 }

/-- the primitive int -/
def k7 : Class := { plain "int" none with kind := .primitive 'I', accessFlags := 0x411 }
/-- [I -/
def k8 : Class := { plain "[I" (some 0) with kind := .array 7 .int, interfaces := #[3, 4], accessFlags := 1041 }

def heap : Heap := #[]
def classes : Array Class := #[k0, k1, k2, k3, k4, k5, k6, k7, k8]
def interned : List (Array UInt16 × Addr) := []
def slotsUsed : Nat := 0
def theMethod : MethodId := ⟨1, 1⟩
def args0 : Array Value := #[.int 5, .int 6]
def aboutOver (below : List Frame) : State where
  vm := { classes := classes, interned := interned.toArray }
  heap := heap
  slotsUsed := slotsUsed
  threads := #[{ frames := .invoking theMethod args0 :: below }]
def below0 : List Frame := [.native { method := ⟨0, 0⟩, args := #[] }]
def about1 : State := aboutOver below0
def p0 : Program := .bare "" "" ""
def e0 : Env := launch0.env 0 0 0
theorem w_frames : about1.frames = Frame.invoking theMethod args0 :: below0 := rfl
set_option maxRecDepth 65536 in
theorem w_args : argsFit about1.vm theMethod args0 = true := by decide +kernel
set_option maxRecDepth 65536 in
theorem w_heap : heapFits about1 = true := by decide +kernel
set_option maxRecDepth 65536 in
theorem w_runnable : about1.curStatus? = some .runnable := by decide +kernel
set_option maxRecDepth 65536 in
theorem w_alone : about1.alone = true := by decide +kernel
set_option maxRecDepth 65536 in
theorem w_named : about1.methodNamed? x = some theMethod := by decide +kernel
set_option maxRecDepth 65536 in
theorem w_hears : about1.hears theMethod below0 = true := by decide +kernel
set_option maxRecDepth 65536 in
theorem w_ripe : about1.ripe theMethod args0 below0 = true := by decide +kernel
theorem w_running : about1.status = .running := rfl
set_option maxRecDepth 65536 in
theorem w_room : about1.hasRoom e0.platform room_1 = true :=
  launch0.hasRoom_least _ room_1 (by decide +kernel) (by decide +kernel) (by decide +kernel) (by decide +kernel) (by decide +kernel) (by decide +kernel)
theorem allAtoms_all (ts : List Jvm.Cond) (a : Array Jvm.Value) (st : Jvm.State) : (allAtoms ts).before a st = ts.all (fun c => c.before a st) := by
  induction ts with
  | nil => rfl
  | cons c t ih =>
    show (Jvm.Cond.and c (allAtoms t)).before a st = _
    rw [Jvm.Cond.before_and, ih, List.all_cons]
def words1 : List Jvm.Cond := Jvm.Cond.code x code maxLocals ret :: tables_1
/-- a 'code' word, met by the world's own term for the bytes: nothing is compared byte by byte -/
theorem code_word {y : MethodName} {bytes : ByteArray} {mx : Nat} {rt : Option FieldType} {a : Array Value} {s : State} {m : MethodId} {meth : Method} {c : Code} (h1 : s.methodNamed? y = some m) (h2 : s.vm.method? m = some meth) (h3 : meth.code = some c) (h4 : c.code = bytes)
    (h5 : (c.maxLocals == mx && c.exceptionTable.isEmpty && decide (c.maxStack ≤ mostOperands) && decide (meth.sig.returnType = rt) && !meth.locks && decide (parseMethodDescriptor y.desc = some meth.sig)) = true) : (Jvm.Cond.code y bytes mx rt).before a s = true := by
  simp only [Bool.and_eq_true, beq_iff_eq, Bool.not_eq_true', decide_eq_true_eq] at h5
  obtain ⟨⟨⟨⟨⟨g1, g2⟩, g3⟩, g4⟩, g5⟩, g6⟩ := h5
  simp [Cond.before, Cond.holds, Cond.value, h1, h2, h3, h4, g1, g2, g3, g4, g5, g6]
def isCode : Jvm.Cond → Bool
  | .code _ _ _ _ => true
  | _ => false
theorem all_split {L : List Jvm.Cond} {P : Jvm.Cond → Bool} (h1 : L.all (fun c => isCode c || P c) = true) (h2 : ∀ c ∈ L.filter isCode, P c = true) : L.all P = true := by
  refine List.all_eq_true.mpr fun c hc => ?_
  have h := List.all_eq_true.mp h1 c hc
  rcases Bool.eq_false_or_eq_true (isCode c) with hi | hi
  · exact h2 c (List.mem_filter.mpr ⟨hc, hi⟩)
  · simpa [hi] using h
set_option maxRecDepth 65536 in
theorem w_c0 : (Jvm.Cond.code x code maxLocals ret).before args0 about1 = true := code_word (m := ⟨1, 1⟩) (meth := k1m1) (c := k1c1) (by decide +kernel) rfl rfl rfl (by decide +kernel)
set_option maxRecDepth 65536 in
theorem w_c1 : (Jvm.Cond.code ({ cls := "com/example/soak/soak/sim/CallCounts", name := "<init>", desc := "()V" } : Jvm.MethodName) prog_33_method_1_code (1 : Nat) (Option.none : Option Jvm.ClassFile.FieldType)).before args0 about1 = true := code_word (m := ⟨2, 0⟩) (meth := k2m0) (c := k2c0) (by decide +kernel) rfl rfl rfl (by decide +kernel)
set_option maxRecDepth 65536 in
theorem w_c2 : (Jvm.Cond.code ({ cls := "java/lang/Object", name := "<init>", desc := "()V" } : Jvm.MethodName) object_method_1_code (1 : Nat) (Option.none : Option Jvm.ClassFile.FieldType)).before args0 about1 = true := code_word (m := ⟨0, 0⟩) (meth := k0m0) (c := k0c0) (by decide +kernel) rfl rfl rfl (by decide +kernel)
set_option maxRecDepth 65536 in
theorem w_c3 : (Jvm.Cond.code ({ cls := "com/example/soak/soak/sim/CallCounts", name := "countRejected", desc := "(Z)V" } : Jvm.MethodName) prog_33_method_6_code (2 : Nat) (Option.none : Option Jvm.ClassFile.FieldType)).before args0 about1 = true := code_word (m := ⟨2, 4⟩) (meth := k2m4) (c := k2c4) (by decide +kernel) rfl rfl rfl (by decide +kernel)
set_option maxRecDepth 65536 in
theorem w_c4 : (Jvm.Cond.code ({ cls := "com/example/soak/soak/sim/CallCounts", name := "offered", desc := "()J" } : Jvm.MethodName) prog_33_method_8_code (1 : Nat) (Option.some Jvm.ClassFile.FieldType.long)).before args0 about1 = true := code_word (m := ⟨2, 5⟩) (meth := k2m5) (c := k2c5) (by decide +kernel) rfl rfl rfl (by decide +kernel)
set_option maxRecDepth 65536 in
theorem w_c5 : (Jvm.Cond.code ({ cls := "com/example/soak/soak/sim/CallCounts", name := "good", desc := "()J" } : Jvm.MethodName) prog_33_method_9_code (1 : Nat) (Option.some Jvm.ClassFile.FieldType.long)).before args0 about1 = true := code_word (m := ⟨2, 6⟩) (meth := k2m6) (c := k2c6) (by decide +kernel) rfl rfl rfl (by decide +kernel)
set_option maxRecDepth 65536 in
theorem w_c6 : (Jvm.Cond.code ({ cls := "com/example/soak/soak/sim/CallCounts", name := "failed", desc := "()J" } : Jvm.MethodName) prog_33_method_10_code (1 : Nat) (Option.some Jvm.ClassFile.FieldType.long)).before args0 about1 = true := code_word (m := ⟨2, 7⟩) (meth := k2m7) (c := k2c7) (by decide +kernel) rfl rfl rfl (by decide +kernel)
set_option maxRecDepth 65536 in
theorem w_c7 : (Jvm.Cond.code ({ cls := "com/example/soak/soak/sim/CallCounts", name := "rejected", desc := "()J" } : Jvm.MethodName) prog_33_method_11_code (1 : Nat) (Option.some Jvm.ClassFile.FieldType.long)).before args0 about1 = true := code_word (m := ⟨2, 8⟩) (meth := k2m8) (c := k2c8) (by decide +kernel) rfl rfl rfl (by decide +kernel)
set_option maxRecDepth 65536 in
theorem w_c8 : (Jvm.Cond.code ({ cls := "com/example/soak/soak/sim/CallCounts", name := "serverRejected", desc := "()J" } : Jvm.MethodName) prog_33_method_12_code (1 : Nat) (Option.some Jvm.ClassFile.FieldType.long)).before args0 about1 = true := code_word (m := ⟨2, 9⟩) (meth := k2m9) (c := k2c9) (by decide +kernel) rfl rfl rfl (by decide +kernel)
set_option maxRecDepth 65536 in
theorem w_c9 : (Jvm.Cond.code ({ cls := "com/example/soak/soak/sim/CallCounts", name := "countGood", desc := "()V" } : Jvm.MethodName) prog_33_method_4_code (1 : Nat) (Option.none : Option Jvm.ClassFile.FieldType)).before args0 about1 = true := code_word (m := ⟨2, 2⟩) (meth := k2m2) (c := k2c2) (by decide +kernel) rfl rfl rfl (by decide +kernel)
set_option maxRecDepth 65536 in
theorem w_c10 : (Jvm.Cond.code ({ cls := "com/example/soak/soak/sim/CallCounts", name := "countFailed", desc := "()V" } : Jvm.MethodName) prog_33_method_5_code (1 : Nat) (Option.none : Option Jvm.ClassFile.FieldType)).before args0 about1 = true := code_word (m := ⟨2, 3⟩) (meth := k2m3) (c := k2c3) (by decide +kernel) rfl rfl rfl (by decide +kernel)
set_option maxRecDepth 65536 in
theorem w_c11 : (Jvm.Cond.code ({ cls := "com/example/soak/soak/sim/CallCounts", name := "countOffered", desc := "()V" } : Jvm.MethodName) prog_33_method_3_code (1 : Nat) (Option.none : Option Jvm.ClassFile.FieldType)).before args0 about1 = true := code_word (m := ⟨2, 1⟩) (meth := k2m1) (c := k2c1) (by decide +kernel) rfl rfl rfl (by decide +kernel)
def codes1 : List Jvm.Cond := [Jvm.Cond.code x code maxLocals ret, Jvm.Cond.code ({ cls := "com/example/soak/soak/sim/CallCounts", name := "<init>", desc := "()V" } : Jvm.MethodName) prog_33_method_1_code (1 : Nat) (Option.none : Option Jvm.ClassFile.FieldType), Jvm.Cond.code ({ cls := "java/lang/Object", name := "<init>", desc := "()V" } : Jvm.MethodName) object_method_1_code (1 : Nat) (Option.none : Option Jvm.ClassFile.FieldType), Jvm.Cond.code ({ cls := "com/example/soak/soak/sim/CallCounts", name := "countRejected", desc := "(Z)V" } : Jvm.MethodName) prog_33_method_6_code (2 : Nat) (Option.none : Option Jvm.ClassFile.FieldType), Jvm.Cond.code ({ cls := "com/example/soak/soak/sim/CallCounts", name := "offered", desc := "()J" } : Jvm.MethodName) prog_33_method_8_code (1 : Nat) (Option.some Jvm.ClassFile.FieldType.long), Jvm.Cond.code ({ cls := "com/example/soak/soak/sim/CallCounts", name := "good", desc := "()J" } : Jvm.MethodName) prog_33_method_9_code (1 : Nat) (Option.some Jvm.ClassFile.FieldType.long), Jvm.Cond.code ({ cls := "com/example/soak/soak/sim/CallCounts", name := "failed", desc := "()J" } : Jvm.MethodName) prog_33_method_10_code (1 : Nat) (Option.some Jvm.ClassFile.FieldType.long), Jvm.Cond.code ({ cls := "com/example/soak/soak/sim/CallCounts", name := "rejected", desc := "()J" } : Jvm.MethodName) prog_33_method_11_code (1 : Nat) (Option.some Jvm.ClassFile.FieldType.long), Jvm.Cond.code ({ cls := "com/example/soak/soak/sim/CallCounts", name := "serverRejected", desc := "()J" } : Jvm.MethodName) prog_33_method_12_code (1 : Nat) (Option.some Jvm.ClassFile.FieldType.long), Jvm.Cond.code ({ cls := "com/example/soak/soak/sim/CallCounts", name := "countGood", desc := "()V" } : Jvm.MethodName) prog_33_method_4_code (1 : Nat) (Option.none : Option Jvm.ClassFile.FieldType), Jvm.Cond.code ({ cls := "com/example/soak/soak/sim/CallCounts", name := "countFailed", desc := "()V" } : Jvm.MethodName) prog_33_method_5_code (1 : Nat) (Option.none : Option Jvm.ClassFile.FieldType), Jvm.Cond.code ({ cls := "com/example/soak/soak/sim/CallCounts", name := "countOffered", desc := "()V" } : Jvm.MethodName) prog_33_method_3_code (1 : Nat) (Option.none : Option Jvm.ClassFile.FieldType)]
set_option maxRecDepth 65536 in
theorem codes_eq : words1.filter isCode = codes1 := rfl
theorem w_codes : ∀ c ∈ words1.filter isCode, c.before args0 about1 = true := by
  rw [codes_eq]
  intro c hc
  simp only [codes1, List.mem_cons, List.not_mem_nil, or_false] at hc
  rcases hc with rfl | rfl | rfl | rfl | rfl | rfl | rfl | rfl | rfl | rfl | rfl | rfl
  · exact w_c0
  · exact w_c1
  · exact w_c2
  · exact w_c3
  · exact w_c4
  · exact w_c5
  · exact w_c6
  · exact w_c7
  · exact w_c8
  · exact w_c9
  · exact w_c10
  · exact w_c11
set_option maxRecDepth 65536 in
theorem w_t1 : (words1.take 24).all (fun c => isCode c || c.before args0 about1) = true := by decide +kernel
set_option maxRecDepth 65536 in
theorem w_t2 : ((words1.drop 24).take 24).all (fun c => isCode c || c.before args0 about1) = true := by decide +kernel
set_option maxRecDepth 65536 in
theorem w_t3 : ((words1.drop 24).drop 24).all (fun c => isCode c || c.before args0 about1) = true := by decide +kernel
theorem w_tables : (allAtoms (Jvm.Cond.code x code maxLocals ret :: tables_1)).before args0 about1 = true := by
  rw [allAtoms_all]
  show words1.all (fun c => c.before args0 about1) = true
  refine all_split ?_ w_codes
  rw [← List.take_append_drop 24 words1, List.all_append, w_t1, ← List.take_append_drop 24 (words1.drop 24), List.all_append, w_t2, w_t3]
  rfl
set_option maxRecDepth 65536 in
theorem w_case : (Jvm.Cond.and given_1 narrow_1).before args0 about1 = true := by decide +kernel
theorem w_applies : (headSpec (Jvm.Cond.code x code maxLocals ret :: tables_1) room_1).applies x e0.platform about1 = true :=
  (Spec.applies_iff w_frames).mpr ⟨w_running, w_runnable, w_alone, w_named, w_hears, w_ripe, w_room, w_tables⟩
theorem atStart : AtStart classFile x code maxLocals ret World_1 tables_1 room_1 Calls_1 rest_1 Pre_1 launch0 p0 e0 about1 theMethod args0 below0 :=
  ⟨lists_1, trivial, launch0.admits_env _ _ _, launch0.least_env, fairChoices_fair.cas, fairChoices_fair.clock, w_frames, w_args, w_heap, w_applies, trivial, trivial, w_case⟩
end start1
theorem witness_1 : WitnessClaimed_1 := ⟨start1.p0, start1.e0, start1.about1, start1.theMethod, start1.args0, start1.below0, start1.atStart⟩
end Jvm.Pilot.@@N@@
