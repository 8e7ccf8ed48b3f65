import JvmDerived
import JvmDerived.Pilot.@@N@@Statement
import JvmDerived.Pilot.@@N@@Code
set_option linter.unusedVariables false
set_option linter.unusedSimpArgs false
namespace Jvm.Pilot.@@N@@
open Jvm Jvm.ClassFile Sem Op Lib Jvm.Free Jvm.Stand Jvm.LawKit Jvm.RoadKit Bundle Jvm.Pilot.@@N@@.Jvm.D
section OwnKit
variable {p : Program} {l : Launch} {e : Env} {R : Room} {s : State} {m : MethodId} {args : Array Value} {below : List Frame} {meth : Method} {c : Code} {T T' : State} {locs : List Loc} {cells slots : Nat} {Z : State} {h : Heap} {a0 : Array Value}
/-- from the state T with the frame g on top the method comes to its end, and what it leaves meets E -/
def own_WP (p : Program) (e : Env) (below : List Frame) (E : Outcome → State → Prop) (T : State) (g : JFrame) : Prop :=
  ∃ s₂ o, Steps p.tables e below (T.setTop g) s₂ ∧ s₂.status = .running ∧ Ended s₂ below o ∧ E o s₂
/-- it returns, and what it leaves meets Q within K cells and N slots -/
def own_E (s : State) (Q : Option Value → Heap → List Loc → Prop) (K N : Nat) (o : Outcome) (t : State) : Prop := ∃ v L, o = .returned v ∧ Q v t.heap L ∧ FrameEnd s o t L K N
variable {Q : Option Value → Heap → List Loc → Prop} {K N : Nat} {g g' : JFrame} {E : Outcome → State → Prop}
theorem own_go (h : ∀ t, Steps p.tables e below (T'.setTop g') t → Steps p.tables e below (T.setTop g) t) (k : own_WP p e below E T' g') : own_WP p e below E T g := by
  obtain ⟨s₂, o, h1, h2⟩ := k
  exact ⟨s₂, o, h s₂ h1, h2⟩
theorem own_tr (h : Steps p.tables e below (T.setTop g) (T'.setTop g')) (k : own_WP p e below E T' g') : own_WP p e below E T g := by
  obtain ⟨s₂, o, h1, h2⟩ := k
  exact ⟨s₂, o, h.trans h1, h2⟩
theorem own_end (X : Stand p l e R s m args below meth c T locs cells slots) (hlk : meth.locks = false) {v : Option Value} (hv : meth.sig.returnType = none → v = none)
    (hs : ∀ fs, (∀ (f : JFrame) (acts : List Action), f.method = m → f.locked = none → f.entered = [] → (doReturn e (T.setTop f) acts v).1 = T.setFrames fs) → Steps p.tables e below (T.setTop g) (T.setFrames fs))
    (hk : cells ≤ K) (hn : slots ≤ N) (hq : Q v T.heap locs) : own_WP p e below (own_E s Q K N) T g := by
  obtain ⟨fs, hr, hrun, hended, hW, hsame⟩ := X.leave hv hlk
  exact ⟨_, _, hs fs hr, hrun, hended, _, _, rfl, hq, ⟨_, rfl⟩, hW, hsame.mono hk hn⟩
theorem own_retV (X : Stand p l e R s m args below meth c T locs cells slots) (hx : p.tables.exec = Jvm.exec) (hlk : meth.locks = false) {pc : Nat} {Ls : Array Slot} (hret : meth.sig.returnType = none) (hd : decode c.code pc = .ok (.return_, 1))
    (hk : cells ≤ K) (hn : slots ≤ N) (hq : Q none T.heap locs) : own_WP p e below (own_E s Q K N) T (mkF m pc Ls []) :=
  own_end X hlk (fun _ => rfl) (fun fs hr => X.returnOut hx hret hd hr) hk hn hq
theorem own_retI (X : Stand p l e R s m args below meth c T locs cells slots) (hx : p.tables.exec = Jvm.exec) (hlk : meth.locks = false) {pc : Nat} {Ls : Array Slot} {z : Int32} (hret : meth.sig.returnType = some .int) (hd : decode c.code pc = .ok (.ireturn, 1))
    (hk : cells ≤ K) (hn : slots ≤ N) (hq : Q (some (.int z)) T.heap locs) : own_WP p e below (own_E s Q K N) T (mkF m pc Ls [.int z]) :=
  own_end X hlk (fun h => by rw [hret] at h; cases h) (fun fs hr => retOut X hx hret rfl (Or.inl ⟨rfl, Or.inl rfl, z, rfl⟩) hd hr) hk hn hq
theorem own_retJ (X : Stand p l e R s m args below meth c T locs cells slots) (hx : p.tables.exec = Jvm.exec) (hlk : meth.locks = false) {pc : Nat} {Ls : Array Slot} {z : Int64} (hret : meth.sig.returnType = some .long) (hd : decode c.code pc = .ok (.lreturn, 1))
    (hk : cells ≤ K) (hn : slots ≤ N) (hq : Q (some (.long z)) T.heap locs) : own_WP p e below (own_E s Q K N) T (mkF m pc Ls [.long z]) :=
  own_end X hlk (fun h => by rw [hret] at h; cases h) (fun fs hr => X.lreturnOut hx hret hd hr) hk hn hq
theorem own_retA (X : Stand p l e R s m args below meth c T locs cells slots) (hx : p.tables.exec = Jvm.exec) (hlk : meth.locks = false) {pc : Nat} {Ls : Array Slot} {w : Value} (hw : w.isRef = true) {t : FieldType} (ht : t.isReference = true) (hret : meth.sig.returnType = some t) (hd : decode c.code pc = .ok (.areturn, 1))
    (hk : cells ≤ K) (hn : slots ≤ N) (hq : Q (some w) T.heap locs) : own_WP p e below (own_E s Q K N) T (mkF m pc Ls [w]) :=
  own_end X hlk (fun h => by rw [hret] at h; cases h) (fun fs hr => X.areturnOut hx hw hret ht hd hr) hk hn hq
theorem own_retN (X : Stand p l e R s m args below meth c T locs cells slots) (hx : p.tables.exec = Jvm.exec) (hlk : meth.locks = false) {pc : Nat} {Ls : Array Slot} {z : Int32} {t : FieldType} (ht : t = .boolean ∨ t = .byte ∨ t = .char ∨ t = .short) (hret : meth.sig.returnType = some t) (hd : decode c.code pc = .ok (.ireturn, 1))
    (hk : cells ≤ K) (hn : slots ≤ N) (hq : Q (some (.int (nar t z))) T.heap locs) : own_WP p e below (own_E s Q K N) T (mkF m pc Ls [.int z]) :=
  own_end X hlk (fun h => by rw [hret] at h; cases h) (fun fs hr => retN X hx hret ht hd hr) hk hn hq
theorem own_len (X : Stand p l e R s m args below meth c T locs cells slots) (hx : p.tables.exec = Jvm.exec) (hZ : Z.Warmed39 s.vm) (eT : T.heap = h) {a : Addr} {k : ClassId} {ty : FieldType} {n : Int32} {vs : List Value} {d : Value} (V : Arv Z h a k ty n vs d)
    {pc : Nat} {Ls : Array Slot} {S : List Value} (hd : decode c.code pc = .ok (.arraylength, 1)) (kk : own_WP p e below E T (mkF m (pc + 1) Ls (.int n :: S))) : own_WP p e below E T (mkF m pc Ls (.ref a :: S)) := by
  obtain ⟨cl, A, q, S1, M, H, G⟩ := V
  refine own_go (fun t k => X.arraylength hx (by rw [eT]; exact A.1) (State.isArrayOf_alike hZ.alike A.2.1) (g := mkF m pc Ls (.ref a :: S)) rfl rfl hd t k) ?_
  rw [len_of S1 M]
  exact kk
theorem own_at {cl : Cell} {n j : Int32} {vs : List Value} {d w : Value} (S1 : cl.slots.size = n.toNatClampNeg) (H : Has cl vs d) (hj : ¬ j < 0 ∧ j < n) (hv : vs.getD j.toNatClampNeg d = w) : cl.slots[j.toNatClampNeg]? = some w :=
  H.at (inb_of S1 hj) hv
theorem own_ldI (X : Stand p l e R s m args below meth c T locs cells slots) (hx : p.tables.exec = Jvm.exec) (hZ : Z.Warmed39 s.vm) (eT : T.heap = h) {a : Addr} {k : ClassId} {n j w : Int32} {vs : List Value} {d : Value} (V : Arv Z h a k .int n vs d) (hj : ¬ j < 0 ∧ j < n) (hv : vs.getD j.toNatClampNeg d = .int w)
    {pc : Nat} {Ls : Array Slot} {S : List Value} (hd : decode c.code pc = .ok (.iaload, 1)) (kk : own_WP p e below E T (mkF m (pc + 1) Ls (.int w :: S))) : own_WP p e below E T (mkF m pc Ls (.int j :: .ref a :: S)) := by
  obtain ⟨cl, A, q, S1, M, H, G⟩ := V
  exact own_go (fun t k => X.iaload hx (j := j) (v := .int w) (by rw [eT]; exact A.1) (State.isArrayOf_alike hZ.alike A.2.1) A.2.2 (inb_of S1 hj) (own_at S1 H hj hv) (g := mkF m pc Ls (.int j :: .ref a :: S)) rfl rfl hd t k) kk
theorem own_ldJ (X : Stand p l e R s m args below meth c T locs cells slots) (hx : p.tables.exec = Jvm.exec) (hZ : Z.Warmed39 s.vm) (eT : T.heap = h) {a : Addr} {k : ClassId} {n j : Int32} {w : Int64} {vs : List Value} {d : Value} (V : Arv Z h a k .long n vs d) (hj : ¬ j < 0 ∧ j < n) (hv : vs.getD j.toNatClampNeg d = .long w)
    {pc : Nat} {Ls : Array Slot} {S : List Value} (hd : decode c.code pc = .ok (.laload, 1)) (kk : own_WP p e below E T (mkF m (pc + 1) Ls (.long w :: S))) : own_WP p e below E T (mkF m pc Ls (.int j :: .ref a :: S)) := by
  obtain ⟨cl, A, q, S1, M, H, G⟩ := V
  exact own_go (fun t k => X.laload hx (j := j) (v := .long w) (by rw [eT]; exact A.1) (State.isArrayOf_alike hZ.alike A.2.1) A.2.2 (inb_of S1 hj) (own_at S1 H hj hv) (g := mkF m pc Ls (.int j :: .ref a :: S)) rfl rfl hd t k) kk
theorem own_ldB (X : Stand p l e R s m args below meth c T locs cells slots) (hx : p.tables.exec = Jvm.exec) (hZ : Z.Warmed39 s.vm) (eT : T.heap = h) {a : Addr} {k : ClassId} {n j w : Int32} {vs : List Value} {d : Value} (V : Arv Z h a k .byte n vs d) (hj : ¬ j < 0 ∧ j < n) (hv : vs.getD j.toNatClampNeg d = .int w)
    {pc : Nat} {Ls : Array Slot} {S : List Value} (hd : decode c.code pc = .ok (.baload, 1)) (kk : own_WP p e below E T (mkF m (pc + 1) Ls (.int w :: S))) : own_WP p e below E T (mkF m pc Ls (.int j :: .ref a :: S)) := by
  obtain ⟨cl, A, q, S1, M, H, G⟩ := V
  exact own_go (fun t k => X.baloadBytes hx (j := j) (v := .int w) (by rw [eT]; exact A.1) (State.isArrayOf_alike hZ.alike A.2.1) A.2.2 (inb_of S1 hj) (own_at S1 H hj hv) (g := mkF m pc Ls (.int j :: .ref a :: S)) rfl rfl hd t k) kk
theorem own_ldR (X : Stand p l e R s m args below meth c T locs cells slots) (hx : p.tables.exec = Jvm.exec) (hZ : Z.Warmed39 s.vm) (eT : T.heap = h) {a : Addr} {k : ClassId} {ty : FieldType} (hty : ty.isReference = true) {n j : Int32} {w : Value} {vs : List Value} {d : Value} (V : Arv Z h a k ty n vs d) (hj : ¬ j < 0 ∧ j < n) (hv : vs.getD j.toNatClampNeg d = w)
    {pc : Nat} {Ls : Array Slot} {S : List Value} (hd : decode c.code pc = .ok (.aaload, 1)) (kk : own_WP p e below E T (mkF m (pc + 1) Ls (w :: S))) : own_WP p e below E T (mkF m pc Ls (.int j :: .ref a :: S)) := by
  obtain ⟨cl, A, q, S1, M, H, G⟩ := V
  exact own_go (fun t k => X.aaload hx (j := j) (v := w) (by rw [eT]; exact A.1) (State.isArrayOf_alike hZ.alike A.2.1) hty A.2.2 (inb_of S1 hj) (own_at S1 H hj hv) (g := mkF m pc Ls (.int j :: .ref a :: S)) rfl rfl hd t k) kk
theorem own_stI (X : Stand p l e R s m args below meth c T locs cells slots) (hx : p.tables.exec = Jvm.exec) (hZ : Z.Warmed39 s.vm) (eT : T.heap = h) {a : Addr} {k : ClassId} {n j x : Int32} {vs : List Value} {d : Value} (V : Arv Z h a k .int n vs d) (hj : ¬ j < 0 ∧ j < n) {i : Nat} (hji : j.toNatClampNeg = i) (hi : i < vs.length)
    {pc : Nat} {Ls : Array Slot} {S : List Value} (hd : decode c.code pc = .ok (.iastore, 1))
    (kk : ∀ T' h', Stand p l e R s m args below meth c T' (locs ++ [⟨a, j.toNatClampNeg⟩]) cells slots → T'.heap = h' → Wr h h' a j.toNatClampNeg (.int x) → Arv Z h' a k .int n (vs.set i (.int x)) d → own_WP p e below E T' (mkF m (pc + 1) Ls S)) : own_WP p e below E T (mkF m pc Ls (.int x :: .int j :: .ref a :: S)) := by
  obtain ⟨cl, A, q, S1, M, H, G⟩ := V
  obtain ⟨T', h', X', e', W', st⟩ := stI X hx hZ eT A (j := j) (inb_of S1 hj) (g := mkF m pc Ls (.int x :: .int j :: .ref a :: S)) rfl rfl hd
  exact own_go st (kk T' h' X' e' W' (Arv.set A q S1 M H G rfl W' i hji hi))
theorem own_stJ (X : Stand p l e R s m args below meth c T locs cells slots) (hx : p.tables.exec = Jvm.exec) (hZ : Z.Warmed39 s.vm) (eT : T.heap = h) {a : Addr} {k : ClassId} {n j : Int32} {x : Int64} {vs : List Value} {d : Value} (V : Arv Z h a k .long n vs d) (hj : ¬ j < 0 ∧ j < n) {i : Nat} (hji : j.toNatClampNeg = i) (hi : i < vs.length)
    {pc : Nat} {Ls : Array Slot} {S : List Value} (hd : decode c.code pc = .ok (.lastore, 1))
    (kk : ∀ T' h', Stand p l e R s m args below meth c T' (locs ++ [⟨a, j.toNatClampNeg⟩]) cells slots → T'.heap = h' → Wr h h' a j.toNatClampNeg (.long x) → Arv Z h' a k .long n (vs.set i (.long x)) d → own_WP p e below E T' (mkF m (pc + 1) Ls S)) : own_WP p e below E T (mkF m pc Ls (.long x :: .int j :: .ref a :: S)) := by
  obtain ⟨cl, A, q, S1, M, H, G⟩ := V
  obtain ⟨T', h', X', e', W', st⟩ := stJ X hx hZ eT A (j := j) (inb_of S1 hj) (g := mkF m pc Ls (.long x :: .int j :: .ref a :: S)) rfl rfl hd
  exact own_go st (kk T' h' X' e' W' (Arv.set A q S1 M H G rfl W' i hji hi))
theorem own_stB (X : Stand p l e R s m args below meth c T locs cells slots) (hx : p.tables.exec = Jvm.exec) (hZ : Z.Warmed39 s.vm) (eT : T.heap = h) {a : Addr} {k : ClassId} {n j x : Int32} {vs : List Value} {d : Value} (V : Arv Z h a k .byte n vs d) (hj : ¬ j < 0 ∧ j < n) {i : Nat} (hji : j.toNatClampNeg = i) (hi : i < vs.length)
    {pc : Nat} {Ls : Array Slot} {S : List Value} (hd : decode c.code pc = .ok (.bastore, 1))
    (kk : ∀ T' h', Stand p l e R s m args below meth c T' (locs ++ [⟨a, j.toNatClampNeg⟩]) cells slots → T'.heap = h' → Wr h h' a j.toNatClampNeg (.int (nar .byte x)) → Arv Z h' a k .byte n (vs.set i (.int (nar .byte x))) d → own_WP p e below E T' (mkF m (pc + 1) Ls S)) : own_WP p e below E T (mkF m pc Ls (.int x :: .int j :: .ref a :: S)) := by
  obtain ⟨cl, A, q, S1, M, H, G⟩ := V
  obtain ⟨T', h', X', e', W', st⟩ := stB X hx hZ eT A (j := j) (inb_of S1 hj) (g := mkF m pc Ls (.int x :: .int j :: .ref a :: S)) rfl rfl hd
  exact own_go st (kk T' h' X' e' W' (Arv.set A q S1 M H G (fits_nar_byte x) W' i hji hi))
theorem own_nm {x a : Addr} (h : x ≠ a) : x ∉ [a] := fun q => h (List.mem_singleton.mp q)
theorem own_nm0 {x : Addr} : x ∉ ([] : List Addr) := List.not_mem_nil
theorem own_nm2 {x a b : Addr} (h : x ≠ a) (h' : x ≠ b) : x ∉ [a, b] := fun q => by
  rcases List.mem_cons.mp q with r | r
  · exact h r
  · exact h' (List.mem_singleton.mp r)
theorem own_le {h0 h : Heap} {n0 : Nat} {ws : List Addr} (Z0 : n0 ≤ h0.size) (K : Keep h0 h ws) : n0 ≤ h.size := Nat.le_trans Z0 K.1
end OwnKit

def own_cp (i d q : Int32) : Int32 := if i = q then (if d = q then 1 else 0) else 0
theorem d1_0 : decode prog_1_method_1_code 0 = .ok (.aload_n 0, 1) := by decide +kernel
theorem d1_1 : decode prog_1_method_1_code 1 = .ok (.invokespecial 1, 3) := by decide +kernel
theorem d1_4 : decode prog_1_method_1_code 4 = .ok (.aload_n 0, 1) := by decide +kernel
theorem d1_5 : decode prog_1_method_1_code 5 = .ok (.iload_n 1, 1) := by decide +kernel
theorem d1_6 : decode prog_1_method_1_code 6 = .ok (.putfield 7, 3) := by decide +kernel
theorem d1_9 : decode prog_1_method_1_code 9 = .ok (.aload_n 0, 1) := by decide +kernel
theorem d1_10 : decode prog_1_method_1_code 10 = .ok (.iload_n 2, 1) := by decide +kernel
theorem d1_11 : decode prog_1_method_1_code 11 = .ok (.putfield 13, 3) := by decide +kernel
theorem d1_14 : decode prog_1_method_1_code 14 = .ok (.aload_n 0, 1) := by decide +kernel
theorem d1_15 : decode prog_1_method_1_code 15 = .ok (.lload_n 3, 1) := by decide +kernel
theorem d1_16 : decode prog_1_method_1_code 16 = .ok (.putfield 16, 3) := by decide +kernel
theorem d1_19 : decode prog_1_method_1_code 19 = .ok (.aload_n 0, 1) := by decide +kernel
theorem d1_20 : decode prog_1_method_1_code 20 = .ok (.aload 5, 2) := by decide +kernel
theorem d1_22 : decode prog_1_method_1_code 22 = .ok (.invokevirtual 20, 3) := by decide +kernel
theorem d1_25 : decode prog_1_method_1_code 25 = .ok (.checkcast 21, 3) := by decide +kernel
theorem d1_28 : decode prog_1_method_1_code 28 = .ok (.putfield 26, 3) := by decide +kernel
theorem d1_31 : decode prog_1_method_1_code 31 = .ok (.return_, 1) := by decide +kernel
theorem own_pn91044 : plainName "com/example/tersel/tersel/bench/Arrivals" = true := by first | (simp [plainName, overriddenIn]; done) | decide +kernel
theorem ef_1 (m : MethodId) (zo : Addr) (zi : Int32) (zd : Int32) (zl : Int64) (za : Addr) : entryFrame m #[(.ref zo), (.int zi), (.int zd), (.long zl), (.ref za)] 6 = mkF m 0 #[.val (.ref zo), .val (.int zi), .val (.int zd), .val (.long zl), .second, .val (.ref za)] [] := by first | (simp [entryFrame, mkF, argsToLocals, Value.category]; done) | rfl
def Q1 (Z : State) (zo : Addr) (zi : Int32) (zd : Int32) (zl : Int64) (za : Addr) (u0 : Value) (u1 : Value) (u2 : Value) (u3 : Value) (zk : ClassId) (h0 : Heap) (n0 : Nat) (v : Option Value) (h : Heap) (L : List Loc) : Prop := v = none ∧ Fr n0 L ∧ Keep h0 h [zo] ∧ Exa Z h zo "com/example/tersel/tersel/bench/Arrivals" ∧ Fld Z h zo "com/example/tersel/tersel/bench/Arrivals" "submitted" "I" (.int zi) ∧ Fld Z h zo "com/example/tersel/tersel/bench/Arrivals" "destinations" "I" (.int zd)
set_option maxRecDepth 65536 in
set_option maxHeartbeats 40000000 in
theorem rm1 (l : Launch) (Z : State) (a0 : Array Value) (hw : ∀ d ∈ tables_1, d.before a0 Z = true) (ws : List Jvm.Cond) (zo : Addr) (zi : Int32) (zd : Int32) (zl : Int64) (za : Addr) (u0 : Value) (u1 : Value) (u2 : Value) (u3 : Value) (zk : ClassId) (h0 : Heap) (n0 : Nat) (Z0 : n0 ≤ h0.size) (P0 : Exa Z h0 zo "com/example/tersel/tersel/bench/Arrivals") (P1 : Fld Z h0 zo "com/example/tersel/tersel/bench/Arrivals" "submitted" "I" u0) (P2 : Fld Z h0 zo "com/example/tersel/tersel/bench/Arrivals" "destinations" "I" u1) (P3 : Fld Z h0 zo "com/example/tersel/tersel/bench/Arrivals" "last" "J" u2) (P4 : Fld Z h0 zo "com/example/tersel/tersel/bench/Arrivals" "latencies" "[J" u3) (P5 : Arv Z h0 za zk .long (1 : Int32) [(.long zl)] (.long (0 : Int64))) (P6 : Exa Z h0 za "[J") (g_zo : n0 ≤ zo) (hne : za ≠ zo) :
    MetFree l (⟨"com/example/tersel/tersel/bench/Arrivals", "<init>", "(IIJ[J)V"⟩ : MethodName) (head1 (Jvm.Cond.code (⟨"com/example/tersel/tersel/bench/Arrivals", "<init>", "(IIJ[J)V"⟩ : MethodName) prog_1_method_1_code 6 none :: ws) ({ frames := 1, cells := 1, slots := 1, locals := 15 } : Room)) (fun a U => a = #[(.ref zo), (.int zi), (.int zd), (.long zl), (.ref za)] ∧ Z.Warmed39 U.vm ∧ U.heap = h0) (fun _ _ _ _ _ => True) (fun _ U o U' => ∃ v L, o = .returned v ∧ Q1 Z zo zi zd zl za u0 u1 u2 u3 zk h0 n0 v U'.heap L ∧ FrameEnd U o U' L ({ frames := 1, cells := 1, slots := 1, locals := 15 } : Room).cells ({ frames := 1, cells := 1, slots := 1, locals := 15 } : Room).slots) := by
  refine MetFree.of_bodySF (plainFor_of_name own_pn91044) hisR ?_
  intro p e s m args below meth c s₁ Bd hml0 hP hK
  obtain ⟨rfl, hZ, hh⟩ := hP
  have hx := Bd.exec
  have hby := Bd.bytes
  have hml : c.maxLocals = 6 := hml0
  have hown : s.vm.findClass "com/example/tersel/tersel/bench/Arrivals" = some m.cls := findClass_of_methodNamed Bd.named
  have hnm := (name_of_methodNamed Bd.named Bd.method).1
  have X0 : Stand p l e ({ frames := 1, cells := 1, slots := 1, locals := 15 } : Room) s m #[(.ref zo), (.int zi), (.int zd), (.long zl), (.ref za)] below meth c s₁ [] 0 0 := Stand.of_body Bd
  have e0 : s₁.heap = h0 := by rw [← hh, Bd.state]; rfl
  have N0 := Fr.nil n0
  have K0 := Keep.refl h0 [zo]
  show own_WP p e below (own_E s (Q1 Z zo zi zd zl za u0 u1 u2 u3 zk h0 n0) 1 1) s₁ (entryFrame m #[(.ref zo), (.int zi), (.int zd), (.long zl), (.ref za)] 6)
  rw [ef_1 m zo zi zd zl za]
  show own_WP _ _ _ _ s₁ (mkF m 0 #[.val (.ref zo), .val (.int zi), .val (.int zd), .val (.long zl), .second, .val (.ref za)] [])
  refine own_go (fun t k => XS.aloadN X0.here hx rfl (hb hby d1_0) rfl rfl  k) ?_
  show own_WP _ _ _ _ s₁ (mkF m 1 #[.val (.ref zo), .val (.int zi), .val (.int zd), .val (.long zl), .second, .val (.ref za)] [(.ref zo)])
  obtain ⟨T1, X1, e1, st1⟩ := initO X0 hx hZ hown (hw _ (List.mem_of_getElem? (i := 7) rfl)) (hw _ (List.mem_of_getElem? (i := 8) rfl)) (hw _ (List.mem_of_getElem? (i := 9) rfl)) e0 (g := (mkF m 1 #[.val (.ref zo), .val (.int zi), .val (.int zd), .val (.long zl), .second, .val (.ref za)] [(.ref zo)])) rfl (by rw [hml]; rfl) rfl (hb hby d1_1) (by decide) (W := 0) (by show 2 * 0 + _ ≤ _; exact Nat.le_of_eq rfl) (by decide)
  refine own_go st1 ?_
  show own_WP _ _ _ _ T1 (mkF m 4 #[.val (.ref zo), .val (.int zi), .val (.int zd), .val (.long zl), .second, .val (.ref za)] [])
  refine own_go (fun t k => XS.aloadN X1.here hx rfl (hb hby d1_4) rfl rfl  k) ?_
  show own_WP _ _ _ _ T1 (mkF m 5 #[.val (.ref zo), .val (.int zi), .val (.int zd), .val (.long zl), .second, .val (.ref za)] [(.ref zo)])
  refine own_go (fun t k => XS.iloadN X1.here hx rfl (hb hby d1_5) rfl  k) ?_
  show own_WP _ _ _ _ T1 (mkF m 6 #[.val (.ref zo), .val (.int zi), .val (.int zd), .val (.long zl), .second, .val (.ref za)] [(.int zi), (.ref zo)])
  obtain ⟨T2, h2, X2, e2, W2, st2⟩ := putF X1 hx hZ hown (host := "") (Or.inl (hw _ (List.mem_of_getElem? (i := 10) rfl))) Via.refl e1 P1 P0 (Or.inr ⟨(hw _ (List.mem_of_getElem? (i := 11) rfl)), rfl, hnm⟩) (hw _ (List.mem_of_getElem? (i := 2) rfl)) (ty := .int) (by decide) rfl rfl (g := (mkF m 6 #[.val (.ref zo), .val (.int zi), .val (.int zd), .val (.long zl), .second, .val (.ref za)] [(.int zi), (.ref zo)])) rfl rfl (hb hby d1_6)
  refine own_go st2 ?_
  have f3 : Fld Z h2 zo "com/example/tersel/tersel/bench/Arrivals" "submitted" "I" (.int zi) := P1.same W2
  have f4 : Exa Z h2 zo "com/example/tersel/tersel/bench/Arrivals" := P0.wr W2
  have f6 : Fld Z h2 zo "com/example/tersel/tersel/bench/Arrivals" "destinations" "I" u1 := P2.other W2 (Or.inr (slot_ne (Or.inr (hw _ (List.mem_of_getElem? (i := 13) rfl))) (Or.inr (hw _ (List.mem_of_getElem? (i := 11) rfl))) (by decide) (t := .int) (t' := .int) (by decide) (by decide)))
  have f7 : Fld Z h2 zo "com/example/tersel/tersel/bench/Arrivals" "last" "J" u2 := P3.other W2 (Or.inr (slot_ne (Or.inr (hw _ (List.mem_of_getElem? (i := 15) rfl))) (Or.inr (hw _ (List.mem_of_getElem? (i := 11) rfl))) (by decide) (t := .long) (t' := .int) (by decide) (by decide)))
  have f8 : Fld Z h2 zo "com/example/tersel/tersel/bench/Arrivals" "latencies" "[J" u3 := P4.other W2 (Or.inr (slot_ne (Or.inr (hw _ (List.mem_of_getElem? (i := 26) rfl))) (Or.inr (hw _ (List.mem_of_getElem? (i := 11) rfl))) (by decide) (t := (.array .long)) (t' := .int) (by decide) (by decide)))
  have f9 : Arv Z h2 za zk .long (1 : Int32) [(.long zl)] (.long (0 : Int64)) := P5.other W2 hne
  have f10 : Exa Z h2 za "[J" := P6.wr W2
  have K11 : Keep h0 h2 [zo] := K0.wr W2 (Or.inl (List.mem_of_getElem? (i := 0) rfl))
  have N12 := Fr.snoc X2 N0 g_zo
  show own_WP _ _ _ _ T2 (mkF m 9 #[.val (.ref zo), .val (.int zi), .val (.int zd), .val (.long zl), .second, .val (.ref za)] [])
  refine own_go (fun t k => XS.aloadN X2.here hx rfl (hb hby d1_9) rfl rfl  k) ?_
  show own_WP _ _ _ _ T2 (mkF m 10 #[.val (.ref zo), .val (.int zi), .val (.int zd), .val (.long zl), .second, .val (.ref za)] [(.ref zo)])
  refine own_go (fun t k => XS.iloadN X2.here hx rfl (hb hby d1_10) rfl  k) ?_
  show own_WP _ _ _ _ T2 (mkF m 11 #[.val (.ref zo), .val (.int zi), .val (.int zd), .val (.long zl), .second, .val (.ref za)] [(.int zd), (.ref zo)])
  obtain ⟨T13, h13, X13, e13, W13, st13⟩ := putF X2 hx hZ hown (host := "") (Or.inl (hw _ (List.mem_of_getElem? (i := 12) rfl))) Via.refl e2 f6 f4 (Or.inr ⟨(hw _ (List.mem_of_getElem? (i := 13) rfl)), rfl, hnm⟩) (hw _ (List.mem_of_getElem? (i := 2) rfl)) (ty := .int) (by decide) rfl rfl (g := (mkF m 11 #[.val (.ref zo), .val (.int zi), .val (.int zd), .val (.long zl), .second, .val (.ref za)] [(.int zd), (.ref zo)])) rfl rfl (hb hby d1_11)
  refine own_go st13 ?_
  have f14 : Fld Z h13 zo "com/example/tersel/tersel/bench/Arrivals" "destinations" "I" (.int zd) := f6.same W13
  have f15 : Exa Z h13 zo "com/example/tersel/tersel/bench/Arrivals" := f4.wr W13
  have f17 : Fld Z h13 zo "com/example/tersel/tersel/bench/Arrivals" "last" "J" u2 := f7.other W13 (Or.inr (slot_ne (Or.inr (hw _ (List.mem_of_getElem? (i := 15) rfl))) (Or.inr (hw _ (List.mem_of_getElem? (i := 13) rfl))) (by decide) (t := .long) (t' := .int) (by decide) (by decide)))
  have f18 : Fld Z h13 zo "com/example/tersel/tersel/bench/Arrivals" "latencies" "[J" u3 := f8.other W13 (Or.inr (slot_ne (Or.inr (hw _ (List.mem_of_getElem? (i := 26) rfl))) (Or.inr (hw _ (List.mem_of_getElem? (i := 13) rfl))) (by decide) (t := (.array .long)) (t' := .int) (by decide) (by decide)))
  have f19 : Arv Z h13 za zk .long (1 : Int32) [(.long zl)] (.long (0 : Int64)) := f9.other W13 hne
  have f20 : Exa Z h13 za "[J" := f10.wr W13
  have f21 : Fld Z h13 zo "com/example/tersel/tersel/bench/Arrivals" "submitted" "I" (.int zi) := f3.other W13 (Or.inr (slot_ne (Or.inr (hw _ (List.mem_of_getElem? (i := 11) rfl))) (Or.inr (hw _ (List.mem_of_getElem? (i := 13) rfl))) (by decide) (t := .int) (t' := .int) (by decide) (by decide)))
  have K22 : Keep h0 h13 [zo] := K11.wr W13 (Or.inl (List.mem_of_getElem? (i := 0) rfl))
  have N23 := Fr.snoc X13 N12 g_zo
  show own_WP _ _ _ _ T13 (mkF m 14 #[.val (.ref zo), .val (.int zi), .val (.int zd), .val (.long zl), .second, .val (.ref za)] [])
  refine own_go (fun t k => XS.aloadN X13.here hx rfl (hb hby d1_14) rfl rfl  k) ?_
  show own_WP _ _ _ _ T13 (mkF m 15 #[.val (.ref zo), .val (.int zi), .val (.int zd), .val (.long zl), .second, .val (.ref za)] [(.ref zo)])
  refine own_go (fun t k => XS.lloadN X13.here hx rfl (hb hby d1_15) rfl  k) ?_
  show own_WP _ _ _ _ T13 (mkF m 16 #[.val (.ref zo), .val (.int zi), .val (.int zd), .val (.long zl), .second, .val (.ref za)] [(.long zl), (.ref zo)])
  obtain ⟨T24, h24, X24, e24, W24, st24⟩ := putF X13 hx hZ hown (host := "") (Or.inl (hw _ (List.mem_of_getElem? (i := 14) rfl))) Via.refl e13 f17 f15 (Or.inr ⟨(hw _ (List.mem_of_getElem? (i := 15) rfl)), rfl, hnm⟩) (hw _ (List.mem_of_getElem? (i := 2) rfl)) (ty := .long) (by decide) rfl rfl (g := (mkF m 16 #[.val (.ref zo), .val (.int zi), .val (.int zd), .val (.long zl), .second, .val (.ref za)] [(.long zl), (.ref zo)])) rfl rfl (hb hby d1_16)
  refine own_go st24 ?_
  have f25 : Fld Z h24 zo "com/example/tersel/tersel/bench/Arrivals" "last" "J" (.long zl) := f17.same W24
  have f26 : Exa Z h24 zo "com/example/tersel/tersel/bench/Arrivals" := f15.wr W24
  have f28 : Fld Z h24 zo "com/example/tersel/tersel/bench/Arrivals" "latencies" "[J" u3 := f18.other W24 (Or.inr (slot_ne (Or.inr (hw _ (List.mem_of_getElem? (i := 26) rfl))) (Or.inr (hw _ (List.mem_of_getElem? (i := 15) rfl))) (by decide) (t := (.array .long)) (t' := .long) (by decide) (by decide)))
  have f29 : Arv Z h24 za zk .long (1 : Int32) [(.long zl)] (.long (0 : Int64)) := f19.other W24 hne
  have f30 : Exa Z h24 za "[J" := f20.wr W24
  have f31 : Fld Z h24 zo "com/example/tersel/tersel/bench/Arrivals" "submitted" "I" (.int zi) := f21.other W24 (Or.inr (slot_ne (Or.inr (hw _ (List.mem_of_getElem? (i := 11) rfl))) (Or.inr (hw _ (List.mem_of_getElem? (i := 15) rfl))) (by decide) (t := .int) (t' := .long) (by decide) (by decide)))
  have f32 : Fld Z h24 zo "com/example/tersel/tersel/bench/Arrivals" "destinations" "I" (.int zd) := f14.other W24 (Or.inr (slot_ne (Or.inr (hw _ (List.mem_of_getElem? (i := 13) rfl))) (Or.inr (hw _ (List.mem_of_getElem? (i := 15) rfl))) (by decide) (t := .int) (t' := .long) (by decide) (by decide)))
  have K33 : Keep h0 h24 [zo] := K22.wr W24 (Or.inl (List.mem_of_getElem? (i := 0) rfl))
  have N34 := Fr.snoc X24 N23 g_zo
  show own_WP _ _ _ _ T24 (mkF m 19 #[.val (.ref zo), .val (.int zi), .val (.int zd), .val (.long zl), .second, .val (.ref za)] [])
  refine own_go (fun t k => XS.aloadN X24.here hx rfl (hb hby d1_19) rfl rfl  k) ?_
  show own_WP _ _ _ _ T24 (mkF m 20 #[.val (.ref zo), .val (.int zi), .val (.int zd), .val (.long zl), .second, .val (.ref za)] [(.ref zo)])
  refine own_go (fun t k => XS.aload X24.here hx rfl (hb hby d1_20) rfl rfl  k) ?_
  show own_WP _ _ _ _ T24 (mkF m 22 #[.val (.ref zo), .val (.int zi), .val (.int zd), .val (.long zl), .second, .val (.ref za)] [(.ref za), (.ref zo)])
  obtain ⟨T35, h35, X35, e35, E35, A35, G35, st35⟩ := cloneH X24 hx hZ hown (hw _ (List.mem_of_getElem? (i := 16) rfl)) (hw _ (List.mem_of_getElem? (i := 17) rfl)) (hw _ (List.mem_of_getElem? (i := 21) rfl)) (hw _ (List.mem_of_getElem? (i := 19) rfl)) (hw _ (List.mem_of_getElem? (i := 20) rfl)) (hw _ (List.mem_of_getElem? (i := 22) rfl)) e24 (Arv.arh f29) f30 (g := (mkF m 22 #[.val (.ref zo), .val (.int zi), .val (.int zd), .val (.long zl), .second, .val (.ref za)] [(.ref za), (.ref zo)])) rfl (by rw [hml]; rfl) rfl (hb hby d1_22) (by decide) (W := 1) (cap := 1) (by show 2 * 0 + _ ≤ _; exact Nat.le_of_eq rfl) (by decide) (by decide) (by decide) (by decide)
  obtain ⟨b35, q35⟩ : ∃ z, z = h24.size := ⟨_, rfl⟩
  rw [← q35] at A35 G35 st35
  refine own_go st35 ?_
  have g_b35 : n0 ≤ b35 := Nat.le_trans (own_le Z0 K33) (Nat.le_of_eq q35.symm)
  have sz_b35 : h0.size ≤ b35 := Nat.le_trans K33.1 (Nat.le_of_eq q35.symm)
  have ne_zo_b35 : zo ≠ b35 := Nat.ne_of_lt (Nat.lt_of_lt_of_le f26.lt (Nat.le_of_eq q35.symm))
  have ne_za_b35 : za ≠ b35 := Nat.ne_of_lt (Nat.lt_of_lt_of_le f29.lt (Nat.le_of_eq q35.symm))
  have f36 : Exa Z h35 zo "com/example/tersel/tersel/bench/Arrivals" := f26.ext E35
  have f37 : Fld Z h35 zo "com/example/tersel/tersel/bench/Arrivals" "latencies" "[J" u3 := f28.ext E35
  have f38 : Arv Z h35 za zk .long (1 : Int32) [(.long zl)] (.long (0 : Int64)) := f29.ext E35
  have f39 : Exa Z h35 za "[J" := f30.ext E35
  have f40 : Fld Z h35 zo "com/example/tersel/tersel/bench/Arrivals" "submitted" "I" (.int zi) := f31.ext E35
  have f41 : Fld Z h35 zo "com/example/tersel/tersel/bench/Arrivals" "destinations" "I" (.int zd) := f32.ext E35
  have f42 : Fld Z h35 zo "com/example/tersel/tersel/bench/Arrivals" "last" "J" (.long zl) := f25.ext E35
  have K43 : Keep h0 h35 [zo] := K33.ext E35
  show own_WP _ _ _ _ T35 (mkF m 25 #[.val (.ref zo), .val (.int zi), .val (.int zd), .val (.long zl), .second, .val (.ref za)] [(.ref b35), (.ref zo)])
  obtain ⟨T44, X44, e44, st44⟩ := castY X35 hx hZ hown (hw _ (List.mem_of_getElem? (i := 23) rfl)) e35 (Ins.self G35) (g := (mkF m 25 #[.val (.ref zo), .val (.int zi), .val (.int zd), .val (.long zl), .second, .val (.ref za)] [(.ref b35), (.ref zo)])) rfl rfl (hb hby d1_25)
  refine own_go st44 ?_
  show own_WP _ _ _ _ T44 (mkF m 28 #[.val (.ref zo), .val (.int zi), .val (.int zd), .val (.long zl), .second, .val (.ref za)] [(.ref b35), (.ref zo)])
  obtain ⟨T45, h45, X45, e45, W45, st45⟩ := putF X44 hx hZ hown (host := "") (Or.inl (hw _ (List.mem_of_getElem? (i := 25) rfl))) Via.refl e44 f37 f36 (Or.inr ⟨(hw _ (List.mem_of_getElem? (i := 26) rfl)), rfl, hnm⟩) (hw _ (List.mem_of_getElem? (i := 2) rfl)) (ty := (.array .long)) (by decide) rfl rfl (g := (mkF m 28 #[.val (.ref zo), .val (.int zi), .val (.int zd), .val (.long zl), .second, .val (.ref za)] [(.ref b35), (.ref zo)])) rfl rfl (hb hby d1_28)
  refine own_go st45 ?_
  have f46 : Fld Z h45 zo "com/example/tersel/tersel/bench/Arrivals" "latencies" "[J" (.ref b35) := f37.same W45
  have f47 : Exa Z h45 zo "com/example/tersel/tersel/bench/Arrivals" := f36.wr W45
  have f49 : Arv Z h45 za zk .long (1 : Int32) [(.long zl)] (.long (0 : Int64)) := f38.other W45 hne
  have f50 : Exa Z h45 za "[J" := f39.wr W45
  have f51 : Fld Z h45 zo "com/example/tersel/tersel/bench/Arrivals" "submitted" "I" (.int zi) := f40.other W45 (Or.inr (slot_ne (Or.inr (hw _ (List.mem_of_getElem? (i := 11) rfl))) (Or.inr (hw _ (List.mem_of_getElem? (i := 26) rfl))) (by decide) (t := .int) (t' := (.array .long)) (by decide) (by decide)))
  have f52 : Fld Z h45 zo "com/example/tersel/tersel/bench/Arrivals" "destinations" "I" (.int zd) := f41.other W45 (Or.inr (slot_ne (Or.inr (hw _ (List.mem_of_getElem? (i := 13) rfl))) (Or.inr (hw _ (List.mem_of_getElem? (i := 26) rfl))) (by decide) (t := .int) (t' := (.array .long)) (by decide) (by decide)))
  have f53 : Fld Z h45 zo "com/example/tersel/tersel/bench/Arrivals" "last" "J" (.long zl) := f42.other W45 (Or.inr (slot_ne (Or.inr (hw _ (List.mem_of_getElem? (i := 15) rfl))) (Or.inr (hw _ (List.mem_of_getElem? (i := 26) rfl))) (by decide) (t := .long) (t' := (.array .long)) (by decide) (by decide)))
  have f54 : Arv Z h45 b35 zk .long (1 : Int32) [(.long zl)] (.long (0 : Int64)) := A35.other W45 (Ne.symm ne_zo_b35)
  have f55 : Exa Z h45 b35 "[J" := G35.wr W45
  have K56 : Keep h0 h45 [zo] := K43.wr W45 (Or.inl (List.mem_of_getElem? (i := 0) rfl))
  have N57 := Fr.snoc X45 N34 g_zo
  show own_WP _ _ _ _ T45 (mkF m 31 #[.val (.ref zo), .val (.int zi), .val (.int zd), .val (.long zl), .second, .val (.ref za)] [])
  refine own_retV X45 hx Bd.notSynchronized Bd.returns (hb hby d1_31) (by decide) (by decide) ?_
  rw [e45]
  exact ⟨rfl, N57, K56, f47, f51, f52⟩
theorem d3_0 : decode prog_1_method_6_code 0 = .ok (.aload_n 0, 1) := by decide +kernel
theorem d3_1 : decode prog_1_method_6_code 1 = .ok (.getfield 7, 3) := by decide +kernel
theorem d3_4 : decode prog_1_method_6_code 4 = .ok (.iload_n 1, 1) := by decide +kernel
theorem d3_5 : decode prog_1_method_6_code 5 = .ok (.if_icmp .ne 15, 3) := by decide +kernel
theorem d3_8 : decode prog_1_method_6_code 8 = .ok (.aload_n 0, 1) := by decide +kernel
theorem d3_9 : decode prog_1_method_6_code 9 = .ok (.getfield 13, 3) := by decide +kernel
theorem d3_12 : decode prog_1_method_6_code 12 = .ok (.iload_n 1, 1) := by decide +kernel
theorem d3_13 : decode prog_1_method_6_code 13 = .ok (.if_icmp .ne 7, 3) := by decide +kernel
theorem d3_16 : decode prog_1_method_6_code 16 = .ok (.iconst 1, 1) := by decide +kernel
theorem d3_17 : decode prog_1_method_6_code 17 = .ok (.goto 4, 3) := by decide +kernel
theorem d3_20 : decode prog_1_method_6_code 20 = .ok (.iconst 0, 1) := by decide +kernel
theorem d3_21 : decode prog_1_method_6_code 21 = .ok (.ireturn, 1) := by decide +kernel
theorem ef_3 (m : MethodId) (zo : Addr) (zq : Int32) : entryFrame m #[(.ref zo), (.int zq)] 2 = mkF m 0 #[.val (.ref zo), .val (.int zq)] [] := by first | (simp [entryFrame, mkF, argsToLocals, Value.category]; done) | rfl
def Q3 (Z : State) (zo : Addr) (zq : Int32) (zi : Int32) (zd : Int32) (h0 : Heap) (n0 : Nat) (v : Option Value) (h : Heap) (L : List Loc) : Prop := v = some (.int (own_cp zi zd zq)) ∧ Fr n0 L ∧ h = h0
set_option maxRecDepth 65536 in
set_option maxHeartbeats 40000000 in
theorem rm3 (l : Launch) (Z : State) (a0 : Array Value) (hw : ∀ d ∈ tables_1, d.before a0 Z = true) (ws : List Jvm.Cond) (zo : Addr) (zq : Int32) (zi : Int32) (zd : Int32) (h0 : Heap) (n0 : Nat) (Z0 : n0 ≤ h0.size) (P0 : Fld Z h0 zo "com/example/tersel/tersel/bench/Arrivals" "submitted" "I" (.int zi)) (P1 : Fld Z h0 zo "com/example/tersel/tersel/bench/Arrivals" "destinations" "I" (.int zd)) :
    MetFree l (⟨"com/example/tersel/tersel/bench/Arrivals", "complete", "(I)Z"⟩ : MethodName) (head1 (Jvm.Cond.code (⟨"com/example/tersel/tersel/bench/Arrivals", "complete", "(I)Z"⟩ : MethodName) prog_1_method_6_code 2 (some .boolean) :: ws) ({ frames := 0, cells := 0, slots := 0, locals := 0 } : Room)) (fun a U => a = #[(.ref zo), (.int zq)] ∧ Z.Warmed39 U.vm ∧ U.heap = h0) (fun _ _ _ _ _ => True) (fun _ U o U' => ∃ v L, o = .returned v ∧ Q3 Z zo zq zi zd h0 n0 v U'.heap L ∧ FrameEnd U o U' L ({ frames := 0, cells := 0, slots := 0, locals := 0 } : Room).cells ({ frames := 0, cells := 0, slots := 0, locals := 0 } : Room).slots) := by
  refine MetFree.of_bodySF (plainFor_of_name own_pn91044) hisR ?_
  intro p e s m args below meth c s₁ Bd hml0 hP hK
  obtain ⟨rfl, hZ, hh⟩ := hP
  have hx := Bd.exec
  have hby := Bd.bytes
  have hml : c.maxLocals = 2 := hml0
  have hown : s.vm.findClass "com/example/tersel/tersel/bench/Arrivals" = some m.cls := findClass_of_methodNamed Bd.named
  have hnm := (name_of_methodNamed Bd.named Bd.method).1
  have X0 : Stand p l e ({ frames := 0, cells := 0, slots := 0, locals := 0 } : Room) s m #[(.ref zo), (.int zq)] below meth c s₁ [] 0 0 := Stand.of_body Bd
  have e0 : s₁.heap = h0 := by rw [← hh, Bd.state]; rfl
  have N0 := Fr.nil n0
  have K0 := Keep.refl h0 ([] : List Addr)
  show own_WP p e below (own_E s (Q3 Z zo zq zi zd h0 n0) 0 0) s₁ (entryFrame m #[(.ref zo), (.int zq)] 2)
  rw [ef_3 m zo zq]
  show own_WP _ _ _ _ s₁ (mkF m 0 #[.val (.ref zo), .val (.int zq)] [])
  refine own_go (fun t k => XS.aloadN X0.here hx rfl (hb hby d3_0) rfl rfl  k) ?_
  show own_WP _ _ _ _ s₁ (mkF m 1 #[.val (.ref zo), .val (.int zq)] [(.ref zo)])
  obtain ⟨T1, X1, e1, st1⟩ := getF X0 hx hZ hown (host := "") (Or.inl (hw _ (List.mem_of_getElem? (i := 10) rfl))) Via.refl e0 P0 (g := (mkF m 1 #[.val (.ref zo), .val (.int zq)] [(.ref zo)])) rfl rfl (hb hby d3_1)
  refine own_go st1 ?_
  show own_WP _ _ _ _ T1 (mkF m 4 #[.val (.ref zo), .val (.int zq)] [(.int zi)])
  refine own_go (fun t k => XS.iloadN X1.here hx rfl (hb hby d3_4) rfl  k) ?_
  show own_WP _ _ _ _ T1 (mkF m 5 #[.val (.ref zo), .val (.int zq)] [(.int zq), (.int zi)])
  by_cases hc5 : zi = zq
  · refine own_go (fun t k => XS.icmpNo X1.here hx rfl (hb hby d3_5) rfl (teq hc5).2 k) ?_
    show own_WP _ _ _ _ T1 (mkF m 8 #[.val (.ref zo), .val (.int zq)] [])
    refine own_go (fun t k => XS.aloadN X1.here hx rfl (hb hby d3_8) rfl rfl  k) ?_
    show own_WP _ _ _ _ T1 (mkF m 9 #[.val (.ref zo), .val (.int zq)] [(.ref zo)])
    obtain ⟨T2, X2, e2, st2⟩ := getF X1 hx hZ hown (host := "") (Or.inl (hw _ (List.mem_of_getElem? (i := 12) rfl))) Via.refl e1 P1 (g := (mkF m 9 #[.val (.ref zo), .val (.int zq)] [(.ref zo)])) rfl rfl (hb hby d3_9)
    refine own_go st2 ?_
    show own_WP _ _ _ _ T2 (mkF m 12 #[.val (.ref zo), .val (.int zq)] [(.int zd)])
    refine own_go (fun t k => XS.iloadN X2.here hx rfl (hb hby d3_12) rfl  k) ?_
    show own_WP _ _ _ _ T2 (mkF m 13 #[.val (.ref zo), .val (.int zq)] [(.int zq), (.int zd)])
    by_cases hc13 : zd = zq
    · refine own_go (fun t k => XS.icmpNo X2.here hx rfl (hb hby d3_13) rfl (teq hc13).2 k) ?_
      show own_WP _ _ _ _ T2 (mkF m 16 #[.val (.ref zo), .val (.int zq)] [])
      refine own_go (fun t k => XS.iconst X2.here hx rfl (hb hby d3_16) k) ?_
      show own_WP _ _ _ _ T2 (mkF m 17 #[.val (.ref zo), .val (.int zq)] [(.int (1 : Int32))])
      refine own_go (fun t k => XS.goto X2.here hx rfl (pc0 := 17) (pc' := 21) rfl (hb hby d3_17) (by decide) (by decide) k) ?_
      show own_WP _ _ _ _ T2 (mkF m 21 #[.val (.ref zo), .val (.int zq)] [(.int (1 : Int32))])
      refine own_retN X2 hx Bd.notSynchronized (t := .boolean) (by simp) Bd.returns (hb hby d3_21) (by decide) (by decide) ?_
      rw [e2]
      exact ⟨(congrArg (fun z => some (Value.int z)) (show (nar .boolean (1 : Int32)) = (own_cp zi zd zq) from by first | (simp [nar, own_cp, hc5, hc13]; done) | (simp only [if_true, if_false, eq_self, ↓reduceIte, own_cp, hc5, hc13]; first | done | rfl | decide))), N0, rfl⟩
    · refine own_go (fun t k => XS.icmpYes X2.here hx rfl (pc0 := 13) (pc' := 20) rfl (hb hby d3_13) rfl (feq hc13).2 (by decide) (by decide) k) ?_
      show own_WP _ _ _ _ T2 (mkF m 20 #[.val (.ref zo), .val (.int zq)] [])
      refine own_go (fun t k => XS.iconst X2.here hx rfl (hb hby d3_20) k) ?_
      show own_WP _ _ _ _ T2 (mkF m 21 #[.val (.ref zo), .val (.int zq)] [(.int (0 : Int32))])
      refine own_retN X2 hx Bd.notSynchronized (t := .boolean) (by simp) Bd.returns (hb hby d3_21) (by decide) (by decide) ?_
      rw [e2]
      exact ⟨(congrArg (fun z => some (Value.int z)) (show (nar .boolean (0 : Int32)) = (own_cp zi zd zq) from by first | (simp [nar, own_cp, hc5, hc13]; done) | (simp only [if_true, if_false, eq_self, ↓reduceIte, own_cp, hc5, hc13]; first | done | rfl | decide))), N0, rfl⟩
  · refine own_go (fun t k => XS.icmpYes X1.here hx rfl (pc0 := 5) (pc' := 20) rfl (hb hby d3_5) rfl (feq hc5).2 (by decide) (by decide) k) ?_
    show own_WP _ _ _ _ T1 (mkF m 20 #[.val (.ref zo), .val (.int zq)] [])
    refine own_go (fun t k => XS.iconst X1.here hx rfl (hb hby d3_20) k) ?_
    show own_WP _ _ _ _ T1 (mkF m 21 #[.val (.ref zo), .val (.int zq)] [(.int (0 : Int32))])
    refine own_retN X1 hx Bd.notSynchronized (t := .boolean) (by simp) Bd.returns (hb hby d3_21) (by decide) (by decide) ?_
    rw [e1]
    exact ⟨(congrArg (fun z => some (Value.int z)) (show (nar .boolean (0 : Int32)) = (own_cp zi zd zq) from by first | (simp [nar, own_cp, hc5]; done) | (simp only [if_true, if_false, eq_self, ↓reduceIte, own_cp, hc5]; first | done | rfl | decide))), N0, rfl⟩
theorem own_pd82578 : parseMethodDescriptor "(IIJ[J)V" = some ⟨[.int, .int, .long, (.array .long)], none⟩ := by decide +kernel
theorem own_pd81854 : parseMethodDescriptor "(I)Z" = some ⟨[.int], some .boolean⟩ := by decide +kernel
theorem own_pn59702 : plainName "com/example/tersel/tersel/bench/ArrivalsCompletePinLaw" = true := by first | (simp [plainName, overriddenIn]; done) | decide +kernel
theorem ef_0 (m : MethodId) (zm : Int32) (zs : Int32) (zd : Int32) (zf : Int32) (zl : Int64) : entryFrame m #[(.int zm), (.int zs), (.int zd), (.int zf), (.long zl)] maxLocals = mkF m 0 #[.val (.int zm), .val (.int zs), .val (.int zd), .val (.int zf), .val (.long zl), .second, .unset, .unset, .unset, .unset, .unset, .unset, .unset, .unset, .unset] [] := by first | (simp [entryFrame, mkF, argsToLocals, Value.category, maxLocals]; done) | rfl
def Q0 (Z : State) (zm : Int32) (zs : Int32) (zd : Int32) (zf : Int32) (zl : Int64) (h0 : Heap) (n0 : Nat) (v : Option Value) (h : Heap) (L : List Loc) : Prop := v = some (.int 1) ∧ Fr n0 L
set_option maxRecDepth 65536 in
set_option maxHeartbeats 40000000 in
theorem rm0 (l : Launch) (Z : State) (a0 : Array Value) (hw : ∀ d ∈ tables_1, d.before a0 Z = true) (ws : List Jvm.Cond) (zm : Int32) (zs : Int32) (zd : Int32) (zf : Int32) (zl : Int64) (h0 : Heap) (n0 : Nat) (Z0 : n0 ≤ h0.size)  :
    MetFree l x (head1 (Jvm.Cond.code x code maxLocals ret :: ws) room_1) (fun a U => a = #[(.int zm), (.int zs), (.int zd), (.int zf), (.long zl)] ∧ Z.Warmed39 U.vm ∧ U.heap = h0) (fun _ _ _ _ _ => True) (fun _ U o U' => ∃ v L, o = .returned v ∧ Q0 Z zm zs zd zf zl h0 n0 v U'.heap L ∧ FrameEnd U o U' L 3 6) := by
  refine MetFree.of_bodySF (plainFor_of_name own_pn59702) hisR ?_
  intro p e s m args below meth c s₁ Bd hml0 hP hK
  obtain ⟨rfl, hZ, hh⟩ := hP
  have hx := Bd.exec
  have hby := Bd.bytes
  have hml : c.maxLocals = 15 := hml0
  have hown : s.vm.findClass "com/example/tersel/tersel/bench/ArrivalsCompletePinLaw" = some m.cls := findClass_of_methodNamed Bd.named
  have hnm := (name_of_methodNamed Bd.named Bd.method).1
  have X0 : Stand p l e room_1 s m #[(.int zm), (.int zs), (.int zd), (.int zf), (.long zl)] below meth c s₁ [] 0 0 := Stand.of_body Bd
  have e0 : s₁.heap = h0 := by rw [← hh, Bd.state]; rfl
  have N0 := Fr.nil n0
  have K0 := Keep.refl h0 ([] : List Addr)
  show own_WP p e below (own_E s (Q0 Z zm zs zd zf zl h0 n0) 3 6) s₁ (entryFrame m #[(.int zm), (.int zs), (.int zd), (.int zf), (.long zl)] maxLocals)
  rw [ef_0 m zm zs zd zf zl]
  show own_WP _ _ _ _ s₁ (mkF m 0 #[.val (.int zm), .val (.int zs), .val (.int zd), .val (.int zf), .val (.long zl), .second, .unset, .unset, .unset, .unset, .unset, .unset, .unset, .unset, .unset] [])
  refine own_go (fun t k => XS.iloadN X0.here hx rfl (hb hby at_0) rfl  k) ?_
  show own_WP _ _ _ _ s₁ (mkF m 1 #[.val (.int zm), .val (.int zs), .val (.int zd), .val (.int zf), .val (.long zl), .second, .unset, .unset, .unset, .unset, .unset, .unset, .unset, .unset, .unset] [(.int zf)])
  refine own_go (fun t k => XS.iconst X0.here hx rfl (hb hby at_1) k) ?_
  show own_WP _ _ _ _ s₁ (mkF m 2 #[.val (.int zm), .val (.int zs), .val (.int zd), .val (.int zf), .val (.long zl), .second, .unset, .unset, .unset, .unset, .unset, .unset, .unset, .unset, .unset] [(.int (1 : Int32)), (.int zf)])
  refine own_go (fun t k => XS.iand X0.here hx rfl (hb hby at_2) rfl k) ?_
  show own_WP _ _ _ _ s₁ (mkF m 3 #[.val (.int zm), .val (.int zs), .val (.int zd), .val (.int zf), .val (.long zl), .second, .unset, .unset, .unset, .unset, .unset, .unset, .unset, .unset, .unset] [(.int (zf &&& (1 : Int32)))])
  by_cases hc3 : (zf &&& (1 : Int32)) = (0 : Int32)
  · refine own_go (fun t k => XS.ifYes X0.here hx rfl (pc0 := 3) (pc' := 10) rfl (hb hby at_3) rfl ((if0 _ _).trans (teq hc3).1) (by decide) (by decide) k) ?_
    show own_WP _ _ _ _ s₁ (mkF m 10 #[.val (.int zm), .val (.int zs), .val (.int zd), .val (.int zf), .val (.long zl), .second, .unset, .unset, .unset, .unset, .unset, .unset, .unset, .unset, .unset] [])
    refine own_go (fun t k => XS.iconst X0.here hx rfl (hb hby at_10) k) ?_
    show own_WP _ _ _ _ s₁ (mkF m 11 #[.val (.int zm), .val (.int zs), .val (.int zd), .val (.int zf), .val (.long zl), .second, .unset, .unset, .unset, .unset, .unset, .unset, .unset, .unset, .unset] [(.int (0 : Int32))])
    refine own_go (fun t k => XS.istore X0.here hx rfl (hb hby at_11) rfl (l' := #[.val (.int zm), .val (.int zs), .val (.int zd), .val (.int zf), .val (.long zl), .second, .val (.int (0 : Int32)), .unset, .unset, .unset, .unset, .unset, .unset, .unset, .unset]) rfl k) ?_
    show own_WP _ _ _ _ s₁ (mkF m 13 #[.val (.int zm), .val (.int zs), .val (.int zd), .val (.int zf), .val (.long zl), .second, .val (.int (0 : Int32)), .unset, .unset, .unset, .unset, .unset, .unset, .unset, .unset] [])
    refine own_go (fun t k => XS.iloadN X0.here hx rfl (hb hby at_13) rfl  k) ?_
    show own_WP _ _ _ _ s₁ (mkF m 14 #[.val (.int zm), .val (.int zs), .val (.int zd), .val (.int zf), .val (.long zl), .second, .val (.int (0 : Int32)), .unset, .unset, .unset, .unset, .unset, .unset, .unset, .unset] [(.int zf)])
    refine own_go (fun t k => XS.iconst X0.here hx rfl (hb hby at_14) k) ?_
    show own_WP _ _ _ _ s₁ (mkF m 15 #[.val (.int zm), .val (.int zs), .val (.int zd), .val (.int zf), .val (.long zl), .second, .val (.int (0 : Int32)), .unset, .unset, .unset, .unset, .unset, .unset, .unset, .unset] [(.int (2 : Int32)), (.int zf)])
    refine own_go (fun t k => XS.iand X0.here hx rfl (hb hby at_15) rfl k) ?_
    show own_WP _ _ _ _ s₁ (mkF m 16 #[.val (.int zm), .val (.int zs), .val (.int zd), .val (.int zf), .val (.long zl), .second, .val (.int (0 : Int32)), .unset, .unset, .unset, .unset, .unset, .unset, .unset, .unset] [(.int (zf &&& (2 : Int32)))])
    by_cases hc16 : (zf &&& (2 : Int32)) = (0 : Int32)
    · refine own_go (fun t k => XS.ifYes X0.here hx rfl (pc0 := 16) (pc' := 23) rfl (hb hby at_16) rfl ((if0 _ _).trans (teq hc16).1) (by decide) (by decide) k) ?_
      show own_WP _ _ _ _ s₁ (mkF m 23 #[.val (.int zm), .val (.int zs), .val (.int zd), .val (.int zf), .val (.long zl), .second, .val (.int (0 : Int32)), .unset, .unset, .unset, .unset, .unset, .unset, .unset, .unset] [])
      refine own_go (fun t k => XS.iconst X0.here hx rfl (hb hby at_23) k) ?_
      show own_WP _ _ _ _ s₁ (mkF m 24 #[.val (.int zm), .val (.int zs), .val (.int zd), .val (.int zf), .val (.long zl), .second, .val (.int (0 : Int32)), .unset, .unset, .unset, .unset, .unset, .unset, .unset, .unset] [(.int (0 : Int32))])
      refine own_go (fun t k => XS.istore X0.here hx rfl (hb hby at_24) rfl (l' := #[.val (.int zm), .val (.int zs), .val (.int zd), .val (.int zf), .val (.long zl), .second, .val (.int (0 : Int32)), .val (.int (0 : Int32)), .unset, .unset, .unset, .unset, .unset, .unset, .unset]) rfl k) ?_
      show own_WP _ _ _ _ s₁ (mkF m 26 #[.val (.int zm), .val (.int zs), .val (.int zd), .val (.int zf), .val (.long zl), .second, .val (.int (0 : Int32)), .val (.int (0 : Int32)), .unset, .unset, .unset, .unset, .unset, .unset, .unset] [])
      refine own_go (fun t k => XS.iload X0.here hx rfl (hb hby at_26) rfl  k) ?_
      show own_WP _ _ _ _ s₁ (mkF m 28 #[.val (.int zm), .val (.int zs), .val (.int zd), .val (.int zf), .val (.long zl), .second, .val (.int (0 : Int32)), .val (.int (0 : Int32)), .unset, .unset, .unset, .unset, .unset, .unset, .unset] [(.int (0 : Int32))])
      have hc28 : (0 : Int32) = (0 : Int32) := rfl
      refine own_go (fun t k => XS.ifYes X0.here hx rfl (pc0 := 28) (pc' := 35) rfl (hb hby at_28) rfl ((if0 _ _).trans (teq hc28).1) (by decide) (by decide) k) ?_
      show own_WP _ _ _ _ s₁ (mkF m 35 #[.val (.int zm), .val (.int zs), .val (.int zd), .val (.int zf), .val (.long zl), .second, .val (.int (0 : Int32)), .val (.int (0 : Int32)), .unset, .unset, .unset, .unset, .unset, .unset, .unset] [])
      refine own_go (fun t k => XS.iloadN X0.here hx rfl (hb hby at_35) rfl  k) ?_
      show own_WP _ _ _ _ s₁ (mkF m 36 #[.val (.int zm), .val (.int zs), .val (.int zd), .val (.int zf), .val (.long zl), .second, .val (.int (0 : Int32)), .val (.int (0 : Int32)), .unset, .unset, .unset, .unset, .unset, .unset, .unset] [(.int zs)])
      refine own_go (fun t k => XS.istore X0.here hx rfl (hb hby at_36) rfl (l' := #[.val (.int zm), .val (.int zs), .val (.int zd), .val (.int zf), .val (.long zl), .second, .val (.int (0 : Int32)), .val (.int (0 : Int32)), .val (.int zs), .unset, .unset, .unset, .unset, .unset, .unset]) rfl k) ?_
      show own_WP _ _ _ _ s₁ (mkF m 38 #[.val (.int zm), .val (.int zs), .val (.int zd), .val (.int zf), .val (.long zl), .second, .val (.int (0 : Int32)), .val (.int (0 : Int32)), .val (.int zs), .unset, .unset, .unset, .unset, .unset, .unset] [])
      refine own_go (fun t k => XS.iload X0.here hx rfl (hb hby at_38) rfl  k) ?_
      show own_WP _ _ _ _ s₁ (mkF m 40 #[.val (.int zm), .val (.int zs), .val (.int zd), .val (.int zf), .val (.long zl), .second, .val (.int (0 : Int32)), .val (.int (0 : Int32)), .val (.int zs), .unset, .unset, .unset, .unset, .unset, .unset] [(.int (0 : Int32))])
      have hc40 : (0 : Int32) = (0 : Int32) := rfl
      refine own_go (fun t k => XS.ifYes X0.here hx rfl (pc0 := 40) (pc' := 47) rfl (hb hby at_40) rfl ((if0 _ _).trans (teq hc40).1) (by decide) (by decide) k) ?_
      show own_WP _ _ _ _ s₁ (mkF m 47 #[.val (.int zm), .val (.int zs), .val (.int zd), .val (.int zf), .val (.long zl), .second, .val (.int (0 : Int32)), .val (.int (0 : Int32)), .val (.int zs), .unset, .unset, .unset, .unset, .unset, .unset] [])
      refine own_go (fun t k => XS.iloadN X0.here hx rfl (hb hby at_47) rfl  k) ?_
      show own_WP _ _ _ _ s₁ (mkF m 48 #[.val (.int zm), .val (.int zs), .val (.int zd), .val (.int zf), .val (.long zl), .second, .val (.int (0 : Int32)), .val (.int (0 : Int32)), .val (.int zs), .unset, .unset, .unset, .unset, .unset, .unset] [(.int zd)])
      refine own_go (fun t k => XS.istore X0.here hx rfl (hb hby at_48) rfl (l' := #[.val (.int zm), .val (.int zs), .val (.int zd), .val (.int zf), .val (.long zl), .second, .val (.int (0 : Int32)), .val (.int (0 : Int32)), .val (.int zs), .val (.int zd), .unset, .unset, .unset, .unset, .unset]) rfl k) ?_
      show own_WP _ _ _ _ s₁ (mkF m 50 #[.val (.int zm), .val (.int zs), .val (.int zd), .val (.int zf), .val (.long zl), .second, .val (.int (0 : Int32)), .val (.int (0 : Int32)), .val (.int zs), .val (.int zd), .unset, .unset, .unset, .unset, .unset] [])
      refine own_go (fun t k => XS.iconst X0.here hx rfl (hb hby at_50) k) ?_
      show own_WP _ _ _ _ s₁ (mkF m 51 #[.val (.int zm), .val (.int zs), .val (.int zd), .val (.int zf), .val (.long zl), .second, .val (.int (0 : Int32)), .val (.int (0 : Int32)), .val (.int zs), .val (.int zd), .unset, .unset, .unset, .unset, .unset] [(.int (1 : Int32))])
      obtain ⟨T1, h1, k1, X1, e1, E1, A1, G1, st1⟩ := newPE X0 hx hZ (hw _ (List.mem_of_getElem? (i := 0) rfl)) e0 (g := (mkF m 51 #[.val (.int zm), .val (.int zs), .val (.int zd), .val (.int zf), .val (.long zl), .second, .val (.int (0 : Int32)), .val (.int (0 : Int32)), .val (.int zs), .val (.int zd), .unset, .unset, .unset, .unset, .unset] [(.int (1 : Int32))])) rfl (hb hby at_51) rfl (by decide) (cap := 1) (by decide) (by decide) (by decide) (by decide) (ad := "[J") rfl
      obtain ⟨za, q1⟩ : ∃ z, z = h0.size := ⟨_, rfl⟩
      rw [← q1] at A1 G1 st1
      refine own_go st1 ?_
      have g_za : n0 ≤ za := Nat.le_trans (own_le Z0 K0) (Nat.le_of_eq q1.symm)
      have sz_za : h0.size ≤ za := Nat.le_trans K0.1 (Nat.le_of_eq q1.symm)
      have K2 : Keep h0 h1 [] := K0.ext E1
      have f3 : Arv Z h1 za k1 .long (1 : Int32) [(.long (0 : Int64))] (.long (0 : Int64)) := (Arv.new A1 (by decide)).pad (pad_rep [] (.long (0 : Int64)) 1)
      show own_WP _ _ _ _ T1 (mkF m 53 #[.val (.int zm), .val (.int zs), .val (.int zd), .val (.int zf), .val (.long zl), .second, .val (.int (0 : Int32)), .val (.int (0 : Int32)), .val (.int zs), .val (.int zd), .unset, .unset, .unset, .unset, .unset] [(.ref za)])
      refine own_go (fun t k => XS.dup X1.here hx rfl (hb hby at_53) rfl rfl k) ?_
      show own_WP _ _ _ _ T1 (mkF m 54 #[.val (.int zm), .val (.int zs), .val (.int zd), .val (.int zf), .val (.long zl), .second, .val (.int (0 : Int32)), .val (.int (0 : Int32)), .val (.int zs), .val (.int zd), .unset, .unset, .unset, .unset, .unset] [(.ref za), (.ref za)])
      refine own_go (fun t k => XS.iconst X1.here hx rfl (hb hby at_54) k) ?_
      show own_WP _ _ _ _ T1 (mkF m 55 #[.val (.int zm), .val (.int zs), .val (.int zd), .val (.int zf), .val (.long zl), .second, .val (.int (0 : Int32)), .val (.int (0 : Int32)), .val (.int zs), .val (.int zd), .unset, .unset, .unset, .unset, .unset] [(.int (0 : Int32)), (.ref za), (.ref za)])
      refine own_go (fun t k => XS.lload X1.here hx rfl (hb hby at_55) rfl  k) ?_
      show own_WP _ _ _ _ T1 (mkF m 57 #[.val (.int zm), .val (.int zs), .val (.int zd), .val (.int zf), .val (.long zl), .second, .val (.int (0 : Int32)), .val (.int (0 : Int32)), .val (.int zs), .val (.int zd), .unset, .unset, .unset, .unset, .unset] [(.long zl), (.int (0 : Int32)), (.ref za), (.ref za)])
      refine own_stJ X1 hx hZ e1 f3 (j := (0 : Int32)) ⟨by decide, by decide⟩ (i := 0) rfl (by decide) (hb hby at_57) ?_
      intro T4 h4 X4 e4 W4 V4
      have f5 : Arv Z h4 za k1 .long (1 : Int32) [(.long zl)] (.long (0 : Int64)) := V4
      have f6 : Exa Z h4 za "[J" := G1.wr W4
      have K8 : Keep h0 h4 [] := K2.wr W4 (Or.inr sz_za)
      have N9 := Fr.snoc X4 N0 g_za
      show own_WP _ _ _ _ T4 (mkF m 58 #[.val (.int zm), .val (.int zs), .val (.int zd), .val (.int zf), .val (.long zl), .second, .val (.int (0 : Int32)), .val (.int (0 : Int32)), .val (.int zs), .val (.int zd), .unset, .unset, .unset, .unset, .unset] [(.ref za)])
      refine own_go (fun t k => XS.astore X4.here hx rfl (hb hby at_58) rfl rfl (l' := #[.val (.int zm), .val (.int zs), .val (.int zd), .val (.int zf), .val (.long zl), .second, .val (.int (0 : Int32)), .val (.int (0 : Int32)), .val (.int zs), .val (.int zd), .val (.ref za), .unset, .unset, .unset, .unset]) rfl k) ?_
      show own_WP _ _ _ _ T4 (mkF m 60 #[.val (.int zm), .val (.int zs), .val (.int zd), .val (.int zf), .val (.long zl), .second, .val (.int (0 : Int32)), .val (.int (0 : Int32)), .val (.int zs), .val (.int zd), .val (.ref za), .unset, .unset, .unset, .unset] [])
      obtain ⟨T10, h10, X10, e10, E10, A10, D10, -, st10⟩ := newO X4 hx hZ hown (hw _ (List.mem_of_getElem? (i := 1) rfl)) (hw _ (List.mem_of_getElem? (i := 2) rfl)) (hw _ (List.mem_of_getElem? (i := 3) rfl)) e4 (g := (mkF m 60 #[.val (.int zm), .val (.int zs), .val (.int zd), .val (.int zf), .val (.long zl), .second, .val (.int (0 : Int32)), .val (.int (0 : Int32)), .val (.int zs), .val (.int zd), .val (.ref za), .unset, .unset, .unset, .unset] [])) rfl (hb hby at_60) (by decide) (by decide)
      obtain ⟨zo, q10⟩ : ∃ z, z = h4.size := ⟨_, rfl⟩
      rw [← q10] at A10 D10 st10
      refine own_go st10 ?_
      have g_zo : n0 ≤ zo := Nat.le_trans (own_le Z0 K8) (Nat.le_of_eq q10.symm)
      have sz_zo : h0.size ≤ zo := Nat.le_trans K8.1 (Nat.le_of_eq q10.symm)
      have ne_za_zo : za ≠ zo := Nat.ne_of_lt (Nat.lt_of_lt_of_le f6.lt (Nat.le_of_eq q10.symm))
      have f11 : Exa Z h10 za "[J" := f6.ext E10
      have f12 : Arv Z h10 za k1 .long (1 : Int32) [(.long zl)] (.long (0 : Int64)) := f5.ext E10
      have K13 : Keep h0 h10 [] := K8.ext E10
      have f14 : Fld Z h10 zo "com/example/tersel/tersel/bench/Arrivals" "submitted" "I" (.int (0 : Int32)) := D10 (Or.inr (hw _ (List.mem_of_getElem? (i := 11) rfl))) (ty := .int) (by decide)
      have f15 : Fld Z h10 zo "com/example/tersel/tersel/bench/Arrivals" "destinations" "I" (.int (0 : Int32)) := D10 (Or.inr (hw _ (List.mem_of_getElem? (i := 13) rfl))) (ty := .int) (by decide)
      have f16 : Fld Z h10 zo "com/example/tersel/tersel/bench/Arrivals" "last" "J" (.long (0 : Int64)) := D10 (Or.inr (hw _ (List.mem_of_getElem? (i := 15) rfl))) (ty := .long) (by decide)
      have f17 : Fld Z h10 zo "com/example/tersel/tersel/bench/Arrivals" "latencies" "[J" .null := D10 (Or.inr (hw _ (List.mem_of_getElem? (i := 26) rfl))) (ty := (.array .long)) (by decide)
      show own_WP _ _ _ _ T10 (mkF m 63 #[.val (.int zm), .val (.int zs), .val (.int zd), .val (.int zf), .val (.long zl), .second, .val (.int (0 : Int32)), .val (.int (0 : Int32)), .val (.int zs), .val (.int zd), .val (.ref za), .unset, .unset, .unset, .unset] [(.ref zo)])
      refine own_go (fun t k => XS.dup X10.here hx rfl (hb hby at_63) rfl rfl k) ?_
      show own_WP _ _ _ _ T10 (mkF m 64 #[.val (.int zm), .val (.int zs), .val (.int zd), .val (.int zf), .val (.long zl), .second, .val (.int (0 : Int32)), .val (.int (0 : Int32)), .val (.int zs), .val (.int zd), .val (.ref za), .unset, .unset, .unset, .unset] [(.ref zo), (.ref zo)])
      refine own_go (fun t k => XS.iload X10.here hx rfl (hb hby at_64) rfl  k) ?_
      show own_WP _ _ _ _ T10 (mkF m 66 #[.val (.int zm), .val (.int zs), .val (.int zd), .val (.int zf), .val (.long zl), .second, .val (.int (0 : Int32)), .val (.int (0 : Int32)), .val (.int zs), .val (.int zd), .val (.ref za), .unset, .unset, .unset, .unset] [(.int zs), (.ref zo), (.ref zo)])
      refine own_go (fun t k => XS.iload X10.here hx rfl (hb hby at_66) rfl  k) ?_
      show own_WP _ _ _ _ T10 (mkF m 68 #[.val (.int zm), .val (.int zs), .val (.int zd), .val (.int zf), .val (.long zl), .second, .val (.int (0 : Int32)), .val (.int (0 : Int32)), .val (.int zs), .val (.int zd), .val (.ref za), .unset, .unset, .unset, .unset] [(.int zd), (.int zs), (.ref zo), (.ref zo)])
      refine own_go (fun t k => XS.lload X10.here hx rfl (hb hby at_68) rfl  k) ?_
      show own_WP _ _ _ _ T10 (mkF m 70 #[.val (.int zm), .val (.int zs), .val (.int zd), .val (.int zf), .val (.long zl), .second, .val (.int (0 : Int32)), .val (.int (0 : Int32)), .val (.int zs), .val (.int zd), .val (.ref za), .unset, .unset, .unset, .unset] [(.long zl), (.int zd), (.int zs), (.ref zo), (.ref zo)])
      refine own_go (fun t k => XS.aload X10.here hx rfl (hb hby at_70) rfl rfl  k) ?_
      show own_WP _ _ _ _ T10 (mkF m 72 #[.val (.int zm), .val (.int zs), .val (.int zd), .val (.int zf), .val (.long zl), .second, .val (.int (0 : Int32)), .val (.int (0 : Int32)), .val (.int zs), .val (.int zd), .val (.ref za), .unset, .unset, .unset, .unset] [(.ref za), (.long zl), (.int zd), (.int zs), (.ref zo), (.ref zo)])
      obtain ⟨_, _, ⟨T18, L18, k18, n18⟩, -, X18, ⟨Lc18, hQ18, l18, y18, z18⟩, st18⟩ := X10.specialBack hx (y := (⟨"com/example/tersel/tersel/bench/Arrivals", "<init>", "(IIJ[J)V"⟩ : MethodName)) rfl hown (mvT hZ (hw _ (List.mem_of_getElem? (i := 4) rfl))) (mvT hZ (hw _ (List.mem_of_getElem? (i := 5) rfl))) (mvT hZ (hw _ (List.mem_of_getElem? (i := 6) rfl))) (by decide) (backOf (W := 1) (rm1 l Z a0 hw [] zo zs zd zl za (.int (0 : Int32)) (.int (0 : Int32)) (.long (0 : Int64)) .null k1 h10 n0 (own_le Z0 K13) A10 f14 f15 f16 f17 f12 f11 g_zo ne_za_zo) hZ (hw _ (List.mem_of_getElem? (i := 6) rfl)) (hw _ (List.mem_of_getElem? (i := 3) rfl)) (by decide) (by decide)) (g := (mkF m 72 #[.val (.int zm), .val (.int zs), .val (.int zd), .val (.int zf), .val (.long zl), .second, .val (.int (0 : Int32)), .val (.int (0 : Int32)), .val (.int zs), .val (.int zd), .val (.ref za), .unset, .unset, .unset, .unset] [(.ref za), (.long zl), (.int zd), (.int zs), (.ref zo), (.ref zo)])) rfl (by rw [hml]; rfl) (Steps.refl _) (a := zo) (argsL := [(.int zs), (.int zd), (.long zl), (.ref za)]) (rest := [(.ref zo)]) (lenOf own_pd82578 rfl) rfl (by show 2 * 0 + _ ≤ _; exact Nat.le_of_eq rfl) (hb hby at_72) (fun _ _ => ⟨rfl, e10, (by decide : 2 + 1 ≤ _), (by decide : 5 + 1 ≤ _)⟩)
      dsimp only [Pt.U, Pt.locs, Pt.cells, Pt.slots] at X18 l18 y18 z18 st18 hQ18
      subst l18 y18 z18
      obtain ⟨rfl, N18q, Kc18, f19, f20, f21⟩ := hQ18
      have N18 := Fr.app N9 N18q
      refine own_tr st18 ?_
      have f22 : Exa Z T18.heap za "[J" := f11.keep Kc18
      have f23 : Arv Z T18.heap za k1 .long (1 : Int32) [(.long zl)] (.long (0 : Int64)) := f12.keep Kc18 (own_nm ne_za_zo)
      have f24 : Exa Z T18.heap zo "com/example/tersel/tersel/bench/Arrivals" := A10.keep Kc18
      have K29 : Keep h0 T18.heap [] := K13.trans Kc18 (fun x hx => by cases List.mem_singleton.mp hx; exact Or.inr sz_zo)
      show own_WP _ _ _ _ T18 (mkF m 75 #[.val (.int zm), .val (.int zs), .val (.int zd), .val (.int zf), .val (.long zl), .second, .val (.int (0 : Int32)), .val (.int (0 : Int32)), .val (.int zs), .val (.int zd), .val (.ref za), .unset, .unset, .unset, .unset] [(.ref zo)])
      refine own_go (fun t k => XS.astore X18.here hx rfl (hb hby at_75) rfl rfl (l' := #[.val (.int zm), .val (.int zs), .val (.int zd), .val (.int zf), .val (.long zl), .second, .val (.int (0 : Int32)), .val (.int (0 : Int32)), .val (.int zs), .val (.int zd), .val (.ref za), .val (.ref zo), .unset, .unset, .unset]) rfl k) ?_
      show own_WP _ _ _ _ T18 (mkF m 77 #[.val (.int zm), .val (.int zs), .val (.int zd), .val (.int zf), .val (.long zl), .second, .val (.int (0 : Int32)), .val (.int (0 : Int32)), .val (.int zs), .val (.int zd), .val (.ref za), .val (.ref zo), .unset, .unset, .unset] [])
      refine own_go (fun t k => XS.iload X18.here hx rfl (hb hby at_77) rfl  k) ?_
      show own_WP _ _ _ _ T18 (mkF m 79 #[.val (.int zm), .val (.int zs), .val (.int zd), .val (.int zf), .val (.long zl), .second, .val (.int (0 : Int32)), .val (.int (0 : Int32)), .val (.int zs), .val (.int zd), .val (.ref za), .val (.ref zo), .unset, .unset, .unset] [(.int (0 : Int32))])
      have hc79 : (0 : Int32) = (0 : Int32) := rfl
      refine own_go (fun t k => XS.ifNo X18.here hx rfl (hb hby at_79) rfl ((if0 _ _).trans (teq hc79).2) k) ?_
      show own_WP _ _ _ _ T18 (mkF m 82 #[.val (.int zm), .val (.int zs), .val (.int zd), .val (.int zf), .val (.long zl), .second, .val (.int (0 : Int32)), .val (.int (0 : Int32)), .val (.int zs), .val (.int zd), .val (.ref za), .val (.ref zo), .unset, .unset, .unset] [])
      refine own_go (fun t k => XS.iloadN X18.here hx rfl (hb hby at_82) rfl  k) ?_
      show own_WP _ _ _ _ T18 (mkF m 83 #[.val (.int zm), .val (.int zs), .val (.int zd), .val (.int zf), .val (.long zl), .second, .val (.int (0 : Int32)), .val (.int (0 : Int32)), .val (.int zs), .val (.int zd), .val (.ref za), .val (.ref zo), .unset, .unset, .unset] [(.int zs)])
      refine own_go (fun t k => XS.iloadN X18.here hx rfl (hb hby at_83) rfl  k) ?_
      show own_WP _ _ _ _ T18 (mkF m 84 #[.val (.int zm), .val (.int zs), .val (.int zd), .val (.int zf), .val (.long zl), .second, .val (.int (0 : Int32)), .val (.int (0 : Int32)), .val (.int zs), .val (.int zd), .val (.ref za), .val (.ref zo), .unset, .unset, .unset] [(.int zm), (.int zs)])
      by_cases hc84 : zs = zm
      · refine own_go (fun t k => XS.icmpNo X18.here hx rfl (hb hby at_84) rfl (teq hc84).2 k) ?_
        show own_WP _ _ _ _ T18 (mkF m 87 #[.val (.int zm), .val (.int zs), .val (.int zd), .val (.int zf), .val (.long zl), .second, .val (.int (0 : Int32)), .val (.int (0 : Int32)), .val (.int zs), .val (.int zd), .val (.ref za), .val (.ref zo), .unset, .unset, .unset] [])
        refine own_go (fun t k => XS.iconst X18.here hx rfl (hb hby at_87) k) ?_
        show own_WP _ _ _ _ T18 (mkF m 88 #[.val (.int zm), .val (.int zs), .val (.int zd), .val (.int zf), .val (.long zl), .second, .val (.int (0 : Int32)), .val (.int (0 : Int32)), .val (.int zs), .val (.int zd), .val (.ref za), .val (.ref zo), .unset, .unset, .unset] [(.int (1 : Int32))])
        refine own_go (fun t k => XS.goto X18.here hx rfl (pc0 := 88) (pc' := 92) rfl (hb hby at_88) (by decide) (by decide) k) ?_
        show own_WP _ _ _ _ T18 (mkF m 92 #[.val (.int zm), .val (.int zs), .val (.int zd), .val (.int zf), .val (.long zl), .second, .val (.int (0 : Int32)), .val (.int (0 : Int32)), .val (.int zs), .val (.int zd), .val (.ref za), .val (.ref zo), .unset, .unset, .unset] [(.int (1 : Int32))])
        refine own_go (fun t k => XS.istore X18.here hx rfl (hb hby at_92) rfl (l' := #[.val (.int zm), .val (.int zs), .val (.int zd), .val (.int zf), .val (.long zl), .second, .val (.int (0 : Int32)), .val (.int (0 : Int32)), .val (.int zs), .val (.int zd), .val (.ref za), .val (.ref zo), .val (.int (1 : Int32)), .unset, .unset]) rfl k) ?_
        show own_WP _ _ _ _ T18 (mkF m 94 #[.val (.int zm), .val (.int zs), .val (.int zd), .val (.int zf), .val (.long zl), .second, .val (.int (0 : Int32)), .val (.int (0 : Int32)), .val (.int zs), .val (.int zd), .val (.ref za), .val (.ref zo), .val (.int (1 : Int32)), .unset, .unset] [])
        refine own_go (fun t k => XS.iload X18.here hx rfl (hb hby at_94) rfl  k) ?_
        show own_WP _ _ _ _ T18 (mkF m 96 #[.val (.int zm), .val (.int zs), .val (.int zd), .val (.int zf), .val (.long zl), .second, .val (.int (0 : Int32)), .val (.int (0 : Int32)), .val (.int zs), .val (.int zd), .val (.ref za), .val (.ref zo), .val (.int (1 : Int32)), .unset, .unset] [(.int (0 : Int32))])
        have hc96 : (0 : Int32) = (0 : Int32) := rfl
        refine own_go (fun t k => XS.ifNo X18.here hx rfl (hb hby at_96) rfl ((if0 _ _).trans (teq hc96).2) k) ?_
        show own_WP _ _ _ _ T18 (mkF m 99 #[.val (.int zm), .val (.int zs), .val (.int zd), .val (.int zf), .val (.long zl), .second, .val (.int (0 : Int32)), .val (.int (0 : Int32)), .val (.int zs), .val (.int zd), .val (.ref za), .val (.ref zo), .val (.int (1 : Int32)), .unset, .unset] [])
        refine own_go (fun t k => XS.iloadN X18.here hx rfl (hb hby at_99) rfl  k) ?_
        show own_WP _ _ _ _ T18 (mkF m 100 #[.val (.int zm), .val (.int zs), .val (.int zd), .val (.int zf), .val (.long zl), .second, .val (.int (0 : Int32)), .val (.int (0 : Int32)), .val (.int zs), .val (.int zd), .val (.ref za), .val (.ref zo), .val (.int (1 : Int32)), .unset, .unset] [(.int zd)])
        refine own_go (fun t k => XS.iloadN X18.here hx rfl (hb hby at_100) rfl  k) ?_
        show own_WP _ _ _ _ T18 (mkF m 101 #[.val (.int zm), .val (.int zs), .val (.int zd), .val (.int zf), .val (.long zl), .second, .val (.int (0 : Int32)), .val (.int (0 : Int32)), .val (.int zs), .val (.int zd), .val (.ref za), .val (.ref zo), .val (.int (1 : Int32)), .unset, .unset] [(.int zm), (.int zd)])
        by_cases hc101 : zd = zm
        · refine own_go (fun t k => XS.icmpNo X18.here hx rfl (hb hby at_101) rfl (teq hc101).2 k) ?_
          show own_WP _ _ _ _ T18 (mkF m 104 #[.val (.int zm), .val (.int zs), .val (.int zd), .val (.int zf), .val (.long zl), .second, .val (.int (0 : Int32)), .val (.int (0 : Int32)), .val (.int zs), .val (.int zd), .val (.ref za), .val (.ref zo), .val (.int (1 : Int32)), .unset, .unset] [])
          refine own_go (fun t k => XS.iconst X18.here hx rfl (hb hby at_104) k) ?_
          show own_WP _ _ _ _ T18 (mkF m 105 #[.val (.int zm), .val (.int zs), .val (.int zd), .val (.int zf), .val (.long zl), .second, .val (.int (0 : Int32)), .val (.int (0 : Int32)), .val (.int zs), .val (.int zd), .val (.ref za), .val (.ref zo), .val (.int (1 : Int32)), .unset, .unset] [(.int (1 : Int32))])
          refine own_go (fun t k => XS.goto X18.here hx rfl (pc0 := 105) (pc' := 109) rfl (hb hby at_105) (by decide) (by decide) k) ?_
          show own_WP _ _ _ _ T18 (mkF m 109 #[.val (.int zm), .val (.int zs), .val (.int zd), .val (.int zf), .val (.long zl), .second, .val (.int (0 : Int32)), .val (.int (0 : Int32)), .val (.int zs), .val (.int zd), .val (.ref za), .val (.ref zo), .val (.int (1 : Int32)), .unset, .unset] [(.int (1 : Int32))])
          refine own_go (fun t k => XS.istore X18.here hx rfl (hb hby at_109) rfl (l' := #[.val (.int zm), .val (.int zs), .val (.int zd), .val (.int zf), .val (.long zl), .second, .val (.int (0 : Int32)), .val (.int (0 : Int32)), .val (.int zs), .val (.int zd), .val (.ref za), .val (.ref zo), .val (.int (1 : Int32)), .val (.int (1 : Int32)), .unset]) rfl k) ?_
          show own_WP _ _ _ _ T18 (mkF m 111 #[.val (.int zm), .val (.int zs), .val (.int zd), .val (.int zf), .val (.long zl), .second, .val (.int (0 : Int32)), .val (.int (0 : Int32)), .val (.int zs), .val (.int zd), .val (.ref za), .val (.ref zo), .val (.int (1 : Int32)), .val (.int (1 : Int32)), .unset] [])
          refine own_go (fun t k => XS.iload X18.here hx rfl (hb hby at_111) rfl  k) ?_
          show own_WP _ _ _ _ T18 (mkF m 113 #[.val (.int zm), .val (.int zs), .val (.int zd), .val (.int zf), .val (.long zl), .second, .val (.int (0 : Int32)), .val (.int (0 : Int32)), .val (.int zs), .val (.int zd), .val (.ref za), .val (.ref zo), .val (.int (1 : Int32)), .val (.int (1 : Int32)), .unset] [(.int (1 : Int32))])
          have hc113 : ¬ ((1 : Int32) = (0 : Int32)) := by decide
          refine own_go (fun t k => XS.ifNo X18.here hx rfl (hb hby at_113) rfl ((if0 _ _).trans (feq hc113).1) k) ?_
          show own_WP _ _ _ _ T18 (mkF m 116 #[.val (.int zm), .val (.int zs), .val (.int zd), .val (.int zf), .val (.long zl), .second, .val (.int (0 : Int32)), .val (.int (0 : Int32)), .val (.int zs), .val (.int zd), .val (.ref za), .val (.ref zo), .val (.int (1 : Int32)), .val (.int (1 : Int32)), .unset] [])
          refine own_go (fun t k => XS.iload X18.here hx rfl (hb hby at_116) rfl  k) ?_
          show own_WP _ _ _ _ T18 (mkF m 118 #[.val (.int zm), .val (.int zs), .val (.int zd), .val (.int zf), .val (.long zl), .second, .val (.int (0 : Int32)), .val (.int (0 : Int32)), .val (.int zs), .val (.int zd), .val (.ref za), .val (.ref zo), .val (.int (1 : Int32)), .val (.int (1 : Int32)), .unset] [(.int (1 : Int32))])
          have hc118 : ¬ ((1 : Int32) = (0 : Int32)) := by decide
          refine own_go (fun t k => XS.ifNo X18.here hx rfl (hb hby at_118) rfl ((if0 _ _).trans (feq hc118).1) k) ?_
          show own_WP _ _ _ _ T18 (mkF m 121 #[.val (.int zm), .val (.int zs), .val (.int zd), .val (.int zf), .val (.long zl), .second, .val (.int (0 : Int32)), .val (.int (0 : Int32)), .val (.int zs), .val (.int zd), .val (.ref za), .val (.ref zo), .val (.int (1 : Int32)), .val (.int (1 : Int32)), .unset] [])
          refine own_go (fun t k => XS.iconst X18.here hx rfl (hb hby at_121) k) ?_
          show own_WP _ _ _ _ T18 (mkF m 122 #[.val (.int zm), .val (.int zs), .val (.int zd), .val (.int zf), .val (.long zl), .second, .val (.int (0 : Int32)), .val (.int (0 : Int32)), .val (.int zs), .val (.int zd), .val (.ref za), .val (.ref zo), .val (.int (1 : Int32)), .val (.int (1 : Int32)), .unset] [(.int (1 : Int32))])
          refine own_go (fun t k => XS.goto X18.here hx rfl (pc0 := 122) (pc' := 126) rfl (hb hby at_122) (by decide) (by decide) k) ?_
          show own_WP _ _ _ _ T18 (mkF m 126 #[.val (.int zm), .val (.int zs), .val (.int zd), .val (.int zf), .val (.long zl), .second, .val (.int (0 : Int32)), .val (.int (0 : Int32)), .val (.int zs), .val (.int zd), .val (.ref za), .val (.ref zo), .val (.int (1 : Int32)), .val (.int (1 : Int32)), .unset] [(.int (1 : Int32))])
          refine own_go (fun t k => XS.istore X18.here hx rfl (hb hby at_126) rfl (l' := #[.val (.int zm), .val (.int zs), .val (.int zd), .val (.int zf), .val (.long zl), .second, .val (.int (0 : Int32)), .val (.int (0 : Int32)), .val (.int zs), .val (.int zd), .val (.ref za), .val (.ref zo), .val (.int (1 : Int32)), .val (.int (1 : Int32)), .val (.int (1 : Int32))]) rfl k) ?_
          show own_WP _ _ _ _ T18 (mkF m 128 #[.val (.int zm), .val (.int zs), .val (.int zd), .val (.int zf), .val (.long zl), .second, .val (.int (0 : Int32)), .val (.int (0 : Int32)), .val (.int zs), .val (.int zd), .val (.ref za), .val (.ref zo), .val (.int (1 : Int32)), .val (.int (1 : Int32)), .val (.int (1 : Int32))] [])
          refine own_go (fun t k => XS.aload X18.here hx rfl (hb hby at_128) rfl rfl  k) ?_
          show own_WP _ _ _ _ T18 (mkF m 130 #[.val (.int zm), .val (.int zs), .val (.int zd), .val (.int zf), .val (.long zl), .second, .val (.int (0 : Int32)), .val (.int (0 : Int32)), .val (.int zs), .val (.int zd), .val (.ref za), .val (.ref zo), .val (.int (1 : Int32)), .val (.int (1 : Int32)), .val (.int (1 : Int32))] [(.ref zo)])
          refine own_go (fun t k => XS.iloadN X18.here hx rfl (hb hby at_130) rfl  k) ?_
          show own_WP _ _ _ _ T18 (mkF m 131 #[.val (.int zm), .val (.int zs), .val (.int zd), .val (.int zf), .val (.long zl), .second, .val (.int (0 : Int32)), .val (.int (0 : Int32)), .val (.int zs), .val (.int zd), .val (.ref za), .val (.ref zo), .val (.int (1 : Int32)), .val (.int (1 : Int32)), .val (.int (1 : Int32))] [(.int zm), (.ref zo)])
          obtain ⟨cq30, kq30, q30a, q30b, q30c⟩ := isOf hZ rfl f19
          obtain ⟨_, _, ⟨T30, L30, k30, n30⟩, -, X30, ⟨Lc30, hQ30, l30, y30, z30⟩, st30⟩ := X18.virtualBack hx (y := (⟨"com/example/tersel/tersel/bench/Arrivals", "complete", "(I)Z"⟩ : MethodName)) (z := (⟨"com/example/tersel/tersel/bench/Arrivals", "complete", "(I)Z"⟩ : MethodName)) hown (mvT hZ (hw _ (List.mem_of_getElem? (i := 27) rfl))) (mvT hZ (hw _ (List.mem_of_getElem? (i := 28) rfl))) (notFace_of_selects (args := #[]) (mvT hZ (hw _ (List.mem_of_getElem? (i := 30) rfl)))) (mvT hZ (hw _ (List.mem_of_getElem? (i := 30) rfl))) (mvT hZ (hw _ (List.mem_of_getElem? (i := 29) rfl))) (by decide) (backOf (W := 0) (rm3 l Z a0 hw [] zo zm zs zd T18.heap n0 (own_le Z0 K29) f20 f21) hZ (hw _ (List.mem_of_getElem? (i := 31) rfl)) (hw _ (List.mem_of_getElem? (i := 3) rfl)) (by decide) (by decide)) q30a q30c (g := (mkF m 131 #[.val (.int zm), .val (.int zs), .val (.int zd), .val (.int zf), .val (.long zl), .second, .val (.int (0 : Int32)), .val (.int (0 : Int32)), .val (.int zs), .val (.int zd), .val (.ref za), .val (.ref zo), .val (.int (1 : Int32)), .val (.int (1 : Int32)), .val (.int (1 : Int32))] [(.int zm), (.ref zo)])) rfl (by rw [hml]; rfl) (Steps.refl _) (argsL := [(.int zm)]) (rest := []) (lenOf own_pd81854 rfl) rfl (by show 2 * 0 + _ ≤ _; exact Nat.le_of_eq rfl) (hb hby at_131) (fun _ _ => ⟨rfl, rfl, (by decide : 3 + 0 ≤ _), (by decide : 6 + 0 ≤ _)⟩)
          dsimp only [Pt.U, Pt.locs, Pt.cells, Pt.slots] at X30 l30 y30 z30 st30 hQ30
          subst l30 y30 z30
          obtain ⟨rfl, N30q, eq30⟩ := hQ30
          have N30 := Fr.app N18 N30q
          refine own_tr st30 ?_
          show own_WP _ _ _ _ T30 (mkF m 134 #[.val (.int zm), .val (.int zs), .val (.int zd), .val (.int zf), .val (.long zl), .second, .val (.int (0 : Int32)), .val (.int (0 : Int32)), .val (.int zs), .val (.int zd), .val (.ref za), .val (.ref zo), .val (.int (1 : Int32)), .val (.int (1 : Int32)), .val (.int (1 : Int32))] [(.int (own_cp zs zd zm))])
          refine own_go (fun t k => XS.iload X30.here hx rfl (hb hby at_134) rfl  k) ?_
          show own_WP _ _ _ _ T30 (mkF m 136 #[.val (.int zm), .val (.int zs), .val (.int zd), .val (.int zf), .val (.long zl), .second, .val (.int (0 : Int32)), .val (.int (0 : Int32)), .val (.int zs), .val (.int zd), .val (.ref za), .val (.ref zo), .val (.int (1 : Int32)), .val (.int (1 : Int32)), .val (.int (1 : Int32))] [(.int (1 : Int32)), (.int (own_cp zs zd zm))])
          have hc136 : (own_cp zs zd zm) = (1 : Int32) := by
            simp [own_cp, hc84, hc101]
          refine own_go (fun t k => XS.icmpNo X30.here hx rfl (hb hby at_136) rfl (teq hc136).2 k) ?_
          show own_WP _ _ _ _ T30 (mkF m 139 #[.val (.int zm), .val (.int zs), .val (.int zd), .val (.int zf), .val (.long zl), .second, .val (.int (0 : Int32)), .val (.int (0 : Int32)), .val (.int zs), .val (.int zd), .val (.ref za), .val (.ref zo), .val (.int (1 : Int32)), .val (.int (1 : Int32)), .val (.int (1 : Int32))] [])
          refine own_go (fun t k => XS.iconst X30.here hx rfl (hb hby at_139) k) ?_
          show own_WP _ _ _ _ T30 (mkF m 140 #[.val (.int zm), .val (.int zs), .val (.int zd), .val (.int zf), .val (.long zl), .second, .val (.int (0 : Int32)), .val (.int (0 : Int32)), .val (.int zs), .val (.int zd), .val (.ref za), .val (.ref zo), .val (.int (1 : Int32)), .val (.int (1 : Int32)), .val (.int (1 : Int32))] [(.int (1 : Int32))])
          refine own_go (fun t k => XS.goto X30.here hx rfl (pc0 := 140) (pc' := 144) rfl (hb hby at_140) (by decide) (by decide) k) ?_
          show own_WP _ _ _ _ T30 (mkF m 144 #[.val (.int zm), .val (.int zs), .val (.int zd), .val (.int zf), .val (.long zl), .second, .val (.int (0 : Int32)), .val (.int (0 : Int32)), .val (.int zs), .val (.int zd), .val (.ref za), .val (.ref zo), .val (.int (1 : Int32)), .val (.int (1 : Int32)), .val (.int (1 : Int32))] [(.int (1 : Int32))])
          refine own_retN X30 hx Bd.notSynchronized (t := .boolean) (by simp) Bd.returns (hb hby at_144) (by decide) (by decide) ?_
          rw [eq30]
          exact ⟨rfl, N30⟩
        · refine own_go (fun t k => XS.icmpYes X18.here hx rfl (pc0 := 101) (pc' := 108) rfl (hb hby at_101) rfl (feq hc101).2 (by decide) (by decide) k) ?_
          show own_WP _ _ _ _ T18 (mkF m 108 #[.val (.int zm), .val (.int zs), .val (.int zd), .val (.int zf), .val (.long zl), .second, .val (.int (0 : Int32)), .val (.int (0 : Int32)), .val (.int zs), .val (.int zd), .val (.ref za), .val (.ref zo), .val (.int (1 : Int32)), .unset, .unset] [])
          refine own_go (fun t k => XS.iconst X18.here hx rfl (hb hby at_108) k) ?_
          show own_WP _ _ _ _ T18 (mkF m 109 #[.val (.int zm), .val (.int zs), .val (.int zd), .val (.int zf), .val (.long zl), .second, .val (.int (0 : Int32)), .val (.int (0 : Int32)), .val (.int zs), .val (.int zd), .val (.ref za), .val (.ref zo), .val (.int (1 : Int32)), .unset, .unset] [(.int (0 : Int32))])
          refine own_go (fun t k => XS.istore X18.here hx rfl (hb hby at_109) rfl (l' := #[.val (.int zm), .val (.int zs), .val (.int zd), .val (.int zf), .val (.long zl), .second, .val (.int (0 : Int32)), .val (.int (0 : Int32)), .val (.int zs), .val (.int zd), .val (.ref za), .val (.ref zo), .val (.int (1 : Int32)), .val (.int (0 : Int32)), .unset]) rfl k) ?_
          show own_WP _ _ _ _ T18 (mkF m 111 #[.val (.int zm), .val (.int zs), .val (.int zd), .val (.int zf), .val (.long zl), .second, .val (.int (0 : Int32)), .val (.int (0 : Int32)), .val (.int zs), .val (.int zd), .val (.ref za), .val (.ref zo), .val (.int (1 : Int32)), .val (.int (0 : Int32)), .unset] [])
          refine own_go (fun t k => XS.iload X18.here hx rfl (hb hby at_111) rfl  k) ?_
          show own_WP _ _ _ _ T18 (mkF m 113 #[.val (.int zm), .val (.int zs), .val (.int zd), .val (.int zf), .val (.long zl), .second, .val (.int (0 : Int32)), .val (.int (0 : Int32)), .val (.int zs), .val (.int zd), .val (.ref za), .val (.ref zo), .val (.int (1 : Int32)), .val (.int (0 : Int32)), .unset] [(.int (1 : Int32))])
          have hc113_1 : ¬ ((1 : Int32) = (0 : Int32)) := by decide
          refine own_go (fun t k => XS.ifNo X18.here hx rfl (hb hby at_113) rfl ((if0 _ _).trans (feq hc113_1).1) k) ?_
          show own_WP _ _ _ _ T18 (mkF m 116 #[.val (.int zm), .val (.int zs), .val (.int zd), .val (.int zf), .val (.long zl), .second, .val (.int (0 : Int32)), .val (.int (0 : Int32)), .val (.int zs), .val (.int zd), .val (.ref za), .val (.ref zo), .val (.int (1 : Int32)), .val (.int (0 : Int32)), .unset] [])
          refine own_go (fun t k => XS.iload X18.here hx rfl (hb hby at_116) rfl  k) ?_
          show own_WP _ _ _ _ T18 (mkF m 118 #[.val (.int zm), .val (.int zs), .val (.int zd), .val (.int zf), .val (.long zl), .second, .val (.int (0 : Int32)), .val (.int (0 : Int32)), .val (.int zs), .val (.int zd), .val (.ref za), .val (.ref zo), .val (.int (1 : Int32)), .val (.int (0 : Int32)), .unset] [(.int (0 : Int32))])
          have hc118_1 : (0 : Int32) = (0 : Int32) := rfl
          refine own_go (fun t k => XS.ifYes X18.here hx rfl (pc0 := 118) (pc' := 125) rfl (hb hby at_118) rfl ((if0 _ _).trans (teq hc118_1).1) (by decide) (by decide) k) ?_
          show own_WP _ _ _ _ T18 (mkF m 125 #[.val (.int zm), .val (.int zs), .val (.int zd), .val (.int zf), .val (.long zl), .second, .val (.int (0 : Int32)), .val (.int (0 : Int32)), .val (.int zs), .val (.int zd), .val (.ref za), .val (.ref zo), .val (.int (1 : Int32)), .val (.int (0 : Int32)), .unset] [])
          refine own_go (fun t k => XS.iconst X18.here hx rfl (hb hby at_125) k) ?_
          show own_WP _ _ _ _ T18 (mkF m 126 #[.val (.int zm), .val (.int zs), .val (.int zd), .val (.int zf), .val (.long zl), .second, .val (.int (0 : Int32)), .val (.int (0 : Int32)), .val (.int zs), .val (.int zd), .val (.ref za), .val (.ref zo), .val (.int (1 : Int32)), .val (.int (0 : Int32)), .unset] [(.int (0 : Int32))])
          refine own_go (fun t k => XS.istore X18.here hx rfl (hb hby at_126) rfl (l' := #[.val (.int zm), .val (.int zs), .val (.int zd), .val (.int zf), .val (.long zl), .second, .val (.int (0 : Int32)), .val (.int (0 : Int32)), .val (.int zs), .val (.int zd), .val (.ref za), .val (.ref zo), .val (.int (1 : Int32)), .val (.int (0 : Int32)), .val (.int (0 : Int32))]) rfl k) ?_
          show own_WP _ _ _ _ T18 (mkF m 128 #[.val (.int zm), .val (.int zs), .val (.int zd), .val (.int zf), .val (.long zl), .second, .val (.int (0 : Int32)), .val (.int (0 : Int32)), .val (.int zs), .val (.int zd), .val (.ref za), .val (.ref zo), .val (.int (1 : Int32)), .val (.int (0 : Int32)), .val (.int (0 : Int32))] [])
          refine own_go (fun t k => XS.aload X18.here hx rfl (hb hby at_128) rfl rfl  k) ?_
          show own_WP _ _ _ _ T18 (mkF m 130 #[.val (.int zm), .val (.int zs), .val (.int zd), .val (.int zf), .val (.long zl), .second, .val (.int (0 : Int32)), .val (.int (0 : Int32)), .val (.int zs), .val (.int zd), .val (.ref za), .val (.ref zo), .val (.int (1 : Int32)), .val (.int (0 : Int32)), .val (.int (0 : Int32))] [(.ref zo)])
          refine own_go (fun t k => XS.iloadN X18.here hx rfl (hb hby at_130) rfl  k) ?_
          show own_WP _ _ _ _ T18 (mkF m 131 #[.val (.int zm), .val (.int zs), .val (.int zd), .val (.int zf), .val (.long zl), .second, .val (.int (0 : Int32)), .val (.int (0 : Int32)), .val (.int zs), .val (.int zd), .val (.ref za), .val (.ref zo), .val (.int (1 : Int32)), .val (.int (0 : Int32)), .val (.int (0 : Int32))] [(.int zm), (.ref zo)])
          obtain ⟨cq31, kq31, q31a, q31b, q31c⟩ := isOf hZ rfl f19
          obtain ⟨_, _, ⟨T31, L31, k31, n31⟩, -, X31, ⟨Lc31, hQ31, l31, y31, z31⟩, st31⟩ := X18.virtualBack hx (y := (⟨"com/example/tersel/tersel/bench/Arrivals", "complete", "(I)Z"⟩ : MethodName)) (z := (⟨"com/example/tersel/tersel/bench/Arrivals", "complete", "(I)Z"⟩ : MethodName)) hown (mvT hZ (hw _ (List.mem_of_getElem? (i := 27) rfl))) (mvT hZ (hw _ (List.mem_of_getElem? (i := 28) rfl))) (notFace_of_selects (args := #[]) (mvT hZ (hw _ (List.mem_of_getElem? (i := 30) rfl)))) (mvT hZ (hw _ (List.mem_of_getElem? (i := 30) rfl))) (mvT hZ (hw _ (List.mem_of_getElem? (i := 29) rfl))) (by decide) (backOf (W := 0) (rm3 l Z a0 hw [] zo zm zs zd T18.heap n0 (own_le Z0 K29) f20 f21) hZ (hw _ (List.mem_of_getElem? (i := 31) rfl)) (hw _ (List.mem_of_getElem? (i := 3) rfl)) (by decide) (by decide)) q31a q31c (g := (mkF m 131 #[.val (.int zm), .val (.int zs), .val (.int zd), .val (.int zf), .val (.long zl), .second, .val (.int (0 : Int32)), .val (.int (0 : Int32)), .val (.int zs), .val (.int zd), .val (.ref za), .val (.ref zo), .val (.int (1 : Int32)), .val (.int (0 : Int32)), .val (.int (0 : Int32))] [(.int zm), (.ref zo)])) rfl (by rw [hml]; rfl) (Steps.refl _) (argsL := [(.int zm)]) (rest := []) (lenOf own_pd81854 rfl) rfl (by show 2 * 0 + _ ≤ _; exact Nat.le_of_eq rfl) (hb hby at_131) (fun _ _ => ⟨rfl, rfl, (by decide : 3 + 0 ≤ _), (by decide : 6 + 0 ≤ _)⟩)
          dsimp only [Pt.U, Pt.locs, Pt.cells, Pt.slots] at X31 l31 y31 z31 st31 hQ31
          subst l31 y31 z31
          obtain ⟨rfl, N31q, eq31⟩ := hQ31
          have N31 := Fr.app N18 N31q
          refine own_tr st31 ?_
          show own_WP _ _ _ _ T31 (mkF m 134 #[.val (.int zm), .val (.int zs), .val (.int zd), .val (.int zf), .val (.long zl), .second, .val (.int (0 : Int32)), .val (.int (0 : Int32)), .val (.int zs), .val (.int zd), .val (.ref za), .val (.ref zo), .val (.int (1 : Int32)), .val (.int (0 : Int32)), .val (.int (0 : Int32))] [(.int (own_cp zs zd zm))])
          refine own_go (fun t k => XS.iload X31.here hx rfl (hb hby at_134) rfl  k) ?_
          show own_WP _ _ _ _ T31 (mkF m 136 #[.val (.int zm), .val (.int zs), .val (.int zd), .val (.int zf), .val (.long zl), .second, .val (.int (0 : Int32)), .val (.int (0 : Int32)), .val (.int zs), .val (.int zd), .val (.ref za), .val (.ref zo), .val (.int (1 : Int32)), .val (.int (0 : Int32)), .val (.int (0 : Int32))] [(.int (0 : Int32)), (.int (own_cp zs zd zm))])
          have hc136_1 : (own_cp zs zd zm) = (0 : Int32) := by
            simp [own_cp, hc84, hc101]
          refine own_go (fun t k => XS.icmpNo X31.here hx rfl (hb hby at_136) rfl (teq hc136_1).2 k) ?_
          show own_WP _ _ _ _ T31 (mkF m 139 #[.val (.int zm), .val (.int zs), .val (.int zd), .val (.int zf), .val (.long zl), .second, .val (.int (0 : Int32)), .val (.int (0 : Int32)), .val (.int zs), .val (.int zd), .val (.ref za), .val (.ref zo), .val (.int (1 : Int32)), .val (.int (0 : Int32)), .val (.int (0 : Int32))] [])
          refine own_go (fun t k => XS.iconst X31.here hx rfl (hb hby at_139) k) ?_
          show own_WP _ _ _ _ T31 (mkF m 140 #[.val (.int zm), .val (.int zs), .val (.int zd), .val (.int zf), .val (.long zl), .second, .val (.int (0 : Int32)), .val (.int (0 : Int32)), .val (.int zs), .val (.int zd), .val (.ref za), .val (.ref zo), .val (.int (1 : Int32)), .val (.int (0 : Int32)), .val (.int (0 : Int32))] [(.int (1 : Int32))])
          refine own_go (fun t k => XS.goto X31.here hx rfl (pc0 := 140) (pc' := 144) rfl (hb hby at_140) (by decide) (by decide) k) ?_
          show own_WP _ _ _ _ T31 (mkF m 144 #[.val (.int zm), .val (.int zs), .val (.int zd), .val (.int zf), .val (.long zl), .second, .val (.int (0 : Int32)), .val (.int (0 : Int32)), .val (.int zs), .val (.int zd), .val (.ref za), .val (.ref zo), .val (.int (1 : Int32)), .val (.int (0 : Int32)), .val (.int (0 : Int32))] [(.int (1 : Int32))])
          refine own_retN X31 hx Bd.notSynchronized (t := .boolean) (by simp) Bd.returns (hb hby at_144) (by decide) (by decide) ?_
          rw [eq31]
          exact ⟨rfl, N31⟩
      · refine own_go (fun t k => XS.icmpYes X18.here hx rfl (pc0 := 84) (pc' := 91) rfl (hb hby at_84) rfl (feq hc84).2 (by decide) (by decide) k) ?_
        show own_WP _ _ _ _ T18 (mkF m 91 #[.val (.int zm), .val (.int zs), .val (.int zd), .val (.int zf), .val (.long zl), .second, .val (.int (0 : Int32)), .val (.int (0 : Int32)), .val (.int zs), .val (.int zd), .val (.ref za), .val (.ref zo), .unset, .unset, .unset] [])
        refine own_go (fun t k => XS.iconst X18.here hx rfl (hb hby at_91) k) ?_
        show own_WP _ _ _ _ T18 (mkF m 92 #[.val (.int zm), .val (.int zs), .val (.int zd), .val (.int zf), .val (.long zl), .second, .val (.int (0 : Int32)), .val (.int (0 : Int32)), .val (.int zs), .val (.int zd), .val (.ref za), .val (.ref zo), .unset, .unset, .unset] [(.int (0 : Int32))])
        refine own_go (fun t k => XS.istore X18.here hx rfl (hb hby at_92) rfl (l' := #[.val (.int zm), .val (.int zs), .val (.int zd), .val (.int zf), .val (.long zl), .second, .val (.int (0 : Int32)), .val (.int (0 : Int32)), .val (.int zs), .val (.int zd), .val (.ref za), .val (.ref zo), .val (.int (0 : Int32)), .unset, .unset]) rfl k) ?_
        show own_WP _ _ _ _ T18 (mkF m 94 #[.val (.int zm), .val (.int zs), .val (.int zd), .val (.int zf), .val (.long zl), .second, .val (.int (0 : Int32)), .val (.int (0 : Int32)), .val (.int zs), .val (.int zd), .val (.ref za), .val (.ref zo), .val (.int (0 : Int32)), .unset, .unset] [])
        refine own_go (fun t k => XS.iload X18.here hx rfl (hb hby at_94) rfl  k) ?_
        show own_WP _ _ _ _ T18 (mkF m 96 #[.val (.int zm), .val (.int zs), .val (.int zd), .val (.int zf), .val (.long zl), .second, .val (.int (0 : Int32)), .val (.int (0 : Int32)), .val (.int zs), .val (.int zd), .val (.ref za), .val (.ref zo), .val (.int (0 : Int32)), .unset, .unset] [(.int (0 : Int32))])
        have hc96_1 : (0 : Int32) = (0 : Int32) := rfl
        refine own_go (fun t k => XS.ifNo X18.here hx rfl (hb hby at_96) rfl ((if0 _ _).trans (teq hc96_1).2) k) ?_
        show own_WP _ _ _ _ T18 (mkF m 99 #[.val (.int zm), .val (.int zs), .val (.int zd), .val (.int zf), .val (.long zl), .second, .val (.int (0 : Int32)), .val (.int (0 : Int32)), .val (.int zs), .val (.int zd), .val (.ref za), .val (.ref zo), .val (.int (0 : Int32)), .unset, .unset] [])
        refine own_go (fun t k => XS.iloadN X18.here hx rfl (hb hby at_99) rfl  k) ?_
        show own_WP _ _ _ _ T18 (mkF m 100 #[.val (.int zm), .val (.int zs), .val (.int zd), .val (.int zf), .val (.long zl), .second, .val (.int (0 : Int32)), .val (.int (0 : Int32)), .val (.int zs), .val (.int zd), .val (.ref za), .val (.ref zo), .val (.int (0 : Int32)), .unset, .unset] [(.int zd)])
        refine own_go (fun t k => XS.iloadN X18.here hx rfl (hb hby at_100) rfl  k) ?_
        show own_WP _ _ _ _ T18 (mkF m 101 #[.val (.int zm), .val (.int zs), .val (.int zd), .val (.int zf), .val (.long zl), .second, .val (.int (0 : Int32)), .val (.int (0 : Int32)), .val (.int zs), .val (.int zd), .val (.ref za), .val (.ref zo), .val (.int (0 : Int32)), .unset, .unset] [(.int zm), (.int zd)])
        by_cases hc101_1 : zd = zm
        · refine own_go (fun t k => XS.icmpNo X18.here hx rfl (hb hby at_101) rfl (teq hc101_1).2 k) ?_
          show own_WP _ _ _ _ T18 (mkF m 104 #[.val (.int zm), .val (.int zs), .val (.int zd), .val (.int zf), .val (.long zl), .second, .val (.int (0 : Int32)), .val (.int (0 : Int32)), .val (.int zs), .val (.int zd), .val (.ref za), .val (.ref zo), .val (.int (0 : Int32)), .unset, .unset] [])
          refine own_go (fun t k => XS.iconst X18.here hx rfl (hb hby at_104) k) ?_
          show own_WP _ _ _ _ T18 (mkF m 105 #[.val (.int zm), .val (.int zs), .val (.int zd), .val (.int zf), .val (.long zl), .second, .val (.int (0 : Int32)), .val (.int (0 : Int32)), .val (.int zs), .val (.int zd), .val (.ref za), .val (.ref zo), .val (.int (0 : Int32)), .unset, .unset] [(.int (1 : Int32))])
          refine own_go (fun t k => XS.goto X18.here hx rfl (pc0 := 105) (pc' := 109) rfl (hb hby at_105) (by decide) (by decide) k) ?_
          show own_WP _ _ _ _ T18 (mkF m 109 #[.val (.int zm), .val (.int zs), .val (.int zd), .val (.int zf), .val (.long zl), .second, .val (.int (0 : Int32)), .val (.int (0 : Int32)), .val (.int zs), .val (.int zd), .val (.ref za), .val (.ref zo), .val (.int (0 : Int32)), .unset, .unset] [(.int (1 : Int32))])
          refine own_go (fun t k => XS.istore X18.here hx rfl (hb hby at_109) rfl (l' := #[.val (.int zm), .val (.int zs), .val (.int zd), .val (.int zf), .val (.long zl), .second, .val (.int (0 : Int32)), .val (.int (0 : Int32)), .val (.int zs), .val (.int zd), .val (.ref za), .val (.ref zo), .val (.int (0 : Int32)), .val (.int (1 : Int32)), .unset]) rfl k) ?_
          show own_WP _ _ _ _ T18 (mkF m 111 #[.val (.int zm), .val (.int zs), .val (.int zd), .val (.int zf), .val (.long zl), .second, .val (.int (0 : Int32)), .val (.int (0 : Int32)), .val (.int zs), .val (.int zd), .val (.ref za), .val (.ref zo), .val (.int (0 : Int32)), .val (.int (1 : Int32)), .unset] [])
          refine own_go (fun t k => XS.iload X18.here hx rfl (hb hby at_111) rfl  k) ?_
          show own_WP _ _ _ _ T18 (mkF m 113 #[.val (.int zm), .val (.int zs), .val (.int zd), .val (.int zf), .val (.long zl), .second, .val (.int (0 : Int32)), .val (.int (0 : Int32)), .val (.int zs), .val (.int zd), .val (.ref za), .val (.ref zo), .val (.int (0 : Int32)), .val (.int (1 : Int32)), .unset] [(.int (0 : Int32))])
          have hc113_2 : (0 : Int32) = (0 : Int32) := rfl
          refine own_go (fun t k => XS.ifYes X18.here hx rfl (pc0 := 113) (pc' := 125) rfl (hb hby at_113) rfl ((if0 _ _).trans (teq hc113_2).1) (by decide) (by decide) k) ?_
          show own_WP _ _ _ _ T18 (mkF m 125 #[.val (.int zm), .val (.int zs), .val (.int zd), .val (.int zf), .val (.long zl), .second, .val (.int (0 : Int32)), .val (.int (0 : Int32)), .val (.int zs), .val (.int zd), .val (.ref za), .val (.ref zo), .val (.int (0 : Int32)), .val (.int (1 : Int32)), .unset] [])
          refine own_go (fun t k => XS.iconst X18.here hx rfl (hb hby at_125) k) ?_
          show own_WP _ _ _ _ T18 (mkF m 126 #[.val (.int zm), .val (.int zs), .val (.int zd), .val (.int zf), .val (.long zl), .second, .val (.int (0 : Int32)), .val (.int (0 : Int32)), .val (.int zs), .val (.int zd), .val (.ref za), .val (.ref zo), .val (.int (0 : Int32)), .val (.int (1 : Int32)), .unset] [(.int (0 : Int32))])
          refine own_go (fun t k => XS.istore X18.here hx rfl (hb hby at_126) rfl (l' := #[.val (.int zm), .val (.int zs), .val (.int zd), .val (.int zf), .val (.long zl), .second, .val (.int (0 : Int32)), .val (.int (0 : Int32)), .val (.int zs), .val (.int zd), .val (.ref za), .val (.ref zo), .val (.int (0 : Int32)), .val (.int (1 : Int32)), .val (.int (0 : Int32))]) rfl k) ?_
          show own_WP _ _ _ _ T18 (mkF m 128 #[.val (.int zm), .val (.int zs), .val (.int zd), .val (.int zf), .val (.long zl), .second, .val (.int (0 : Int32)), .val (.int (0 : Int32)), .val (.int zs), .val (.int zd), .val (.ref za), .val (.ref zo), .val (.int (0 : Int32)), .val (.int (1 : Int32)), .val (.int (0 : Int32))] [])
          refine own_go (fun t k => XS.aload X18.here hx rfl (hb hby at_128) rfl rfl  k) ?_
          show own_WP _ _ _ _ T18 (mkF m 130 #[.val (.int zm), .val (.int zs), .val (.int zd), .val (.int zf), .val (.long zl), .second, .val (.int (0 : Int32)), .val (.int (0 : Int32)), .val (.int zs), .val (.int zd), .val (.ref za), .val (.ref zo), .val (.int (0 : Int32)), .val (.int (1 : Int32)), .val (.int (0 : Int32))] [(.ref zo)])
          refine own_go (fun t k => XS.iloadN X18.here hx rfl (hb hby at_130) rfl  k) ?_
          show own_WP _ _ _ _ T18 (mkF m 131 #[.val (.int zm), .val (.int zs), .val (.int zd), .val (.int zf), .val (.long zl), .second, .val (.int (0 : Int32)), .val (.int (0 : Int32)), .val (.int zs), .val (.int zd), .val (.ref za), .val (.ref zo), .val (.int (0 : Int32)), .val (.int (1 : Int32)), .val (.int (0 : Int32))] [(.int zm), (.ref zo)])
          obtain ⟨cq32, kq32, q32a, q32b, q32c⟩ := isOf hZ rfl f19
          obtain ⟨_, _, ⟨T32, L32, k32, n32⟩, -, X32, ⟨Lc32, hQ32, l32, y32, z32⟩, st32⟩ := X18.virtualBack hx (y := (⟨"com/example/tersel/tersel/bench/Arrivals", "complete", "(I)Z"⟩ : MethodName)) (z := (⟨"com/example/tersel/tersel/bench/Arrivals", "complete", "(I)Z"⟩ : MethodName)) hown (mvT hZ (hw _ (List.mem_of_getElem? (i := 27) rfl))) (mvT hZ (hw _ (List.mem_of_getElem? (i := 28) rfl))) (notFace_of_selects (args := #[]) (mvT hZ (hw _ (List.mem_of_getElem? (i := 30) rfl)))) (mvT hZ (hw _ (List.mem_of_getElem? (i := 30) rfl))) (mvT hZ (hw _ (List.mem_of_getElem? (i := 29) rfl))) (by decide) (backOf (W := 0) (rm3 l Z a0 hw [] zo zm zs zd T18.heap n0 (own_le Z0 K29) f20 f21) hZ (hw _ (List.mem_of_getElem? (i := 31) rfl)) (hw _ (List.mem_of_getElem? (i := 3) rfl)) (by decide) (by decide)) q32a q32c (g := (mkF m 131 #[.val (.int zm), .val (.int zs), .val (.int zd), .val (.int zf), .val (.long zl), .second, .val (.int (0 : Int32)), .val (.int (0 : Int32)), .val (.int zs), .val (.int zd), .val (.ref za), .val (.ref zo), .val (.int (0 : Int32)), .val (.int (1 : Int32)), .val (.int (0 : Int32))] [(.int zm), (.ref zo)])) rfl (by rw [hml]; rfl) (Steps.refl _) (argsL := [(.int zm)]) (rest := []) (lenOf own_pd81854 rfl) rfl (by show 2 * 0 + _ ≤ _; exact Nat.le_of_eq rfl) (hb hby at_131) (fun _ _ => ⟨rfl, rfl, (by decide : 3 + 0 ≤ _), (by decide : 6 + 0 ≤ _)⟩)
          dsimp only [Pt.U, Pt.locs, Pt.cells, Pt.slots] at X32 l32 y32 z32 st32 hQ32
          subst l32 y32 z32
          obtain ⟨rfl, N32q, eq32⟩ := hQ32
          have N32 := Fr.app N18 N32q
          refine own_tr st32 ?_
          show own_WP _ _ _ _ T32 (mkF m 134 #[.val (.int zm), .val (.int zs), .val (.int zd), .val (.int zf), .val (.long zl), .second, .val (.int (0 : Int32)), .val (.int (0 : Int32)), .val (.int zs), .val (.int zd), .val (.ref za), .val (.ref zo), .val (.int (0 : Int32)), .val (.int (1 : Int32)), .val (.int (0 : Int32))] [(.int (own_cp zs zd zm))])
          refine own_go (fun t k => XS.iload X32.here hx rfl (hb hby at_134) rfl  k) ?_
          show own_WP _ _ _ _ T32 (mkF m 136 #[.val (.int zm), .val (.int zs), .val (.int zd), .val (.int zf), .val (.long zl), .second, .val (.int (0 : Int32)), .val (.int (0 : Int32)), .val (.int zs), .val (.int zd), .val (.ref za), .val (.ref zo), .val (.int (0 : Int32)), .val (.int (1 : Int32)), .val (.int (0 : Int32))] [(.int (0 : Int32)), (.int (own_cp zs zd zm))])
          have hc136_2 : (own_cp zs zd zm) = (0 : Int32) := by
            simp [own_cp, hc84, hc101_1]
          refine own_go (fun t k => XS.icmpNo X32.here hx rfl (hb hby at_136) rfl (teq hc136_2).2 k) ?_
          show own_WP _ _ _ _ T32 (mkF m 139 #[.val (.int zm), .val (.int zs), .val (.int zd), .val (.int zf), .val (.long zl), .second, .val (.int (0 : Int32)), .val (.int (0 : Int32)), .val (.int zs), .val (.int zd), .val (.ref za), .val (.ref zo), .val (.int (0 : Int32)), .val (.int (1 : Int32)), .val (.int (0 : Int32))] [])
          refine own_go (fun t k => XS.iconst X32.here hx rfl (hb hby at_139) k) ?_
          show own_WP _ _ _ _ T32 (mkF m 140 #[.val (.int zm), .val (.int zs), .val (.int zd), .val (.int zf), .val (.long zl), .second, .val (.int (0 : Int32)), .val (.int (0 : Int32)), .val (.int zs), .val (.int zd), .val (.ref za), .val (.ref zo), .val (.int (0 : Int32)), .val (.int (1 : Int32)), .val (.int (0 : Int32))] [(.int (1 : Int32))])
          refine own_go (fun t k => XS.goto X32.here hx rfl (pc0 := 140) (pc' := 144) rfl (hb hby at_140) (by decide) (by decide) k) ?_
          show own_WP _ _ _ _ T32 (mkF m 144 #[.val (.int zm), .val (.int zs), .val (.int zd), .val (.int zf), .val (.long zl), .second, .val (.int (0 : Int32)), .val (.int (0 : Int32)), .val (.int zs), .val (.int zd), .val (.ref za), .val (.ref zo), .val (.int (0 : Int32)), .val (.int (1 : Int32)), .val (.int (0 : Int32))] [(.int (1 : Int32))])
          refine own_retN X32 hx Bd.notSynchronized (t := .boolean) (by simp) Bd.returns (hb hby at_144) (by decide) (by decide) ?_
          rw [eq32]
          exact ⟨rfl, N32⟩
        · refine own_go (fun t k => XS.icmpYes X18.here hx rfl (pc0 := 101) (pc' := 108) rfl (hb hby at_101) rfl (feq hc101_1).2 (by decide) (by decide) k) ?_
          show own_WP _ _ _ _ T18 (mkF m 108 #[.val (.int zm), .val (.int zs), .val (.int zd), .val (.int zf), .val (.long zl), .second, .val (.int (0 : Int32)), .val (.int (0 : Int32)), .val (.int zs), .val (.int zd), .val (.ref za), .val (.ref zo), .val (.int (0 : Int32)), .unset, .unset] [])
          refine own_go (fun t k => XS.iconst X18.here hx rfl (hb hby at_108) k) ?_
          show own_WP _ _ _ _ T18 (mkF m 109 #[.val (.int zm), .val (.int zs), .val (.int zd), .val (.int zf), .val (.long zl), .second, .val (.int (0 : Int32)), .val (.int (0 : Int32)), .val (.int zs), .val (.int zd), .val (.ref za), .val (.ref zo), .val (.int (0 : Int32)), .unset, .unset] [(.int (0 : Int32))])
          refine own_go (fun t k => XS.istore X18.here hx rfl (hb hby at_109) rfl (l' := #[.val (.int zm), .val (.int zs), .val (.int zd), .val (.int zf), .val (.long zl), .second, .val (.int (0 : Int32)), .val (.int (0 : Int32)), .val (.int zs), .val (.int zd), .val (.ref za), .val (.ref zo), .val (.int (0 : Int32)), .val (.int (0 : Int32)), .unset]) rfl k) ?_
          show own_WP _ _ _ _ T18 (mkF m 111 #[.val (.int zm), .val (.int zs), .val (.int zd), .val (.int zf), .val (.long zl), .second, .val (.int (0 : Int32)), .val (.int (0 : Int32)), .val (.int zs), .val (.int zd), .val (.ref za), .val (.ref zo), .val (.int (0 : Int32)), .val (.int (0 : Int32)), .unset] [])
          refine own_go (fun t k => XS.iload X18.here hx rfl (hb hby at_111) rfl  k) ?_
          show own_WP _ _ _ _ T18 (mkF m 113 #[.val (.int zm), .val (.int zs), .val (.int zd), .val (.int zf), .val (.long zl), .second, .val (.int (0 : Int32)), .val (.int (0 : Int32)), .val (.int zs), .val (.int zd), .val (.ref za), .val (.ref zo), .val (.int (0 : Int32)), .val (.int (0 : Int32)), .unset] [(.int (0 : Int32))])
          have hc113_3 : (0 : Int32) = (0 : Int32) := rfl
          refine own_go (fun t k => XS.ifYes X18.here hx rfl (pc0 := 113) (pc' := 125) rfl (hb hby at_113) rfl ((if0 _ _).trans (teq hc113_3).1) (by decide) (by decide) k) ?_
          show own_WP _ _ _ _ T18 (mkF m 125 #[.val (.int zm), .val (.int zs), .val (.int zd), .val (.int zf), .val (.long zl), .second, .val (.int (0 : Int32)), .val (.int (0 : Int32)), .val (.int zs), .val (.int zd), .val (.ref za), .val (.ref zo), .val (.int (0 : Int32)), .val (.int (0 : Int32)), .unset] [])
          refine own_go (fun t k => XS.iconst X18.here hx rfl (hb hby at_125) k) ?_
          show own_WP _ _ _ _ T18 (mkF m 126 #[.val (.int zm), .val (.int zs), .val (.int zd), .val (.int zf), .val (.long zl), .second, .val (.int (0 : Int32)), .val (.int (0 : Int32)), .val (.int zs), .val (.int zd), .val (.ref za), .val (.ref zo), .val (.int (0 : Int32)), .val (.int (0 : Int32)), .unset] [(.int (0 : Int32))])
          refine own_go (fun t k => XS.istore X18.here hx rfl (hb hby at_126) rfl (l' := #[.val (.int zm), .val (.int zs), .val (.int zd), .val (.int zf), .val (.long zl), .second, .val (.int (0 : Int32)), .val (.int (0 : Int32)), .val (.int zs), .val (.int zd), .val (.ref za), .val (.ref zo), .val (.int (0 : Int32)), .val (.int (0 : Int32)), .val (.int (0 : Int32))]) rfl k) ?_
          show own_WP _ _ _ _ T18 (mkF m 128 #[.val (.int zm), .val (.int zs), .val (.int zd), .val (.int zf), .val (.long zl), .second, .val (.int (0 : Int32)), .val (.int (0 : Int32)), .val (.int zs), .val (.int zd), .val (.ref za), .val (.ref zo), .val (.int (0 : Int32)), .val (.int (0 : Int32)), .val (.int (0 : Int32))] [])
          refine own_go (fun t k => XS.aload X18.here hx rfl (hb hby at_128) rfl rfl  k) ?_
          show own_WP _ _ _ _ T18 (mkF m 130 #[.val (.int zm), .val (.int zs), .val (.int zd), .val (.int zf), .val (.long zl), .second, .val (.int (0 : Int32)), .val (.int (0 : Int32)), .val (.int zs), .val (.int zd), .val (.ref za), .val (.ref zo), .val (.int (0 : Int32)), .val (.int (0 : Int32)), .val (.int (0 : Int32))] [(.ref zo)])
          refine own_go (fun t k => XS.iloadN X18.here hx rfl (hb hby at_130) rfl  k) ?_
          show own_WP _ _ _ _ T18 (mkF m 131 #[.val (.int zm), .val (.int zs), .val (.int zd), .val (.int zf), .val (.long zl), .second, .val (.int (0 : Int32)), .val (.int (0 : Int32)), .val (.int zs), .val (.int zd), .val (.ref za), .val (.ref zo), .val (.int (0 : Int32)), .val (.int (0 : Int32)), .val (.int (0 : Int32))] [(.int zm), (.ref zo)])
          obtain ⟨cq33, kq33, q33a, q33b, q33c⟩ := isOf hZ rfl f19
          obtain ⟨_, _, ⟨T33, L33, k33, n33⟩, -, X33, ⟨Lc33, hQ33, l33, y33, z33⟩, st33⟩ := X18.virtualBack hx (y := (⟨"com/example/tersel/tersel/bench/Arrivals", "complete", "(I)Z"⟩ : MethodName)) (z := (⟨"com/example/tersel/tersel/bench/Arrivals", "complete", "(I)Z"⟩ : MethodName)) hown (mvT hZ (hw _ (List.mem_of_getElem? (i := 27) rfl))) (mvT hZ (hw _ (List.mem_of_getElem? (i := 28) rfl))) (notFace_of_selects (args := #[]) (mvT hZ (hw _ (List.mem_of_getElem? (i := 30) rfl)))) (mvT hZ (hw _ (List.mem_of_getElem? (i := 30) rfl))) (mvT hZ (hw _ (List.mem_of_getElem? (i := 29) rfl))) (by decide) (backOf (W := 0) (rm3 l Z a0 hw [] zo zm zs zd T18.heap n0 (own_le Z0 K29) f20 f21) hZ (hw _ (List.mem_of_getElem? (i := 31) rfl)) (hw _ (List.mem_of_getElem? (i := 3) rfl)) (by decide) (by decide)) q33a q33c (g := (mkF m 131 #[.val (.int zm), .val (.int zs), .val (.int zd), .val (.int zf), .val (.long zl), .second, .val (.int (0 : Int32)), .val (.int (0 : Int32)), .val (.int zs), .val (.int zd), .val (.ref za), .val (.ref zo), .val (.int (0 : Int32)), .val (.int (0 : Int32)), .val (.int (0 : Int32))] [(.int zm), (.ref zo)])) rfl (by rw [hml]; rfl) (Steps.refl _) (argsL := [(.int zm)]) (rest := []) (lenOf own_pd81854 rfl) rfl (by show 2 * 0 + _ ≤ _; exact Nat.le_of_eq rfl) (hb hby at_131) (fun _ _ => ⟨rfl, rfl, (by decide : 3 + 0 ≤ _), (by decide : 6 + 0 ≤ _)⟩)
          dsimp only [Pt.U, Pt.locs, Pt.cells, Pt.slots] at X33 l33 y33 z33 st33 hQ33
          subst l33 y33 z33
          obtain ⟨rfl, N33q, eq33⟩ := hQ33
          have N33 := Fr.app N18 N33q
          refine own_tr st33 ?_
          show own_WP _ _ _ _ T33 (mkF m 134 #[.val (.int zm), .val (.int zs), .val (.int zd), .val (.int zf), .val (.long zl), .second, .val (.int (0 : Int32)), .val (.int (0 : Int32)), .val (.int zs), .val (.int zd), .val (.ref za), .val (.ref zo), .val (.int (0 : Int32)), .val (.int (0 : Int32)), .val (.int (0 : Int32))] [(.int (own_cp zs zd zm))])
          refine own_go (fun t k => XS.iload X33.here hx rfl (hb hby at_134) rfl  k) ?_
          show own_WP _ _ _ _ T33 (mkF m 136 #[.val (.int zm), .val (.int zs), .val (.int zd), .val (.int zf), .val (.long zl), .second, .val (.int (0 : Int32)), .val (.int (0 : Int32)), .val (.int zs), .val (.int zd), .val (.ref za), .val (.ref zo), .val (.int (0 : Int32)), .val (.int (0 : Int32)), .val (.int (0 : Int32))] [(.int (0 : Int32)), (.int (own_cp zs zd zm))])
          have hc136_3 : (own_cp zs zd zm) = (0 : Int32) := by
            simp [own_cp, hc84, hc101_1]
          refine own_go (fun t k => XS.icmpNo X33.here hx rfl (hb hby at_136) rfl (teq hc136_3).2 k) ?_
          show own_WP _ _ _ _ T33 (mkF m 139 #[.val (.int zm), .val (.int zs), .val (.int zd), .val (.int zf), .val (.long zl), .second, .val (.int (0 : Int32)), .val (.int (0 : Int32)), .val (.int zs), .val (.int zd), .val (.ref za), .val (.ref zo), .val (.int (0 : Int32)), .val (.int (0 : Int32)), .val (.int (0 : Int32))] [])
          refine own_go (fun t k => XS.iconst X33.here hx rfl (hb hby at_139) k) ?_
          show own_WP _ _ _ _ T33 (mkF m 140 #[.val (.int zm), .val (.int zs), .val (.int zd), .val (.int zf), .val (.long zl), .second, .val (.int (0 : Int32)), .val (.int (0 : Int32)), .val (.int zs), .val (.int zd), .val (.ref za), .val (.ref zo), .val (.int (0 : Int32)), .val (.int (0 : Int32)), .val (.int (0 : Int32))] [(.int (1 : Int32))])
          refine own_go (fun t k => XS.goto X33.here hx rfl (pc0 := 140) (pc' := 144) rfl (hb hby at_140) (by decide) (by decide) k) ?_
          show own_WP _ _ _ _ T33 (mkF m 144 #[.val (.int zm), .val (.int zs), .val (.int zd), .val (.int zf), .val (.long zl), .second, .val (.int (0 : Int32)), .val (.int (0 : Int32)), .val (.int zs), .val (.int zd), .val (.ref za), .val (.ref zo), .val (.int (0 : Int32)), .val (.int (0 : Int32)), .val (.int (0 : Int32))] [(.int (1 : Int32))])
          refine own_retN X33 hx Bd.notSynchronized (t := .boolean) (by simp) Bd.returns (hb hby at_144) (by decide) (by decide) ?_
          rw [eq33]
          exact ⟨rfl, N33⟩
    · refine own_go (fun t k => XS.ifNo X0.here hx rfl (hb hby at_16) rfl ((if0 _ _).trans (feq hc16).1) k) ?_
      show own_WP _ _ _ _ s₁ (mkF m 19 #[.val (.int zm), .val (.int zs), .val (.int zd), .val (.int zf), .val (.long zl), .second, .val (.int (0 : Int32)), .unset, .unset, .unset, .unset, .unset, .unset, .unset, .unset] [])
      refine own_go (fun t k => XS.iconst X0.here hx rfl (hb hby at_19) k) ?_
      show own_WP _ _ _ _ s₁ (mkF m 20 #[.val (.int zm), .val (.int zs), .val (.int zd), .val (.int zf), .val (.long zl), .second, .val (.int (0 : Int32)), .unset, .unset, .unset, .unset, .unset, .unset, .unset, .unset] [(.int (1 : Int32))])
      refine own_go (fun t k => XS.goto X0.here hx rfl (pc0 := 20) (pc' := 24) rfl (hb hby at_20) (by decide) (by decide) k) ?_
      show own_WP _ _ _ _ s₁ (mkF m 24 #[.val (.int zm), .val (.int zs), .val (.int zd), .val (.int zf), .val (.long zl), .second, .val (.int (0 : Int32)), .unset, .unset, .unset, .unset, .unset, .unset, .unset, .unset] [(.int (1 : Int32))])
      refine own_go (fun t k => XS.istore X0.here hx rfl (hb hby at_24) rfl (l' := #[.val (.int zm), .val (.int zs), .val (.int zd), .val (.int zf), .val (.long zl), .second, .val (.int (0 : Int32)), .val (.int (1 : Int32)), .unset, .unset, .unset, .unset, .unset, .unset, .unset]) rfl k) ?_
      show own_WP _ _ _ _ s₁ (mkF m 26 #[.val (.int zm), .val (.int zs), .val (.int zd), .val (.int zf), .val (.long zl), .second, .val (.int (0 : Int32)), .val (.int (1 : Int32)), .unset, .unset, .unset, .unset, .unset, .unset, .unset] [])
      refine own_go (fun t k => XS.iload X0.here hx rfl (hb hby at_26) rfl  k) ?_
      show own_WP _ _ _ _ s₁ (mkF m 28 #[.val (.int zm), .val (.int zs), .val (.int zd), .val (.int zf), .val (.long zl), .second, .val (.int (0 : Int32)), .val (.int (1 : Int32)), .unset, .unset, .unset, .unset, .unset, .unset, .unset] [(.int (0 : Int32))])
      have hc28_1 : (0 : Int32) = (0 : Int32) := rfl
      refine own_go (fun t k => XS.ifYes X0.here hx rfl (pc0 := 28) (pc' := 35) rfl (hb hby at_28) rfl ((if0 _ _).trans (teq hc28_1).1) (by decide) (by decide) k) ?_
      show own_WP _ _ _ _ s₁ (mkF m 35 #[.val (.int zm), .val (.int zs), .val (.int zd), .val (.int zf), .val (.long zl), .second, .val (.int (0 : Int32)), .val (.int (1 : Int32)), .unset, .unset, .unset, .unset, .unset, .unset, .unset] [])
      refine own_go (fun t k => XS.iloadN X0.here hx rfl (hb hby at_35) rfl  k) ?_
      show own_WP _ _ _ _ s₁ (mkF m 36 #[.val (.int zm), .val (.int zs), .val (.int zd), .val (.int zf), .val (.long zl), .second, .val (.int (0 : Int32)), .val (.int (1 : Int32)), .unset, .unset, .unset, .unset, .unset, .unset, .unset] [(.int zs)])
      refine own_go (fun t k => XS.istore X0.here hx rfl (hb hby at_36) rfl (l' := #[.val (.int zm), .val (.int zs), .val (.int zd), .val (.int zf), .val (.long zl), .second, .val (.int (0 : Int32)), .val (.int (1 : Int32)), .val (.int zs), .unset, .unset, .unset, .unset, .unset, .unset]) rfl k) ?_
      show own_WP _ _ _ _ s₁ (mkF m 38 #[.val (.int zm), .val (.int zs), .val (.int zd), .val (.int zf), .val (.long zl), .second, .val (.int (0 : Int32)), .val (.int (1 : Int32)), .val (.int zs), .unset, .unset, .unset, .unset, .unset, .unset] [])
      refine own_go (fun t k => XS.iload X0.here hx rfl (hb hby at_38) rfl  k) ?_
      show own_WP _ _ _ _ s₁ (mkF m 40 #[.val (.int zm), .val (.int zs), .val (.int zd), .val (.int zf), .val (.long zl), .second, .val (.int (0 : Int32)), .val (.int (1 : Int32)), .val (.int zs), .unset, .unset, .unset, .unset, .unset, .unset] [(.int (1 : Int32))])
      have hc40_1 : ¬ ((1 : Int32) = (0 : Int32)) := by decide
      refine own_go (fun t k => XS.ifNo X0.here hx rfl (hb hby at_40) rfl ((if0 _ _).trans (feq hc40_1).1) k) ?_
      show own_WP _ _ _ _ s₁ (mkF m 43 #[.val (.int zm), .val (.int zs), .val (.int zd), .val (.int zf), .val (.long zl), .second, .val (.int (0 : Int32)), .val (.int (1 : Int32)), .val (.int zs), .unset, .unset, .unset, .unset, .unset, .unset] [])
      refine own_go (fun t k => XS.iloadN X0.here hx rfl (hb hby at_43) rfl  k) ?_
      show own_WP _ _ _ _ s₁ (mkF m 44 #[.val (.int zm), .val (.int zs), .val (.int zd), .val (.int zf), .val (.long zl), .second, .val (.int (0 : Int32)), .val (.int (1 : Int32)), .val (.int zs), .unset, .unset, .unset, .unset, .unset, .unset] [(.int zm)])
      refine own_go (fun t k => XS.goto X0.here hx rfl (pc0 := 44) (pc' := 48) rfl (hb hby at_44) (by decide) (by decide) k) ?_
      show own_WP _ _ _ _ s₁ (mkF m 48 #[.val (.int zm), .val (.int zs), .val (.int zd), .val (.int zf), .val (.long zl), .second, .val (.int (0 : Int32)), .val (.int (1 : Int32)), .val (.int zs), .unset, .unset, .unset, .unset, .unset, .unset] [(.int zm)])
      refine own_go (fun t k => XS.istore X0.here hx rfl (hb hby at_48) rfl (l' := #[.val (.int zm), .val (.int zs), .val (.int zd), .val (.int zf), .val (.long zl), .second, .val (.int (0 : Int32)), .val (.int (1 : Int32)), .val (.int zs), .val (.int zm), .unset, .unset, .unset, .unset, .unset]) rfl k) ?_
      show own_WP _ _ _ _ s₁ (mkF m 50 #[.val (.int zm), .val (.int zs), .val (.int zd), .val (.int zf), .val (.long zl), .second, .val (.int (0 : Int32)), .val (.int (1 : Int32)), .val (.int zs), .val (.int zm), .unset, .unset, .unset, .unset, .unset] [])
      refine own_go (fun t k => XS.iconst X0.here hx rfl (hb hby at_50) k) ?_
      show own_WP _ _ _ _ s₁ (mkF m 51 #[.val (.int zm), .val (.int zs), .val (.int zd), .val (.int zf), .val (.long zl), .second, .val (.int (0 : Int32)), .val (.int (1 : Int32)), .val (.int zs), .val (.int zm), .unset, .unset, .unset, .unset, .unset] [(.int (1 : Int32))])
      obtain ⟨T34, h34, k34, X34, e34, E34, A34, G34, st34⟩ := newPE X0 hx hZ (hw _ (List.mem_of_getElem? (i := 0) rfl)) e0 (g := (mkF m 51 #[.val (.int zm), .val (.int zs), .val (.int zd), .val (.int zf), .val (.long zl), .second, .val (.int (0 : Int32)), .val (.int (1 : Int32)), .val (.int zs), .val (.int zm), .unset, .unset, .unset, .unset, .unset] [(.int (1 : Int32))])) rfl (hb hby at_51) rfl (by decide) (cap := 1) (by decide) (by decide) (by decide) (by decide) (ad := "[J") rfl
      obtain ⟨za, q34⟩ : ∃ z, z = h0.size := ⟨_, rfl⟩
      rw [← q34] at A34 G34 st34
      refine own_go st34 ?_
      have g_za : n0 ≤ za := Nat.le_trans (own_le Z0 K0) (Nat.le_of_eq q34.symm)
      have sz_za : h0.size ≤ za := Nat.le_trans K0.1 (Nat.le_of_eq q34.symm)
      have K35 : Keep h0 h34 [] := K0.ext E34
      have f36 : Arv Z h34 za k34 .long (1 : Int32) [(.long (0 : Int64))] (.long (0 : Int64)) := (Arv.new A34 (by decide)).pad (pad_rep [] (.long (0 : Int64)) 1)
      show own_WP _ _ _ _ T34 (mkF m 53 #[.val (.int zm), .val (.int zs), .val (.int zd), .val (.int zf), .val (.long zl), .second, .val (.int (0 : Int32)), .val (.int (1 : Int32)), .val (.int zs), .val (.int zm), .unset, .unset, .unset, .unset, .unset] [(.ref za)])
      refine own_go (fun t k => XS.dup X34.here hx rfl (hb hby at_53) rfl rfl k) ?_
      show own_WP _ _ _ _ T34 (mkF m 54 #[.val (.int zm), .val (.int zs), .val (.int zd), .val (.int zf), .val (.long zl), .second, .val (.int (0 : Int32)), .val (.int (1 : Int32)), .val (.int zs), .val (.int zm), .unset, .unset, .unset, .unset, .unset] [(.ref za), (.ref za)])
      refine own_go (fun t k => XS.iconst X34.here hx rfl (hb hby at_54) k) ?_
      show own_WP _ _ _ _ T34 (mkF m 55 #[.val (.int zm), .val (.int zs), .val (.int zd), .val (.int zf), .val (.long zl), .second, .val (.int (0 : Int32)), .val (.int (1 : Int32)), .val (.int zs), .val (.int zm), .unset, .unset, .unset, .unset, .unset] [(.int (0 : Int32)), (.ref za), (.ref za)])
      refine own_go (fun t k => XS.lload X34.here hx rfl (hb hby at_55) rfl  k) ?_
      show own_WP _ _ _ _ T34 (mkF m 57 #[.val (.int zm), .val (.int zs), .val (.int zd), .val (.int zf), .val (.long zl), .second, .val (.int (0 : Int32)), .val (.int (1 : Int32)), .val (.int zs), .val (.int zm), .unset, .unset, .unset, .unset, .unset] [(.long zl), (.int (0 : Int32)), (.ref za), (.ref za)])
      refine own_stJ X34 hx hZ e34 f36 (j := (0 : Int32)) ⟨by decide, by decide⟩ (i := 0) rfl (by decide) (hb hby at_57) ?_
      intro T37 h37 X37 e37 W37 V37
      have f38 : Arv Z h37 za k34 .long (1 : Int32) [(.long zl)] (.long (0 : Int64)) := V37
      have f39 : Exa Z h37 za "[J" := G34.wr W37
      have K41 : Keep h0 h37 [] := K35.wr W37 (Or.inr sz_za)
      have N42 := Fr.snoc X37 N0 g_za
      show own_WP _ _ _ _ T37 (mkF m 58 #[.val (.int zm), .val (.int zs), .val (.int zd), .val (.int zf), .val (.long zl), .second, .val (.int (0 : Int32)), .val (.int (1 : Int32)), .val (.int zs), .val (.int zm), .unset, .unset, .unset, .unset, .unset] [(.ref za)])
      refine own_go (fun t k => XS.astore X37.here hx rfl (hb hby at_58) rfl rfl (l' := #[.val (.int zm), .val (.int zs), .val (.int zd), .val (.int zf), .val (.long zl), .second, .val (.int (0 : Int32)), .val (.int (1 : Int32)), .val (.int zs), .val (.int zm), .val (.ref za), .unset, .unset, .unset, .unset]) rfl k) ?_
      show own_WP _ _ _ _ T37 (mkF m 60 #[.val (.int zm), .val (.int zs), .val (.int zd), .val (.int zf), .val (.long zl), .second, .val (.int (0 : Int32)), .val (.int (1 : Int32)), .val (.int zs), .val (.int zm), .val (.ref za), .unset, .unset, .unset, .unset] [])
      obtain ⟨T43, h43, X43, e43, E43, A43, D43, -, st43⟩ := newO X37 hx hZ hown (hw _ (List.mem_of_getElem? (i := 1) rfl)) (hw _ (List.mem_of_getElem? (i := 2) rfl)) (hw _ (List.mem_of_getElem? (i := 3) rfl)) e37 (g := (mkF m 60 #[.val (.int zm), .val (.int zs), .val (.int zd), .val (.int zf), .val (.long zl), .second, .val (.int (0 : Int32)), .val (.int (1 : Int32)), .val (.int zs), .val (.int zm), .val (.ref za), .unset, .unset, .unset, .unset] [])) rfl (hb hby at_60) (by decide) (by decide)
      obtain ⟨zo, q43⟩ : ∃ z, z = h37.size := ⟨_, rfl⟩
      rw [← q43] at A43 D43 st43
      refine own_go st43 ?_
      have g_zo : n0 ≤ zo := Nat.le_trans (own_le Z0 K41) (Nat.le_of_eq q43.symm)
      have sz_zo : h0.size ≤ zo := Nat.le_trans K41.1 (Nat.le_of_eq q43.symm)
      have ne_za_zo : za ≠ zo := Nat.ne_of_lt (Nat.lt_of_lt_of_le f39.lt (Nat.le_of_eq q43.symm))
      have f44 : Exa Z h43 za "[J" := f39.ext E43
      have f45 : Arv Z h43 za k34 .long (1 : Int32) [(.long zl)] (.long (0 : Int64)) := f38.ext E43
      have K46 : Keep h0 h43 [] := K41.ext E43
      have f47 : Fld Z h43 zo "com/example/tersel/tersel/bench/Arrivals" "submitted" "I" (.int (0 : Int32)) := D43 (Or.inr (hw _ (List.mem_of_getElem? (i := 11) rfl))) (ty := .int) (by decide)
      have f48 : Fld Z h43 zo "com/example/tersel/tersel/bench/Arrivals" "destinations" "I" (.int (0 : Int32)) := D43 (Or.inr (hw _ (List.mem_of_getElem? (i := 13) rfl))) (ty := .int) (by decide)
      have f49 : Fld Z h43 zo "com/example/tersel/tersel/bench/Arrivals" "last" "J" (.long (0 : Int64)) := D43 (Or.inr (hw _ (List.mem_of_getElem? (i := 15) rfl))) (ty := .long) (by decide)
      have f50 : Fld Z h43 zo "com/example/tersel/tersel/bench/Arrivals" "latencies" "[J" .null := D43 (Or.inr (hw _ (List.mem_of_getElem? (i := 26) rfl))) (ty := (.array .long)) (by decide)
      show own_WP _ _ _ _ T43 (mkF m 63 #[.val (.int zm), .val (.int zs), .val (.int zd), .val (.int zf), .val (.long zl), .second, .val (.int (0 : Int32)), .val (.int (1 : Int32)), .val (.int zs), .val (.int zm), .val (.ref za), .unset, .unset, .unset, .unset] [(.ref zo)])
      refine own_go (fun t k => XS.dup X43.here hx rfl (hb hby at_63) rfl rfl k) ?_
      show own_WP _ _ _ _ T43 (mkF m 64 #[.val (.int zm), .val (.int zs), .val (.int zd), .val (.int zf), .val (.long zl), .second, .val (.int (0 : Int32)), .val (.int (1 : Int32)), .val (.int zs), .val (.int zm), .val (.ref za), .unset, .unset, .unset, .unset] [(.ref zo), (.ref zo)])
      refine own_go (fun t k => XS.iload X43.here hx rfl (hb hby at_64) rfl  k) ?_
      show own_WP _ _ _ _ T43 (mkF m 66 #[.val (.int zm), .val (.int zs), .val (.int zd), .val (.int zf), .val (.long zl), .second, .val (.int (0 : Int32)), .val (.int (1 : Int32)), .val (.int zs), .val (.int zm), .val (.ref za), .unset, .unset, .unset, .unset] [(.int zs), (.ref zo), (.ref zo)])
      refine own_go (fun t k => XS.iload X43.here hx rfl (hb hby at_66) rfl  k) ?_
      show own_WP _ _ _ _ T43 (mkF m 68 #[.val (.int zm), .val (.int zs), .val (.int zd), .val (.int zf), .val (.long zl), .second, .val (.int (0 : Int32)), .val (.int (1 : Int32)), .val (.int zs), .val (.int zm), .val (.ref za), .unset, .unset, .unset, .unset] [(.int zm), (.int zs), (.ref zo), (.ref zo)])
      refine own_go (fun t k => XS.lload X43.here hx rfl (hb hby at_68) rfl  k) ?_
      show own_WP _ _ _ _ T43 (mkF m 70 #[.val (.int zm), .val (.int zs), .val (.int zd), .val (.int zf), .val (.long zl), .second, .val (.int (0 : Int32)), .val (.int (1 : Int32)), .val (.int zs), .val (.int zm), .val (.ref za), .unset, .unset, .unset, .unset] [(.long zl), (.int zm), (.int zs), (.ref zo), (.ref zo)])
      refine own_go (fun t k => XS.aload X43.here hx rfl (hb hby at_70) rfl rfl  k) ?_
      show own_WP _ _ _ _ T43 (mkF m 72 #[.val (.int zm), .val (.int zs), .val (.int zd), .val (.int zf), .val (.long zl), .second, .val (.int (0 : Int32)), .val (.int (1 : Int32)), .val (.int zs), .val (.int zm), .val (.ref za), .unset, .unset, .unset, .unset] [(.ref za), (.long zl), (.int zm), (.int zs), (.ref zo), (.ref zo)])
      obtain ⟨_, _, ⟨T51, L51, k51, n51⟩, -, X51, ⟨Lc51, hQ51, l51, y51, z51⟩, st51⟩ := X43.specialBack hx (y := (⟨"com/example/tersel/tersel/bench/Arrivals", "<init>", "(IIJ[J)V"⟩ : MethodName)) rfl hown (mvT hZ (hw _ (List.mem_of_getElem? (i := 4) rfl))) (mvT hZ (hw _ (List.mem_of_getElem? (i := 5) rfl))) (mvT hZ (hw _ (List.mem_of_getElem? (i := 6) rfl))) (by decide) (backOf (W := 1) (rm1 l Z a0 hw [] zo zs zm zl za (.int (0 : Int32)) (.int (0 : Int32)) (.long (0 : Int64)) .null k34 h43 n0 (own_le Z0 K46) A43 f47 f48 f49 f50 f45 f44 g_zo ne_za_zo) hZ (hw _ (List.mem_of_getElem? (i := 6) rfl)) (hw _ (List.mem_of_getElem? (i := 3) rfl)) (by decide) (by decide)) (g := (mkF m 72 #[.val (.int zm), .val (.int zs), .val (.int zd), .val (.int zf), .val (.long zl), .second, .val (.int (0 : Int32)), .val (.int (1 : Int32)), .val (.int zs), .val (.int zm), .val (.ref za), .unset, .unset, .unset, .unset] [(.ref za), (.long zl), (.int zm), (.int zs), (.ref zo), (.ref zo)])) rfl (by rw [hml]; rfl) (Steps.refl _) (a := zo) (argsL := [(.int zs), (.int zm), (.long zl), (.ref za)]) (rest := [(.ref zo)]) (lenOf own_pd82578 rfl) rfl (by show 2 * 0 + _ ≤ _; exact Nat.le_of_eq rfl) (hb hby at_72) (fun _ _ => ⟨rfl, e43, (by decide : 2 + 1 ≤ _), (by decide : 5 + 1 ≤ _)⟩)
      dsimp only [Pt.U, Pt.locs, Pt.cells, Pt.slots] at X51 l51 y51 z51 st51 hQ51
      subst l51 y51 z51
      obtain ⟨rfl, N51q, Kc51, f52, f53, f54⟩ := hQ51
      have N51 := Fr.app N42 N51q
      refine own_tr st51 ?_
      have f55 : Exa Z T51.heap za "[J" := f44.keep Kc51
      have f56 : Arv Z T51.heap za k34 .long (1 : Int32) [(.long zl)] (.long (0 : Int64)) := f45.keep Kc51 (own_nm ne_za_zo)
      have f57 : Exa Z T51.heap zo "com/example/tersel/tersel/bench/Arrivals" := A43.keep Kc51
      have K62 : Keep h0 T51.heap [] := K46.trans Kc51 (fun x hx => by cases List.mem_singleton.mp hx; exact Or.inr sz_zo)
      show own_WP _ _ _ _ T51 (mkF m 75 #[.val (.int zm), .val (.int zs), .val (.int zd), .val (.int zf), .val (.long zl), .second, .val (.int (0 : Int32)), .val (.int (1 : Int32)), .val (.int zs), .val (.int zm), .val (.ref za), .unset, .unset, .unset, .unset] [(.ref zo)])
      refine own_go (fun t k => XS.astore X51.here hx rfl (hb hby at_75) rfl rfl (l' := #[.val (.int zm), .val (.int zs), .val (.int zd), .val (.int zf), .val (.long zl), .second, .val (.int (0 : Int32)), .val (.int (1 : Int32)), .val (.int zs), .val (.int zm), .val (.ref za), .val (.ref zo), .unset, .unset, .unset]) rfl k) ?_
      show own_WP _ _ _ _ T51 (mkF m 77 #[.val (.int zm), .val (.int zs), .val (.int zd), .val (.int zf), .val (.long zl), .second, .val (.int (0 : Int32)), .val (.int (1 : Int32)), .val (.int zs), .val (.int zm), .val (.ref za), .val (.ref zo), .unset, .unset, .unset] [])
      refine own_go (fun t k => XS.iload X51.here hx rfl (hb hby at_77) rfl  k) ?_
      show own_WP _ _ _ _ T51 (mkF m 79 #[.val (.int zm), .val (.int zs), .val (.int zd), .val (.int zf), .val (.long zl), .second, .val (.int (0 : Int32)), .val (.int (1 : Int32)), .val (.int zs), .val (.int zm), .val (.ref za), .val (.ref zo), .unset, .unset, .unset] [(.int (0 : Int32))])
      have hc79_1 : (0 : Int32) = (0 : Int32) := rfl
      refine own_go (fun t k => XS.ifNo X51.here hx rfl (hb hby at_79) rfl ((if0 _ _).trans (teq hc79_1).2) k) ?_
      show own_WP _ _ _ _ T51 (mkF m 82 #[.val (.int zm), .val (.int zs), .val (.int zd), .val (.int zf), .val (.long zl), .second, .val (.int (0 : Int32)), .val (.int (1 : Int32)), .val (.int zs), .val (.int zm), .val (.ref za), .val (.ref zo), .unset, .unset, .unset] [])
      refine own_go (fun t k => XS.iloadN X51.here hx rfl (hb hby at_82) rfl  k) ?_
      show own_WP _ _ _ _ T51 (mkF m 83 #[.val (.int zm), .val (.int zs), .val (.int zd), .val (.int zf), .val (.long zl), .second, .val (.int (0 : Int32)), .val (.int (1 : Int32)), .val (.int zs), .val (.int zm), .val (.ref za), .val (.ref zo), .unset, .unset, .unset] [(.int zs)])
      refine own_go (fun t k => XS.iloadN X51.here hx rfl (hb hby at_83) rfl  k) ?_
      show own_WP _ _ _ _ T51 (mkF m 84 #[.val (.int zm), .val (.int zs), .val (.int zd), .val (.int zf), .val (.long zl), .second, .val (.int (0 : Int32)), .val (.int (1 : Int32)), .val (.int zs), .val (.int zm), .val (.ref za), .val (.ref zo), .unset, .unset, .unset] [(.int zm), (.int zs)])
      by_cases hc84_1 : zs = zm
      · refine own_go (fun t k => XS.icmpNo X51.here hx rfl (hb hby at_84) rfl (teq hc84_1).2 k) ?_
        show own_WP _ _ _ _ T51 (mkF m 87 #[.val (.int zm), .val (.int zs), .val (.int zd), .val (.int zf), .val (.long zl), .second, .val (.int (0 : Int32)), .val (.int (1 : Int32)), .val (.int zs), .val (.int zm), .val (.ref za), .val (.ref zo), .unset, .unset, .unset] [])
        refine own_go (fun t k => XS.iconst X51.here hx rfl (hb hby at_87) k) ?_
        show own_WP _ _ _ _ T51 (mkF m 88 #[.val (.int zm), .val (.int zs), .val (.int zd), .val (.int zf), .val (.long zl), .second, .val (.int (0 : Int32)), .val (.int (1 : Int32)), .val (.int zs), .val (.int zm), .val (.ref za), .val (.ref zo), .unset, .unset, .unset] [(.int (1 : Int32))])
        refine own_go (fun t k => XS.goto X51.here hx rfl (pc0 := 88) (pc' := 92) rfl (hb hby at_88) (by decide) (by decide) k) ?_
        show own_WP _ _ _ _ T51 (mkF m 92 #[.val (.int zm), .val (.int zs), .val (.int zd), .val (.int zf), .val (.long zl), .second, .val (.int (0 : Int32)), .val (.int (1 : Int32)), .val (.int zs), .val (.int zm), .val (.ref za), .val (.ref zo), .unset, .unset, .unset] [(.int (1 : Int32))])
        refine own_go (fun t k => XS.istore X51.here hx rfl (hb hby at_92) rfl (l' := #[.val (.int zm), .val (.int zs), .val (.int zd), .val (.int zf), .val (.long zl), .second, .val (.int (0 : Int32)), .val (.int (1 : Int32)), .val (.int zs), .val (.int zm), .val (.ref za), .val (.ref zo), .val (.int (1 : Int32)), .unset, .unset]) rfl k) ?_
        show own_WP _ _ _ _ T51 (mkF m 94 #[.val (.int zm), .val (.int zs), .val (.int zd), .val (.int zf), .val (.long zl), .second, .val (.int (0 : Int32)), .val (.int (1 : Int32)), .val (.int zs), .val (.int zm), .val (.ref za), .val (.ref zo), .val (.int (1 : Int32)), .unset, .unset] [])
        refine own_go (fun t k => XS.iload X51.here hx rfl (hb hby at_94) rfl  k) ?_
        show own_WP _ _ _ _ T51 (mkF m 96 #[.val (.int zm), .val (.int zs), .val (.int zd), .val (.int zf), .val (.long zl), .second, .val (.int (0 : Int32)), .val (.int (1 : Int32)), .val (.int zs), .val (.int zm), .val (.ref za), .val (.ref zo), .val (.int (1 : Int32)), .unset, .unset] [(.int (1 : Int32))])
        have hc96_2 : ¬ ((1 : Int32) = (0 : Int32)) := by decide
        refine own_go (fun t k => XS.ifYes X51.here hx rfl (pc0 := 96) (pc' := 104) rfl (hb hby at_96) rfl ((if0 _ _).trans (feq hc96_2).2) (by decide) (by decide) k) ?_
        show own_WP _ _ _ _ T51 (mkF m 104 #[.val (.int zm), .val (.int zs), .val (.int zd), .val (.int zf), .val (.long zl), .second, .val (.int (0 : Int32)), .val (.int (1 : Int32)), .val (.int zs), .val (.int zm), .val (.ref za), .val (.ref zo), .val (.int (1 : Int32)), .unset, .unset] [])
        refine own_go (fun t k => XS.iconst X51.here hx rfl (hb hby at_104) k) ?_
        show own_WP _ _ _ _ T51 (mkF m 105 #[.val (.int zm), .val (.int zs), .val (.int zd), .val (.int zf), .val (.long zl), .second, .val (.int (0 : Int32)), .val (.int (1 : Int32)), .val (.int zs), .val (.int zm), .val (.ref za), .val (.ref zo), .val (.int (1 : Int32)), .unset, .unset] [(.int (1 : Int32))])
        refine own_go (fun t k => XS.goto X51.here hx rfl (pc0 := 105) (pc' := 109) rfl (hb hby at_105) (by decide) (by decide) k) ?_
        show own_WP _ _ _ _ T51 (mkF m 109 #[.val (.int zm), .val (.int zs), .val (.int zd), .val (.int zf), .val (.long zl), .second, .val (.int (0 : Int32)), .val (.int (1 : Int32)), .val (.int zs), .val (.int zm), .val (.ref za), .val (.ref zo), .val (.int (1 : Int32)), .unset, .unset] [(.int (1 : Int32))])
        refine own_go (fun t k => XS.istore X51.here hx rfl (hb hby at_109) rfl (l' := #[.val (.int zm), .val (.int zs), .val (.int zd), .val (.int zf), .val (.long zl), .second, .val (.int (0 : Int32)), .val (.int (1 : Int32)), .val (.int zs), .val (.int zm), .val (.ref za), .val (.ref zo), .val (.int (1 : Int32)), .val (.int (1 : Int32)), .unset]) rfl k) ?_
        show own_WP _ _ _ _ T51 (mkF m 111 #[.val (.int zm), .val (.int zs), .val (.int zd), .val (.int zf), .val (.long zl), .second, .val (.int (0 : Int32)), .val (.int (1 : Int32)), .val (.int zs), .val (.int zm), .val (.ref za), .val (.ref zo), .val (.int (1 : Int32)), .val (.int (1 : Int32)), .unset] [])
        refine own_go (fun t k => XS.iload X51.here hx rfl (hb hby at_111) rfl  k) ?_
        show own_WP _ _ _ _ T51 (mkF m 113 #[.val (.int zm), .val (.int zs), .val (.int zd), .val (.int zf), .val (.long zl), .second, .val (.int (0 : Int32)), .val (.int (1 : Int32)), .val (.int zs), .val (.int zm), .val (.ref za), .val (.ref zo), .val (.int (1 : Int32)), .val (.int (1 : Int32)), .unset] [(.int (1 : Int32))])
        have hc113_4 : ¬ ((1 : Int32) = (0 : Int32)) := by decide
        refine own_go (fun t k => XS.ifNo X51.here hx rfl (hb hby at_113) rfl ((if0 _ _).trans (feq hc113_4).1) k) ?_
        show own_WP _ _ _ _ T51 (mkF m 116 #[.val (.int zm), .val (.int zs), .val (.int zd), .val (.int zf), .val (.long zl), .second, .val (.int (0 : Int32)), .val (.int (1 : Int32)), .val (.int zs), .val (.int zm), .val (.ref za), .val (.ref zo), .val (.int (1 : Int32)), .val (.int (1 : Int32)), .unset] [])
        refine own_go (fun t k => XS.iload X51.here hx rfl (hb hby at_116) rfl  k) ?_
        show own_WP _ _ _ _ T51 (mkF m 118 #[.val (.int zm), .val (.int zs), .val (.int zd), .val (.int zf), .val (.long zl), .second, .val (.int (0 : Int32)), .val (.int (1 : Int32)), .val (.int zs), .val (.int zm), .val (.ref za), .val (.ref zo), .val (.int (1 : Int32)), .val (.int (1 : Int32)), .unset] [(.int (1 : Int32))])
        have hc118_2 : ¬ ((1 : Int32) = (0 : Int32)) := by decide
        refine own_go (fun t k => XS.ifNo X51.here hx rfl (hb hby at_118) rfl ((if0 _ _).trans (feq hc118_2).1) k) ?_
        show own_WP _ _ _ _ T51 (mkF m 121 #[.val (.int zm), .val (.int zs), .val (.int zd), .val (.int zf), .val (.long zl), .second, .val (.int (0 : Int32)), .val (.int (1 : Int32)), .val (.int zs), .val (.int zm), .val (.ref za), .val (.ref zo), .val (.int (1 : Int32)), .val (.int (1 : Int32)), .unset] [])
        refine own_go (fun t k => XS.iconst X51.here hx rfl (hb hby at_121) k) ?_
        show own_WP _ _ _ _ T51 (mkF m 122 #[.val (.int zm), .val (.int zs), .val (.int zd), .val (.int zf), .val (.long zl), .second, .val (.int (0 : Int32)), .val (.int (1 : Int32)), .val (.int zs), .val (.int zm), .val (.ref za), .val (.ref zo), .val (.int (1 : Int32)), .val (.int (1 : Int32)), .unset] [(.int (1 : Int32))])
        refine own_go (fun t k => XS.goto X51.here hx rfl (pc0 := 122) (pc' := 126) rfl (hb hby at_122) (by decide) (by decide) k) ?_
        show own_WP _ _ _ _ T51 (mkF m 126 #[.val (.int zm), .val (.int zs), .val (.int zd), .val (.int zf), .val (.long zl), .second, .val (.int (0 : Int32)), .val (.int (1 : Int32)), .val (.int zs), .val (.int zm), .val (.ref za), .val (.ref zo), .val (.int (1 : Int32)), .val (.int (1 : Int32)), .unset] [(.int (1 : Int32))])
        refine own_go (fun t k => XS.istore X51.here hx rfl (hb hby at_126) rfl (l' := #[.val (.int zm), .val (.int zs), .val (.int zd), .val (.int zf), .val (.long zl), .second, .val (.int (0 : Int32)), .val (.int (1 : Int32)), .val (.int zs), .val (.int zm), .val (.ref za), .val (.ref zo), .val (.int (1 : Int32)), .val (.int (1 : Int32)), .val (.int (1 : Int32))]) rfl k) ?_
        show own_WP _ _ _ _ T51 (mkF m 128 #[.val (.int zm), .val (.int zs), .val (.int zd), .val (.int zf), .val (.long zl), .second, .val (.int (0 : Int32)), .val (.int (1 : Int32)), .val (.int zs), .val (.int zm), .val (.ref za), .val (.ref zo), .val (.int (1 : Int32)), .val (.int (1 : Int32)), .val (.int (1 : Int32))] [])
        refine own_go (fun t k => XS.aload X51.here hx rfl (hb hby at_128) rfl rfl  k) ?_
        show own_WP _ _ _ _ T51 (mkF m 130 #[.val (.int zm), .val (.int zs), .val (.int zd), .val (.int zf), .val (.long zl), .second, .val (.int (0 : Int32)), .val (.int (1 : Int32)), .val (.int zs), .val (.int zm), .val (.ref za), .val (.ref zo), .val (.int (1 : Int32)), .val (.int (1 : Int32)), .val (.int (1 : Int32))] [(.ref zo)])
        refine own_go (fun t k => XS.iloadN X51.here hx rfl (hb hby at_130) rfl  k) ?_
        show own_WP _ _ _ _ T51 (mkF m 131 #[.val (.int zm), .val (.int zs), .val (.int zd), .val (.int zf), .val (.long zl), .second, .val (.int (0 : Int32)), .val (.int (1 : Int32)), .val (.int zs), .val (.int zm), .val (.ref za), .val (.ref zo), .val (.int (1 : Int32)), .val (.int (1 : Int32)), .val (.int (1 : Int32))] [(.int zm), (.ref zo)])
        obtain ⟨cq63, kq63, q63a, q63b, q63c⟩ := isOf hZ rfl f52
        obtain ⟨_, _, ⟨T63, L63, k63, n63⟩, -, X63, ⟨Lc63, hQ63, l63, y63, z63⟩, st63⟩ := X51.virtualBack hx (y := (⟨"com/example/tersel/tersel/bench/Arrivals", "complete", "(I)Z"⟩ : MethodName)) (z := (⟨"com/example/tersel/tersel/bench/Arrivals", "complete", "(I)Z"⟩ : MethodName)) hown (mvT hZ (hw _ (List.mem_of_getElem? (i := 27) rfl))) (mvT hZ (hw _ (List.mem_of_getElem? (i := 28) rfl))) (notFace_of_selects (args := #[]) (mvT hZ (hw _ (List.mem_of_getElem? (i := 30) rfl)))) (mvT hZ (hw _ (List.mem_of_getElem? (i := 30) rfl))) (mvT hZ (hw _ (List.mem_of_getElem? (i := 29) rfl))) (by decide) (backOf (W := 0) (rm3 l Z a0 hw [] zo zm zs zm T51.heap n0 (own_le Z0 K62) f53 f54) hZ (hw _ (List.mem_of_getElem? (i := 31) rfl)) (hw _ (List.mem_of_getElem? (i := 3) rfl)) (by decide) (by decide)) q63a q63c (g := (mkF m 131 #[.val (.int zm), .val (.int zs), .val (.int zd), .val (.int zf), .val (.long zl), .second, .val (.int (0 : Int32)), .val (.int (1 : Int32)), .val (.int zs), .val (.int zm), .val (.ref za), .val (.ref zo), .val (.int (1 : Int32)), .val (.int (1 : Int32)), .val (.int (1 : Int32))] [(.int zm), (.ref zo)])) rfl (by rw [hml]; rfl) (Steps.refl _) (argsL := [(.int zm)]) (rest := []) (lenOf own_pd81854 rfl) rfl (by show 2 * 0 + _ ≤ _; exact Nat.le_of_eq rfl) (hb hby at_131) (fun _ _ => ⟨rfl, rfl, (by decide : 3 + 0 ≤ _), (by decide : 6 + 0 ≤ _)⟩)
        dsimp only [Pt.U, Pt.locs, Pt.cells, Pt.slots] at X63 l63 y63 z63 st63 hQ63
        subst l63 y63 z63
        obtain ⟨rfl, N63q, eq63⟩ := hQ63
        have N63 := Fr.app N51 N63q
        refine own_tr st63 ?_
        show own_WP _ _ _ _ T63 (mkF m 134 #[.val (.int zm), .val (.int zs), .val (.int zd), .val (.int zf), .val (.long zl), .second, .val (.int (0 : Int32)), .val (.int (1 : Int32)), .val (.int zs), .val (.int zm), .val (.ref za), .val (.ref zo), .val (.int (1 : Int32)), .val (.int (1 : Int32)), .val (.int (1 : Int32))] [(.int (own_cp zs zm zm))])
        refine own_go (fun t k => XS.iload X63.here hx rfl (hb hby at_134) rfl  k) ?_
        show own_WP _ _ _ _ T63 (mkF m 136 #[.val (.int zm), .val (.int zs), .val (.int zd), .val (.int zf), .val (.long zl), .second, .val (.int (0 : Int32)), .val (.int (1 : Int32)), .val (.int zs), .val (.int zm), .val (.ref za), .val (.ref zo), .val (.int (1 : Int32)), .val (.int (1 : Int32)), .val (.int (1 : Int32))] [(.int (1 : Int32)), (.int (own_cp zs zm zm))])
        have hc136_4 : (own_cp zs zm zm) = (1 : Int32) := by
          simp [own_cp, hc84_1]
        refine own_go (fun t k => XS.icmpNo X63.here hx rfl (hb hby at_136) rfl (teq hc136_4).2 k) ?_
        show own_WP _ _ _ _ T63 (mkF m 139 #[.val (.int zm), .val (.int zs), .val (.int zd), .val (.int zf), .val (.long zl), .second, .val (.int (0 : Int32)), .val (.int (1 : Int32)), .val (.int zs), .val (.int zm), .val (.ref za), .val (.ref zo), .val (.int (1 : Int32)), .val (.int (1 : Int32)), .val (.int (1 : Int32))] [])
        refine own_go (fun t k => XS.iconst X63.here hx rfl (hb hby at_139) k) ?_
        show own_WP _ _ _ _ T63 (mkF m 140 #[.val (.int zm), .val (.int zs), .val (.int zd), .val (.int zf), .val (.long zl), .second, .val (.int (0 : Int32)), .val (.int (1 : Int32)), .val (.int zs), .val (.int zm), .val (.ref za), .val (.ref zo), .val (.int (1 : Int32)), .val (.int (1 : Int32)), .val (.int (1 : Int32))] [(.int (1 : Int32))])
        refine own_go (fun t k => XS.goto X63.here hx rfl (pc0 := 140) (pc' := 144) rfl (hb hby at_140) (by decide) (by decide) k) ?_
        show own_WP _ _ _ _ T63 (mkF m 144 #[.val (.int zm), .val (.int zs), .val (.int zd), .val (.int zf), .val (.long zl), .second, .val (.int (0 : Int32)), .val (.int (1 : Int32)), .val (.int zs), .val (.int zm), .val (.ref za), .val (.ref zo), .val (.int (1 : Int32)), .val (.int (1 : Int32)), .val (.int (1 : Int32))] [(.int (1 : Int32))])
        refine own_retN X63 hx Bd.notSynchronized (t := .boolean) (by simp) Bd.returns (hb hby at_144) (by decide) (by decide) ?_
        rw [eq63]
        exact ⟨rfl, N63⟩
      · refine own_go (fun t k => XS.icmpYes X51.here hx rfl (pc0 := 84) (pc' := 91) rfl (hb hby at_84) rfl (feq hc84_1).2 (by decide) (by decide) k) ?_
        show own_WP _ _ _ _ T51 (mkF m 91 #[.val (.int zm), .val (.int zs), .val (.int zd), .val (.int zf), .val (.long zl), .second, .val (.int (0 : Int32)), .val (.int (1 : Int32)), .val (.int zs), .val (.int zm), .val (.ref za), .val (.ref zo), .unset, .unset, .unset] [])
        refine own_go (fun t k => XS.iconst X51.here hx rfl (hb hby at_91) k) ?_
        show own_WP _ _ _ _ T51 (mkF m 92 #[.val (.int zm), .val (.int zs), .val (.int zd), .val (.int zf), .val (.long zl), .second, .val (.int (0 : Int32)), .val (.int (1 : Int32)), .val (.int zs), .val (.int zm), .val (.ref za), .val (.ref zo), .unset, .unset, .unset] [(.int (0 : Int32))])
        refine own_go (fun t k => XS.istore X51.here hx rfl (hb hby at_92) rfl (l' := #[.val (.int zm), .val (.int zs), .val (.int zd), .val (.int zf), .val (.long zl), .second, .val (.int (0 : Int32)), .val (.int (1 : Int32)), .val (.int zs), .val (.int zm), .val (.ref za), .val (.ref zo), .val (.int (0 : Int32)), .unset, .unset]) rfl k) ?_
        show own_WP _ _ _ _ T51 (mkF m 94 #[.val (.int zm), .val (.int zs), .val (.int zd), .val (.int zf), .val (.long zl), .second, .val (.int (0 : Int32)), .val (.int (1 : Int32)), .val (.int zs), .val (.int zm), .val (.ref za), .val (.ref zo), .val (.int (0 : Int32)), .unset, .unset] [])
        refine own_go (fun t k => XS.iload X51.here hx rfl (hb hby at_94) rfl  k) ?_
        show own_WP _ _ _ _ T51 (mkF m 96 #[.val (.int zm), .val (.int zs), .val (.int zd), .val (.int zf), .val (.long zl), .second, .val (.int (0 : Int32)), .val (.int (1 : Int32)), .val (.int zs), .val (.int zm), .val (.ref za), .val (.ref zo), .val (.int (0 : Int32)), .unset, .unset] [(.int (1 : Int32))])
        have hc96_3 : ¬ ((1 : Int32) = (0 : Int32)) := by decide
        refine own_go (fun t k => XS.ifYes X51.here hx rfl (pc0 := 96) (pc' := 104) rfl (hb hby at_96) rfl ((if0 _ _).trans (feq hc96_3).2) (by decide) (by decide) k) ?_
        show own_WP _ _ _ _ T51 (mkF m 104 #[.val (.int zm), .val (.int zs), .val (.int zd), .val (.int zf), .val (.long zl), .second, .val (.int (0 : Int32)), .val (.int (1 : Int32)), .val (.int zs), .val (.int zm), .val (.ref za), .val (.ref zo), .val (.int (0 : Int32)), .unset, .unset] [])
        refine own_go (fun t k => XS.iconst X51.here hx rfl (hb hby at_104) k) ?_
        show own_WP _ _ _ _ T51 (mkF m 105 #[.val (.int zm), .val (.int zs), .val (.int zd), .val (.int zf), .val (.long zl), .second, .val (.int (0 : Int32)), .val (.int (1 : Int32)), .val (.int zs), .val (.int zm), .val (.ref za), .val (.ref zo), .val (.int (0 : Int32)), .unset, .unset] [(.int (1 : Int32))])
        refine own_go (fun t k => XS.goto X51.here hx rfl (pc0 := 105) (pc' := 109) rfl (hb hby at_105) (by decide) (by decide) k) ?_
        show own_WP _ _ _ _ T51 (mkF m 109 #[.val (.int zm), .val (.int zs), .val (.int zd), .val (.int zf), .val (.long zl), .second, .val (.int (0 : Int32)), .val (.int (1 : Int32)), .val (.int zs), .val (.int zm), .val (.ref za), .val (.ref zo), .val (.int (0 : Int32)), .unset, .unset] [(.int (1 : Int32))])
        refine own_go (fun t k => XS.istore X51.here hx rfl (hb hby at_109) rfl (l' := #[.val (.int zm), .val (.int zs), .val (.int zd), .val (.int zf), .val (.long zl), .second, .val (.int (0 : Int32)), .val (.int (1 : Int32)), .val (.int zs), .val (.int zm), .val (.ref za), .val (.ref zo), .val (.int (0 : Int32)), .val (.int (1 : Int32)), .unset]) rfl k) ?_
        show own_WP _ _ _ _ T51 (mkF m 111 #[.val (.int zm), .val (.int zs), .val (.int zd), .val (.int zf), .val (.long zl), .second, .val (.int (0 : Int32)), .val (.int (1 : Int32)), .val (.int zs), .val (.int zm), .val (.ref za), .val (.ref zo), .val (.int (0 : Int32)), .val (.int (1 : Int32)), .unset] [])
        refine own_go (fun t k => XS.iload X51.here hx rfl (hb hby at_111) rfl  k) ?_
        show own_WP _ _ _ _ T51 (mkF m 113 #[.val (.int zm), .val (.int zs), .val (.int zd), .val (.int zf), .val (.long zl), .second, .val (.int (0 : Int32)), .val (.int (1 : Int32)), .val (.int zs), .val (.int zm), .val (.ref za), .val (.ref zo), .val (.int (0 : Int32)), .val (.int (1 : Int32)), .unset] [(.int (0 : Int32))])
        have hc113_5 : (0 : Int32) = (0 : Int32) := rfl
        refine own_go (fun t k => XS.ifYes X51.here hx rfl (pc0 := 113) (pc' := 125) rfl (hb hby at_113) rfl ((if0 _ _).trans (teq hc113_5).1) (by decide) (by decide) k) ?_
        show own_WP _ _ _ _ T51 (mkF m 125 #[.val (.int zm), .val (.int zs), .val (.int zd), .val (.int zf), .val (.long zl), .second, .val (.int (0 : Int32)), .val (.int (1 : Int32)), .val (.int zs), .val (.int zm), .val (.ref za), .val (.ref zo), .val (.int (0 : Int32)), .val (.int (1 : Int32)), .unset] [])
        refine own_go (fun t k => XS.iconst X51.here hx rfl (hb hby at_125) k) ?_
        show own_WP _ _ _ _ T51 (mkF m 126 #[.val (.int zm), .val (.int zs), .val (.int zd), .val (.int zf), .val (.long zl), .second, .val (.int (0 : Int32)), .val (.int (1 : Int32)), .val (.int zs), .val (.int zm), .val (.ref za), .val (.ref zo), .val (.int (0 : Int32)), .val (.int (1 : Int32)), .unset] [(.int (0 : Int32))])
        refine own_go (fun t k => XS.istore X51.here hx rfl (hb hby at_126) rfl (l' := #[.val (.int zm), .val (.int zs), .val (.int zd), .val (.int zf), .val (.long zl), .second, .val (.int (0 : Int32)), .val (.int (1 : Int32)), .val (.int zs), .val (.int zm), .val (.ref za), .val (.ref zo), .val (.int (0 : Int32)), .val (.int (1 : Int32)), .val (.int (0 : Int32))]) rfl k) ?_
        show own_WP _ _ _ _ T51 (mkF m 128 #[.val (.int zm), .val (.int zs), .val (.int zd), .val (.int zf), .val (.long zl), .second, .val (.int (0 : Int32)), .val (.int (1 : Int32)), .val (.int zs), .val (.int zm), .val (.ref za), .val (.ref zo), .val (.int (0 : Int32)), .val (.int (1 : Int32)), .val (.int (0 : Int32))] [])
        refine own_go (fun t k => XS.aload X51.here hx rfl (hb hby at_128) rfl rfl  k) ?_
        show own_WP _ _ _ _ T51 (mkF m 130 #[.val (.int zm), .val (.int zs), .val (.int zd), .val (.int zf), .val (.long zl), .second, .val (.int (0 : Int32)), .val (.int (1 : Int32)), .val (.int zs), .val (.int zm), .val (.ref za), .val (.ref zo), .val (.int (0 : Int32)), .val (.int (1 : Int32)), .val (.int (0 : Int32))] [(.ref zo)])
        refine own_go (fun t k => XS.iloadN X51.here hx rfl (hb hby at_130) rfl  k) ?_
        show own_WP _ _ _ _ T51 (mkF m 131 #[.val (.int zm), .val (.int zs), .val (.int zd), .val (.int zf), .val (.long zl), .second, .val (.int (0 : Int32)), .val (.int (1 : Int32)), .val (.int zs), .val (.int zm), .val (.ref za), .val (.ref zo), .val (.int (0 : Int32)), .val (.int (1 : Int32)), .val (.int (0 : Int32))] [(.int zm), (.ref zo)])
        obtain ⟨cq64, kq64, q64a, q64b, q64c⟩ := isOf hZ rfl f52
        obtain ⟨_, _, ⟨T64, L64, k64, n64⟩, -, X64, ⟨Lc64, hQ64, l64, y64, z64⟩, st64⟩ := X51.virtualBack hx (y := (⟨"com/example/tersel/tersel/bench/Arrivals", "complete", "(I)Z"⟩ : MethodName)) (z := (⟨"com/example/tersel/tersel/bench/Arrivals", "complete", "(I)Z"⟩ : MethodName)) hown (mvT hZ (hw _ (List.mem_of_getElem? (i := 27) rfl))) (mvT hZ (hw _ (List.mem_of_getElem? (i := 28) rfl))) (notFace_of_selects (args := #[]) (mvT hZ (hw _ (List.mem_of_getElem? (i := 30) rfl)))) (mvT hZ (hw _ (List.mem_of_getElem? (i := 30) rfl))) (mvT hZ (hw _ (List.mem_of_getElem? (i := 29) rfl))) (by decide) (backOf (W := 0) (rm3 l Z a0 hw [] zo zm zs zm T51.heap n0 (own_le Z0 K62) f53 f54) hZ (hw _ (List.mem_of_getElem? (i := 31) rfl)) (hw _ (List.mem_of_getElem? (i := 3) rfl)) (by decide) (by decide)) q64a q64c (g := (mkF m 131 #[.val (.int zm), .val (.int zs), .val (.int zd), .val (.int zf), .val (.long zl), .second, .val (.int (0 : Int32)), .val (.int (1 : Int32)), .val (.int zs), .val (.int zm), .val (.ref za), .val (.ref zo), .val (.int (0 : Int32)), .val (.int (1 : Int32)), .val (.int (0 : Int32))] [(.int zm), (.ref zo)])) rfl (by rw [hml]; rfl) (Steps.refl _) (argsL := [(.int zm)]) (rest := []) (lenOf own_pd81854 rfl) rfl (by show 2 * 0 + _ ≤ _; exact Nat.le_of_eq rfl) (hb hby at_131) (fun _ _ => ⟨rfl, rfl, (by decide : 3 + 0 ≤ _), (by decide : 6 + 0 ≤ _)⟩)
        dsimp only [Pt.U, Pt.locs, Pt.cells, Pt.slots] at X64 l64 y64 z64 st64 hQ64
        subst l64 y64 z64
        obtain ⟨rfl, N64q, eq64⟩ := hQ64
        have N64 := Fr.app N51 N64q
        refine own_tr st64 ?_
        show own_WP _ _ _ _ T64 (mkF m 134 #[.val (.int zm), .val (.int zs), .val (.int zd), .val (.int zf), .val (.long zl), .second, .val (.int (0 : Int32)), .val (.int (1 : Int32)), .val (.int zs), .val (.int zm), .val (.ref za), .val (.ref zo), .val (.int (0 : Int32)), .val (.int (1 : Int32)), .val (.int (0 : Int32))] [(.int (own_cp zs zm zm))])
        refine own_go (fun t k => XS.iload X64.here hx rfl (hb hby at_134) rfl  k) ?_
        show own_WP _ _ _ _ T64 (mkF m 136 #[.val (.int zm), .val (.int zs), .val (.int zd), .val (.int zf), .val (.long zl), .second, .val (.int (0 : Int32)), .val (.int (1 : Int32)), .val (.int zs), .val (.int zm), .val (.ref za), .val (.ref zo), .val (.int (0 : Int32)), .val (.int (1 : Int32)), .val (.int (0 : Int32))] [(.int (0 : Int32)), (.int (own_cp zs zm zm))])
        have hc136_5 : (own_cp zs zm zm) = (0 : Int32) := by
          simp [own_cp, hc84_1]
        refine own_go (fun t k => XS.icmpNo X64.here hx rfl (hb hby at_136) rfl (teq hc136_5).2 k) ?_
        show own_WP _ _ _ _ T64 (mkF m 139 #[.val (.int zm), .val (.int zs), .val (.int zd), .val (.int zf), .val (.long zl), .second, .val (.int (0 : Int32)), .val (.int (1 : Int32)), .val (.int zs), .val (.int zm), .val (.ref za), .val (.ref zo), .val (.int (0 : Int32)), .val (.int (1 : Int32)), .val (.int (0 : Int32))] [])
        refine own_go (fun t k => XS.iconst X64.here hx rfl (hb hby at_139) k) ?_
        show own_WP _ _ _ _ T64 (mkF m 140 #[.val (.int zm), .val (.int zs), .val (.int zd), .val (.int zf), .val (.long zl), .second, .val (.int (0 : Int32)), .val (.int (1 : Int32)), .val (.int zs), .val (.int zm), .val (.ref za), .val (.ref zo), .val (.int (0 : Int32)), .val (.int (1 : Int32)), .val (.int (0 : Int32))] [(.int (1 : Int32))])
        refine own_go (fun t k => XS.goto X64.here hx rfl (pc0 := 140) (pc' := 144) rfl (hb hby at_140) (by decide) (by decide) k) ?_
        show own_WP _ _ _ _ T64 (mkF m 144 #[.val (.int zm), .val (.int zs), .val (.int zd), .val (.int zf), .val (.long zl), .second, .val (.int (0 : Int32)), .val (.int (1 : Int32)), .val (.int zs), .val (.int zm), .val (.ref za), .val (.ref zo), .val (.int (0 : Int32)), .val (.int (1 : Int32)), .val (.int (0 : Int32))] [(.int (1 : Int32))])
        refine own_retN X64 hx Bd.notSynchronized (t := .boolean) (by simp) Bd.returns (hb hby at_144) (by decide) (by decide) ?_
        rw [eq64]
        exact ⟨rfl, N64⟩
  · refine own_go (fun t k => XS.ifNo X0.here hx rfl (hb hby at_3) rfl ((if0 _ _).trans (feq hc3).1) k) ?_
    show own_WP _ _ _ _ s₁ (mkF m 6 #[.val (.int zm), .val (.int zs), .val (.int zd), .val (.int zf), .val (.long zl), .second, .unset, .unset, .unset, .unset, .unset, .unset, .unset, .unset, .unset] [])
    refine own_go (fun t k => XS.iconst X0.here hx rfl (hb hby at_6) k) ?_
    show own_WP _ _ _ _ s₁ (mkF m 7 #[.val (.int zm), .val (.int zs), .val (.int zd), .val (.int zf), .val (.long zl), .second, .unset, .unset, .unset, .unset, .unset, .unset, .unset, .unset, .unset] [(.int (1 : Int32))])
    refine own_go (fun t k => XS.goto X0.here hx rfl (pc0 := 7) (pc' := 11) rfl (hb hby at_7) (by decide) (by decide) k) ?_
    show own_WP _ _ _ _ s₁ (mkF m 11 #[.val (.int zm), .val (.int zs), .val (.int zd), .val (.int zf), .val (.long zl), .second, .unset, .unset, .unset, .unset, .unset, .unset, .unset, .unset, .unset] [(.int (1 : Int32))])
    refine own_go (fun t k => XS.istore X0.here hx rfl (hb hby at_11) rfl (l' := #[.val (.int zm), .val (.int zs), .val (.int zd), .val (.int zf), .val (.long zl), .second, .val (.int (1 : Int32)), .unset, .unset, .unset, .unset, .unset, .unset, .unset, .unset]) rfl k) ?_
    show own_WP _ _ _ _ s₁ (mkF m 13 #[.val (.int zm), .val (.int zs), .val (.int zd), .val (.int zf), .val (.long zl), .second, .val (.int (1 : Int32)), .unset, .unset, .unset, .unset, .unset, .unset, .unset, .unset] [])
    refine own_go (fun t k => XS.iloadN X0.here hx rfl (hb hby at_13) rfl  k) ?_
    show own_WP _ _ _ _ s₁ (mkF m 14 #[.val (.int zm), .val (.int zs), .val (.int zd), .val (.int zf), .val (.long zl), .second, .val (.int (1 : Int32)), .unset, .unset, .unset, .unset, .unset, .unset, .unset, .unset] [(.int zf)])
    refine own_go (fun t k => XS.iconst X0.here hx rfl (hb hby at_14) k) ?_
    show own_WP _ _ _ _ s₁ (mkF m 15 #[.val (.int zm), .val (.int zs), .val (.int zd), .val (.int zf), .val (.long zl), .second, .val (.int (1 : Int32)), .unset, .unset, .unset, .unset, .unset, .unset, .unset, .unset] [(.int (2 : Int32)), (.int zf)])
    refine own_go (fun t k => XS.iand X0.here hx rfl (hb hby at_15) rfl k) ?_
    show own_WP _ _ _ _ s₁ (mkF m 16 #[.val (.int zm), .val (.int zs), .val (.int zd), .val (.int zf), .val (.long zl), .second, .val (.int (1 : Int32)), .unset, .unset, .unset, .unset, .unset, .unset, .unset, .unset] [(.int (zf &&& (2 : Int32)))])
    by_cases hc16_1 : (zf &&& (2 : Int32)) = (0 : Int32)
    · refine own_go (fun t k => XS.ifYes X0.here hx rfl (pc0 := 16) (pc' := 23) rfl (hb hby at_16) rfl ((if0 _ _).trans (teq hc16_1).1) (by decide) (by decide) k) ?_
      show own_WP _ _ _ _ s₁ (mkF m 23 #[.val (.int zm), .val (.int zs), .val (.int zd), .val (.int zf), .val (.long zl), .second, .val (.int (1 : Int32)), .unset, .unset, .unset, .unset, .unset, .unset, .unset, .unset] [])
      refine own_go (fun t k => XS.iconst X0.here hx rfl (hb hby at_23) k) ?_
      show own_WP _ _ _ _ s₁ (mkF m 24 #[.val (.int zm), .val (.int zs), .val (.int zd), .val (.int zf), .val (.long zl), .second, .val (.int (1 : Int32)), .unset, .unset, .unset, .unset, .unset, .unset, .unset, .unset] [(.int (0 : Int32))])
      refine own_go (fun t k => XS.istore X0.here hx rfl (hb hby at_24) rfl (l' := #[.val (.int zm), .val (.int zs), .val (.int zd), .val (.int zf), .val (.long zl), .second, .val (.int (1 : Int32)), .val (.int (0 : Int32)), .unset, .unset, .unset, .unset, .unset, .unset, .unset]) rfl k) ?_
      show own_WP _ _ _ _ s₁ (mkF m 26 #[.val (.int zm), .val (.int zs), .val (.int zd), .val (.int zf), .val (.long zl), .second, .val (.int (1 : Int32)), .val (.int (0 : Int32)), .unset, .unset, .unset, .unset, .unset, .unset, .unset] [])
      refine own_go (fun t k => XS.iload X0.here hx rfl (hb hby at_26) rfl  k) ?_
      show own_WP _ _ _ _ s₁ (mkF m 28 #[.val (.int zm), .val (.int zs), .val (.int zd), .val (.int zf), .val (.long zl), .second, .val (.int (1 : Int32)), .val (.int (0 : Int32)), .unset, .unset, .unset, .unset, .unset, .unset, .unset] [(.int (1 : Int32))])
      have hc28_2 : ¬ ((1 : Int32) = (0 : Int32)) := by decide
      refine own_go (fun t k => XS.ifNo X0.here hx rfl (hb hby at_28) rfl ((if0 _ _).trans (feq hc28_2).1) k) ?_
      show own_WP _ _ _ _ s₁ (mkF m 31 #[.val (.int zm), .val (.int zs), .val (.int zd), .val (.int zf), .val (.long zl), .second, .val (.int (1 : Int32)), .val (.int (0 : Int32)), .unset, .unset, .unset, .unset, .unset, .unset, .unset] [])
      refine own_go (fun t k => XS.iloadN X0.here hx rfl (hb hby at_31) rfl  k) ?_
      show own_WP _ _ _ _ s₁ (mkF m 32 #[.val (.int zm), .val (.int zs), .val (.int zd), .val (.int zf), .val (.long zl), .second, .val (.int (1 : Int32)), .val (.int (0 : Int32)), .unset, .unset, .unset, .unset, .unset, .unset, .unset] [(.int zm)])
      refine own_go (fun t k => XS.goto X0.here hx rfl (pc0 := 32) (pc' := 36) rfl (hb hby at_32) (by decide) (by decide) k) ?_
      show own_WP _ _ _ _ s₁ (mkF m 36 #[.val (.int zm), .val (.int zs), .val (.int zd), .val (.int zf), .val (.long zl), .second, .val (.int (1 : Int32)), .val (.int (0 : Int32)), .unset, .unset, .unset, .unset, .unset, .unset, .unset] [(.int zm)])
      refine own_go (fun t k => XS.istore X0.here hx rfl (hb hby at_36) rfl (l' := #[.val (.int zm), .val (.int zs), .val (.int zd), .val (.int zf), .val (.long zl), .second, .val (.int (1 : Int32)), .val (.int (0 : Int32)), .val (.int zm), .unset, .unset, .unset, .unset, .unset, .unset]) rfl k) ?_
      show own_WP _ _ _ _ s₁ (mkF m 38 #[.val (.int zm), .val (.int zs), .val (.int zd), .val (.int zf), .val (.long zl), .second, .val (.int (1 : Int32)), .val (.int (0 : Int32)), .val (.int zm), .unset, .unset, .unset, .unset, .unset, .unset] [])
      refine own_go (fun t k => XS.iload X0.here hx rfl (hb hby at_38) rfl  k) ?_
      show own_WP _ _ _ _ s₁ (mkF m 40 #[.val (.int zm), .val (.int zs), .val (.int zd), .val (.int zf), .val (.long zl), .second, .val (.int (1 : Int32)), .val (.int (0 : Int32)), .val (.int zm), .unset, .unset, .unset, .unset, .unset, .unset] [(.int (0 : Int32))])
      have hc40_2 : (0 : Int32) = (0 : Int32) := rfl
      refine own_go (fun t k => XS.ifYes X0.here hx rfl (pc0 := 40) (pc' := 47) rfl (hb hby at_40) rfl ((if0 _ _).trans (teq hc40_2).1) (by decide) (by decide) k) ?_
      show own_WP _ _ _ _ s₁ (mkF m 47 #[.val (.int zm), .val (.int zs), .val (.int zd), .val (.int zf), .val (.long zl), .second, .val (.int (1 : Int32)), .val (.int (0 : Int32)), .val (.int zm), .unset, .unset, .unset, .unset, .unset, .unset] [])
      refine own_go (fun t k => XS.iloadN X0.here hx rfl (hb hby at_47) rfl  k) ?_
      show own_WP _ _ _ _ s₁ (mkF m 48 #[.val (.int zm), .val (.int zs), .val (.int zd), .val (.int zf), .val (.long zl), .second, .val (.int (1 : Int32)), .val (.int (0 : Int32)), .val (.int zm), .unset, .unset, .unset, .unset, .unset, .unset] [(.int zd)])
      refine own_go (fun t k => XS.istore X0.here hx rfl (hb hby at_48) rfl (l' := #[.val (.int zm), .val (.int zs), .val (.int zd), .val (.int zf), .val (.long zl), .second, .val (.int (1 : Int32)), .val (.int (0 : Int32)), .val (.int zm), .val (.int zd), .unset, .unset, .unset, .unset, .unset]) rfl k) ?_
      show own_WP _ _ _ _ s₁ (mkF m 50 #[.val (.int zm), .val (.int zs), .val (.int zd), .val (.int zf), .val (.long zl), .second, .val (.int (1 : Int32)), .val (.int (0 : Int32)), .val (.int zm), .val (.int zd), .unset, .unset, .unset, .unset, .unset] [])
      refine own_go (fun t k => XS.iconst X0.here hx rfl (hb hby at_50) k) ?_
      show own_WP _ _ _ _ s₁ (mkF m 51 #[.val (.int zm), .val (.int zs), .val (.int zd), .val (.int zf), .val (.long zl), .second, .val (.int (1 : Int32)), .val (.int (0 : Int32)), .val (.int zm), .val (.int zd), .unset, .unset, .unset, .unset, .unset] [(.int (1 : Int32))])
      obtain ⟨T65, h65, k65, X65, e65, E65, A65, G65, st65⟩ := newPE X0 hx hZ (hw _ (List.mem_of_getElem? (i := 0) rfl)) e0 (g := (mkF m 51 #[.val (.int zm), .val (.int zs), .val (.int zd), .val (.int zf), .val (.long zl), .second, .val (.int (1 : Int32)), .val (.int (0 : Int32)), .val (.int zm), .val (.int zd), .unset, .unset, .unset, .unset, .unset] [(.int (1 : Int32))])) rfl (hb hby at_51) rfl (by decide) (cap := 1) (by decide) (by decide) (by decide) (by decide) (ad := "[J") rfl
      obtain ⟨za, q65⟩ : ∃ z, z = h0.size := ⟨_, rfl⟩
      rw [← q65] at A65 G65 st65
      refine own_go st65 ?_
      have g_za : n0 ≤ za := Nat.le_trans (own_le Z0 K0) (Nat.le_of_eq q65.symm)
      have sz_za : h0.size ≤ za := Nat.le_trans K0.1 (Nat.le_of_eq q65.symm)
      have K66 : Keep h0 h65 [] := K0.ext E65
      have f67 : Arv Z h65 za k65 .long (1 : Int32) [(.long (0 : Int64))] (.long (0 : Int64)) := (Arv.new A65 (by decide)).pad (pad_rep [] (.long (0 : Int64)) 1)
      show own_WP _ _ _ _ T65 (mkF m 53 #[.val (.int zm), .val (.int zs), .val (.int zd), .val (.int zf), .val (.long zl), .second, .val (.int (1 : Int32)), .val (.int (0 : Int32)), .val (.int zm), .val (.int zd), .unset, .unset, .unset, .unset, .unset] [(.ref za)])
      refine own_go (fun t k => XS.dup X65.here hx rfl (hb hby at_53) rfl rfl k) ?_
      show own_WP _ _ _ _ T65 (mkF m 54 #[.val (.int zm), .val (.int zs), .val (.int zd), .val (.int zf), .val (.long zl), .second, .val (.int (1 : Int32)), .val (.int (0 : Int32)), .val (.int zm), .val (.int zd), .unset, .unset, .unset, .unset, .unset] [(.ref za), (.ref za)])
      refine own_go (fun t k => XS.iconst X65.here hx rfl (hb hby at_54) k) ?_
      show own_WP _ _ _ _ T65 (mkF m 55 #[.val (.int zm), .val (.int zs), .val (.int zd), .val (.int zf), .val (.long zl), .second, .val (.int (1 : Int32)), .val (.int (0 : Int32)), .val (.int zm), .val (.int zd), .unset, .unset, .unset, .unset, .unset] [(.int (0 : Int32)), (.ref za), (.ref za)])
      refine own_go (fun t k => XS.lload X65.here hx rfl (hb hby at_55) rfl  k) ?_
      show own_WP _ _ _ _ T65 (mkF m 57 #[.val (.int zm), .val (.int zs), .val (.int zd), .val (.int zf), .val (.long zl), .second, .val (.int (1 : Int32)), .val (.int (0 : Int32)), .val (.int zm), .val (.int zd), .unset, .unset, .unset, .unset, .unset] [(.long zl), (.int (0 : Int32)), (.ref za), (.ref za)])
      refine own_stJ X65 hx hZ e65 f67 (j := (0 : Int32)) ⟨by decide, by decide⟩ (i := 0) rfl (by decide) (hb hby at_57) ?_
      intro T68 h68 X68 e68 W68 V68
      have f69 : Arv Z h68 za k65 .long (1 : Int32) [(.long zl)] (.long (0 : Int64)) := V68
      have f70 : Exa Z h68 za "[J" := G65.wr W68
      have K72 : Keep h0 h68 [] := K66.wr W68 (Or.inr sz_za)
      have N73 := Fr.snoc X68 N0 g_za
      show own_WP _ _ _ _ T68 (mkF m 58 #[.val (.int zm), .val (.int zs), .val (.int zd), .val (.int zf), .val (.long zl), .second, .val (.int (1 : Int32)), .val (.int (0 : Int32)), .val (.int zm), .val (.int zd), .unset, .unset, .unset, .unset, .unset] [(.ref za)])
      refine own_go (fun t k => XS.astore X68.here hx rfl (hb hby at_58) rfl rfl (l' := #[.val (.int zm), .val (.int zs), .val (.int zd), .val (.int zf), .val (.long zl), .second, .val (.int (1 : Int32)), .val (.int (0 : Int32)), .val (.int zm), .val (.int zd), .val (.ref za), .unset, .unset, .unset, .unset]) rfl k) ?_
      show own_WP _ _ _ _ T68 (mkF m 60 #[.val (.int zm), .val (.int zs), .val (.int zd), .val (.int zf), .val (.long zl), .second, .val (.int (1 : Int32)), .val (.int (0 : Int32)), .val (.int zm), .val (.int zd), .val (.ref za), .unset, .unset, .unset, .unset] [])
      obtain ⟨T74, h74, X74, e74, E74, A74, D74, -, st74⟩ := newO X68 hx hZ hown (hw _ (List.mem_of_getElem? (i := 1) rfl)) (hw _ (List.mem_of_getElem? (i := 2) rfl)) (hw _ (List.mem_of_getElem? (i := 3) rfl)) e68 (g := (mkF m 60 #[.val (.int zm), .val (.int zs), .val (.int zd), .val (.int zf), .val (.long zl), .second, .val (.int (1 : Int32)), .val (.int (0 : Int32)), .val (.int zm), .val (.int zd), .val (.ref za), .unset, .unset, .unset, .unset] [])) rfl (hb hby at_60) (by decide) (by decide)
      obtain ⟨zo, q74⟩ : ∃ z, z = h68.size := ⟨_, rfl⟩
      rw [← q74] at A74 D74 st74
      refine own_go st74 ?_
      have g_zo : n0 ≤ zo := Nat.le_trans (own_le Z0 K72) (Nat.le_of_eq q74.symm)
      have sz_zo : h0.size ≤ zo := Nat.le_trans K72.1 (Nat.le_of_eq q74.symm)
      have ne_za_zo : za ≠ zo := Nat.ne_of_lt (Nat.lt_of_lt_of_le f70.lt (Nat.le_of_eq q74.symm))
      have f75 : Exa Z h74 za "[J" := f70.ext E74
      have f76 : Arv Z h74 za k65 .long (1 : Int32) [(.long zl)] (.long (0 : Int64)) := f69.ext E74
      have K77 : Keep h0 h74 [] := K72.ext E74
      have f78 : Fld Z h74 zo "com/example/tersel/tersel/bench/Arrivals" "submitted" "I" (.int (0 : Int32)) := D74 (Or.inr (hw _ (List.mem_of_getElem? (i := 11) rfl))) (ty := .int) (by decide)
      have f79 : Fld Z h74 zo "com/example/tersel/tersel/bench/Arrivals" "destinations" "I" (.int (0 : Int32)) := D74 (Or.inr (hw _ (List.mem_of_getElem? (i := 13) rfl))) (ty := .int) (by decide)
      have f80 : Fld Z h74 zo "com/example/tersel/tersel/bench/Arrivals" "last" "J" (.long (0 : Int64)) := D74 (Or.inr (hw _ (List.mem_of_getElem? (i := 15) rfl))) (ty := .long) (by decide)
      have f81 : Fld Z h74 zo "com/example/tersel/tersel/bench/Arrivals" "latencies" "[J" .null := D74 (Or.inr (hw _ (List.mem_of_getElem? (i := 26) rfl))) (ty := (.array .long)) (by decide)
      show own_WP _ _ _ _ T74 (mkF m 63 #[.val (.int zm), .val (.int zs), .val (.int zd), .val (.int zf), .val (.long zl), .second, .val (.int (1 : Int32)), .val (.int (0 : Int32)), .val (.int zm), .val (.int zd), .val (.ref za), .unset, .unset, .unset, .unset] [(.ref zo)])
      refine own_go (fun t k => XS.dup X74.here hx rfl (hb hby at_63) rfl rfl k) ?_
      show own_WP _ _ _ _ T74 (mkF m 64 #[.val (.int zm), .val (.int zs), .val (.int zd), .val (.int zf), .val (.long zl), .second, .val (.int (1 : Int32)), .val (.int (0 : Int32)), .val (.int zm), .val (.int zd), .val (.ref za), .unset, .unset, .unset, .unset] [(.ref zo), (.ref zo)])
      refine own_go (fun t k => XS.iload X74.here hx rfl (hb hby at_64) rfl  k) ?_
      show own_WP _ _ _ _ T74 (mkF m 66 #[.val (.int zm), .val (.int zs), .val (.int zd), .val (.int zf), .val (.long zl), .second, .val (.int (1 : Int32)), .val (.int (0 : Int32)), .val (.int zm), .val (.int zd), .val (.ref za), .unset, .unset, .unset, .unset] [(.int zm), (.ref zo), (.ref zo)])
      refine own_go (fun t k => XS.iload X74.here hx rfl (hb hby at_66) rfl  k) ?_
      show own_WP _ _ _ _ T74 (mkF m 68 #[.val (.int zm), .val (.int zs), .val (.int zd), .val (.int zf), .val (.long zl), .second, .val (.int (1 : Int32)), .val (.int (0 : Int32)), .val (.int zm), .val (.int zd), .val (.ref za), .unset, .unset, .unset, .unset] [(.int zd), (.int zm), (.ref zo), (.ref zo)])
      refine own_go (fun t k => XS.lload X74.here hx rfl (hb hby at_68) rfl  k) ?_
      show own_WP _ _ _ _ T74 (mkF m 70 #[.val (.int zm), .val (.int zs), .val (.int zd), .val (.int zf), .val (.long zl), .second, .val (.int (1 : Int32)), .val (.int (0 : Int32)), .val (.int zm), .val (.int zd), .val (.ref za), .unset, .unset, .unset, .unset] [(.long zl), (.int zd), (.int zm), (.ref zo), (.ref zo)])
      refine own_go (fun t k => XS.aload X74.here hx rfl (hb hby at_70) rfl rfl  k) ?_
      show own_WP _ _ _ _ T74 (mkF m 72 #[.val (.int zm), .val (.int zs), .val (.int zd), .val (.int zf), .val (.long zl), .second, .val (.int (1 : Int32)), .val (.int (0 : Int32)), .val (.int zm), .val (.int zd), .val (.ref za), .unset, .unset, .unset, .unset] [(.ref za), (.long zl), (.int zd), (.int zm), (.ref zo), (.ref zo)])
      obtain ⟨_, _, ⟨T82, L82, k82, n82⟩, -, X82, ⟨Lc82, hQ82, l82, y82, z82⟩, st82⟩ := X74.specialBack hx (y := (⟨"com/example/tersel/tersel/bench/Arrivals", "<init>", "(IIJ[J)V"⟩ : MethodName)) rfl hown (mvT hZ (hw _ (List.mem_of_getElem? (i := 4) rfl))) (mvT hZ (hw _ (List.mem_of_getElem? (i := 5) rfl))) (mvT hZ (hw _ (List.mem_of_getElem? (i := 6) rfl))) (by decide) (backOf (W := 1) (rm1 l Z a0 hw [] zo zm zd zl za (.int (0 : Int32)) (.int (0 : Int32)) (.long (0 : Int64)) .null k65 h74 n0 (own_le Z0 K77) A74 f78 f79 f80 f81 f76 f75 g_zo ne_za_zo) hZ (hw _ (List.mem_of_getElem? (i := 6) rfl)) (hw _ (List.mem_of_getElem? (i := 3) rfl)) (by decide) (by decide)) (g := (mkF m 72 #[.val (.int zm), .val (.int zs), .val (.int zd), .val (.int zf), .val (.long zl), .second, .val (.int (1 : Int32)), .val (.int (0 : Int32)), .val (.int zm), .val (.int zd), .val (.ref za), .unset, .unset, .unset, .unset] [(.ref za), (.long zl), (.int zd), (.int zm), (.ref zo), (.ref zo)])) rfl (by rw [hml]; rfl) (Steps.refl _) (a := zo) (argsL := [(.int zm), (.int zd), (.long zl), (.ref za)]) (rest := [(.ref zo)]) (lenOf own_pd82578 rfl) rfl (by show 2 * 0 + _ ≤ _; exact Nat.le_of_eq rfl) (hb hby at_72) (fun _ _ => ⟨rfl, e74, (by decide : 2 + 1 ≤ _), (by decide : 5 + 1 ≤ _)⟩)
      dsimp only [Pt.U, Pt.locs, Pt.cells, Pt.slots] at X82 l82 y82 z82 st82 hQ82
      subst l82 y82 z82
      obtain ⟨rfl, N82q, Kc82, f83, f84, f85⟩ := hQ82
      have N82 := Fr.app N73 N82q
      refine own_tr st82 ?_
      have f86 : Exa Z T82.heap za "[J" := f75.keep Kc82
      have f87 : Arv Z T82.heap za k65 .long (1 : Int32) [(.long zl)] (.long (0 : Int64)) := f76.keep Kc82 (own_nm ne_za_zo)
      have f88 : Exa Z T82.heap zo "com/example/tersel/tersel/bench/Arrivals" := A74.keep Kc82
      have K93 : Keep h0 T82.heap [] := K77.trans Kc82 (fun x hx => by cases List.mem_singleton.mp hx; exact Or.inr sz_zo)
      show own_WP _ _ _ _ T82 (mkF m 75 #[.val (.int zm), .val (.int zs), .val (.int zd), .val (.int zf), .val (.long zl), .second, .val (.int (1 : Int32)), .val (.int (0 : Int32)), .val (.int zm), .val (.int zd), .val (.ref za), .unset, .unset, .unset, .unset] [(.ref zo)])
      refine own_go (fun t k => XS.astore X82.here hx rfl (hb hby at_75) rfl rfl (l' := #[.val (.int zm), .val (.int zs), .val (.int zd), .val (.int zf), .val (.long zl), .second, .val (.int (1 : Int32)), .val (.int (0 : Int32)), .val (.int zm), .val (.int zd), .val (.ref za), .val (.ref zo), .unset, .unset, .unset]) rfl k) ?_
      show own_WP _ _ _ _ T82 (mkF m 77 #[.val (.int zm), .val (.int zs), .val (.int zd), .val (.int zf), .val (.long zl), .second, .val (.int (1 : Int32)), .val (.int (0 : Int32)), .val (.int zm), .val (.int zd), .val (.ref za), .val (.ref zo), .unset, .unset, .unset] [])
      refine own_go (fun t k => XS.iload X82.here hx rfl (hb hby at_77) rfl  k) ?_
      show own_WP _ _ _ _ T82 (mkF m 79 #[.val (.int zm), .val (.int zs), .val (.int zd), .val (.int zf), .val (.long zl), .second, .val (.int (1 : Int32)), .val (.int (0 : Int32)), .val (.int zm), .val (.int zd), .val (.ref za), .val (.ref zo), .unset, .unset, .unset] [(.int (1 : Int32))])
      have hc79_2 : ¬ ((1 : Int32) = (0 : Int32)) := by decide
      refine own_go (fun t k => XS.ifYes X82.here hx rfl (pc0 := 79) (pc' := 87) rfl (hb hby at_79) rfl ((if0 _ _).trans (feq hc79_2).2) (by decide) (by decide) k) ?_
      show own_WP _ _ _ _ T82 (mkF m 87 #[.val (.int zm), .val (.int zs), .val (.int zd), .val (.int zf), .val (.long zl), .second, .val (.int (1 : Int32)), .val (.int (0 : Int32)), .val (.int zm), .val (.int zd), .val (.ref za), .val (.ref zo), .unset, .unset, .unset] [])
      refine own_go (fun t k => XS.iconst X82.here hx rfl (hb hby at_87) k) ?_
      show own_WP _ _ _ _ T82 (mkF m 88 #[.val (.int zm), .val (.int zs), .val (.int zd), .val (.int zf), .val (.long zl), .second, .val (.int (1 : Int32)), .val (.int (0 : Int32)), .val (.int zm), .val (.int zd), .val (.ref za), .val (.ref zo), .unset, .unset, .unset] [(.int (1 : Int32))])
      refine own_go (fun t k => XS.goto X82.here hx rfl (pc0 := 88) (pc' := 92) rfl (hb hby at_88) (by decide) (by decide) k) ?_
      show own_WP _ _ _ _ T82 (mkF m 92 #[.val (.int zm), .val (.int zs), .val (.int zd), .val (.int zf), .val (.long zl), .second, .val (.int (1 : Int32)), .val (.int (0 : Int32)), .val (.int zm), .val (.int zd), .val (.ref za), .val (.ref zo), .unset, .unset, .unset] [(.int (1 : Int32))])
      refine own_go (fun t k => XS.istore X82.here hx rfl (hb hby at_92) rfl (l' := #[.val (.int zm), .val (.int zs), .val (.int zd), .val (.int zf), .val (.long zl), .second, .val (.int (1 : Int32)), .val (.int (0 : Int32)), .val (.int zm), .val (.int zd), .val (.ref za), .val (.ref zo), .val (.int (1 : Int32)), .unset, .unset]) rfl k) ?_
      show own_WP _ _ _ _ T82 (mkF m 94 #[.val (.int zm), .val (.int zs), .val (.int zd), .val (.int zf), .val (.long zl), .second, .val (.int (1 : Int32)), .val (.int (0 : Int32)), .val (.int zm), .val (.int zd), .val (.ref za), .val (.ref zo), .val (.int (1 : Int32)), .unset, .unset] [])
      refine own_go (fun t k => XS.iload X82.here hx rfl (hb hby at_94) rfl  k) ?_
      show own_WP _ _ _ _ T82 (mkF m 96 #[.val (.int zm), .val (.int zs), .val (.int zd), .val (.int zf), .val (.long zl), .second, .val (.int (1 : Int32)), .val (.int (0 : Int32)), .val (.int zm), .val (.int zd), .val (.ref za), .val (.ref zo), .val (.int (1 : Int32)), .unset, .unset] [(.int (0 : Int32))])
      have hc96_4 : (0 : Int32) = (0 : Int32) := rfl
      refine own_go (fun t k => XS.ifNo X82.here hx rfl (hb hby at_96) rfl ((if0 _ _).trans (teq hc96_4).2) k) ?_
      show own_WP _ _ _ _ T82 (mkF m 99 #[.val (.int zm), .val (.int zs), .val (.int zd), .val (.int zf), .val (.long zl), .second, .val (.int (1 : Int32)), .val (.int (0 : Int32)), .val (.int zm), .val (.int zd), .val (.ref za), .val (.ref zo), .val (.int (1 : Int32)), .unset, .unset] [])
      refine own_go (fun t k => XS.iloadN X82.here hx rfl (hb hby at_99) rfl  k) ?_
      show own_WP _ _ _ _ T82 (mkF m 100 #[.val (.int zm), .val (.int zs), .val (.int zd), .val (.int zf), .val (.long zl), .second, .val (.int (1 : Int32)), .val (.int (0 : Int32)), .val (.int zm), .val (.int zd), .val (.ref za), .val (.ref zo), .val (.int (1 : Int32)), .unset, .unset] [(.int zd)])
      refine own_go (fun t k => XS.iloadN X82.here hx rfl (hb hby at_100) rfl  k) ?_
      show own_WP _ _ _ _ T82 (mkF m 101 #[.val (.int zm), .val (.int zs), .val (.int zd), .val (.int zf), .val (.long zl), .second, .val (.int (1 : Int32)), .val (.int (0 : Int32)), .val (.int zm), .val (.int zd), .val (.ref za), .val (.ref zo), .val (.int (1 : Int32)), .unset, .unset] [(.int zm), (.int zd)])
      by_cases hc101_2 : zd = zm
      · refine own_go (fun t k => XS.icmpNo X82.here hx rfl (hb hby at_101) rfl (teq hc101_2).2 k) ?_
        show own_WP _ _ _ _ T82 (mkF m 104 #[.val (.int zm), .val (.int zs), .val (.int zd), .val (.int zf), .val (.long zl), .second, .val (.int (1 : Int32)), .val (.int (0 : Int32)), .val (.int zm), .val (.int zd), .val (.ref za), .val (.ref zo), .val (.int (1 : Int32)), .unset, .unset] [])
        refine own_go (fun t k => XS.iconst X82.here hx rfl (hb hby at_104) k) ?_
        show own_WP _ _ _ _ T82 (mkF m 105 #[.val (.int zm), .val (.int zs), .val (.int zd), .val (.int zf), .val (.long zl), .second, .val (.int (1 : Int32)), .val (.int (0 : Int32)), .val (.int zm), .val (.int zd), .val (.ref za), .val (.ref zo), .val (.int (1 : Int32)), .unset, .unset] [(.int (1 : Int32))])
        refine own_go (fun t k => XS.goto X82.here hx rfl (pc0 := 105) (pc' := 109) rfl (hb hby at_105) (by decide) (by decide) k) ?_
        show own_WP _ _ _ _ T82 (mkF m 109 #[.val (.int zm), .val (.int zs), .val (.int zd), .val (.int zf), .val (.long zl), .second, .val (.int (1 : Int32)), .val (.int (0 : Int32)), .val (.int zm), .val (.int zd), .val (.ref za), .val (.ref zo), .val (.int (1 : Int32)), .unset, .unset] [(.int (1 : Int32))])
        refine own_go (fun t k => XS.istore X82.here hx rfl (hb hby at_109) rfl (l' := #[.val (.int zm), .val (.int zs), .val (.int zd), .val (.int zf), .val (.long zl), .second, .val (.int (1 : Int32)), .val (.int (0 : Int32)), .val (.int zm), .val (.int zd), .val (.ref za), .val (.ref zo), .val (.int (1 : Int32)), .val (.int (1 : Int32)), .unset]) rfl k) ?_
        show own_WP _ _ _ _ T82 (mkF m 111 #[.val (.int zm), .val (.int zs), .val (.int zd), .val (.int zf), .val (.long zl), .second, .val (.int (1 : Int32)), .val (.int (0 : Int32)), .val (.int zm), .val (.int zd), .val (.ref za), .val (.ref zo), .val (.int (1 : Int32)), .val (.int (1 : Int32)), .unset] [])
        refine own_go (fun t k => XS.iload X82.here hx rfl (hb hby at_111) rfl  k) ?_
        show own_WP _ _ _ _ T82 (mkF m 113 #[.val (.int zm), .val (.int zs), .val (.int zd), .val (.int zf), .val (.long zl), .second, .val (.int (1 : Int32)), .val (.int (0 : Int32)), .val (.int zm), .val (.int zd), .val (.ref za), .val (.ref zo), .val (.int (1 : Int32)), .val (.int (1 : Int32)), .unset] [(.int (1 : Int32))])
        have hc113_6 : ¬ ((1 : Int32) = (0 : Int32)) := by decide
        refine own_go (fun t k => XS.ifNo X82.here hx rfl (hb hby at_113) rfl ((if0 _ _).trans (feq hc113_6).1) k) ?_
        show own_WP _ _ _ _ T82 (mkF m 116 #[.val (.int zm), .val (.int zs), .val (.int zd), .val (.int zf), .val (.long zl), .second, .val (.int (1 : Int32)), .val (.int (0 : Int32)), .val (.int zm), .val (.int zd), .val (.ref za), .val (.ref zo), .val (.int (1 : Int32)), .val (.int (1 : Int32)), .unset] [])
        refine own_go (fun t k => XS.iload X82.here hx rfl (hb hby at_116) rfl  k) ?_
        show own_WP _ _ _ _ T82 (mkF m 118 #[.val (.int zm), .val (.int zs), .val (.int zd), .val (.int zf), .val (.long zl), .second, .val (.int (1 : Int32)), .val (.int (0 : Int32)), .val (.int zm), .val (.int zd), .val (.ref za), .val (.ref zo), .val (.int (1 : Int32)), .val (.int (1 : Int32)), .unset] [(.int (1 : Int32))])
        have hc118_3 : ¬ ((1 : Int32) = (0 : Int32)) := by decide
        refine own_go (fun t k => XS.ifNo X82.here hx rfl (hb hby at_118) rfl ((if0 _ _).trans (feq hc118_3).1) k) ?_
        show own_WP _ _ _ _ T82 (mkF m 121 #[.val (.int zm), .val (.int zs), .val (.int zd), .val (.int zf), .val (.long zl), .second, .val (.int (1 : Int32)), .val (.int (0 : Int32)), .val (.int zm), .val (.int zd), .val (.ref za), .val (.ref zo), .val (.int (1 : Int32)), .val (.int (1 : Int32)), .unset] [])
        refine own_go (fun t k => XS.iconst X82.here hx rfl (hb hby at_121) k) ?_
        show own_WP _ _ _ _ T82 (mkF m 122 #[.val (.int zm), .val (.int zs), .val (.int zd), .val (.int zf), .val (.long zl), .second, .val (.int (1 : Int32)), .val (.int (0 : Int32)), .val (.int zm), .val (.int zd), .val (.ref za), .val (.ref zo), .val (.int (1 : Int32)), .val (.int (1 : Int32)), .unset] [(.int (1 : Int32))])
        refine own_go (fun t k => XS.goto X82.here hx rfl (pc0 := 122) (pc' := 126) rfl (hb hby at_122) (by decide) (by decide) k) ?_
        show own_WP _ _ _ _ T82 (mkF m 126 #[.val (.int zm), .val (.int zs), .val (.int zd), .val (.int zf), .val (.long zl), .second, .val (.int (1 : Int32)), .val (.int (0 : Int32)), .val (.int zm), .val (.int zd), .val (.ref za), .val (.ref zo), .val (.int (1 : Int32)), .val (.int (1 : Int32)), .unset] [(.int (1 : Int32))])
        refine own_go (fun t k => XS.istore X82.here hx rfl (hb hby at_126) rfl (l' := #[.val (.int zm), .val (.int zs), .val (.int zd), .val (.int zf), .val (.long zl), .second, .val (.int (1 : Int32)), .val (.int (0 : Int32)), .val (.int zm), .val (.int zd), .val (.ref za), .val (.ref zo), .val (.int (1 : Int32)), .val (.int (1 : Int32)), .val (.int (1 : Int32))]) rfl k) ?_
        show own_WP _ _ _ _ T82 (mkF m 128 #[.val (.int zm), .val (.int zs), .val (.int zd), .val (.int zf), .val (.long zl), .second, .val (.int (1 : Int32)), .val (.int (0 : Int32)), .val (.int zm), .val (.int zd), .val (.ref za), .val (.ref zo), .val (.int (1 : Int32)), .val (.int (1 : Int32)), .val (.int (1 : Int32))] [])
        refine own_go (fun t k => XS.aload X82.here hx rfl (hb hby at_128) rfl rfl  k) ?_
        show own_WP _ _ _ _ T82 (mkF m 130 #[.val (.int zm), .val (.int zs), .val (.int zd), .val (.int zf), .val (.long zl), .second, .val (.int (1 : Int32)), .val (.int (0 : Int32)), .val (.int zm), .val (.int zd), .val (.ref za), .val (.ref zo), .val (.int (1 : Int32)), .val (.int (1 : Int32)), .val (.int (1 : Int32))] [(.ref zo)])
        refine own_go (fun t k => XS.iloadN X82.here hx rfl (hb hby at_130) rfl  k) ?_
        show own_WP _ _ _ _ T82 (mkF m 131 #[.val (.int zm), .val (.int zs), .val (.int zd), .val (.int zf), .val (.long zl), .second, .val (.int (1 : Int32)), .val (.int (0 : Int32)), .val (.int zm), .val (.int zd), .val (.ref za), .val (.ref zo), .val (.int (1 : Int32)), .val (.int (1 : Int32)), .val (.int (1 : Int32))] [(.int zm), (.ref zo)])
        obtain ⟨cq94, kq94, q94a, q94b, q94c⟩ := isOf hZ rfl f83
        obtain ⟨_, _, ⟨T94, L94, k94, n94⟩, -, X94, ⟨Lc94, hQ94, l94, y94, z94⟩, st94⟩ := X82.virtualBack hx (y := (⟨"com/example/tersel/tersel/bench/Arrivals", "complete", "(I)Z"⟩ : MethodName)) (z := (⟨"com/example/tersel/tersel/bench/Arrivals", "complete", "(I)Z"⟩ : MethodName)) hown (mvT hZ (hw _ (List.mem_of_getElem? (i := 27) rfl))) (mvT hZ (hw _ (List.mem_of_getElem? (i := 28) rfl))) (notFace_of_selects (args := #[]) (mvT hZ (hw _ (List.mem_of_getElem? (i := 30) rfl)))) (mvT hZ (hw _ (List.mem_of_getElem? (i := 30) rfl))) (mvT hZ (hw _ (List.mem_of_getElem? (i := 29) rfl))) (by decide) (backOf (W := 0) (rm3 l Z a0 hw [] zo zm zm zd T82.heap n0 (own_le Z0 K93) f84 f85) hZ (hw _ (List.mem_of_getElem? (i := 31) rfl)) (hw _ (List.mem_of_getElem? (i := 3) rfl)) (by decide) (by decide)) q94a q94c (g := (mkF m 131 #[.val (.int zm), .val (.int zs), .val (.int zd), .val (.int zf), .val (.long zl), .second, .val (.int (1 : Int32)), .val (.int (0 : Int32)), .val (.int zm), .val (.int zd), .val (.ref za), .val (.ref zo), .val (.int (1 : Int32)), .val (.int (1 : Int32)), .val (.int (1 : Int32))] [(.int zm), (.ref zo)])) rfl (by rw [hml]; rfl) (Steps.refl _) (argsL := [(.int zm)]) (rest := []) (lenOf own_pd81854 rfl) rfl (by show 2 * 0 + _ ≤ _; exact Nat.le_of_eq rfl) (hb hby at_131) (fun _ _ => ⟨rfl, rfl, (by decide : 3 + 0 ≤ _), (by decide : 6 + 0 ≤ _)⟩)
        dsimp only [Pt.U, Pt.locs, Pt.cells, Pt.slots] at X94 l94 y94 z94 st94 hQ94
        subst l94 y94 z94
        obtain ⟨rfl, N94q, eq94⟩ := hQ94
        have N94 := Fr.app N82 N94q
        refine own_tr st94 ?_
        show own_WP _ _ _ _ T94 (mkF m 134 #[.val (.int zm), .val (.int zs), .val (.int zd), .val (.int zf), .val (.long zl), .second, .val (.int (1 : Int32)), .val (.int (0 : Int32)), .val (.int zm), .val (.int zd), .val (.ref za), .val (.ref zo), .val (.int (1 : Int32)), .val (.int (1 : Int32)), .val (.int (1 : Int32))] [(.int (own_cp zm zd zm))])
        refine own_go (fun t k => XS.iload X94.here hx rfl (hb hby at_134) rfl  k) ?_
        show own_WP _ _ _ _ T94 (mkF m 136 #[.val (.int zm), .val (.int zs), .val (.int zd), .val (.int zf), .val (.long zl), .second, .val (.int (1 : Int32)), .val (.int (0 : Int32)), .val (.int zm), .val (.int zd), .val (.ref za), .val (.ref zo), .val (.int (1 : Int32)), .val (.int (1 : Int32)), .val (.int (1 : Int32))] [(.int (1 : Int32)), (.int (own_cp zm zd zm))])
        have hc136_6 : (own_cp zm zd zm) = (1 : Int32) := by
          simp [own_cp, hc101_2]
        refine own_go (fun t k => XS.icmpNo X94.here hx rfl (hb hby at_136) rfl (teq hc136_6).2 k) ?_
        show own_WP _ _ _ _ T94 (mkF m 139 #[.val (.int zm), .val (.int zs), .val (.int zd), .val (.int zf), .val (.long zl), .second, .val (.int (1 : Int32)), .val (.int (0 : Int32)), .val (.int zm), .val (.int zd), .val (.ref za), .val (.ref zo), .val (.int (1 : Int32)), .val (.int (1 : Int32)), .val (.int (1 : Int32))] [])
        refine own_go (fun t k => XS.iconst X94.here hx rfl (hb hby at_139) k) ?_
        show own_WP _ _ _ _ T94 (mkF m 140 #[.val (.int zm), .val (.int zs), .val (.int zd), .val (.int zf), .val (.long zl), .second, .val (.int (1 : Int32)), .val (.int (0 : Int32)), .val (.int zm), .val (.int zd), .val (.ref za), .val (.ref zo), .val (.int (1 : Int32)), .val (.int (1 : Int32)), .val (.int (1 : Int32))] [(.int (1 : Int32))])
        refine own_go (fun t k => XS.goto X94.here hx rfl (pc0 := 140) (pc' := 144) rfl (hb hby at_140) (by decide) (by decide) k) ?_
        show own_WP _ _ _ _ T94 (mkF m 144 #[.val (.int zm), .val (.int zs), .val (.int zd), .val (.int zf), .val (.long zl), .second, .val (.int (1 : Int32)), .val (.int (0 : Int32)), .val (.int zm), .val (.int zd), .val (.ref za), .val (.ref zo), .val (.int (1 : Int32)), .val (.int (1 : Int32)), .val (.int (1 : Int32))] [(.int (1 : Int32))])
        refine own_retN X94 hx Bd.notSynchronized (t := .boolean) (by simp) Bd.returns (hb hby at_144) (by decide) (by decide) ?_
        rw [eq94]
        exact ⟨rfl, N94⟩
      · refine own_go (fun t k => XS.icmpYes X82.here hx rfl (pc0 := 101) (pc' := 108) rfl (hb hby at_101) rfl (feq hc101_2).2 (by decide) (by decide) k) ?_
        show own_WP _ _ _ _ T82 (mkF m 108 #[.val (.int zm), .val (.int zs), .val (.int zd), .val (.int zf), .val (.long zl), .second, .val (.int (1 : Int32)), .val (.int (0 : Int32)), .val (.int zm), .val (.int zd), .val (.ref za), .val (.ref zo), .val (.int (1 : Int32)), .unset, .unset] [])
        refine own_go (fun t k => XS.iconst X82.here hx rfl (hb hby at_108) k) ?_
        show own_WP _ _ _ _ T82 (mkF m 109 #[.val (.int zm), .val (.int zs), .val (.int zd), .val (.int zf), .val (.long zl), .second, .val (.int (1 : Int32)), .val (.int (0 : Int32)), .val (.int zm), .val (.int zd), .val (.ref za), .val (.ref zo), .val (.int (1 : Int32)), .unset, .unset] [(.int (0 : Int32))])
        refine own_go (fun t k => XS.istore X82.here hx rfl (hb hby at_109) rfl (l' := #[.val (.int zm), .val (.int zs), .val (.int zd), .val (.int zf), .val (.long zl), .second, .val (.int (1 : Int32)), .val (.int (0 : Int32)), .val (.int zm), .val (.int zd), .val (.ref za), .val (.ref zo), .val (.int (1 : Int32)), .val (.int (0 : Int32)), .unset]) rfl k) ?_
        show own_WP _ _ _ _ T82 (mkF m 111 #[.val (.int zm), .val (.int zs), .val (.int zd), .val (.int zf), .val (.long zl), .second, .val (.int (1 : Int32)), .val (.int (0 : Int32)), .val (.int zm), .val (.int zd), .val (.ref za), .val (.ref zo), .val (.int (1 : Int32)), .val (.int (0 : Int32)), .unset] [])
        refine own_go (fun t k => XS.iload X82.here hx rfl (hb hby at_111) rfl  k) ?_
        show own_WP _ _ _ _ T82 (mkF m 113 #[.val (.int zm), .val (.int zs), .val (.int zd), .val (.int zf), .val (.long zl), .second, .val (.int (1 : Int32)), .val (.int (0 : Int32)), .val (.int zm), .val (.int zd), .val (.ref za), .val (.ref zo), .val (.int (1 : Int32)), .val (.int (0 : Int32)), .unset] [(.int (1 : Int32))])
        have hc113_7 : ¬ ((1 : Int32) = (0 : Int32)) := by decide
        refine own_go (fun t k => XS.ifNo X82.here hx rfl (hb hby at_113) rfl ((if0 _ _).trans (feq hc113_7).1) k) ?_
        show own_WP _ _ _ _ T82 (mkF m 116 #[.val (.int zm), .val (.int zs), .val (.int zd), .val (.int zf), .val (.long zl), .second, .val (.int (1 : Int32)), .val (.int (0 : Int32)), .val (.int zm), .val (.int zd), .val (.ref za), .val (.ref zo), .val (.int (1 : Int32)), .val (.int (0 : Int32)), .unset] [])
        refine own_go (fun t k => XS.iload X82.here hx rfl (hb hby at_116) rfl  k) ?_
        show own_WP _ _ _ _ T82 (mkF m 118 #[.val (.int zm), .val (.int zs), .val (.int zd), .val (.int zf), .val (.long zl), .second, .val (.int (1 : Int32)), .val (.int (0 : Int32)), .val (.int zm), .val (.int zd), .val (.ref za), .val (.ref zo), .val (.int (1 : Int32)), .val (.int (0 : Int32)), .unset] [(.int (0 : Int32))])
        have hc118_4 : (0 : Int32) = (0 : Int32) := rfl
        refine own_go (fun t k => XS.ifYes X82.here hx rfl (pc0 := 118) (pc' := 125) rfl (hb hby at_118) rfl ((if0 _ _).trans (teq hc118_4).1) (by decide) (by decide) k) ?_
        show own_WP _ _ _ _ T82 (mkF m 125 #[.val (.int zm), .val (.int zs), .val (.int zd), .val (.int zf), .val (.long zl), .second, .val (.int (1 : Int32)), .val (.int (0 : Int32)), .val (.int zm), .val (.int zd), .val (.ref za), .val (.ref zo), .val (.int (1 : Int32)), .val (.int (0 : Int32)), .unset] [])
        refine own_go (fun t k => XS.iconst X82.here hx rfl (hb hby at_125) k) ?_
        show own_WP _ _ _ _ T82 (mkF m 126 #[.val (.int zm), .val (.int zs), .val (.int zd), .val (.int zf), .val (.long zl), .second, .val (.int (1 : Int32)), .val (.int (0 : Int32)), .val (.int zm), .val (.int zd), .val (.ref za), .val (.ref zo), .val (.int (1 : Int32)), .val (.int (0 : Int32)), .unset] [(.int (0 : Int32))])
        refine own_go (fun t k => XS.istore X82.here hx rfl (hb hby at_126) rfl (l' := #[.val (.int zm), .val (.int zs), .val (.int zd), .val (.int zf), .val (.long zl), .second, .val (.int (1 : Int32)), .val (.int (0 : Int32)), .val (.int zm), .val (.int zd), .val (.ref za), .val (.ref zo), .val (.int (1 : Int32)), .val (.int (0 : Int32)), .val (.int (0 : Int32))]) rfl k) ?_
        show own_WP _ _ _ _ T82 (mkF m 128 #[.val (.int zm), .val (.int zs), .val (.int zd), .val (.int zf), .val (.long zl), .second, .val (.int (1 : Int32)), .val (.int (0 : Int32)), .val (.int zm), .val (.int zd), .val (.ref za), .val (.ref zo), .val (.int (1 : Int32)), .val (.int (0 : Int32)), .val (.int (0 : Int32))] [])
        refine own_go (fun t k => XS.aload X82.here hx rfl (hb hby at_128) rfl rfl  k) ?_
        show own_WP _ _ _ _ T82 (mkF m 130 #[.val (.int zm), .val (.int zs), .val (.int zd), .val (.int zf), .val (.long zl), .second, .val (.int (1 : Int32)), .val (.int (0 : Int32)), .val (.int zm), .val (.int zd), .val (.ref za), .val (.ref zo), .val (.int (1 : Int32)), .val (.int (0 : Int32)), .val (.int (0 : Int32))] [(.ref zo)])
        refine own_go (fun t k => XS.iloadN X82.here hx rfl (hb hby at_130) rfl  k) ?_
        show own_WP _ _ _ _ T82 (mkF m 131 #[.val (.int zm), .val (.int zs), .val (.int zd), .val (.int zf), .val (.long zl), .second, .val (.int (1 : Int32)), .val (.int (0 : Int32)), .val (.int zm), .val (.int zd), .val (.ref za), .val (.ref zo), .val (.int (1 : Int32)), .val (.int (0 : Int32)), .val (.int (0 : Int32))] [(.int zm), (.ref zo)])
        obtain ⟨cq95, kq95, q95a, q95b, q95c⟩ := isOf hZ rfl f83
        obtain ⟨_, _, ⟨T95, L95, k95, n95⟩, -, X95, ⟨Lc95, hQ95, l95, y95, z95⟩, st95⟩ := X82.virtualBack hx (y := (⟨"com/example/tersel/tersel/bench/Arrivals", "complete", "(I)Z"⟩ : MethodName)) (z := (⟨"com/example/tersel/tersel/bench/Arrivals", "complete", "(I)Z"⟩ : MethodName)) hown (mvT hZ (hw _ (List.mem_of_getElem? (i := 27) rfl))) (mvT hZ (hw _ (List.mem_of_getElem? (i := 28) rfl))) (notFace_of_selects (args := #[]) (mvT hZ (hw _ (List.mem_of_getElem? (i := 30) rfl)))) (mvT hZ (hw _ (List.mem_of_getElem? (i := 30) rfl))) (mvT hZ (hw _ (List.mem_of_getElem? (i := 29) rfl))) (by decide) (backOf (W := 0) (rm3 l Z a0 hw [] zo zm zm zd T82.heap n0 (own_le Z0 K93) f84 f85) hZ (hw _ (List.mem_of_getElem? (i := 31) rfl)) (hw _ (List.mem_of_getElem? (i := 3) rfl)) (by decide) (by decide)) q95a q95c (g := (mkF m 131 #[.val (.int zm), .val (.int zs), .val (.int zd), .val (.int zf), .val (.long zl), .second, .val (.int (1 : Int32)), .val (.int (0 : Int32)), .val (.int zm), .val (.int zd), .val (.ref za), .val (.ref zo), .val (.int (1 : Int32)), .val (.int (0 : Int32)), .val (.int (0 : Int32))] [(.int zm), (.ref zo)])) rfl (by rw [hml]; rfl) (Steps.refl _) (argsL := [(.int zm)]) (rest := []) (lenOf own_pd81854 rfl) rfl (by show 2 * 0 + _ ≤ _; exact Nat.le_of_eq rfl) (hb hby at_131) (fun _ _ => ⟨rfl, rfl, (by decide : 3 + 0 ≤ _), (by decide : 6 + 0 ≤ _)⟩)
        dsimp only [Pt.U, Pt.locs, Pt.cells, Pt.slots] at X95 l95 y95 z95 st95 hQ95
        subst l95 y95 z95
        obtain ⟨rfl, N95q, eq95⟩ := hQ95
        have N95 := Fr.app N82 N95q
        refine own_tr st95 ?_
        show own_WP _ _ _ _ T95 (mkF m 134 #[.val (.int zm), .val (.int zs), .val (.int zd), .val (.int zf), .val (.long zl), .second, .val (.int (1 : Int32)), .val (.int (0 : Int32)), .val (.int zm), .val (.int zd), .val (.ref za), .val (.ref zo), .val (.int (1 : Int32)), .val (.int (0 : Int32)), .val (.int (0 : Int32))] [(.int (own_cp zm zd zm))])
        refine own_go (fun t k => XS.iload X95.here hx rfl (hb hby at_134) rfl  k) ?_
        show own_WP _ _ _ _ T95 (mkF m 136 #[.val (.int zm), .val (.int zs), .val (.int zd), .val (.int zf), .val (.long zl), .second, .val (.int (1 : Int32)), .val (.int (0 : Int32)), .val (.int zm), .val (.int zd), .val (.ref za), .val (.ref zo), .val (.int (1 : Int32)), .val (.int (0 : Int32)), .val (.int (0 : Int32))] [(.int (0 : Int32)), (.int (own_cp zm zd zm))])
        have hc136_7 : (own_cp zm zd zm) = (0 : Int32) := by
          simp [own_cp, hc101_2]
        refine own_go (fun t k => XS.icmpNo X95.here hx rfl (hb hby at_136) rfl (teq hc136_7).2 k) ?_
        show own_WP _ _ _ _ T95 (mkF m 139 #[.val (.int zm), .val (.int zs), .val (.int zd), .val (.int zf), .val (.long zl), .second, .val (.int (1 : Int32)), .val (.int (0 : Int32)), .val (.int zm), .val (.int zd), .val (.ref za), .val (.ref zo), .val (.int (1 : Int32)), .val (.int (0 : Int32)), .val (.int (0 : Int32))] [])
        refine own_go (fun t k => XS.iconst X95.here hx rfl (hb hby at_139) k) ?_
        show own_WP _ _ _ _ T95 (mkF m 140 #[.val (.int zm), .val (.int zs), .val (.int zd), .val (.int zf), .val (.long zl), .second, .val (.int (1 : Int32)), .val (.int (0 : Int32)), .val (.int zm), .val (.int zd), .val (.ref za), .val (.ref zo), .val (.int (1 : Int32)), .val (.int (0 : Int32)), .val (.int (0 : Int32))] [(.int (1 : Int32))])
        refine own_go (fun t k => XS.goto X95.here hx rfl (pc0 := 140) (pc' := 144) rfl (hb hby at_140) (by decide) (by decide) k) ?_
        show own_WP _ _ _ _ T95 (mkF m 144 #[.val (.int zm), .val (.int zs), .val (.int zd), .val (.int zf), .val (.long zl), .second, .val (.int (1 : Int32)), .val (.int (0 : Int32)), .val (.int zm), .val (.int zd), .val (.ref za), .val (.ref zo), .val (.int (1 : Int32)), .val (.int (0 : Int32)), .val (.int (0 : Int32))] [(.int (1 : Int32))])
        refine own_retN X95 hx Bd.notSynchronized (t := .boolean) (by simp) Bd.returns (hb hby at_144) (by decide) (by decide) ?_
        rw [eq95]
        exact ⟨rfl, N95⟩
    · refine own_go (fun t k => XS.ifNo X0.here hx rfl (hb hby at_16) rfl ((if0 _ _).trans (feq hc16_1).1) k) ?_
      show own_WP _ _ _ _ s₁ (mkF m 19 #[.val (.int zm), .val (.int zs), .val (.int zd), .val (.int zf), .val (.long zl), .second, .val (.int (1 : Int32)), .unset, .unset, .unset, .unset, .unset, .unset, .unset, .unset] [])
      refine own_go (fun t k => XS.iconst X0.here hx rfl (hb hby at_19) k) ?_
      show own_WP _ _ _ _ s₁ (mkF m 20 #[.val (.int zm), .val (.int zs), .val (.int zd), .val (.int zf), .val (.long zl), .second, .val (.int (1 : Int32)), .unset, .unset, .unset, .unset, .unset, .unset, .unset, .unset] [(.int (1 : Int32))])
      refine own_go (fun t k => XS.goto X0.here hx rfl (pc0 := 20) (pc' := 24) rfl (hb hby at_20) (by decide) (by decide) k) ?_
      show own_WP _ _ _ _ s₁ (mkF m 24 #[.val (.int zm), .val (.int zs), .val (.int zd), .val (.int zf), .val (.long zl), .second, .val (.int (1 : Int32)), .unset, .unset, .unset, .unset, .unset, .unset, .unset, .unset] [(.int (1 : Int32))])
      refine own_go (fun t k => XS.istore X0.here hx rfl (hb hby at_24) rfl (l' := #[.val (.int zm), .val (.int zs), .val (.int zd), .val (.int zf), .val (.long zl), .second, .val (.int (1 : Int32)), .val (.int (1 : Int32)), .unset, .unset, .unset, .unset, .unset, .unset, .unset]) rfl k) ?_
      show own_WP _ _ _ _ s₁ (mkF m 26 #[.val (.int zm), .val (.int zs), .val (.int zd), .val (.int zf), .val (.long zl), .second, .val (.int (1 : Int32)), .val (.int (1 : Int32)), .unset, .unset, .unset, .unset, .unset, .unset, .unset] [])
      refine own_go (fun t k => XS.iload X0.here hx rfl (hb hby at_26) rfl  k) ?_
      show own_WP _ _ _ _ s₁ (mkF m 28 #[.val (.int zm), .val (.int zs), .val (.int zd), .val (.int zf), .val (.long zl), .second, .val (.int (1 : Int32)), .val (.int (1 : Int32)), .unset, .unset, .unset, .unset, .unset, .unset, .unset] [(.int (1 : Int32))])
      have hc28_3 : ¬ ((1 : Int32) = (0 : Int32)) := by decide
      refine own_go (fun t k => XS.ifNo X0.here hx rfl (hb hby at_28) rfl ((if0 _ _).trans (feq hc28_3).1) k) ?_
      show own_WP _ _ _ _ s₁ (mkF m 31 #[.val (.int zm), .val (.int zs), .val (.int zd), .val (.int zf), .val (.long zl), .second, .val (.int (1 : Int32)), .val (.int (1 : Int32)), .unset, .unset, .unset, .unset, .unset, .unset, .unset] [])
      refine own_go (fun t k => XS.iloadN X0.here hx rfl (hb hby at_31) rfl  k) ?_
      show own_WP _ _ _ _ s₁ (mkF m 32 #[.val (.int zm), .val (.int zs), .val (.int zd), .val (.int zf), .val (.long zl), .second, .val (.int (1 : Int32)), .val (.int (1 : Int32)), .unset, .unset, .unset, .unset, .unset, .unset, .unset] [(.int zm)])
      refine own_go (fun t k => XS.goto X0.here hx rfl (pc0 := 32) (pc' := 36) rfl (hb hby at_32) (by decide) (by decide) k) ?_
      show own_WP _ _ _ _ s₁ (mkF m 36 #[.val (.int zm), .val (.int zs), .val (.int zd), .val (.int zf), .val (.long zl), .second, .val (.int (1 : Int32)), .val (.int (1 : Int32)), .unset, .unset, .unset, .unset, .unset, .unset, .unset] [(.int zm)])
      refine own_go (fun t k => XS.istore X0.here hx rfl (hb hby at_36) rfl (l' := #[.val (.int zm), .val (.int zs), .val (.int zd), .val (.int zf), .val (.long zl), .second, .val (.int (1 : Int32)), .val (.int (1 : Int32)), .val (.int zm), .unset, .unset, .unset, .unset, .unset, .unset]) rfl k) ?_
      show own_WP _ _ _ _ s₁ (mkF m 38 #[.val (.int zm), .val (.int zs), .val (.int zd), .val (.int zf), .val (.long zl), .second, .val (.int (1 : Int32)), .val (.int (1 : Int32)), .val (.int zm), .unset, .unset, .unset, .unset, .unset, .unset] [])
      refine own_go (fun t k => XS.iload X0.here hx rfl (hb hby at_38) rfl  k) ?_
      show own_WP _ _ _ _ s₁ (mkF m 40 #[.val (.int zm), .val (.int zs), .val (.int zd), .val (.int zf), .val (.long zl), .second, .val (.int (1 : Int32)), .val (.int (1 : Int32)), .val (.int zm), .unset, .unset, .unset, .unset, .unset, .unset] [(.int (1 : Int32))])
      have hc40_3 : ¬ ((1 : Int32) = (0 : Int32)) := by decide
      refine own_go (fun t k => XS.ifNo X0.here hx rfl (hb hby at_40) rfl ((if0 _ _).trans (feq hc40_3).1) k) ?_
      show own_WP _ _ _ _ s₁ (mkF m 43 #[.val (.int zm), .val (.int zs), .val (.int zd), .val (.int zf), .val (.long zl), .second, .val (.int (1 : Int32)), .val (.int (1 : Int32)), .val (.int zm), .unset, .unset, .unset, .unset, .unset, .unset] [])
      refine own_go (fun t k => XS.iloadN X0.here hx rfl (hb hby at_43) rfl  k) ?_
      show own_WP _ _ _ _ s₁ (mkF m 44 #[.val (.int zm), .val (.int zs), .val (.int zd), .val (.int zf), .val (.long zl), .second, .val (.int (1 : Int32)), .val (.int (1 : Int32)), .val (.int zm), .unset, .unset, .unset, .unset, .unset, .unset] [(.int zm)])
      refine own_go (fun t k => XS.goto X0.here hx rfl (pc0 := 44) (pc' := 48) rfl (hb hby at_44) (by decide) (by decide) k) ?_
      show own_WP _ _ _ _ s₁ (mkF m 48 #[.val (.int zm), .val (.int zs), .val (.int zd), .val (.int zf), .val (.long zl), .second, .val (.int (1 : Int32)), .val (.int (1 : Int32)), .val (.int zm), .unset, .unset, .unset, .unset, .unset, .unset] [(.int zm)])
      refine own_go (fun t k => XS.istore X0.here hx rfl (hb hby at_48) rfl (l' := #[.val (.int zm), .val (.int zs), .val (.int zd), .val (.int zf), .val (.long zl), .second, .val (.int (1 : Int32)), .val (.int (1 : Int32)), .val (.int zm), .val (.int zm), .unset, .unset, .unset, .unset, .unset]) rfl k) ?_
      show own_WP _ _ _ _ s₁ (mkF m 50 #[.val (.int zm), .val (.int zs), .val (.int zd), .val (.int zf), .val (.long zl), .second, .val (.int (1 : Int32)), .val (.int (1 : Int32)), .val (.int zm), .val (.int zm), .unset, .unset, .unset, .unset, .unset] [])
      refine own_go (fun t k => XS.iconst X0.here hx rfl (hb hby at_50) k) ?_
      show own_WP _ _ _ _ s₁ (mkF m 51 #[.val (.int zm), .val (.int zs), .val (.int zd), .val (.int zf), .val (.long zl), .second, .val (.int (1 : Int32)), .val (.int (1 : Int32)), .val (.int zm), .val (.int zm), .unset, .unset, .unset, .unset, .unset] [(.int (1 : Int32))])
      obtain ⟨T96, h96, k96, X96, e96, E96, A96, G96, st96⟩ := newPE X0 hx hZ (hw _ (List.mem_of_getElem? (i := 0) rfl)) e0 (g := (mkF m 51 #[.val (.int zm), .val (.int zs), .val (.int zd), .val (.int zf), .val (.long zl), .second, .val (.int (1 : Int32)), .val (.int (1 : Int32)), .val (.int zm), .val (.int zm), .unset, .unset, .unset, .unset, .unset] [(.int (1 : Int32))])) rfl (hb hby at_51) rfl (by decide) (cap := 1) (by decide) (by decide) (by decide) (by decide) (ad := "[J") rfl
      obtain ⟨za, q96⟩ : ∃ z, z = h0.size := ⟨_, rfl⟩
      rw [← q96] at A96 G96 st96
      refine own_go st96 ?_
      have g_za : n0 ≤ za := Nat.le_trans (own_le Z0 K0) (Nat.le_of_eq q96.symm)
      have sz_za : h0.size ≤ za := Nat.le_trans K0.1 (Nat.le_of_eq q96.symm)
      have K97 : Keep h0 h96 [] := K0.ext E96
      have f98 : Arv Z h96 za k96 .long (1 : Int32) [(.long (0 : Int64))] (.long (0 : Int64)) := (Arv.new A96 (by decide)).pad (pad_rep [] (.long (0 : Int64)) 1)
      show own_WP _ _ _ _ T96 (mkF m 53 #[.val (.int zm), .val (.int zs), .val (.int zd), .val (.int zf), .val (.long zl), .second, .val (.int (1 : Int32)), .val (.int (1 : Int32)), .val (.int zm), .val (.int zm), .unset, .unset, .unset, .unset, .unset] [(.ref za)])
      refine own_go (fun t k => XS.dup X96.here hx rfl (hb hby at_53) rfl rfl k) ?_
      show own_WP _ _ _ _ T96 (mkF m 54 #[.val (.int zm), .val (.int zs), .val (.int zd), .val (.int zf), .val (.long zl), .second, .val (.int (1 : Int32)), .val (.int (1 : Int32)), .val (.int zm), .val (.int zm), .unset, .unset, .unset, .unset, .unset] [(.ref za), (.ref za)])
      refine own_go (fun t k => XS.iconst X96.here hx rfl (hb hby at_54) k) ?_
      show own_WP _ _ _ _ T96 (mkF m 55 #[.val (.int zm), .val (.int zs), .val (.int zd), .val (.int zf), .val (.long zl), .second, .val (.int (1 : Int32)), .val (.int (1 : Int32)), .val (.int zm), .val (.int zm), .unset, .unset, .unset, .unset, .unset] [(.int (0 : Int32)), (.ref za), (.ref za)])
      refine own_go (fun t k => XS.lload X96.here hx rfl (hb hby at_55) rfl  k) ?_
      show own_WP _ _ _ _ T96 (mkF m 57 #[.val (.int zm), .val (.int zs), .val (.int zd), .val (.int zf), .val (.long zl), .second, .val (.int (1 : Int32)), .val (.int (1 : Int32)), .val (.int zm), .val (.int zm), .unset, .unset, .unset, .unset, .unset] [(.long zl), (.int (0 : Int32)), (.ref za), (.ref za)])
      refine own_stJ X96 hx hZ e96 f98 (j := (0 : Int32)) ⟨by decide, by decide⟩ (i := 0) rfl (by decide) (hb hby at_57) ?_
      intro T99 h99 X99 e99 W99 V99
      have f100 : Arv Z h99 za k96 .long (1 : Int32) [(.long zl)] (.long (0 : Int64)) := V99
      have f101 : Exa Z h99 za "[J" := G96.wr W99
      have K103 : Keep h0 h99 [] := K97.wr W99 (Or.inr sz_za)
      have N104 := Fr.snoc X99 N0 g_za
      show own_WP _ _ _ _ T99 (mkF m 58 #[.val (.int zm), .val (.int zs), .val (.int zd), .val (.int zf), .val (.long zl), .second, .val (.int (1 : Int32)), .val (.int (1 : Int32)), .val (.int zm), .val (.int zm), .unset, .unset, .unset, .unset, .unset] [(.ref za)])
      refine own_go (fun t k => XS.astore X99.here hx rfl (hb hby at_58) rfl rfl (l' := #[.val (.int zm), .val (.int zs), .val (.int zd), .val (.int zf), .val (.long zl), .second, .val (.int (1 : Int32)), .val (.int (1 : Int32)), .val (.int zm), .val (.int zm), .val (.ref za), .unset, .unset, .unset, .unset]) rfl k) ?_
      show own_WP _ _ _ _ T99 (mkF m 60 #[.val (.int zm), .val (.int zs), .val (.int zd), .val (.int zf), .val (.long zl), .second, .val (.int (1 : Int32)), .val (.int (1 : Int32)), .val (.int zm), .val (.int zm), .val (.ref za), .unset, .unset, .unset, .unset] [])
      obtain ⟨T105, h105, X105, e105, E105, A105, D105, -, st105⟩ := newO X99 hx hZ hown (hw _ (List.mem_of_getElem? (i := 1) rfl)) (hw _ (List.mem_of_getElem? (i := 2) rfl)) (hw _ (List.mem_of_getElem? (i := 3) rfl)) e99 (g := (mkF m 60 #[.val (.int zm), .val (.int zs), .val (.int zd), .val (.int zf), .val (.long zl), .second, .val (.int (1 : Int32)), .val (.int (1 : Int32)), .val (.int zm), .val (.int zm), .val (.ref za), .unset, .unset, .unset, .unset] [])) rfl (hb hby at_60) (by decide) (by decide)
      obtain ⟨zo, q105⟩ : ∃ z, z = h99.size := ⟨_, rfl⟩
      rw [← q105] at A105 D105 st105
      refine own_go st105 ?_
      have g_zo : n0 ≤ zo := Nat.le_trans (own_le Z0 K103) (Nat.le_of_eq q105.symm)
      have sz_zo : h0.size ≤ zo := Nat.le_trans K103.1 (Nat.le_of_eq q105.symm)
      have ne_za_zo : za ≠ zo := Nat.ne_of_lt (Nat.lt_of_lt_of_le f101.lt (Nat.le_of_eq q105.symm))
      have f106 : Exa Z h105 za "[J" := f101.ext E105
      have f107 : Arv Z h105 za k96 .long (1 : Int32) [(.long zl)] (.long (0 : Int64)) := f100.ext E105
      have K108 : Keep h0 h105 [] := K103.ext E105
      have f109 : Fld Z h105 zo "com/example/tersel/tersel/bench/Arrivals" "submitted" "I" (.int (0 : Int32)) := D105 (Or.inr (hw _ (List.mem_of_getElem? (i := 11) rfl))) (ty := .int) (by decide)
      have f110 : Fld Z h105 zo "com/example/tersel/tersel/bench/Arrivals" "destinations" "I" (.int (0 : Int32)) := D105 (Or.inr (hw _ (List.mem_of_getElem? (i := 13) rfl))) (ty := .int) (by decide)
      have f111 : Fld Z h105 zo "com/example/tersel/tersel/bench/Arrivals" "last" "J" (.long (0 : Int64)) := D105 (Or.inr (hw _ (List.mem_of_getElem? (i := 15) rfl))) (ty := .long) (by decide)
      have f112 : Fld Z h105 zo "com/example/tersel/tersel/bench/Arrivals" "latencies" "[J" .null := D105 (Or.inr (hw _ (List.mem_of_getElem? (i := 26) rfl))) (ty := (.array .long)) (by decide)
      show own_WP _ _ _ _ T105 (mkF m 63 #[.val (.int zm), .val (.int zs), .val (.int zd), .val (.int zf), .val (.long zl), .second, .val (.int (1 : Int32)), .val (.int (1 : Int32)), .val (.int zm), .val (.int zm), .val (.ref za), .unset, .unset, .unset, .unset] [(.ref zo)])
      refine own_go (fun t k => XS.dup X105.here hx rfl (hb hby at_63) rfl rfl k) ?_
      show own_WP _ _ _ _ T105 (mkF m 64 #[.val (.int zm), .val (.int zs), .val (.int zd), .val (.int zf), .val (.long zl), .second, .val (.int (1 : Int32)), .val (.int (1 : Int32)), .val (.int zm), .val (.int zm), .val (.ref za), .unset, .unset, .unset, .unset] [(.ref zo), (.ref zo)])
      refine own_go (fun t k => XS.iload X105.here hx rfl (hb hby at_64) rfl  k) ?_
      show own_WP _ _ _ _ T105 (mkF m 66 #[.val (.int zm), .val (.int zs), .val (.int zd), .val (.int zf), .val (.long zl), .second, .val (.int (1 : Int32)), .val (.int (1 : Int32)), .val (.int zm), .val (.int zm), .val (.ref za), .unset, .unset, .unset, .unset] [(.int zm), (.ref zo), (.ref zo)])
      refine own_go (fun t k => XS.iload X105.here hx rfl (hb hby at_66) rfl  k) ?_
      show own_WP _ _ _ _ T105 (mkF m 68 #[.val (.int zm), .val (.int zs), .val (.int zd), .val (.int zf), .val (.long zl), .second, .val (.int (1 : Int32)), .val (.int (1 : Int32)), .val (.int zm), .val (.int zm), .val (.ref za), .unset, .unset, .unset, .unset] [(.int zm), (.int zm), (.ref zo), (.ref zo)])
      refine own_go (fun t k => XS.lload X105.here hx rfl (hb hby at_68) rfl  k) ?_
      show own_WP _ _ _ _ T105 (mkF m 70 #[.val (.int zm), .val (.int zs), .val (.int zd), .val (.int zf), .val (.long zl), .second, .val (.int (1 : Int32)), .val (.int (1 : Int32)), .val (.int zm), .val (.int zm), .val (.ref za), .unset, .unset, .unset, .unset] [(.long zl), (.int zm), (.int zm), (.ref zo), (.ref zo)])
      refine own_go (fun t k => XS.aload X105.here hx rfl (hb hby at_70) rfl rfl  k) ?_
      show own_WP _ _ _ _ T105 (mkF m 72 #[.val (.int zm), .val (.int zs), .val (.int zd), .val (.int zf), .val (.long zl), .second, .val (.int (1 : Int32)), .val (.int (1 : Int32)), .val (.int zm), .val (.int zm), .val (.ref za), .unset, .unset, .unset, .unset] [(.ref za), (.long zl), (.int zm), (.int zm), (.ref zo), (.ref zo)])
      obtain ⟨_, _, ⟨T113, L113, k113, n113⟩, -, X113, ⟨Lc113, hQ113, l113, y113, z113⟩, st113⟩ := X105.specialBack hx (y := (⟨"com/example/tersel/tersel/bench/Arrivals", "<init>", "(IIJ[J)V"⟩ : MethodName)) rfl hown (mvT hZ (hw _ (List.mem_of_getElem? (i := 4) rfl))) (mvT hZ (hw _ (List.mem_of_getElem? (i := 5) rfl))) (mvT hZ (hw _ (List.mem_of_getElem? (i := 6) rfl))) (by decide) (backOf (W := 1) (rm1 l Z a0 hw [] zo zm zm zl za (.int (0 : Int32)) (.int (0 : Int32)) (.long (0 : Int64)) .null k96 h105 n0 (own_le Z0 K108) A105 f109 f110 f111 f112 f107 f106 g_zo ne_za_zo) hZ (hw _ (List.mem_of_getElem? (i := 6) rfl)) (hw _ (List.mem_of_getElem? (i := 3) rfl)) (by decide) (by decide)) (g := (mkF m 72 #[.val (.int zm), .val (.int zs), .val (.int zd), .val (.int zf), .val (.long zl), .second, .val (.int (1 : Int32)), .val (.int (1 : Int32)), .val (.int zm), .val (.int zm), .val (.ref za), .unset, .unset, .unset, .unset] [(.ref za), (.long zl), (.int zm), (.int zm), (.ref zo), (.ref zo)])) rfl (by rw [hml]; rfl) (Steps.refl _) (a := zo) (argsL := [(.int zm), (.int zm), (.long zl), (.ref za)]) (rest := [(.ref zo)]) (lenOf own_pd82578 rfl) rfl (by show 2 * 0 + _ ≤ _; exact Nat.le_of_eq rfl) (hb hby at_72) (fun _ _ => ⟨rfl, e105, (by decide : 2 + 1 ≤ _), (by decide : 5 + 1 ≤ _)⟩)
      dsimp only [Pt.U, Pt.locs, Pt.cells, Pt.slots] at X113 l113 y113 z113 st113 hQ113
      subst l113 y113 z113
      obtain ⟨rfl, N113q, Kc113, f114, f115, f116⟩ := hQ113
      have N113 := Fr.app N104 N113q
      refine own_tr st113 ?_
      have f117 : Exa Z T113.heap za "[J" := f106.keep Kc113
      have f118 : Arv Z T113.heap za k96 .long (1 : Int32) [(.long zl)] (.long (0 : Int64)) := f107.keep Kc113 (own_nm ne_za_zo)
      have f119 : Exa Z T113.heap zo "com/example/tersel/tersel/bench/Arrivals" := A105.keep Kc113
      have K124 : Keep h0 T113.heap [] := K108.trans Kc113 (fun x hx => by cases List.mem_singleton.mp hx; exact Or.inr sz_zo)
      show own_WP _ _ _ _ T113 (mkF m 75 #[.val (.int zm), .val (.int zs), .val (.int zd), .val (.int zf), .val (.long zl), .second, .val (.int (1 : Int32)), .val (.int (1 : Int32)), .val (.int zm), .val (.int zm), .val (.ref za), .unset, .unset, .unset, .unset] [(.ref zo)])
      refine own_go (fun t k => XS.astore X113.here hx rfl (hb hby at_75) rfl rfl (l' := #[.val (.int zm), .val (.int zs), .val (.int zd), .val (.int zf), .val (.long zl), .second, .val (.int (1 : Int32)), .val (.int (1 : Int32)), .val (.int zm), .val (.int zm), .val (.ref za), .val (.ref zo), .unset, .unset, .unset]) rfl k) ?_
      show own_WP _ _ _ _ T113 (mkF m 77 #[.val (.int zm), .val (.int zs), .val (.int zd), .val (.int zf), .val (.long zl), .second, .val (.int (1 : Int32)), .val (.int (1 : Int32)), .val (.int zm), .val (.int zm), .val (.ref za), .val (.ref zo), .unset, .unset, .unset] [])
      refine own_go (fun t k => XS.iload X113.here hx rfl (hb hby at_77) rfl  k) ?_
      show own_WP _ _ _ _ T113 (mkF m 79 #[.val (.int zm), .val (.int zs), .val (.int zd), .val (.int zf), .val (.long zl), .second, .val (.int (1 : Int32)), .val (.int (1 : Int32)), .val (.int zm), .val (.int zm), .val (.ref za), .val (.ref zo), .unset, .unset, .unset] [(.int (1 : Int32))])
      have hc79_3 : ¬ ((1 : Int32) = (0 : Int32)) := by decide
      refine own_go (fun t k => XS.ifYes X113.here hx rfl (pc0 := 79) (pc' := 87) rfl (hb hby at_79) rfl ((if0 _ _).trans (feq hc79_3).2) (by decide) (by decide) k) ?_
      show own_WP _ _ _ _ T113 (mkF m 87 #[.val (.int zm), .val (.int zs), .val (.int zd), .val (.int zf), .val (.long zl), .second, .val (.int (1 : Int32)), .val (.int (1 : Int32)), .val (.int zm), .val (.int zm), .val (.ref za), .val (.ref zo), .unset, .unset, .unset] [])
      refine own_go (fun t k => XS.iconst X113.here hx rfl (hb hby at_87) k) ?_
      show own_WP _ _ _ _ T113 (mkF m 88 #[.val (.int zm), .val (.int zs), .val (.int zd), .val (.int zf), .val (.long zl), .second, .val (.int (1 : Int32)), .val (.int (1 : Int32)), .val (.int zm), .val (.int zm), .val (.ref za), .val (.ref zo), .unset, .unset, .unset] [(.int (1 : Int32))])
      refine own_go (fun t k => XS.goto X113.here hx rfl (pc0 := 88) (pc' := 92) rfl (hb hby at_88) (by decide) (by decide) k) ?_
      show own_WP _ _ _ _ T113 (mkF m 92 #[.val (.int zm), .val (.int zs), .val (.int zd), .val (.int zf), .val (.long zl), .second, .val (.int (1 : Int32)), .val (.int (1 : Int32)), .val (.int zm), .val (.int zm), .val (.ref za), .val (.ref zo), .unset, .unset, .unset] [(.int (1 : Int32))])
      refine own_go (fun t k => XS.istore X113.here hx rfl (hb hby at_92) rfl (l' := #[.val (.int zm), .val (.int zs), .val (.int zd), .val (.int zf), .val (.long zl), .second, .val (.int (1 : Int32)), .val (.int (1 : Int32)), .val (.int zm), .val (.int zm), .val (.ref za), .val (.ref zo), .val (.int (1 : Int32)), .unset, .unset]) rfl k) ?_
      show own_WP _ _ _ _ T113 (mkF m 94 #[.val (.int zm), .val (.int zs), .val (.int zd), .val (.int zf), .val (.long zl), .second, .val (.int (1 : Int32)), .val (.int (1 : Int32)), .val (.int zm), .val (.int zm), .val (.ref za), .val (.ref zo), .val (.int (1 : Int32)), .unset, .unset] [])
      refine own_go (fun t k => XS.iload X113.here hx rfl (hb hby at_94) rfl  k) ?_
      show own_WP _ _ _ _ T113 (mkF m 96 #[.val (.int zm), .val (.int zs), .val (.int zd), .val (.int zf), .val (.long zl), .second, .val (.int (1 : Int32)), .val (.int (1 : Int32)), .val (.int zm), .val (.int zm), .val (.ref za), .val (.ref zo), .val (.int (1 : Int32)), .unset, .unset] [(.int (1 : Int32))])
      have hc96_5 : ¬ ((1 : Int32) = (0 : Int32)) := by decide
      refine own_go (fun t k => XS.ifYes X113.here hx rfl (pc0 := 96) (pc' := 104) rfl (hb hby at_96) rfl ((if0 _ _).trans (feq hc96_5).2) (by decide) (by decide) k) ?_
      show own_WP _ _ _ _ T113 (mkF m 104 #[.val (.int zm), .val (.int zs), .val (.int zd), .val (.int zf), .val (.long zl), .second, .val (.int (1 : Int32)), .val (.int (1 : Int32)), .val (.int zm), .val (.int zm), .val (.ref za), .val (.ref zo), .val (.int (1 : Int32)), .unset, .unset] [])
      refine own_go (fun t k => XS.iconst X113.here hx rfl (hb hby at_104) k) ?_
      show own_WP _ _ _ _ T113 (mkF m 105 #[.val (.int zm), .val (.int zs), .val (.int zd), .val (.int zf), .val (.long zl), .second, .val (.int (1 : Int32)), .val (.int (1 : Int32)), .val (.int zm), .val (.int zm), .val (.ref za), .val (.ref zo), .val (.int (1 : Int32)), .unset, .unset] [(.int (1 : Int32))])
      refine own_go (fun t k => XS.goto X113.here hx rfl (pc0 := 105) (pc' := 109) rfl (hb hby at_105) (by decide) (by decide) k) ?_
      show own_WP _ _ _ _ T113 (mkF m 109 #[.val (.int zm), .val (.int zs), .val (.int zd), .val (.int zf), .val (.long zl), .second, .val (.int (1 : Int32)), .val (.int (1 : Int32)), .val (.int zm), .val (.int zm), .val (.ref za), .val (.ref zo), .val (.int (1 : Int32)), .unset, .unset] [(.int (1 : Int32))])
      refine own_go (fun t k => XS.istore X113.here hx rfl (hb hby at_109) rfl (l' := #[.val (.int zm), .val (.int zs), .val (.int zd), .val (.int zf), .val (.long zl), .second, .val (.int (1 : Int32)), .val (.int (1 : Int32)), .val (.int zm), .val (.int zm), .val (.ref za), .val (.ref zo), .val (.int (1 : Int32)), .val (.int (1 : Int32)), .unset]) rfl k) ?_
      show own_WP _ _ _ _ T113 (mkF m 111 #[.val (.int zm), .val (.int zs), .val (.int zd), .val (.int zf), .val (.long zl), .second, .val (.int (1 : Int32)), .val (.int (1 : Int32)), .val (.int zm), .val (.int zm), .val (.ref za), .val (.ref zo), .val (.int (1 : Int32)), .val (.int (1 : Int32)), .unset] [])
      refine own_go (fun t k => XS.iload X113.here hx rfl (hb hby at_111) rfl  k) ?_
      show own_WP _ _ _ _ T113 (mkF m 113 #[.val (.int zm), .val (.int zs), .val (.int zd), .val (.int zf), .val (.long zl), .second, .val (.int (1 : Int32)), .val (.int (1 : Int32)), .val (.int zm), .val (.int zm), .val (.ref za), .val (.ref zo), .val (.int (1 : Int32)), .val (.int (1 : Int32)), .unset] [(.int (1 : Int32))])
      have hc113_8 : ¬ ((1 : Int32) = (0 : Int32)) := by decide
      refine own_go (fun t k => XS.ifNo X113.here hx rfl (hb hby at_113) rfl ((if0 _ _).trans (feq hc113_8).1) k) ?_
      show own_WP _ _ _ _ T113 (mkF m 116 #[.val (.int zm), .val (.int zs), .val (.int zd), .val (.int zf), .val (.long zl), .second, .val (.int (1 : Int32)), .val (.int (1 : Int32)), .val (.int zm), .val (.int zm), .val (.ref za), .val (.ref zo), .val (.int (1 : Int32)), .val (.int (1 : Int32)), .unset] [])
      refine own_go (fun t k => XS.iload X113.here hx rfl (hb hby at_116) rfl  k) ?_
      show own_WP _ _ _ _ T113 (mkF m 118 #[.val (.int zm), .val (.int zs), .val (.int zd), .val (.int zf), .val (.long zl), .second, .val (.int (1 : Int32)), .val (.int (1 : Int32)), .val (.int zm), .val (.int zm), .val (.ref za), .val (.ref zo), .val (.int (1 : Int32)), .val (.int (1 : Int32)), .unset] [(.int (1 : Int32))])
      have hc118_5 : ¬ ((1 : Int32) = (0 : Int32)) := by decide
      refine own_go (fun t k => XS.ifNo X113.here hx rfl (hb hby at_118) rfl ((if0 _ _).trans (feq hc118_5).1) k) ?_
      show own_WP _ _ _ _ T113 (mkF m 121 #[.val (.int zm), .val (.int zs), .val (.int zd), .val (.int zf), .val (.long zl), .second, .val (.int (1 : Int32)), .val (.int (1 : Int32)), .val (.int zm), .val (.int zm), .val (.ref za), .val (.ref zo), .val (.int (1 : Int32)), .val (.int (1 : Int32)), .unset] [])
      refine own_go (fun t k => XS.iconst X113.here hx rfl (hb hby at_121) k) ?_
      show own_WP _ _ _ _ T113 (mkF m 122 #[.val (.int zm), .val (.int zs), .val (.int zd), .val (.int zf), .val (.long zl), .second, .val (.int (1 : Int32)), .val (.int (1 : Int32)), .val (.int zm), .val (.int zm), .val (.ref za), .val (.ref zo), .val (.int (1 : Int32)), .val (.int (1 : Int32)), .unset] [(.int (1 : Int32))])
      refine own_go (fun t k => XS.goto X113.here hx rfl (pc0 := 122) (pc' := 126) rfl (hb hby at_122) (by decide) (by decide) k) ?_
      show own_WP _ _ _ _ T113 (mkF m 126 #[.val (.int zm), .val (.int zs), .val (.int zd), .val (.int zf), .val (.long zl), .second, .val (.int (1 : Int32)), .val (.int (1 : Int32)), .val (.int zm), .val (.int zm), .val (.ref za), .val (.ref zo), .val (.int (1 : Int32)), .val (.int (1 : Int32)), .unset] [(.int (1 : Int32))])
      refine own_go (fun t k => XS.istore X113.here hx rfl (hb hby at_126) rfl (l' := #[.val (.int zm), .val (.int zs), .val (.int zd), .val (.int zf), .val (.long zl), .second, .val (.int (1 : Int32)), .val (.int (1 : Int32)), .val (.int zm), .val (.int zm), .val (.ref za), .val (.ref zo), .val (.int (1 : Int32)), .val (.int (1 : Int32)), .val (.int (1 : Int32))]) rfl k) ?_
      show own_WP _ _ _ _ T113 (mkF m 128 #[.val (.int zm), .val (.int zs), .val (.int zd), .val (.int zf), .val (.long zl), .second, .val (.int (1 : Int32)), .val (.int (1 : Int32)), .val (.int zm), .val (.int zm), .val (.ref za), .val (.ref zo), .val (.int (1 : Int32)), .val (.int (1 : Int32)), .val (.int (1 : Int32))] [])
      refine own_go (fun t k => XS.aload X113.here hx rfl (hb hby at_128) rfl rfl  k) ?_
      show own_WP _ _ _ _ T113 (mkF m 130 #[.val (.int zm), .val (.int zs), .val (.int zd), .val (.int zf), .val (.long zl), .second, .val (.int (1 : Int32)), .val (.int (1 : Int32)), .val (.int zm), .val (.int zm), .val (.ref za), .val (.ref zo), .val (.int (1 : Int32)), .val (.int (1 : Int32)), .val (.int (1 : Int32))] [(.ref zo)])
      refine own_go (fun t k => XS.iloadN X113.here hx rfl (hb hby at_130) rfl  k) ?_
      show own_WP _ _ _ _ T113 (mkF m 131 #[.val (.int zm), .val (.int zs), .val (.int zd), .val (.int zf), .val (.long zl), .second, .val (.int (1 : Int32)), .val (.int (1 : Int32)), .val (.int zm), .val (.int zm), .val (.ref za), .val (.ref zo), .val (.int (1 : Int32)), .val (.int (1 : Int32)), .val (.int (1 : Int32))] [(.int zm), (.ref zo)])
      obtain ⟨cq125, kq125, q125a, q125b, q125c⟩ := isOf hZ rfl f114
      obtain ⟨_, _, ⟨T125, L125, k125, n125⟩, -, X125, ⟨Lc125, hQ125, l125, y125, z125⟩, st125⟩ := X113.virtualBack hx (y := (⟨"com/example/tersel/tersel/bench/Arrivals", "complete", "(I)Z"⟩ : MethodName)) (z := (⟨"com/example/tersel/tersel/bench/Arrivals", "complete", "(I)Z"⟩ : MethodName)) hown (mvT hZ (hw _ (List.mem_of_getElem? (i := 27) rfl))) (mvT hZ (hw _ (List.mem_of_getElem? (i := 28) rfl))) (notFace_of_selects (args := #[]) (mvT hZ (hw _ (List.mem_of_getElem? (i := 30) rfl)))) (mvT hZ (hw _ (List.mem_of_getElem? (i := 30) rfl))) (mvT hZ (hw _ (List.mem_of_getElem? (i := 29) rfl))) (by decide) (backOf (W := 0) (rm3 l Z a0 hw [] zo zm zm zm T113.heap n0 (own_le Z0 K124) f115 f116) hZ (hw _ (List.mem_of_getElem? (i := 31) rfl)) (hw _ (List.mem_of_getElem? (i := 3) rfl)) (by decide) (by decide)) q125a q125c (g := (mkF m 131 #[.val (.int zm), .val (.int zs), .val (.int zd), .val (.int zf), .val (.long zl), .second, .val (.int (1 : Int32)), .val (.int (1 : Int32)), .val (.int zm), .val (.int zm), .val (.ref za), .val (.ref zo), .val (.int (1 : Int32)), .val (.int (1 : Int32)), .val (.int (1 : Int32))] [(.int zm), (.ref zo)])) rfl (by rw [hml]; rfl) (Steps.refl _) (argsL := [(.int zm)]) (rest := []) (lenOf own_pd81854 rfl) rfl (by show 2 * 0 + _ ≤ _; exact Nat.le_of_eq rfl) (hb hby at_131) (fun _ _ => ⟨rfl, rfl, (by decide : 3 + 0 ≤ _), (by decide : 6 + 0 ≤ _)⟩)
      dsimp only [Pt.U, Pt.locs, Pt.cells, Pt.slots] at X125 l125 y125 z125 st125 hQ125
      subst l125 y125 z125
      obtain ⟨rfl, N125q, eq125⟩ := hQ125
      have N125 := Fr.app N113 N125q
      refine own_tr st125 ?_
      show own_WP _ _ _ _ T125 (mkF m 134 #[.val (.int zm), .val (.int zs), .val (.int zd), .val (.int zf), .val (.long zl), .second, .val (.int (1 : Int32)), .val (.int (1 : Int32)), .val (.int zm), .val (.int zm), .val (.ref za), .val (.ref zo), .val (.int (1 : Int32)), .val (.int (1 : Int32)), .val (.int (1 : Int32))] [(.int (own_cp zm zm zm))])
      refine own_go (fun t k => XS.iload X125.here hx rfl (hb hby at_134) rfl  k) ?_
      show own_WP _ _ _ _ T125 (mkF m 136 #[.val (.int zm), .val (.int zs), .val (.int zd), .val (.int zf), .val (.long zl), .second, .val (.int (1 : Int32)), .val (.int (1 : Int32)), .val (.int zm), .val (.int zm), .val (.ref za), .val (.ref zo), .val (.int (1 : Int32)), .val (.int (1 : Int32)), .val (.int (1 : Int32))] [(.int (1 : Int32)), (.int (own_cp zm zm zm))])
      have hc136_8 : (own_cp zm zm zm) = (1 : Int32) := by
        simp [own_cp]
      refine own_go (fun t k => XS.icmpNo X125.here hx rfl (hb hby at_136) rfl (teq hc136_8).2 k) ?_
      show own_WP _ _ _ _ T125 (mkF m 139 #[.val (.int zm), .val (.int zs), .val (.int zd), .val (.int zf), .val (.long zl), .second, .val (.int (1 : Int32)), .val (.int (1 : Int32)), .val (.int zm), .val (.int zm), .val (.ref za), .val (.ref zo), .val (.int (1 : Int32)), .val (.int (1 : Int32)), .val (.int (1 : Int32))] [])
      refine own_go (fun t k => XS.iconst X125.here hx rfl (hb hby at_139) k) ?_
      show own_WP _ _ _ _ T125 (mkF m 140 #[.val (.int zm), .val (.int zs), .val (.int zd), .val (.int zf), .val (.long zl), .second, .val (.int (1 : Int32)), .val (.int (1 : Int32)), .val (.int zm), .val (.int zm), .val (.ref za), .val (.ref zo), .val (.int (1 : Int32)), .val (.int (1 : Int32)), .val (.int (1 : Int32))] [(.int (1 : Int32))])
      refine own_go (fun t k => XS.goto X125.here hx rfl (pc0 := 140) (pc' := 144) rfl (hb hby at_140) (by decide) (by decide) k) ?_
      show own_WP _ _ _ _ T125 (mkF m 144 #[.val (.int zm), .val (.int zs), .val (.int zd), .val (.int zf), .val (.long zl), .second, .val (.int (1 : Int32)), .val (.int (1 : Int32)), .val (.int zm), .val (.int zm), .val (.ref za), .val (.ref zo), .val (.int (1 : Int32)), .val (.int (1 : Int32)), .val (.int (1 : Int32))] [(.int (1 : Int32))])
      refine own_retN X125 hx Bd.notSynchronized (t := .boolean) (by simp) Bd.returns (hb hby at_144) (by decide) (by decide) ?_
      rw [eq125]
      exact ⟨rfl, N125⟩
set_option maxRecDepth 65536 in
set_option maxHeartbeats 40000000 in
theorem comes_1 {Post : Tables → Env → Array Value → State → Outcome → State → Prop} (hpost : ∀ tb e args s v u, (limb_1_1.after args s (.returned v) u = true ∧ limb_1_2.after args s (.returned v) u = true ∧ True) → FrameEnd s (.returned v) u (Jvm.fieldLocs frame_1_writes args s ++ Jvm.arrayLocs frame_1_arrays args s ++ Jvm.staticLocs frame_1_statics s) 16 128 → Post tb e args s (.returned v) u) :
    ArmFor flags0 classFile x code maxLocals ret World_1 tables_1 room_1 Calls_1 rest_1 Pre_1 Post := by
  intro l hfl _ _ p e ha hc hk s m args below hf hA hF happ hP
  obtain ⟨hcalls, hrest, hpre⟩ := hP
  obtain ⟨-, -, -, hnamed, -, -, -, hat⟩ := (Spec.applies_iff hf).mp happ
  obtain ⟨hg, hn⟩ := and_e (Cond.before_iff.mp (show (Jvm.Cond.and given_1 narrow_1).before args s = true from hpre))
  obtain ⟨u0, v0⟩ := and_e hg
  obtain ⟨u1, v1⟩ := and_e v0
  obtain ⟨u2, v2⟩ := and_e v1
  obtain ⟨u3, v3⟩ := and_e v2
  obtain ⟨u4, v4⟩ := and_e v3
  obtain ⟨w0, w1, w2, w3, w4, rfl⟩ : ∃ w0 w1 w2 w3 w4 : Value, args = #[w0, w1, w2, w3, w4] := by
    have hs : args.size = 5 := by simpa [Cond.value, given_1] using u0
    obtain ⟨L⟩ := args
    match L, hs with
    | [w0, w1, w2, w3, w4], _ => exact ⟨w0, w1, w2, w3, w4, rfl⟩
  have hw := fun d (hd : d ∈ tables_1) => atoms_spec (ws := Jvm.Cond.code x code maxLocals ret :: tables_1) hat d (List.mem_cons_of_mem _ hd)
  obtain ⟨i0, ei0⟩ := is_v u1
  obtain rfl : w0 = (.int i0) := Option.some.inj ei0
  obtain ⟨i1, ei1⟩ := is_v u2
  obtain rfl : w1 = (.int i1) := Option.some.inj ei1
  obtain ⟨i2, ei2⟩ := is_v u3
  obtain rfl : w2 = (.int i2) := Option.some.inj ei2
  obtain ⟨i3, ei3⟩ := is_v u4
  obtain rfl : w3 = (.int i3) := Option.some.inj ei3
  obtain ⟨i4, ei4⟩ := isL_v v4
  obtain rfl : w4 = (.long i4) := Option.some.inj ei4
  obtain ⟨n, o, h1, h2, h3, _, L, rfl, ⟨rfl, N⟩, hq⟩ := rm0 l s _ hw tables_1 i0 i1 i2 i3 i4  s.heap s.heap.size (Nat.le_refl _)  p e ha hc hk s m _ below hf ((Spec.applies_iff_loose hf).mp happ).1 ⟨rfl, State.Warmed39.refl s, rfl⟩ trivial
  refine ⟨n, _, h1, h2, h3, hpost _ _ _ _ _ _ ⟨Cond.after_iff.mpr rfl, Cond.after_iff.mpr (eq_i res_at (Term.int_eval (1)) rfl), trivial⟩ ⟨hq.1, hq.2.1, (hq.2.2.sift fun y hy => Or.inr (N y hy)).mono (by decide) (by decide)⟩⟩
theorem main_1_1 : Claimed_1_1 := comes_1 fun _ _ _ _ _ _ h hF => ⟨h.1, hF⟩
theorem main_1_2 : Claimed_1_2 := comes_1 fun _ _ _ _ _ _ h hF => ⟨h.2.1, hF⟩
end Jvm.Pilot.@@N@@
namespace Jvm.Pilot.@@N@@
open Jvm Jvm.ClassFile Sem Op Lib Jvm.Free Jvm.Stand Jvm.Pilot.@@N@@.Jvm.D
/-! MADE BY PROGRAM (witnessworld.py) out of the Statement's table words and the real class files: 11 classes; the members and pool entries that the words name. The judged class is class 1, her method 1. -/
namespace start1
open Jvm.ClassFile
def u (s : String) : CpInfo := .utf8 (stringToUtf16 s)
/-- a pool by its gaps: so many unusable entries, then the entry; so many at the end -/
def gap : Nat → List CpInfo → List CpInfo
  | 0, r => r
  | n + 1, r => .unusable :: gap n r
def poolList (es : List (Nat × CpInfo)) (last : Nat) : List CpInfo := es.foldr (fun e r => gap e.1 (e.2 :: r)) (gap last [])
def pool (es : List (Nat × CpInfo)) (last : Nat) : Array CpInfo := ⟨poolList es last⟩
def fileOf (pool : Array CpInfo) (this : Nat) (attrs : Array Attribute := #[]) (ms : Array MethodInfo := #[]) (fl : Nat := 33) (sup : Nat := 0) (ifs : Array Nat := #[]) (fds : Array FieldInfo := #[]) : ClassFile where
  minorVersion := 0
  majorVersion := 65
  constantPool := pool
  accessFlags := fl
  thisClass := this
  superClass := sup
  interfaces := ifs
  fields := fds
  methods := ms
  attributes := attrs
def plain (name : String) (sup : Option ClassId) : Class where
  name := name
  kind := .ordinary
  loader := none
  accessFlags := 33
  super := sup
  interfaces := #[]
  cf := none
  fields := #[]
  methods := #[]
  instanceTypes := #[]
  staticTypes := #[]
  resolved := #[]
  callSites := []
  init := .initialized
  statics := none
  mirror := none

def pool0 : Array CpInfo := pool [(5, u "<init>"), (0, u "()V"), (1, .class_ 10), (1, u "java/lang/Object"), (85, u "clone"), (0, u "()Ljava/lang/Object;")] 26

def k0c0 : Code := { maxStack := 0, maxLocals := 1, code := object_method_1_code, exceptionTable := #[], attributes := #[] }
def k0m0 : Method := { name := "<init>", desc := "()V", sig := { parameters := [], returnType := none }, accessFlags := 1, code := some k0c0 }
def k0m1 : Method := { name := "clone", desc := "()Ljava/lang/Object;", sig := { parameters := [], returnType := some (.object "java/lang/Object") }, accessFlags := 260, code := none }
/-- java/lang/Object -/
def k0 : Class := { plain "java/lang/Object" none with
  accessFlags := 33
  interfaces := #[]
  cf := some (fileOf pool0 8 #[] #[{ accessFlags := 1, nameIndex := 5, descriptorIndex := 6, attributes := #[] }, { accessFlags := 260, nameIndex := 96, descriptorIndex := 97, attributes := #[] }] 33 0 #[] #[])
  fields := #[]
  methods := #[k0m0, k0m1]
  instanceTypes := #[]
  staticTypes := #[]
  resolved := Array.replicate 124 none
  statics := none }

def pool1 : Array CpInfo := pool [(2, .class_ 4), (1, u "java/lang/Object"), (0, u "<init>"), (0, u "()V"), (0, .class_ 8), (0, u "com/example/tersel/tersel/bench/Arrivals"), (0, .methodref 7 10), (0, .nameAndType 5 11), (0, u "(IIJ[J)V"), (0, .methodref 7 13), (0, .nameAndType 14 15), (0, u "complete"), (0, u "(I)Z"), (0, .class_ 17), (0, u "com/example/tersel/tersel/bench/ArrivalsCompletePinLaw"), (2, u "law"), (0, u "(IIIIJ)Z")] 5

def k1m0 : Method := { name := "<init>", desc := "()V", sig := { parameters := [], returnType := none }, accessFlags := 1, code := none }
def k1c1 : Code := { maxStack := 7, maxLocals := 15, code := code, exceptionTable := #[], attributes := #[] }
def k1m1 : Method := { name := "law", desc := "(IIIIJ)Z", sig := { parameters := [.int, .int, .int, .int, .long], returnType := some .boolean }, accessFlags := 9, code := some k1c1 }
/-- com/example/tersel/tersel/bench/ArrivalsCompletePinLaw -/
def k1 : Class := { plain "com/example/tersel/tersel/bench/ArrivalsCompletePinLaw" (some 0) with
  accessFlags := 49
  interfaces := #[]
  cf := some (fileOf pool1 16 #[] #[{ accessFlags := 1, nameIndex := 5, descriptorIndex := 6, attributes := #[] }, { accessFlags := 9, nameIndex := 20, descriptorIndex := 21, attributes := #[] }] 49 2 #[] #[])
  fields := #[]
  methods := #[k1m0, k1m1]
  instanceTypes := #[]
  staticTypes := #[]
  resolved := Array.replicate 27 none
  statics := none }

def pool2 : Array CpInfo := pool [(1, .methodref 2 3), (0, .class_ 4), (0, .nameAndType 5 6), (0, u "java/lang/Object"), (0, u "<init>"), (0, u "()V"), (0, .fieldref 8 9), (0, .class_ 10), (0, .nameAndType 11 12), (0, u "com/example/tersel/tersel/bench/Arrivals"), (0, u "submitted"), (0, u "I"), (0, .fieldref 8 14), (0, .nameAndType 15 12), (0, u "destinations"), (0, .fieldref 8 17), (0, .nameAndType 18 19), (0, u "last"), (0, u "J"), (0, .methodref 21 22), (0, .class_ 23), (0, .nameAndType 24 25), (0, u "[J"), (0, u "clone"), (0, u "()Ljava/lang/Object;"), (0, .fieldref 8 27), (0, .nameAndType 28 23), (0, u "latencies"), (10, u "(IIJ[J)V"), (6, u "complete"), (0, u "(I)Z")] 20

def k2c0 : Code := { maxStack := 3, maxLocals := 6, code := prog_1_method_1_code, exceptionTable := #[], attributes := #[] }
def k2m0 : Method := { name := "<init>", desc := "(IIJ[J)V", sig := { parameters := [.int, .int, .long, (.array .long)], returnType := none }, accessFlags := 0, code := some k2c0 }
def k2c1 : Code := { maxStack := 2, maxLocals := 2, code := prog_1_method_6_code, exceptionTable := #[], attributes := #[] }
def k2m1 : Method := { name := "complete", desc := "(I)Z", sig := { parameters := [.int], returnType := some .boolean }, accessFlags := 0, code := some k2c1 }
/-- com/example/tersel/tersel/bench/Arrivals -/
def k2 : Class := { plain "com/example/tersel/tersel/bench/Arrivals" (some 0) with
  accessFlags := 48
  interfaces := #[]
  cf := some (fileOf pool2 8 #[] #[{ accessFlags := 0, nameIndex := 5, descriptorIndex := 39, attributes := #[] }, { accessFlags := 0, nameIndex := 46, descriptorIndex := 47, attributes := #[] }] 48 2 #[] #[{ accessFlags := 18, nameIndex := 11, descriptorIndex := 12, attributes := #[] }, { accessFlags := 18, nameIndex := 15, descriptorIndex := 12, attributes := #[] }, { accessFlags := 18, nameIndex := 18, descriptorIndex := 19, attributes := #[] }, { accessFlags := 18, nameIndex := 28, descriptorIndex := 23, attributes := #[] }])
  fields := #[{ name := "submitted", type := .int, accessFlags := 18, slot := 0, constantValue := 0 }, { name := "destinations", type := .int, accessFlags := 18, slot := 1, constantValue := 0 }, { name := "last", type := .long, accessFlags := 18, slot := 2, constantValue := 0 }, { name := "latencies", type := (.array .long), accessFlags := 18, slot := 3, constantValue := 0 }]
  methods := #[k2m0, k2m1]
  instanceTypes := #[.int, .int, .long, (.array .long)]
  staticTypes := #[]
  resolved := Array.replicate 68 none
  statics := none }

def pool3 : Array CpInfo := pool [(1, .class_ 2), (0, u "java/lang/Cloneable"), (0, .class_ 4), (0, u "java/lang/Object")] 2

/-- java/lang/Cloneable -/
def k3 : Class := { plain "java/lang/Cloneable" (some 0) with
  accessFlags := 1537
  interfaces := #[]
  cf := some (fileOf pool3 1 #[] #[] 1537 3 #[] #[])
  fields := #[]
  methods := #[]
  instanceTypes := #[]
  staticTypes := #[]
  resolved := Array.replicate 7 none
  statics := none }

def pool4 : Array CpInfo := pool [(1, u "java/io/Serializable"), (0, .class_ 1), (0, u "java/lang/Object"), (0, .class_ 3)] 3

/-- java/io/Serializable -/
def k4 : Class := { plain "java/io/Serializable" (some 0) with
  accessFlags := 1537
  interfaces := #[]
  cf := some (fileOf pool4 2 #[] #[] 1537 4 #[] #[])
  fields := #[]
  methods := #[]
  instanceTypes := #[]
  staticTypes := #[]
  resolved := Array.replicate 8 none
  statics := none }

/-- the primitive byte -/
def k5 : Class := { plain "byte" none with kind := .primitive 'B', accessFlags := 0x411 }
/-- [B -/
def k6 : Class := { plain "[B" (some 0) with kind := .array 5 .byte, interfaces := #[3, 4], accessFlags := 1041 }

/-- the primitive int -/
def k7 : Class := { plain "int" none with kind := .primitive 'I', accessFlags := 0x411 }
/-- [I -/
def k8 : Class := { plain "[I" (some 0) with kind := .array 7 .int, interfaces := #[3, 4], accessFlags := 1041 }

/-- the primitive long -/
def k9 : Class := { plain "long" none with kind := .primitive 'J', accessFlags := 0x411 }
/-- [J -/
def k10 : Class := { plain "[J" (some 0) with kind := .array 9 .long, interfaces := #[3, 4], accessFlags := 1041 }

def heap : Heap := #[]
def classes : Array Class := #[k0, k1, k2, k3, k4, k5, k6, k7, k8, k9, k10]
def interned : List (Array UInt16 × Addr) := []
def slotsUsed : Nat := 0
def theMethod : MethodId := ⟨1, 1⟩
def args0 : Array Value := #[.int 5, .int 9, .int 3, .int 4, .long 4]
def aboutOver (below : List Frame) : State where
  vm := { classes := classes, interned := interned.toArray }
  heap := heap
  slotsUsed := slotsUsed
  threads := #[{ frames := .invoking theMethod args0 :: below }]
def below0 : List Frame := [.native { method := ⟨0, 0⟩, args := #[] }]
def about1 : State := aboutOver below0
def p0 : Program := .bare "" "" ""
def e0 : Env := launch0.env 0 0 0
theorem w_frames : about1.frames = Frame.invoking theMethod args0 :: below0 := rfl
set_option maxRecDepth 65536 in
theorem w_args : argsFit about1.vm theMethod args0 = true := by decide +kernel
set_option maxRecDepth 65536 in
theorem w_heap : heapFits about1 = true := by decide +kernel
set_option maxRecDepth 65536 in
theorem w_runnable : about1.curStatus? = some .runnable := by decide +kernel
set_option maxRecDepth 65536 in
theorem w_alone : about1.alone = true := by decide +kernel
set_option maxRecDepth 65536 in
theorem w_named : about1.methodNamed? x = some theMethod := by decide +kernel
set_option maxRecDepth 65536 in
theorem w_hears : about1.hears theMethod below0 = true := by decide +kernel
set_option maxRecDepth 65536 in
theorem w_ripe : about1.ripe theMethod args0 below0 = true := by decide +kernel
theorem w_running : about1.status = .running := rfl
set_option maxRecDepth 65536 in
theorem w_room : about1.hasRoom e0.platform room_1 = true :=
  launch0.hasRoom_least _ room_1 (by decide +kernel) (by decide +kernel) (by decide +kernel) (by decide +kernel) (by decide +kernel) (by decide +kernel)
theorem allAtoms_all (ts : List Jvm.Cond) (a : Array Jvm.Value) (st : Jvm.State) : (allAtoms ts).before a st = ts.all (fun c => c.before a st) := by
  induction ts with
  | nil => rfl
  | cons c t ih =>
    show (Jvm.Cond.and c (allAtoms t)).before a st = _
    rw [Jvm.Cond.before_and, ih, List.all_cons]
def words1 : List Jvm.Cond := Jvm.Cond.code x code maxLocals ret :: tables_1
/-- a 'code' word, met by the world's own term for the bytes: nothing is compared byte by byte -/
theorem code_word {y : MethodName} {bytes : ByteArray} {mx : Nat} {rt : Option FieldType} {a : Array Value} {s : State} {m : MethodId} {meth : Method} {c : Code} (h1 : s.methodNamed? y = some m) (h2 : s.vm.method? m = some meth) (h3 : meth.code = some c) (h4 : c.code = bytes)
    (h5 : (c.maxLocals == mx && c.exceptionTable.isEmpty && decide (c.maxStack ≤ mostOperands) && decide (meth.sig.returnType = rt) && !meth.locks && decide (parseMethodDescriptor y.desc = some meth.sig)) = true) : (Jvm.Cond.code y bytes mx rt).before a s = true := by
  simp only [Bool.and_eq_true, beq_iff_eq, Bool.not_eq_true', decide_eq_true_eq] at h5
  obtain ⟨⟨⟨⟨⟨g1, g2⟩, g3⟩, g4⟩, g5⟩, g6⟩ := h5
  simp [Cond.before, Cond.holds, Cond.value, h1, h2, h3, h4, g1, g2, g3, g4, g5, g6]
def isCode : Jvm.Cond → Bool
  | .code _ _ _ _ => true
  | _ => false
theorem all_split {L : List Jvm.Cond} {P : Jvm.Cond → Bool} (h1 : L.all (fun c => isCode c || P c) = true) (h2 : ∀ c ∈ L.filter isCode, P c = true) : L.all P = true := by
  refine List.all_eq_true.mpr fun c hc => ?_
  have h := List.all_eq_true.mp h1 c hc
  rcases Bool.eq_false_or_eq_true (isCode c) with hi | hi
  · exact h2 c (List.mem_filter.mpr ⟨hc, hi⟩)
  · simpa [hi] using h
set_option maxRecDepth 65536 in
theorem w_c0 : (Jvm.Cond.code x code maxLocals ret).before args0 about1 = true := code_word (m := ⟨1, 1⟩) (meth := k1m1) (c := k1c1) (by decide +kernel) rfl rfl rfl (by decide +kernel)
set_option maxRecDepth 65536 in
theorem w_c1 : (Jvm.Cond.code ({ cls := "com/example/tersel/tersel/bench/Arrivals", name := "<init>", desc := "(IIJ[J)V" } : Jvm.MethodName) prog_1_method_1_code (6 : Nat) (Option.none : Option Jvm.ClassFile.FieldType)).before args0 about1 = true := code_word (m := ⟨2, 0⟩) (meth := k2m0) (c := k2c0) (by decide +kernel) rfl rfl rfl (by decide +kernel)
set_option maxRecDepth 65536 in
theorem w_c2 : (Jvm.Cond.code ({ cls := "java/lang/Object", name := "<init>", desc := "()V" } : Jvm.MethodName) object_method_1_code (1 : Nat) (Option.none : Option Jvm.ClassFile.FieldType)).before args0 about1 = true := code_word (m := ⟨0, 0⟩) (meth := k0m0) (c := k0c0) (by decide +kernel) rfl rfl rfl (by decide +kernel)
set_option maxRecDepth 65536 in
theorem w_c3 : (Jvm.Cond.code ({ cls := "com/example/tersel/tersel/bench/Arrivals", name := "complete", desc := "(I)Z" } : Jvm.MethodName) prog_1_method_6_code (2 : Nat) (Option.some Jvm.ClassFile.FieldType.boolean)).before args0 about1 = true := code_word (m := ⟨2, 1⟩) (meth := k2m1) (c := k2c1) (by decide +kernel) rfl rfl rfl (by decide +kernel)
def codes1 : List Jvm.Cond := [Jvm.Cond.code x code maxLocals ret, Jvm.Cond.code ({ cls := "com/example/tersel/tersel/bench/Arrivals", name := "<init>", desc := "(IIJ[J)V" } : Jvm.MethodName) prog_1_method_1_code (6 : Nat) (Option.none : Option Jvm.ClassFile.FieldType), Jvm.Cond.code ({ cls := "java/lang/Object", name := "<init>", desc := "()V" } : Jvm.MethodName) object_method_1_code (1 : Nat) (Option.none : Option Jvm.ClassFile.FieldType), Jvm.Cond.code ({ cls := "com/example/tersel/tersel/bench/Arrivals", name := "complete", desc := "(I)Z" } : Jvm.MethodName) prog_1_method_6_code (2 : Nat) (Option.some Jvm.ClassFile.FieldType.boolean)]
set_option maxRecDepth 65536 in
theorem codes_eq : words1.filter isCode = codes1 := rfl
theorem w_codes : ∀ c ∈ words1.filter isCode, c.before args0 about1 = true := by
  rw [codes_eq]
  intro c hc
  simp only [codes1, List.mem_cons, List.not_mem_nil, or_false] at hc
  rcases hc with rfl | rfl | rfl | rfl
  · exact w_c0
  · exact w_c1
  · exact w_c2
  · exact w_c3
set_option maxRecDepth 65536 in
theorem w_t1 : (words1.take 24).all (fun c => isCode c || c.before args0 about1) = true := by decide +kernel
set_option maxRecDepth 65536 in
theorem w_t2 : (words1.drop 24).all (fun c => isCode c || c.before args0 about1) = true := by decide +kernel
theorem w_tables : (allAtoms (Jvm.Cond.code x code maxLocals ret :: tables_1)).before args0 about1 = true := by
  rw [allAtoms_all]
  show words1.all (fun c => c.before args0 about1) = true
  refine all_split ?_ w_codes
  rw [← List.take_append_drop 24 words1, List.all_append, w_t1, w_t2]
  rfl
set_option maxRecDepth 65536 in
theorem w_case : (Jvm.Cond.and given_1 narrow_1).before args0 about1 = true := by decide +kernel
theorem w_applies : (headSpec (Jvm.Cond.code x code maxLocals ret :: tables_1) room_1).applies x e0.platform about1 = true :=
  (Spec.applies_iff w_frames).mpr ⟨w_running, w_runnable, w_alone, w_named, w_hears, w_ripe, w_room, w_tables⟩
theorem atStart : AtStart classFile x code maxLocals ret World_1 tables_1 room_1 Calls_1 rest_1 Pre_1 launch0 p0 e0 about1 theMethod args0 below0 :=
  ⟨lists_1, trivial, launch0.admits_env _ _ _, launch0.least_env, fairChoices_fair.cas, fairChoices_fair.clock, w_frames, w_args, w_heap, w_applies, trivial, trivial, w_case⟩
end start1
theorem witness_1 : WitnessClaimed_1 := ⟨start1.p0, start1.e0, start1.about1, start1.theMethod, start1.args0, start1.below0, start1.atStart⟩
end Jvm.Pilot.@@N@@
