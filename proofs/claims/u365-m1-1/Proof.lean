import JvmDerived
import JvmDerived.Pilot.@@N@@Statement
import JvmDerived.Pilot.@@N@@Code
set_option linter.unusedVariables false
set_option linter.unusedSimpArgs false
@@BLOCK:NumsL.lean.txt@@
namespace Jvm.Pilot.@@N@@
open Jvm Jvm.ClassFile Sem Op Lib Jvm.Free Jvm.Stand Jvm.LawKit Jvm.RoadKit Bundle Jvm.Pilot.@@N@@.Jvm.D
section OwnKit
variable {p : Program} {l : Launch} {e : Env} {R : Room} {s : State} {m : MethodId} {args : Array Value} {below : List Frame} {meth : Method} {c : Code} {T T' : State} {locs : List Loc} {cells slots : Nat} {Z : State} {h : Heap} {a0 : Array Value}
/-- from the state T with the frame g on top the method comes to its end, and what it leaves meets E -/
def own_WP (p : Program) (e : Env) (below : List Frame) (E : Outcome → State → Prop) (T : State) (g : JFrame) : Prop :=
  ∃ s₂ o, Steps p.tables e below (T.setTop g) s₂ ∧ s₂.status = .running ∧ Ended s₂ below o ∧ E o s₂
/-- it returns, and what it leaves meets Q within K cells and N slots -/
def own_E (s : State) (Q : Option Value → Heap → List Loc → Prop) (K N : Nat) (o : Outcome) (t : State) : Prop := ∃ v L, o = .returned v ∧ Q v t.heap L ∧ FrameEnd s o t L K N
variable {Q : Option Value → Heap → List Loc → Prop} {K N : Nat} {g g' : JFrame} {E : Outcome → State → Prop}
theorem own_go (h : ∀ t, Steps p.tables e below (T'.setTop g') t → Steps p.tables e below (T.setTop g) t) (k : own_WP p e below E T' g') : own_WP p e below E T g := by
  obtain ⟨s₂, o, h1, h2⟩ := k
  exact ⟨s₂, o, h s₂ h1, h2⟩
theorem own_tr (h : Steps p.tables e below (T.setTop g) (T'.setTop g')) (k : own_WP p e below E T' g') : own_WP p e below E T g := by
  obtain ⟨s₂, o, h1, h2⟩ := k
  exact ⟨s₂, o, h.trans h1, h2⟩
theorem own_end (X : Stand p l e R s m args below meth c T locs cells slots) (hlk : meth.locks = false) {v : Option Value} (hv : meth.sig.returnType = none → v = none)
    (hs : ∀ fs, (∀ (f : JFrame) (acts : List Action), f.method = m → f.locked = none → f.entered = [] → (doReturn e (T.setTop f) acts v).1 = T.setFrames fs) → Steps p.tables e below (T.setTop g) (T.setFrames fs))
    (hk : cells ≤ K) (hn : slots ≤ N) (hq : Q v T.heap locs) : own_WP p e below (own_E s Q K N) T g := by
  obtain ⟨fs, hr, hrun, hended, hW, hsame⟩ := X.leave hv hlk
  exact ⟨_, _, hs fs hr, hrun, hended, _, _, rfl, hq, ⟨_, rfl⟩, hW, hsame.mono hk hn⟩
theorem own_retV (X : Stand p l e R s m args below meth c T locs cells slots) (hx : p.tables.exec = Jvm.exec) (hlk : meth.locks = false) {pc : Nat} {Ls : Array Slot} (hret : meth.sig.returnType = none) (hd : decode c.code pc = .ok (.return_, 1))
    (hk : cells ≤ K) (hn : slots ≤ N) (hq : Q none T.heap locs) : own_WP p e below (own_E s Q K N) T (mkF m pc Ls []) :=
  own_end X hlk (fun _ => rfl) (fun fs hr => X.returnOut hx hret hd hr) hk hn hq
theorem own_retI (X : Stand p l e R s m args below meth c T locs cells slots) (hx : p.tables.exec = Jvm.exec) (hlk : meth.locks = false) {pc : Nat} {Ls : Array Slot} {z : Int32} (hret : meth.sig.returnType = some .int) (hd : decode c.code pc = .ok (.ireturn, 1))
    (hk : cells ≤ K) (hn : slots ≤ N) (hq : Q (some (.int z)) T.heap locs) : own_WP p e below (own_E s Q K N) T (mkF m pc Ls [.int z]) :=
  own_end X hlk (fun h => by rw [hret] at h; cases h) (fun fs hr => retOut X hx hret rfl (Or.inl ⟨rfl, Or.inl rfl, z, rfl⟩) hd hr) hk hn hq
theorem own_retJ (X : Stand p l e R s m args below meth c T locs cells slots) (hx : p.tables.exec = Jvm.exec) (hlk : meth.locks = false) {pc : Nat} {Ls : Array Slot} {z : Int64} (hret : meth.sig.returnType = some .long) (hd : decode c.code pc = .ok (.lreturn, 1))
    (hk : cells ≤ K) (hn : slots ≤ N) (hq : Q (some (.long z)) T.heap locs) : own_WP p e below (own_E s Q K N) T (mkF m pc Ls [.long z]) :=
  own_end X hlk (fun h => by rw [hret] at h; cases h) (fun fs hr => X.lreturnOut hx hret hd hr) hk hn hq
theorem own_retA (X : Stand p l e R s m args below meth c T locs cells slots) (hx : p.tables.exec = Jvm.exec) (hlk : meth.locks = false) {pc : Nat} {Ls : Array Slot} {w : Value} (hw : w.isRef = true) {t : FieldType} (ht : t.isReference = true) (hret : meth.sig.returnType = some t) (hd : decode c.code pc = .ok (.areturn, 1))
    (hk : cells ≤ K) (hn : slots ≤ N) (hq : Q (some w) T.heap locs) : own_WP p e below (own_E s Q K N) T (mkF m pc Ls [w]) :=
  own_end X hlk (fun h => by rw [hret] at h; cases h) (fun fs hr => X.areturnOut hx hw hret ht hd hr) hk hn hq
theorem own_retN (X : Stand p l e R s m args below meth c T locs cells slots) (hx : p.tables.exec = Jvm.exec) (hlk : meth.locks = false) {pc : Nat} {Ls : Array Slot} {z : Int32} {t : FieldType} (ht : t = .boolean ∨ t = .byte ∨ t = .char ∨ t = .short) (hret : meth.sig.returnType = some t) (hd : decode c.code pc = .ok (.ireturn, 1))
    (hk : cells ≤ K) (hn : slots ≤ N) (hq : Q (some (.int (nar t z))) T.heap locs) : own_WP p e below (own_E s Q K N) T (mkF m pc Ls [.int z]) :=
  own_end X hlk (fun h => by rw [hret] at h; cases h) (fun fs hr => retN X hx hret ht hd hr) hk hn hq
theorem own_len (X : Stand p l e R s m args below meth c T locs cells slots) (hx : p.tables.exec = Jvm.exec) (hZ : Z.Warmed39 s.vm) (eT : T.heap = h) {a : Addr} {k : ClassId} {ty : FieldType} {n : Int32} {vs : List Value} {d : Value} (V : Arv Z h a k ty n vs d)
    {pc : Nat} {Ls : Array Slot} {S : List Value} (hd : decode c.code pc = .ok (.arraylength, 1)) (kk : own_WP p e below E T (mkF m (pc + 1) Ls (.int n :: S))) : own_WP p e below E T (mkF m pc Ls (.ref a :: S)) := by
  obtain ⟨cl, A, q, S1, M, H, G⟩ := V
  refine own_go (fun t k => X.arraylength hx (by rw [eT]; exact A.1) (State.isArrayOf_alike hZ.alike A.2.1) (g := mkF m pc Ls (.ref a :: S)) rfl rfl hd t k) ?_
  rw [len_of S1 M]
  exact kk
theorem own_at {cl : Cell} {n j : Int32} {vs : List Value} {d w : Value} (S1 : cl.slots.size = n.toNatClampNeg) (H : Has cl vs d) (hj : ¬ j < 0 ∧ j < n) (hv : vs.getD j.toNatClampNeg d = w) : cl.slots[j.toNatClampNeg]? = some w :=
  H.at (inb_of S1 hj) hv
theorem own_ldI (X : Stand p l e R s m args below meth c T locs cells slots) (hx : p.tables.exec = Jvm.exec) (hZ : Z.Warmed39 s.vm) (eT : T.heap = h) {a : Addr} {k : ClassId} {n j w : Int32} {vs : List Value} {d : Value} (V : Arv Z h a k .int n vs d) (hj : ¬ j < 0 ∧ j < n) (hv : vs.getD j.toNatClampNeg d = .int w)
    {pc : Nat} {Ls : Array Slot} {S : List Value} (hd : decode c.code pc = .ok (.iaload, 1)) (kk : own_WP p e below E T (mkF m (pc + 1) Ls (.int w :: S))) : own_WP p e below E T (mkF m pc Ls (.int j :: .ref a :: S)) := by
  obtain ⟨cl, A, q, S1, M, H, G⟩ := V
  exact own_go (fun t k => X.iaload hx (j := j) (v := .int w) (by rw [eT]; exact A.1) (State.isArrayOf_alike hZ.alike A.2.1) A.2.2 (inb_of S1 hj) (own_at S1 H hj hv) (g := mkF m pc Ls (.int j :: .ref a :: S)) rfl rfl hd t k) kk
theorem own_ldJ (X : Stand p l e R s m args below meth c T locs cells slots) (hx : p.tables.exec = Jvm.exec) (hZ : Z.Warmed39 s.vm) (eT : T.heap = h) {a : Addr} {k : ClassId} {n j : Int32} {w : Int64} {vs : List Value} {d : Value} (V : Arv Z h a k .long n vs d) (hj : ¬ j < 0 ∧ j < n) (hv : vs.getD j.toNatClampNeg d = .long w)
    {pc : Nat} {Ls : Array Slot} {S : List Value} (hd : decode c.code pc = .ok (.laload, 1)) (kk : own_WP p e below E T (mkF m (pc + 1) Ls (.long w :: S))) : own_WP p e below E T (mkF m pc Ls (.int j :: .ref a :: S)) := by
  obtain ⟨cl, A, q, S1, M, H, G⟩ := V
  exact own_go (fun t k => X.laload hx (j := j) (v := .long w) (by rw [eT]; exact A.1) (State.isArrayOf_alike hZ.alike A.2.1) A.2.2 (inb_of S1 hj) (own_at S1 H hj hv) (g := mkF m pc Ls (.int j :: .ref a :: S)) rfl rfl hd t k) kk
theorem own_ldB (X : Stand p l e R s m args below meth c T locs cells slots) (hx : p.tables.exec = Jvm.exec) (hZ : Z.Warmed39 s.vm) (eT : T.heap = h) {a : Addr} {k : ClassId} {n j w : Int32} {vs : List Value} {d : Value} (V : Arv Z h a k .byte n vs d) (hj : ¬ j < 0 ∧ j < n) (hv : vs.getD j.toNatClampNeg d = .int w)
    {pc : Nat} {Ls : Array Slot} {S : List Value} (hd : decode c.code pc = .ok (.baload, 1)) (kk : own_WP p e below E T (mkF m (pc + 1) Ls (.int w :: S))) : own_WP p e below E T (mkF m pc Ls (.int j :: .ref a :: S)) := by
  obtain ⟨cl, A, q, S1, M, H, G⟩ := V
  exact own_go (fun t k => X.baloadBytes hx (j := j) (v := .int w) (by rw [eT]; exact A.1) (State.isArrayOf_alike hZ.alike A.2.1) A.2.2 (inb_of S1 hj) (own_at S1 H hj hv) (g := mkF m pc Ls (.int j :: .ref a :: S)) rfl rfl hd t k) kk
theorem own_ldR (X : Stand p l e R s m args below meth c T locs cells slots) (hx : p.tables.exec = Jvm.exec) (hZ : Z.Warmed39 s.vm) (eT : T.heap = h) {a : Addr} {k : ClassId} {ty : FieldType} (hty : ty.isReference = true) {n j : Int32} {w : Value} {vs : List Value} {d : Value} (V : Arv Z h a k ty n vs d) (hj : ¬ j < 0 ∧ j < n) (hv : vs.getD j.toNatClampNeg d = w)
    {pc : Nat} {Ls : Array Slot} {S : List Value} (hd : decode c.code pc = .ok (.aaload, 1)) (kk : own_WP p e below E T (mkF m (pc + 1) Ls (w :: S))) : own_WP p e below E T (mkF m pc Ls (.int j :: .ref a :: S)) := by
  obtain ⟨cl, A, q, S1, M, H, G⟩ := V
  exact own_go (fun t k => X.aaload hx (j := j) (v := w) (by rw [eT]; exact A.1) (State.isArrayOf_alike hZ.alike A.2.1) hty A.2.2 (inb_of S1 hj) (own_at S1 H hj hv) (g := mkF m pc Ls (.int j :: .ref a :: S)) rfl rfl hd t k) kk
theorem own_stI (X : Stand p l e R s m args below meth c T locs cells slots) (hx : p.tables.exec = Jvm.exec) (hZ : Z.Warmed39 s.vm) (eT : T.heap = h) {a : Addr} {k : ClassId} {n j x : Int32} {vs : List Value} {d : Value} (V : Arv Z h a k .int n vs d) (hj : ¬ j < 0 ∧ j < n) {i : Nat} (hji : j.toNatClampNeg = i) (hi : i < vs.length)
    {pc : Nat} {Ls : Array Slot} {S : List Value} (hd : decode c.code pc = .ok (.iastore, 1))
    (kk : ∀ T' h', Stand p l e R s m args below meth c T' (locs ++ [⟨a, j.toNatClampNeg⟩]) cells slots → T'.heap = h' → Wr h h' a j.toNatClampNeg (.int x) → Arv Z h' a k .int n (vs.set i (.int x)) d → own_WP p e below E T' (mkF m (pc + 1) Ls S)) : own_WP p e below E T (mkF m pc Ls (.int x :: .int j :: .ref a :: S)) := by
  obtain ⟨cl, A, q, S1, M, H, G⟩ := V
  obtain ⟨T', h', X', e', W', st⟩ := stI X hx hZ eT A (j := j) (inb_of S1 hj) (g := mkF m pc Ls (.int x :: .int j :: .ref a :: S)) rfl rfl hd
  exact own_go st (kk T' h' X' e' W' (Arv.set A q S1 M H G rfl W' i hji hi))
theorem own_stJ (X : Stand p l e R s m args below meth c T locs cells slots) (hx : p.tables.exec = Jvm.exec) (hZ : Z.Warmed39 s.vm) (eT : T.heap = h) {a : Addr} {k : ClassId} {n j : Int32} {x : Int64} {vs : List Value} {d : Value} (V : Arv Z h a k .long n vs d) (hj : ¬ j < 0 ∧ j < n) {i : Nat} (hji : j.toNatClampNeg = i) (hi : i < vs.length)
    {pc : Nat} {Ls : Array Slot} {S : List Value} (hd : decode c.code pc = .ok (.lastore, 1))
    (kk : ∀ T' h', Stand p l e R s m args below meth c T' (locs ++ [⟨a, j.toNatClampNeg⟩]) cells slots → T'.heap = h' → Wr h h' a j.toNatClampNeg (.long x) → Arv Z h' a k .long n (vs.set i (.long x)) d → own_WP p e below E T' (mkF m (pc + 1) Ls S)) : own_WP p e below E T (mkF m pc Ls (.long x :: .int j :: .ref a :: S)) := by
  obtain ⟨cl, A, q, S1, M, H, G⟩ := V
  obtain ⟨T', h', X', e', W', st⟩ := stJ X hx hZ eT A (j := j) (inb_of S1 hj) (g := mkF m pc Ls (.long x :: .int j :: .ref a :: S)) rfl rfl hd
  exact own_go st (kk T' h' X' e' W' (Arv.set A q S1 M H G rfl W' i hji hi))
theorem own_stB (X : Stand p l e R s m args below meth c T locs cells slots) (hx : p.tables.exec = Jvm.exec) (hZ : Z.Warmed39 s.vm) (eT : T.heap = h) {a : Addr} {k : ClassId} {n j x : Int32} {vs : List Value} {d : Value} (V : Arv Z h a k .byte n vs d) (hj : ¬ j < 0 ∧ j < n) {i : Nat} (hji : j.toNatClampNeg = i) (hi : i < vs.length)
    {pc : Nat} {Ls : Array Slot} {S : List Value} (hd : decode c.code pc = .ok (.bastore, 1))
    (kk : ∀ T' h', Stand p l e R s m args below meth c T' (locs ++ [⟨a, j.toNatClampNeg⟩]) cells slots → T'.heap = h' → Wr h h' a j.toNatClampNeg (.int (nar .byte x)) → Arv Z h' a k .byte n (vs.set i (.int (nar .byte x))) d → own_WP p e below E T' (mkF m (pc + 1) Ls S)) : own_WP p e below E T (mkF m pc Ls (.int x :: .int j :: .ref a :: S)) := by
  obtain ⟨cl, A, q, S1, M, H, G⟩ := V
  obtain ⟨T', h', X', e', W', st⟩ := stB X hx hZ eT A (j := j) (inb_of S1 hj) (g := mkF m pc Ls (.int x :: .int j :: .ref a :: S)) rfl rfl hd
  exact own_go st (kk T' h' X' e' W' (Arv.set A q S1 M H G (fits_nar_byte x) W' i hji hi))
theorem own_nm {x a : Addr} (h : x ≠ a) : x ∉ [a] := fun q => h (List.mem_singleton.mp q)
theorem own_nm0 {x : Addr} : x ∉ ([] : List Addr) := List.not_mem_nil
theorem own_nm2 {x a b : Addr} (h : x ≠ a) (h' : x ≠ b) : x ∉ [a, b] := fun q => by
  rcases List.mem_cons.mp q with r | r
  · exact h r
  · exact h' (List.mem_singleton.mp r)
theorem own_le {h0 h : Heap} {n0 : Nat} {ws : List Addr} (Z0 : n0 ≤ h0.size) (K : Keep h0 h ws) : n0 ≤ h.size := Nat.le_trans Z0 K.1
end OwnKit
def own_us (z : Int64) (n : Int32) : Int64 := ((z.toUInt64 >>> (n &&& 0x3f).toInt64.toUInt64).toInt64)
def own_wc (w n : Int32) : Int32 := ((((w.toInt64 * n.toInt64) + (64 : Int64)) - (1 : Int64)) / (64 : Int64)).toInt32
def own_min (a b : Int32) : Int32 := if b < a then b else a
def own_mk (w : Int32) : Int64 := ((1 : Int64) <<< (w &&& 0x3f).toInt64) - 1
def own_wd (w i : Int32) : Int32 := (own_us (i.toInt64 * w.toInt64) 6).toInt32
def own_of (w i : Int32) : Int32 := ((i.toInt64 * w.toInt64) &&& (63 : Int64)).toInt32
def own_get (w i : Int32) (zm : Int64) (L : List Int64) : Int32 :=
  if 64 < own_of w i + w then ((own_us (L.getD (own_wd w i).toNatClampNeg 0) (own_of w i) ||| (L.getD (own_wd w i + 1).toNatClampNeg 0 <<< (((64 : Int32) - own_of w i) &&& 0x3f).toInt64)) &&& zm).toInt32
  else (own_us (L.getD (own_wd w i).toNatClampNeg 0) (own_of w i) &&& zm).toInt32
def own_exp (a b : Int64) (w i : Int32) : Int32 :=
  if i * w < 64 then
    (if 64 < i * w + w then (own_us a (i * w) ||| ((b &&& own_mk (w - ((64 : Int32) - i * w))) <<< (((64 : Int32) - i * w) &&& 0x3f).toInt64)).toInt32
     else (own_us a (i * w) &&& own_mk w).toInt32)
  else (own_us b (i * w - 64) &&& own_mk w).toInt32
theorem own_fin (b : Nat) (y : Int32) (h0 : 0 ≤ y.toInt) (h1 : y.toInt < b) : ∃ n : Fin b, y = Int32.ofNat n.1 ∧ y.toInt = n.1 := by
  have h2 : y.toInt < 2147483648 := y.toInt_lt
  refine ⟨⟨y.toInt.toNat, by omega⟩, ?_, by show y.toInt = (y.toInt.toNat : Int); omega⟩
  apply Int32.toInt_inj.mp
  rw [Int32.toInt_ofNat_of_lt (by show y.toInt.toNat < 2 ^ 31; omega)]
  show y.toInt = (y.toInt.toNat : Int)
  omega
theorem own_usB (z : Int64) (n : Int32) (k : Fin 64) (h : n = Int32.ofNat k.1) : (own_us z n).toBitVec = z.toBitVec >>> k.1 := by
  have q : ∀ k : Fin 64, ((Int32.ofNat k.1 &&& 0x3f).toInt64.toUInt64.toBitVec % 64).toNat = k.1 := by decide +kernel
  subst h
  unfold own_us
  show ((z.toUInt64 >>> _).toBitVec) = _
  rw [UInt64.toBitVec_shiftRight]
  have r := q k
  generalize (Int32.ofNat k.1 &&& 0x3f).toInt64.toUInt64.toBitVec % 64 = y at r
  show z.toBitVec >>> y = _
  rw [← r]; rfl
theorem own_shlB (z : Int64) (n : Int32) (k : Fin 64) (h : n = Int32.ofNat k.1) : (z <<< (n &&& 0x3f).toInt64).toBitVec = z.toBitVec <<< k.1 := by
  have q : ∀ k : Fin 64, ((Int32.ofNat k.1 &&& 0x3f).toInt64.toBitVec.smod 64).toNat = k.1 := by decide +kernel
  subst h
  rw [Int64.toBitVec_shiftLeft]
  have r := q k
  generalize (Int32.ofNat k.1 &&& 0x3f).toInt64.toBitVec.smod 64 = y at r
  rw [← r]; rfl
theorem own_mkB : ∀ (w : Fin 33) (j : Fin 64), (own_mk (Int32.ofNat w.1)).toBitVec.getLsbD j.1 = decide (j.1 < w.1) := by decide +kernel
theorem own_bits (a b : Int64) (s w : Int32) (s0 : 0 ≤ s.toInt) (s1 : s.toInt < 64) (w0 : 0 ≤ w.toInt) (w1 : w.toInt ≤ 32) (h : 64 < s.toInt + w.toInt) :
    ((own_us a s ||| (b <<< (((64 : Int32) - s) &&& 0x3f).toInt64)) &&& own_mk w) = (own_us a s ||| ((b &&& own_mk (w - ((64 : Int32) - s))) <<< (((64 : Int32) - s) &&& 0x3f).toInt64)) := by
  have e64 : (64 : Int32).toInt = 64 := rfl
  have t1 : ((64 : Int32) - s).toInt = 64 - s.toInt := by rw [Jvm.Kit.i32_sub (by omega) (by omega), e64]
  have t2 : (w - ((64 : Int32) - s)).toInt = w.toInt - (64 - s.toInt) := by rw [Jvm.Kit.i32_sub (by omega) (by omega), t1]
  obtain ⟨ks, es, is⟩ := own_fin 64 s s0 s1
  obtain ⟨kl, el, il⟩ := own_fin 64 ((64 : Int32) - s) (by omega) (by omega)
  obtain ⟨kw, ew, iw⟩ := own_fin 33 w w0 (by omega)
  obtain ⟨kh, eh, ih⟩ := own_fin 33 (w - ((64 : Int32) - s)) (by omega) (by omega)
  apply Int64.toBitVec_inj.mp
  simp only [Int64.toBitVec_and, Int64.toBitVec_or]
  rw [own_usB a s ks es, own_shlB b _ kl el, own_shlB _ _ kl el, Int64.toBitVec_and]
  apply BitVec.eq_of_getLsbD_eq
  intro j hj
  have m1 : (own_mk w).toBitVec.getLsbD j = decide (j < kw.1) := by rw [ew]; exact own_mkB kw ⟨j, hj⟩
  simp only [BitVec.getLsbD_and, BitVec.getLsbD_or, BitVec.getLsbD_ushiftRight, BitVec.getLsbD_shiftLeft, m1]
  by_cases c1 : j < kl.1
  · have c2 : j < kw.1 := by omega
    simp [c1, c2]
  · have m2 : (own_mk (w - ((64 : Int32) - s))).toBitVec.getLsbD (j - kl.1) = decide (j - kl.1 < kh.1) := by rw [eh]; exact own_mkB kh ⟨j - kl.1, by omega⟩
    have z1 : a.toBitVec.getLsbD (ks.1 + j) = false := BitVec.getLsbD_of_ge _ _ (by omega)
    rw [m2, z1]
    by_cases c2 : j < kw.1
    · have c3 : j - kl.1 < kh.1 := by omega
      simp [c1, c2, c3, hj]
    · have c3 : ¬ j - kl.1 < kh.1 := by omega
      simp [c1, c2, c3]
theorem own_main (a b : Int64) (w i : Int32) (w0 : 1 ≤ w.toInt) (w1 : w.toInt ≤ 32) (i0 : 0 ≤ i.toInt) (i1 : i.toInt * w.toInt + w.toInt ≤ 128) :
    (¬ own_wd w i < 0 ∧ own_wd w i < 3) ∧ (64 < own_of w i + w → ¬ own_wd w i + 1 < 0 ∧ own_wd w i + 1 < 3) ∧ own_get w i (own_mk w) [a, b] = own_exp a b w i := by
  have p0 : 0 ≤ i.toInt * w.toInt := Int.mul_nonneg i0 (by omega)
  have ew : w.toInt64.toInt = w.toInt := Jvm.Kit.i64_of_i32 w
  have ei : i.toInt64.toInt = i.toInt := Jvm.Kit.i64_of_i32 i
  have m64 : (i.toInt64 * w.toInt64).toInt = i.toInt * w.toInt := by rw [Jvm.Kit.i64_mul (by rw [ei, ew]; omega) (by rw [ei, ew]; omega), ei, ew]
  have m32 : (i * w).toInt = i.toInt * w.toInt := Jvm.Kit.i32_mul (by omega) (by omega)
  generalize hS : i.toInt * w.toInt = S at *
  have d1 : (own_us (i.toInt64 * w.toInt64) 6).toInt = S / 2 ^ 6 := by
    unfold own_us
    rw [Jvm.Kit.i64_lushr (k := 6) (Jvm.Kit.i64_nonneg.mpr (by omega)) (by decide) (by decide), m64]
  have dd : (own_wd w i).toInt = S / 64 := by
    unfold own_wd
    rw [Jvm.Kit.i32_of_i64 (by omega) (by omega), d1]; omega
  have ff : (own_of w i).toInt = S % 64 := by
    have q : ((i.toInt64 * w.toInt64) &&& (63 : Int64)).toInt = S % 2 ^ 6 := by rw [Jvm.Kit.i64_mask _ 63 (k := 6) (by decide) (by decide), m64]
    unfold own_of
    rw [Jvm.Kit.i32_of_i64 (by omega) (by omega), q]; omega
  have e0 : (0 : Int32).toInt = 0 := rfl
  have e1 : (1 : Int32).toInt = 1 := rfl
  have e3 : (3 : Int32).toInt = 3 := rfl
  have e64 : (64 : Int32).toInt = 64 := rfl
  have fw : (own_of w i + w).toInt = S % 64 + w.toInt := by rw [Jvm.Kit.i32_add (by omega) (by omega), ff]
  have sw : (i * w + w).toInt = S + w.toInt := by rw [Jvm.Kit.i32_add (by omega) (by omega), m32]
  have inj : ∀ {x y : Int32}, x.toInt = y.toInt → x = y := fun h => Int32.toInt_inj.mp h
  by_cases c : S < 64
  · have dz : own_wd w i = 0 := inj (by rw [dd, e0]; omega)
    have fz : own_of w i = i * w := inj (by rw [ff, m32]; omega)
    refine ⟨by rw [dz]; decide, fun _ => by rw [dz]; decide, ?_⟩
    unfold own_get own_exp
    rw [dz, fz, if_pos (show i * w < 64 by rw [Int32.lt_iff_toInt_lt, m32, e64]; exact c)]
    by_cases c2 : (64 : Int32) < i * w + w
    · rw [if_pos c2, if_pos c2]
      rw [Int32.lt_iff_toInt_lt, sw, e64] at c2
      exact congrArg Int64.toInt32 (own_bits a b (i * w) w (by omega) (by omega) (by omega) w1 (by omega))
    · rw [if_neg c2, if_neg c2]; rfl
  · have dz : own_wd w i = 1 := inj (by rw [dd, e1]; omega)
    have s64 : (i * w - 64).toInt = S - 64 := by rw [Jvm.Kit.i32_sub (by omega) (by omega), m32, e64]
    have fz : own_of w i = i * w - 64 := inj (by rw [ff, s64]; omega)
    have c2 : ¬ (64 : Int32) < own_of w i + w := by rw [Int32.lt_iff_toInt_lt, fw, e64]; omega
    refine ⟨by rw [dz]; decide, fun h => absurd h c2, ?_⟩
    unfold own_get own_exp
    rw [if_neg c2, dz, fz, if_neg (show ¬ i * w < 64 by rw [Int32.lt_iff_toInt_lt, m32, e64]; exact c)]
    rfl
open Jvm.Kit in
theorem own_mod33 (a : Int32) : 0 ≤ ((a &&& 2147483647) % 33).toInt ∧ ((a &&& 2147483647) % 33).toInt < 33 := by
  have e1 : (a &&& 2147483647).toInt = a.toInt % 2 ^ 31 := i32_mask a 2147483647 (k := 31) (by decide) (by decide)
  have e2 : ((a &&& 2147483647) % 33).toInt = (a &&& 2147483647).toInt % (33 : Int32).toInt := i32_rem_nonneg (by omega)
  have e3 : (33 : Int32).toInt = 33 := rfl
  rw [e2, e3]
  omega
theorem own_nn {a : Int32} (h : 0 ≤ a.toInt) : ¬ a < 0 := by
  rw [Int32.lt_iff_toInt_lt]
  show ¬ a.toInt < 0
  omega
theorem own_cap {a : Int32} {K : Nat} (h : 0 ≤ a.toInt) (h1 : a.toInt ≤ K) : a.toNatClampNeg ≤ K := by
  simp only [Int32.toNatClampNeg]; omega
theorem own_n1 {z n : Int32} (h0 : 0 ≤ z.toInt) (h2 : z.toInt ≤ 2) (hn : n = z + 1) : n.toInt = z.toInt + 1 := by
  have e : (1 : Int32).toInt = 1 := rfl
  rw [hn, Jvm.Kit.i32_add (by omega) (by omega), e]
theorem own_minz {z n : Int32} (h0 : 0 ≤ z.toInt) (h2 : z.toInt ≤ 2) (hn : n = z + 1) : own_min z n = z := by
  unfold own_min
  rw [if_neg]
  rw [Int32.lt_iff_toInt_lt, own_n1 h0 h2 hn]; omega
theorem own_ns {z n : Int32} (h0 : 0 ≤ z.toInt) (h2 : z.toInt ≤ 2) (hn : n = z + 1) : ¬ n = z := fun q => by
  have r := own_n1 h0 h2 hn
  rw [q] at r; omega
theorem own_c5 {z n : Int32} (h0 : 0 ≤ z.toInt) (h2 : z.toInt ≤ 2) (hn : n = z + 1) : (0 : Int32).toNatClampNeg + z.toNatClampNeg ≤ n.toNatClampNeg := by
  have r := own_n1 h0 h2 hn
  have e : (0 : Int32).toNatClampNeg = 0 := rfl
  rw [e]
  simp only [Int32.toNatClampNeg]; omega
theorem own_c6 {z : Int32} (h0 : 0 ≤ z.toInt) (h2 : z.toInt ≤ 2) : (0 : Int32).toNatClampNeg + z.toNatClampNeg ≤ [(Value.long (0 : Int64)), (.long (0 : Int64)), (.long (0 : Int64))].length := by
  have e : (0 : Int32).toNatClampNeg = 0 := rfl
  rw [e]
  show 0 + z.toNatClampNeg ≤ 3
  simp only [Int32.toNatClampNeg]; omega
theorem own_mapget (L : List Int64) (n : Nat) {z : Int64} (h : L.getD n 0 = z) : (List.map Value.long L).getD n (.long (0 : Int64)) = .long z := by
  subst h
  simp only [List.getD_eq_getElem?_getD, List.getElem?_map]
  cases L[n]? <;> rfl
theorem own_zs (i n : Nat) : ([(Value.long (0 : Int64)), (.long (0 : Int64)), (.long (0 : Int64))].drop n).getD i (.long (0 : Int64)) = .long 0 := by
  rw [List.getD_eq_getElem?_getD, List.getElem?_drop]
  match n + i with
  | 0 => rfl
  | 1 => rfl
  | 2 => rfl
  | k + 3 => rfl
theorem own_pad (L : List Int64) (z : Int32) (hl : L.length = z.toNatClampNeg) (h2 : z.toInt ≤ 2) (i : Nat) : (List.map Value.long L).getD i (.long (0 : Int64)) = (List.take (0 : Int32).toNatClampNeg [(Value.long (0 : Int64)), (.long (0 : Int64)), (.long (0 : Int64))] ++ (List.range z.toNatClampNeg).map (fun i => (List.map Value.long L).getD ((0 : Int32).toNatClampNeg + i) (.long (0 : Int64))) ++ List.drop ((0 : Int32).toNatClampNeg + z.toNatClampNeg) [(Value.long (0 : Int64)), (.long (0 : Int64)), (.long (0 : Int64))]).getD i (.long (0 : Int64)) := by
  have e : (0 : Int32).toNatClampNeg = 0 := rfl
  rw [e, List.take_zero, List.nil_append]
  generalize z.toNatClampNeg = n at *
  by_cases c : i < n
  · rw [List.getD_eq_getElem?_getD (l := _ ++ _), List.getElem?_append_left (by simp; exact c), List.getElem?_map, List.getElem?_range c]
    simp
  · rw [List.getD_eq_getElem?_getD (l := _ ++ _), List.getElem?_append_right (by simp; omega), ← List.getD_eq_getElem?_getD, own_zs]
    refine own_mapget L i ?_
    rw [List.getD_eq_getElem?_getD, List.getElem?_eq_none (by omega)]; rfl
theorem own_zero (i : Int32) : own_get 0 i (own_mk 0) [] = 0 := by
  have e : own_mk 0 = 0 := by decide
  unfold own_get
  rw [e]
  simp
theorem own_z0 (i : Int32) : own_wd 0 i = 0 ∧ own_of 0 i = 0 := by
  have e : i.toInt64 * (0 : Int32).toInt64 = 0 := by
    rw [show (0 : Int32).toInt64 = (0 : Int64) from rfl]
    exact Int64.mul_zero
  unfold own_wd own_of
  rw [e]
  decide
theorem own_z1 (i : Int32) : ¬ own_wd 0 i < 0 ∧ own_wd 0 i < (0 : Int32) + (1 : Int32) := by
  rw [(own_z0 i).1]; decide
theorem own_z2 (i : Int32) : 64 < own_of 0 i + 0 → ¬ own_wd 0 i + 1 < 0 ∧ own_wd 0 i + 1 < (0 : Int32) + (1 : Int32) := by
  rw [(own_z0 i).2]
  intro h
  exact absurd h (by decide)
theorem own_w1 {w : Int32} (h : 0 ≤ w.toInt ∧ w.toInt < 33) (hz : ¬ w = 0) : 1 ≤ w.toInt ∧ w.toInt ≤ 32 := by
  have q : ¬ w.toInt = (0 : Int32).toInt := fun z => hz (Int32.toInt_inj.mp z)
  have e : (0 : Int32).toInt = 0 := rfl
  omega
theorem own_w32 {w : Int32} (h : w.toInt ≤ 32) : ¬ (32 : Int32) < w := by
  rw [Int32.lt_iff_toInt_lt]
  show ¬ (32 : Int) < w.toInt
  omega
theorem own_div {w : Int32} (h1 : 1 ≤ w.toInt) (h2 : w.toInt ≤ 32) : ((128 : Int32) / w).toInt = 128 / w.toInt := by
  have e : (128 : Int32).toInt = 128 := rfl
  rw [Jvm.Kit.i32_div (by omega), e, Int.tdiv_eq_ediv_of_nonneg (by omega)]
theorem own_dv {w : Int} (h1 : 1 ≤ w) (h2 : w ≤ 32) : 4 ≤ 128 / w ∧ 128 / w ≤ 128 := by
  have q := Int.mul_ediv_add_emod 128 w
  have r1 := Int.emod_nonneg 128 (show w ≠ 0 by omega)
  have r2 := Int.emod_lt_of_pos 128 (show 0 < w by omega)
  have r3 : 0 ≤ 128 / w := Int.ediv_nonneg (by omega) (by omega)
  generalize 128 / w = d at *
  constructor
  · by_cases c : 4 ≤ d
    · exact c
    · have z : w * d ≤ 32 * 3 := Int.mul_le_mul h2 (by omega) r3 (by omega)
      omega
  · by_cases c : d ≤ 128
    · exact c
    · have z : 1 * 129 ≤ w * d := Int.mul_le_mul h1 (by omega) (by omega) (by omega)
      omega
theorem own_n0 {n : Int32} {w : Int} (h : n.toInt = 128 / w) (hd : 4 ≤ 128 / w ∧ 128 / w ≤ 128) : n ≠ 0 := fun z => by
  rw [z] at h
  have e : (0 : Int32).toInt = 0 := rfl
  omega
theorem own_pick (a n : Int32) (h : 0 < n.toInt) : 0 ≤ ((a &&& 2147483647) % n).toInt ∧ ((a &&& 2147483647) % n).toInt < n.toInt := by
  have e1 : (a &&& 2147483647).toInt = a.toInt % 2 ^ 31 := Jvm.Kit.i32_mask a 2147483647 (k := 31) (by decide) (by decide)
  rw [Jvm.Kit.i32_rem_nonneg (by omega)]
  exact ⟨Int.emod_nonneg _ (by omega), Int.emod_lt_of_pos _ (by omega)⟩
theorem own_fits {w i : Int} (h1 : 1 ≤ w) (h2 : w ≤ 32) (i0 : 0 ≤ i) (hi : i < 128 / w) : i * w + w ≤ 128 := by
  have q := Int.mul_ediv_add_emod 128 w
  have r1 := Int.emod_nonneg 128 (show w ≠ 0 by omega)
  have z : (i + 1) * w ≤ 128 / w * w := Int.mul_le_mul_of_nonneg_right (by omega) (by omega)
  rw [Int.mul_comm] at q
  have e : (i + 1) * w = i * w + w := by rw [Int.add_mul, Int.one_mul]
  omega
theorem own_wc2 {w n : Int32} (h1 : 1 ≤ w.toInt) (h2 : w.toInt ≤ 32) (hn : n.toInt = 128 / w.toInt) : (2 : Int32) = own_wc w n := by
  have ew : w.toInt64.toInt = w.toInt := Jvm.Kit.i64_of_i32 w
  have en : n.toInt64.toInt = n.toInt := Jvm.Kit.i64_of_i32 n
  have q := Int.mul_ediv_add_emod 128 w.toInt
  have r1 := Int.emod_nonneg 128 (show w.toInt ≠ 0 by omega)
  have r2 := Int.emod_lt_of_pos 128 (show 0 < w.toInt by omega)
  rw [← hn] at q
  generalize hP : w.toInt * n.toInt = P at *
  have m1 : (w.toInt64 * n.toInt64).toInt = P := by rw [Jvm.Kit.i64_mul (by rw [ew, en]; omega) (by rw [ew, en]; omega), ew, en, hP]
  have e64 : (64 : Int64).toInt = 64 := rfl
  have e1 : (1 : Int64).toInt = 1 := rfl
  have m2 : (w.toInt64 * n.toInt64 + 64).toInt = P + 64 := by rw [Jvm.Kit.i64_add (by omega) (by omega)]; omega
  have m3 : (w.toInt64 * n.toInt64 + 64 - 1).toInt = P + 63 := by rw [Jvm.Kit.i64_sub (by omega) (by omega)]; omega
  have m4 : ((w.toInt64 * n.toInt64 + 64 - 1) / 64).toInt = (P + 63) / 64 := by
    rw [Jvm.Kit.i64_div (by omega), m3, e64, Int.tdiv_eq_ediv_of_nonneg (by omega)]
  apply Int32.toInt_inj.mp
  unfold own_wc
  rw [Jvm.Kit.i32_of_i64 (by omega) (by omega), m4]
  show (2 : Int) = _
  omega
theorem d3_0 : decode prog_23_method_3_code 0 = .ok (.iload_n 0, 1) := by decide +kernel
theorem d3_1 : decode prog_23_method_3_code 1 = .ok (.i2l, 1) := by decide +kernel
theorem d3_2 : decode prog_23_method_3_code 2 = .ok (.iload_n 1, 1) := by decide +kernel
theorem d3_3 : decode prog_23_method_3_code 3 = .ok (.i2l, 1) := by decide +kernel
theorem d3_4 : decode prog_23_method_3_code 4 = .ok (.lmul, 1) := by decide +kernel
theorem d3_5 : decode prog_23_method_3_code 5 = .ok (.ldc2_w 67, 3) := by decide +kernel
theorem d3_8 : decode prog_23_method_3_code 8 = .ok (.ladd, 1) := by decide +kernel
theorem d3_9 : decode prog_23_method_3_code 9 = .ok (.lconst 1, 1) := by decide +kernel
theorem d3_10 : decode prog_23_method_3_code 10 = .ok (.lsub, 1) := by decide +kernel
theorem d3_11 : decode prog_23_method_3_code 11 = .ok (.ldc2_w 67, 3) := by decide +kernel
theorem d3_14 : decode prog_23_method_3_code 14 = .ok (.ldiv, 1) := by decide +kernel
theorem d3_15 : decode prog_23_method_3_code 15 = .ok (.l2i, 1) := by decide +kernel
theorem d3_16 : decode prog_23_method_3_code 16 = .ok (.ireturn, 1) := by decide +kernel
theorem own_pn26658 : plainName "com/example/bijecta/bijecta/mph/PackedArray" = true := by first | (simp [plainName, overriddenIn]; done) | decide +kernel
theorem ef_3 (m : MethodId) (zw : Int32) (zn : Int32) : entryFrame m #[(.int zw), (.int zn)] 2 = mkF m 0 #[.val (.int zw), .val (.int zn)] [] := by first | (simp [entryFrame, mkF, argsToLocals, Value.category]; done) | rfl
def Q3 (Z : State) (zw : Int32) (zn : Int32) (h0 : Heap) (n0 : Nat) (v : Option Value) (h : Heap) (L : List Loc) : Prop := v = some (.int (own_wc zw zn)) ∧ Fr n0 L ∧ h = h0
set_option maxRecDepth 65536 in
set_option maxHeartbeats 40000000 in
theorem rm3 (l : Launch) (Z : State) (a0 : Array Value) (hw : ∀ d ∈ tables_1, d.before a0 Z = true) (ws : List Jvm.Cond) (zw : Int32) (zn : Int32) (h0 : Heap) (n0 : Nat) (Z0 : n0 ≤ h0.size)  :
    MetFree l (⟨"com/example/bijecta/bijecta/mph/PackedArray", "wordCount", "(II)I"⟩ : MethodName) (head1 (Jvm.Cond.code (⟨"com/example/bijecta/bijecta/mph/PackedArray", "wordCount", "(II)I"⟩ : MethodName) prog_23_method_3_code 2 (some .int) :: ws) ({ frames := 0, cells := 0, slots := 0, locals := 0 } : Room)) (fun a U => a = #[(.int zw), (.int zn)] ∧ Z.Warmed39 U.vm ∧ U.heap = h0) (fun _ _ _ _ _ => True) (fun _ U o U' => ∃ v L, o = .returned v ∧ Q3 Z zw zn h0 n0 v U'.heap L ∧ FrameEnd U o U' L ({ frames := 0, cells := 0, slots := 0, locals := 0 } : Room).cells ({ frames := 0, cells := 0, slots := 0, locals := 0 } : Room).slots) := by
  refine MetFree.of_bodySF (plainFor_of_name own_pn26658) hisR ?_
  intro p e s m args below meth c s₁ Bd hml0 hP hK
  obtain ⟨rfl, hZ, hh⟩ := hP
  have hx := Bd.exec
  have hby := Bd.bytes
  have hml : c.maxLocals = 2 := hml0
  have hown : s.vm.findClass "com/example/bijecta/bijecta/mph/PackedArray" = some m.cls := findClass_of_methodNamed Bd.named
  have hnm := (name_of_methodNamed Bd.named Bd.method).1
  have X0 : Stand p l e ({ frames := 0, cells := 0, slots := 0, locals := 0 } : Room) s m #[(.int zw), (.int zn)] below meth c s₁ [] 0 0 := Stand.of_body Bd
  have e0 : s₁.heap = h0 := by rw [← hh, Bd.state]; rfl
  have N0 := Fr.nil n0
  have K0 := Keep.refl h0 ([] : List Addr)
  show own_WP p e below (own_E s (Q3 Z zw zn h0 n0) 0 0) s₁ (entryFrame m #[(.int zw), (.int zn)] 2)
  rw [ef_3 m zw zn]
  show own_WP _ _ _ _ s₁ (mkF m 0 #[.val (.int zw), .val (.int zn)] [])
  refine own_go (fun t k => XS.iloadN X0.here hx rfl (hb hby d3_0) rfl  k) ?_
  show own_WP _ _ _ _ s₁ (mkF m 1 #[.val (.int zw), .val (.int zn)] [(.int zw)])
  refine own_go (fun t k => XS.i2l X0.here hx rfl (hb hby d3_1) rfl k) ?_
  show own_WP _ _ _ _ s₁ (mkF m 2 #[.val (.int zw), .val (.int zn)] [(.long (zw.toInt64))])
  refine own_go (fun t k => XS.iloadN X0.here hx rfl (hb hby d3_2) rfl  k) ?_
  show own_WP _ _ _ _ s₁ (mkF m 3 #[.val (.int zw), .val (.int zn)] [(.int zn), (.long (zw.toInt64))])
  refine own_go (fun t k => XS.i2l X0.here hx rfl (hb hby d3_3) rfl k) ?_
  show own_WP _ _ _ _ s₁ (mkF m 4 #[.val (.int zw), .val (.int zn)] [(.long (zn.toInt64)), (.long (zw.toInt64))])
  refine own_go (fun t k => XS.lmul X0.here hx rfl (hb hby d3_4) rfl k) ?_
  show own_WP _ _ _ _ s₁ (mkF m 5 #[.val (.int zw), .val (.int zn)] [(.long ((zw.toInt64) * (zn.toInt64)))])
  refine own_go (fun t k => X0.ldc2Long hx hown (mvT hZ (hw _ (List.mem_of_getElem? (i := 14) rfl))) (g := (mkF m 5 #[.val (.int zw), .val (.int zn)] [(.long ((zw.toInt64) * (zn.toInt64)))])) rfl (hb hby d3_5) t k) ?_
  show own_WP _ _ _ _ s₁ (mkF m 8 #[.val (.int zw), .val (.int zn)] [(.long (64 : Int64)), (.long ((zw.toInt64) * (zn.toInt64)))])
  refine own_go (fun t k => XS.ladd X0.here hx rfl (hb hby d3_8) rfl k) ?_
  show own_WP _ _ _ _ s₁ (mkF m 9 #[.val (.int zw), .val (.int zn)] [(.long (((zw.toInt64) * (zn.toInt64)) + (64 : Int64)))])
  refine own_go (fun t k => XS.lconst X0.here hx rfl (hb hby d3_9) k) ?_
  show own_WP _ _ _ _ s₁ (mkF m 10 #[.val (.int zw), .val (.int zn)] [(.long (1 : Int64)), (.long (((zw.toInt64) * (zn.toInt64)) + (64 : Int64)))])
  refine own_go (fun t k => XS.lsub X0.here hx rfl (hb hby d3_10) rfl k) ?_
  show own_WP _ _ _ _ s₁ (mkF m 11 #[.val (.int zw), .val (.int zn)] [(.long ((((zw.toInt64) * (zn.toInt64)) + (64 : Int64)) - (1 : Int64)))])
  refine own_go (fun t k => X0.ldc2Long hx hown (mvT hZ (hw _ (List.mem_of_getElem? (i := 14) rfl))) (g := (mkF m 11 #[.val (.int zw), .val (.int zn)] [(.long ((((zw.toInt64) * (zn.toInt64)) + (64 : Int64)) - (1 : Int64)))])) rfl (hb hby d3_11) t k) ?_
  show own_WP _ _ _ _ s₁ (mkF m 14 #[.val (.int zw), .val (.int zn)] [(.long (64 : Int64)), (.long ((((zw.toInt64) * (zn.toInt64)) + (64 : Int64)) - (1 : Int64)))])
  have hnz14 : ¬ ((64 : Int64) = (0 : Int64)) := by decide
  refine own_go (fun t k => XS.ldiv X0.here hx rfl (hb hby d3_14) rfl hnz14 k) ?_
  show own_WP _ _ _ _ s₁ (mkF m 15 #[.val (.int zw), .val (.int zn)] [(.long (((((zw.toInt64) * (zn.toInt64)) + (64 : Int64)) - (1 : Int64)) / (64 : Int64)))])
  refine own_go (fun t k => XS.l2i X0.here hx rfl (hb hby d3_15) rfl k) ?_
  show own_WP _ _ _ _ s₁ (mkF m 16 #[.val (.int zw), .val (.int zn)] [(.int ((((((zw.toInt64) * (zn.toInt64)) + (64 : Int64)) - (1 : Int64)) / (64 : Int64)).toInt32))])
  refine own_retI X0 hx Bd.notSynchronized Bd.returns (hb hby d3_16) (by decide) (by decide) ?_
  rw [e0]
  exact ⟨(congrArg (fun z => some (Value.int z)) (show ((((((zw.toInt64) * (zn.toInt64)) + (64 : Int64)) - (1 : Int64)) / (64 : Int64)).toInt32) = (own_wc zw zn) from by rfl)), N0, rfl⟩
theorem d5_0 : decode jdk_29_method_69_code 0 = .ok (.iload_n 0, 1) := by decide +kernel
theorem d5_1 : decode jdk_29_method_69_code 1 = .ok (.iload_n 1, 1) := by decide +kernel
theorem d5_2 : decode jdk_29_method_69_code 2 = .ok (.if_icmp .gt 7, 3) := by decide +kernel
theorem d5_5 : decode jdk_29_method_69_code 5 = .ok (.iload_n 0, 1) := by decide +kernel
theorem d5_6 : decode jdk_29_method_69_code 6 = .ok (.goto 4, 3) := by decide +kernel
theorem d5_9 : decode jdk_29_method_69_code 9 = .ok (.iload_n 1, 1) := by decide +kernel
theorem d5_10 : decode jdk_29_method_69_code 10 = .ok (.ireturn, 1) := by decide +kernel
theorem ef_5 (m : MethodId) (za : Int32) (zb : Int32) : entryFrame m #[(.int za), (.int zb)] 2 = mkF m 0 #[.val (.int za), .val (.int zb)] [] := by first | (simp [entryFrame, mkF, argsToLocals, Value.category]; done) | rfl
def Q5 (Z : State) (za : Int32) (zb : Int32) (h0 : Heap) (n0 : Nat) (v : Option Value) (h : Heap) (L : List Loc) : Prop := v = some (.int (own_min za zb)) ∧ Fr n0 L ∧ h = h0
set_option maxRecDepth 65536 in
set_option maxHeartbeats 40000000 in
theorem rm5 (l : Launch) (Z : State) (a0 : Array Value) (hw : ∀ d ∈ tables_1, d.before a0 Z = true) (ws : List Jvm.Cond) (za : Int32) (zb : Int32) (h0 : Heap) (n0 : Nat) (Z0 : n0 ≤ h0.size)  :
    MetFree l (⟨"java/lang/Math", "min", "(II)I"⟩ : MethodName) (head1 (Jvm.Cond.code (⟨"java/lang/Math", "min", "(II)I"⟩ : MethodName) jdk_29_method_69_code 2 (some .int) :: ws) ({ frames := 0, cells := 0, slots := 0, locals := 0 } : Room)) (fun a U => a = #[(.int za), (.int zb)] ∧ Z.Warmed39 U.vm ∧ U.heap = h0) (fun _ _ _ _ _ => True) (fun _ U o U' => ∃ v L, o = .returned v ∧ Q5 Z za zb h0 n0 v U'.heap L ∧ FrameEnd U o U' L ({ frames := 0, cells := 0, slots := 0, locals := 0 } : Room).cells ({ frames := 0, cells := 0, slots := 0, locals := 0 } : Room).slots) := by
  refine MetFree.of_bodySF (Jvm.Free.JP.mathPlain rfl (by decide +kernel)) hisR ?_
  intro p e s m args below meth c s₁ Bd hml0 hP hK
  obtain ⟨rfl, hZ, hh⟩ := hP
  have hx := Bd.exec
  have hby := Bd.bytes
  have hml : c.maxLocals = 2 := hml0
  have hown : s.vm.findClass "java/lang/Math" = some m.cls := findClass_of_methodNamed Bd.named
  have hnm := (name_of_methodNamed Bd.named Bd.method).1
  have X0 : Stand p l e ({ frames := 0, cells := 0, slots := 0, locals := 0 } : Room) s m #[(.int za), (.int zb)] below meth c s₁ [] 0 0 := Stand.of_body Bd
  have e0 : s₁.heap = h0 := by rw [← hh, Bd.state]; rfl
  have N0 := Fr.nil n0
  have K0 := Keep.refl h0 ([] : List Addr)
  show own_WP p e below (own_E s (Q5 Z za zb h0 n0) 0 0) s₁ (entryFrame m #[(.int za), (.int zb)] 2)
  rw [ef_5 m za zb]
  show own_WP _ _ _ _ s₁ (mkF m 0 #[.val (.int za), .val (.int zb)] [])
  refine own_go (fun t k => XS.iloadN X0.here hx rfl (hb hby d5_0) rfl  k) ?_
  show own_WP _ _ _ _ s₁ (mkF m 1 #[.val (.int za), .val (.int zb)] [(.int za)])
  refine own_go (fun t k => XS.iloadN X0.here hx rfl (hb hby d5_1) rfl  k) ?_
  show own_WP _ _ _ _ s₁ (mkF m 2 #[.val (.int za), .val (.int zb)] [(.int zb), (.int za)])
  by_cases hc2 : zb < za
  · refine own_go (fun t k => XS.icmpYes X0.here hx rfl (pc0 := 2) (pc' := 9) rfl (hb hby d5_2) rfl (tlt hc2).2.2.1 (by decide) (by decide) k) ?_
    show own_WP _ _ _ _ s₁ (mkF m 9 #[.val (.int za), .val (.int zb)] [])
    refine own_go (fun t k => XS.iloadN X0.here hx rfl (hb hby d5_9) rfl  k) ?_
    show own_WP _ _ _ _ s₁ (mkF m 10 #[.val (.int za), .val (.int zb)] [(.int zb)])
    refine own_retI X0 hx Bd.notSynchronized Bd.returns (hb hby d5_10) (by decide) (by decide) ?_
    rw [e0]
    exact ⟨(congrArg (fun z => some (Value.int z)) (show zb = (own_min za zb) from by first | (simp [nar, own_min, hc2]; done) | (simp only [if_true, if_false, eq_self, ↓reduceIte, own_min, hc2]; first | done | rfl | decide) | (unfold own_min; rw [if_pos hc2]; first | done | rfl))), N0, rfl⟩
  · refine own_go (fun t k => XS.icmpNo X0.here hx rfl (hb hby d5_2) rfl (flt hc2).2.2.1 k) ?_
    show own_WP _ _ _ _ s₁ (mkF m 5 #[.val (.int za), .val (.int zb)] [])
    refine own_go (fun t k => XS.iloadN X0.here hx rfl (hb hby d5_5) rfl  k) ?_
    show own_WP _ _ _ _ s₁ (mkF m 6 #[.val (.int za), .val (.int zb)] [(.int za)])
    refine own_go (fun t k => XS.goto X0.here hx rfl (pc0 := 6) (pc' := 10) rfl (hb hby d5_6) (by decide) (by decide) k) ?_
    show own_WP _ _ _ _ s₁ (mkF m 10 #[.val (.int za), .val (.int zb)] [(.int za)])
    refine own_retI X0 hx Bd.notSynchronized Bd.returns (hb hby d5_10) (by decide) (by decide) ?_
    rw [e0]
    exact ⟨(congrArg (fun z => some (Value.int z)) (show za = (own_min za zb) from by first | (simp [nar, own_min, hc2]; done) | (simp only [if_true, if_false, eq_self, ↓reduceIte, own_min, hc2]; first | done | rfl | decide) | (unfold own_min; rw [if_neg hc2]; first | done | rfl))), N0, rfl⟩
theorem own_pd31088 : parseMethodDescriptor "(II)I" = some ⟨[.int, .int], some .int⟩ := by decide +kernel
theorem d4_0 : decode jdk_65_method_124_code 0 = .ok (.iload_n 1, 1) := by decide +kernel
theorem d4_1 : decode jdk_65_method_124_code 1 = .ok (.aload_n 0, 1) := by decide +kernel
theorem d4_2 : decode jdk_65_method_124_code 2 = .ok (.arraylength, 1) := by decide +kernel
theorem d4_3 : decode jdk_65_method_124_code 3 = .ok (.if_icmp .ne 11, 3) := by decide +kernel
theorem d4_14 : decode jdk_65_method_124_code 14 = .ok (.iload_n 1, 1) := by decide +kernel
theorem d4_15 : decode jdk_65_method_124_code 15 = .ok (.newarray .long, 2) := by decide +kernel
theorem d4_17 : decode jdk_65_method_124_code 17 = .ok (.astore_n 2, 1) := by decide +kernel
theorem d4_18 : decode jdk_65_method_124_code 18 = .ok (.aload_n 0, 1) := by decide +kernel
theorem d4_19 : decode jdk_65_method_124_code 19 = .ok (.iconst 0, 1) := by decide +kernel
theorem d4_20 : decode jdk_65_method_124_code 20 = .ok (.aload_n 2, 1) := by decide +kernel
theorem d4_21 : decode jdk_65_method_124_code 21 = .ok (.iconst 0, 1) := by decide +kernel
theorem d4_22 : decode jdk_65_method_124_code 22 = .ok (.aload_n 0, 1) := by decide +kernel
theorem d4_23 : decode jdk_65_method_124_code 23 = .ok (.arraylength, 1) := by decide +kernel
theorem d4_24 : decode jdk_65_method_124_code 24 = .ok (.iload_n 1, 1) := by decide +kernel
theorem d4_25 : decode jdk_65_method_124_code 25 = .ok (.invokestatic 304, 3) := by decide +kernel
theorem d4_28 : decode jdk_65_method_124_code 28 = .ok (.invokestatic 150, 3) := by decide +kernel
theorem d4_31 : decode jdk_65_method_124_code 31 = .ok (.aload_n 2, 1) := by decide +kernel
theorem d4_32 : decode jdk_65_method_124_code 32 = .ok (.areturn, 1) := by decide +kernel
theorem own_pn85982 : plainName "java/util/Arrays" = true := by first | (simp [plainName, overriddenIn]; done) | decide +kernel
theorem ef_4 (m : MethodId) (za : Addr) (zn : Int32) : entryFrame m #[(.ref za), (.int zn)] 3 = mkF m 0 #[.val (.ref za), .val (.int zn), .unset] [] := by first | (simp [entryFrame, mkF, argsToLocals, Value.category]; done) | rfl
def Q4 (Z : State) (za : Addr) (zn : Int32) (zk : ClassId) (zs : Int32) (zl : List Int64) (h0 : Heap) (n0 : Nat) (v : Option Value) (h : Heap) (L : List Loc) : Prop := ∃ (rb : Addr), ∃ (rk : ClassId), v = some (.ref rb) ∧ Fr n0 L ∧ Keep h0 h [] ∧ n0 ≤ rb ∧ h0.size ≤ rb ∧ Arv Z h rb rk .long zn (List.map Value.long zl) (.long (0 : Int64))
set_option maxRecDepth 65536 in
set_option maxHeartbeats 40000000 in
theorem rm4 (l : Launch) (Z : State) (a0 : Array Value) (hw : ∀ d ∈ tables_1, d.before a0 Z = true) (ws : List Jvm.Cond) (za : Addr) (zn : Int32) (zk : ClassId) (zs : Int32) (zl : List Int64) (h0 : Heap) (n0 : Nat) (Z0 : n0 ≤ h0.size) (P0 : Arv Z h0 za zk .long zs (List.map Value.long zl) (.long (0 : Int64))) (hl : zl.length = zs.toNatClampNeg) (hs0 : 0 ≤ zs.toInt) (hs2 : zs.toInt ≤ 2) (hn : zn = zs + 1) :
    MetFree l (⟨"java/util/Arrays", "copyOf", "([JI)[J"⟩ : MethodName) (head1 (Jvm.Cond.code (⟨"java/util/Arrays", "copyOf", "([JI)[J"⟩ : MethodName) jdk_65_method_124_code 3 (some (.array .long)) :: ws) ({ frames := 1, cells := 1, slots := 3, locals := 40 } : Room)) (fun a U => a = #[(.ref za), (.int zn)] ∧ Z.Warmed39 U.vm ∧ U.heap = h0) (fun _ _ _ _ _ => True) (fun _ U o U' => ∃ v L, o = .returned v ∧ Q4 Z za zn zk zs zl h0 n0 v U'.heap L ∧ FrameEnd U o U' L ({ frames := 1, cells := 1, slots := 3, locals := 40 } : Room).cells ({ frames := 1, cells := 1, slots := 3, locals := 40 } : Room).slots) := by
  refine MetFree.of_bodySF (plainFor_of_name own_pn85982) hisR ?_
  intro p e s m args below meth c s₁ Bd hml0 hP hK
  obtain ⟨rfl, hZ, hh⟩ := hP
  have hx := Bd.exec
  have hby := Bd.bytes
  have hml : c.maxLocals = 3 := hml0
  have hown : s.vm.findClass "java/util/Arrays" = some m.cls := findClass_of_methodNamed Bd.named
  have hnm := (name_of_methodNamed Bd.named Bd.method).1
  have X0 : Stand p l e ({ frames := 1, cells := 1, slots := 3, locals := 40 } : Room) s m #[(.ref za), (.int zn)] below meth c s₁ [] 0 0 := Stand.of_body Bd
  have e0 : s₁.heap = h0 := by rw [← hh, Bd.state]; rfl
  have N0 := Fr.nil n0
  have K0 := Keep.refl h0 ([] : List Addr)
  show own_WP p e below (own_E s (Q4 Z za zn zk zs zl h0 n0) 1 3) s₁ (entryFrame m #[(.ref za), (.int zn)] 3)
  rw [ef_4 m za zn]
  show own_WP _ _ _ _ s₁ (mkF m 0 #[.val (.ref za), .val (.int zn), .unset] [])
  refine own_go (fun t k => XS.iloadN X0.here hx rfl (hb hby d4_0) rfl  k) ?_
  show own_WP _ _ _ _ s₁ (mkF m 1 #[.val (.ref za), .val (.int zn), .unset] [(.int zn)])
  refine own_go (fun t k => XS.aloadN X0.here hx rfl (hb hby d4_1) rfl rfl  k) ?_
  show own_WP _ _ _ _ s₁ (mkF m 2 #[.val (.ref za), .val (.int zn), .unset] [(.ref za), (.int zn)])
  refine own_len X0 hx hZ e0 P0 (hb hby d4_2) ?_
  show own_WP _ _ _ _ s₁ (mkF m 3 #[.val (.ref za), .val (.int zn), .unset] [(.int zs), (.int zn)])
  have hc3 : ¬ (zn = zs) := by
    exact own_ns hs0 hs2 hn
  refine own_go (fun t k => XS.icmpYes X0.here hx rfl (pc0 := 3) (pc' := 14) rfl (hb hby d4_3) rfl (feq hc3).2 (by decide) (by decide) k) ?_
  show own_WP _ _ _ _ s₁ (mkF m 14 #[.val (.ref za), .val (.int zn), .unset] [])
  refine own_go (fun t k => XS.iloadN X0.here hx rfl (hb hby d4_14) rfl  k) ?_
  show own_WP _ _ _ _ s₁ (mkF m 15 #[.val (.ref za), .val (.int zn), .unset] [(.int zn)])
  obtain ⟨T1, h1, k1, X1, e1, E1, A1, G1, st1⟩ := newPE X0 hx hZ (hw _ (List.mem_of_getElem? (i := 4) rfl)) e0 (g := (mkF m 15 #[.val (.ref za), .val (.int zn), .unset] [(.int zn)])) rfl (hb hby d4_15) rfl (own_nn (by rw [own_n1 hs0 hs2 hn]; omega)) (cap := 3) (own_cap (by rw [own_n1 hs0 hs2 hn]; omega) (by rw [own_n1 hs0 hs2 hn]; omega)) (by decide) (by decide) (by decide) (ad := "[J") rfl
  obtain ⟨zr, q1⟩ : ∃ z, z = h0.size := ⟨_, rfl⟩
  rw [← q1] at A1 G1 st1
  refine own_go st1 ?_
  have g_zr : n0 ≤ zr := Nat.le_trans (own_le Z0 K0) (Nat.le_of_eq q1.symm)
  have sz_zr : h0.size ≤ zr := Nat.le_trans K0.1 (Nat.le_of_eq q1.symm)
  have ne_za_zr : za ≠ zr := Nat.ne_of_lt (Nat.lt_of_lt_of_le P0.lt (Nat.le_of_eq q1.symm))
  have f2 : Arv Z h1 za zk .long zs (List.map Value.long zl) (.long (0 : Int64)) := P0.ext E1
  have K3 : Keep h0 h1 [] := K0.ext E1
  have f4 : Arv Z h1 zr k1 .long zn [(.long (0 : Int64)), (.long (0 : Int64)), (.long (0 : Int64))] (.long (0 : Int64)) := (Arv.new A1 (own_nn (by rw [own_n1 hs0 hs2 hn]; omega))).pad (pad_rep [] (.long (0 : Int64)) 3)
  show own_WP _ _ _ _ T1 (mkF m 17 #[.val (.ref za), .val (.int zn), .unset] [(.ref zr)])
  refine own_go (fun t k => XS.astoreN X1.here hx rfl (hb hby d4_17) rfl rfl (l' := #[.val (.ref za), .val (.int zn), .val (.ref zr)]) rfl k) ?_
  show own_WP _ _ _ _ T1 (mkF m 18 #[.val (.ref za), .val (.int zn), .val (.ref zr)] [])
  refine own_go (fun t k => XS.aloadN X1.here hx rfl (hb hby d4_18) rfl rfl  k) ?_
  show own_WP _ _ _ _ T1 (mkF m 19 #[.val (.ref za), .val (.int zn), .val (.ref zr)] [(.ref za)])
  refine own_go (fun t k => XS.iconst X1.here hx rfl (hb hby d4_19) k) ?_
  show own_WP _ _ _ _ T1 (mkF m 20 #[.val (.ref za), .val (.int zn), .val (.ref zr)] [(.int (0 : Int32)), (.ref za)])
  refine own_go (fun t k => XS.aloadN X1.here hx rfl (hb hby d4_20) rfl rfl  k) ?_
  show own_WP _ _ _ _ T1 (mkF m 21 #[.val (.ref za), .val (.int zn), .val (.ref zr)] [(.ref zr), (.int (0 : Int32)), (.ref za)])
  refine own_go (fun t k => XS.iconst X1.here hx rfl (hb hby d4_21) k) ?_
  show own_WP _ _ _ _ T1 (mkF m 22 #[.val (.ref za), .val (.int zn), .val (.ref zr)] [(.int (0 : Int32)), (.ref zr), (.int (0 : Int32)), (.ref za)])
  refine own_go (fun t k => XS.aloadN X1.here hx rfl (hb hby d4_22) rfl rfl  k) ?_
  show own_WP _ _ _ _ T1 (mkF m 23 #[.val (.ref za), .val (.int zn), .val (.ref zr)] [(.ref za), (.int (0 : Int32)), (.ref zr), (.int (0 : Int32)), (.ref za)])
  refine own_len X1 hx hZ e1 f2 (hb hby d4_23) ?_
  show own_WP _ _ _ _ T1 (mkF m 24 #[.val (.ref za), .val (.int zn), .val (.ref zr)] [(.int zs), (.int (0 : Int32)), (.ref zr), (.int (0 : Int32)), (.ref za)])
  refine own_go (fun t k => XS.iloadN X1.here hx rfl (hb hby d4_24) rfl  k) ?_
  show own_WP _ _ _ _ T1 (mkF m 25 #[.val (.ref za), .val (.int zn), .val (.ref zr)] [(.int zn), (.int zs), (.int (0 : Int32)), (.ref zr), (.int (0 : Int32)), (.ref za)])
  obtain ⟨_, _, ⟨T5, L5, k5, n5⟩, -, X5, ⟨Lc5, hQ5, l5, y5, z5⟩, st5⟩ := Jvm.LawKit.callS X1 hx (y := (⟨"java/lang/Math", "min", "(II)I"⟩ : MethodName)) hown (mvT hZ (hw _ (List.mem_of_getElem? (i := 19) rfl))) (mvT hZ (hw _ (List.mem_of_getElem? (i := 20) rfl))) (mvT hZ (hw _ (List.mem_of_getElem? (i := 21) rfl))) (mvT hZ (hw _ (List.mem_of_getElem? (i := 22) rfl))) (by decide) (backOf (W := 4) (rm5 l Z a0 hw [] zs zn  h1 n0 (own_le Z0 K3) ) hZ (hw _ (List.mem_of_getElem? (i := 22) rfl)) (hw _ (List.mem_of_getElem? (i := 21) rfl)) (by decide) (by decide)) (g := (mkF m 25 #[.val (.ref za), .val (.int zn), .val (.ref zr)] [(.int zn), (.int zs), (.int (0 : Int32)), (.ref zr), (.int (0 : Int32)), (.ref za)])) rfl (by rw [hml]; rfl) (argsL := [(.int zs), (.int zn)]) (rest := [(.int (0 : Int32)), (.ref zr), (.int (0 : Int32)), (.ref za)]) (lenOf own_pd31088 rfl) rfl (by show 2 * 0 + _ ≤ _; exact Nat.le_of_eq rfl) (hb hby d4_25) (fun _ _ => ⟨rfl, e1, (by decide : 1 + 0 ≤ _), (by decide : 3 + 0 ≤ _)⟩)
  dsimp only [Pt.U, Pt.locs, Pt.cells, Pt.slots] at X5 l5 y5 z5 st5 hQ5
  subst l5 y5 z5
  obtain ⟨rfl, N5q, eq5⟩ := hQ5
  have N5 := Fr.app N0 N5q
  refine own_go st5 ?_
  show own_WP _ _ _ _ T5 (mkF m 28 #[.val (.ref za), .val (.int zn), .val (.ref zr)] [(.int (own_min zs zn)), (.int (0 : Int32)), (.ref zr), (.int (0 : Int32)), (.ref za)])
  rw [show own_min zs zn = zs from own_minz hs0 hs2 hn]
  show own_WP _ _ _ _ T5 (mkF m 28 #[.val (.ref za), .val (.int zn), .val (.ref zr)] [(.int zs), (.int (0 : Int32)), (.ref zr), (.int (0 : Int32)), (.ref za)])
  obtain ⟨T6, h6, L6, X6, e6, N6, Kc6, V6, st6⟩ := cpA X5 hx hZ hown (hw _ (List.mem_of_getElem? (i := 23) rfl)) (hw _ (List.mem_of_getElem? (i := 26) rfl)) (hw _ (List.mem_of_getElem? (i := 24) rfl)) (hw _ (List.mem_of_getElem? (i := 25) rfl)) eq5 f2 f4 (sp := (0 : Int32)) (dp := (0 : Int32)) (nn := zs) (Or.inl ⟨rfl, rfl⟩) (by decide) (by decide) (own_nn hs0) (Nat.le_of_eq (Nat.zero_add _)) (own_c5 hs0 hs2 hn) rfl (own_c6 hs0 hs2) N5 g_zr (g := (mkF m 28 #[.val (.ref za), .val (.int zn), .val (.ref zr)] [(.int zs), (.int (0 : Int32)), (.ref zr), (.int (0 : Int32)), (.ref za)])) rfl (by rw [hml]; rfl) rfl (hb hby d4_28) (by decide) (W := 0) (by show 2 * 0 + _ ≤ _; exact Nat.le_of_eq rfl) (by decide)
  refine own_go st6 ?_
  have f7 : Arv Z h6 zr k1 .long zn (List.map Value.long zl) (.long (0 : Int64)) := Arv.pad V6 (own_pad zl zs hl hs2)
  have f8 : Arv Z h6 za zk .long zs (List.map Value.long zl) (.long (0 : Int64)) := f2.keep Kc6 (own_nm ne_za_zr)
  have K9 : Keep h0 h6 [] := K3.trans Kc6 (fun x hx => by cases List.mem_singleton.mp hx; exact Or.inr sz_zr)
  show own_WP _ _ _ _ T6 (mkF m 31 #[.val (.ref za), .val (.int zn), .val (.ref zr)] [])
  refine own_go (fun t k => XS.aloadN X6.here hx rfl (hb hby d4_31) rfl rfl  k) ?_
  show own_WP _ _ _ _ T6 (mkF m 32 #[.val (.ref za), .val (.int zn), .val (.ref zr)] [(.ref zr)])
  refine own_retA X6 hx Bd.notSynchronized rfl rfl Bd.returns (hb hby d4_32) (by decide) (by decide) ?_
  rw [e6]
  exact ⟨zr, k1, rfl, N6, K9, g_zr, sz_zr, f7⟩
theorem own_pd44434 : parseMethodDescriptor "([JI)[J" = some ⟨[(.array .long), .int], some (.array .long)⟩ := by decide +kernel
theorem d1_0 : decode prog_23_method_1_code 0 = .ok (.aload_n 0, 1) := by decide +kernel
theorem d1_1 : decode prog_23_method_1_code 1 = .ok (.invokespecial 1, 3) := by decide +kernel
theorem d1_4 : decode prog_23_method_1_code 4 = .ok (.iload_n 2, 1) := by decide +kernel
theorem d1_5 : decode prog_23_method_1_code 5 = .ok (.ifCond .lt 13, 3) := by decide +kernel
theorem d1_8 : decode prog_23_method_1_code 8 = .ok (.iload_n 2, 1) := by decide +kernel
theorem d1_9 : decode prog_23_method_1_code 9 = .ok (.bipush 32, 2) := by decide +kernel
theorem d1_11 : decode prog_23_method_1_code 11 = .ok (.if_icmp .gt 7, 3) := by decide +kernel
theorem d1_14 : decode prog_23_method_1_code 14 = .ok (.iload_n 3, 1) := by decide +kernel
theorem d1_15 : decode prog_23_method_1_code 15 = .ok (.ifCond .ge 18, 3) := by decide +kernel
theorem d1_33 : decode prog_23_method_1_code 33 = .ok (.aload_n 1, 1) := by decide +kernel
theorem d1_34 : decode prog_23_method_1_code 34 = .ok (.arraylength, 1) := by decide +kernel
theorem d1_35 : decode prog_23_method_1_code 35 = .ok (.iload_n 2, 1) := by decide +kernel
theorem d1_36 : decode prog_23_method_1_code 36 = .ok (.iload_n 3, 1) := by decide +kernel
theorem d1_37 : decode prog_23_method_1_code 37 = .ok (.invokestatic 18, 3) := by decide +kernel
theorem d1_40 : decode prog_23_method_1_code 40 = .ok (.if_icmp .eq 20, 3) := by decide +kernel
theorem d1_60 : decode prog_23_method_1_code 60 = .ok (.aload_n 0, 1) := by decide +kernel
theorem d1_61 : decode prog_23_method_1_code 61 = .ok (.aload_n 1, 1) := by decide +kernel
theorem d1_62 : decode prog_23_method_1_code 62 = .ok (.aload_n 1, 1) := by decide +kernel
theorem d1_63 : decode prog_23_method_1_code 63 = .ok (.arraylength, 1) := by decide +kernel
theorem d1_64 : decode prog_23_method_1_code 64 = .ok (.iconst 1, 1) := by decide +kernel
theorem d1_65 : decode prog_23_method_1_code 65 = .ok (.iadd, 1) := by decide +kernel
theorem d1_66 : decode prog_23_method_1_code 66 = .ok (.invokestatic 25, 3) := by decide +kernel
theorem d1_69 : decode prog_23_method_1_code 69 = .ok (.putfield 31, 3) := by decide +kernel
theorem d1_72 : decode prog_23_method_1_code 72 = .ok (.aload_n 0, 1) := by decide +kernel
theorem d1_73 : decode prog_23_method_1_code 73 = .ok (.iload_n 2, 1) := by decide +kernel
theorem d1_74 : decode prog_23_method_1_code 74 = .ok (.putfield 35, 3) := by decide +kernel
theorem d1_77 : decode prog_23_method_1_code 77 = .ok (.aload_n 0, 1) := by decide +kernel
theorem d1_78 : decode prog_23_method_1_code 78 = .ok (.iload_n 3, 1) := by decide +kernel
theorem d1_79 : decode prog_23_method_1_code 79 = .ok (.putfield 39, 3) := by decide +kernel
theorem d1_82 : decode prog_23_method_1_code 82 = .ok (.aload_n 0, 1) := by decide +kernel
theorem d1_83 : decode prog_23_method_1_code 83 = .ok (.lconst 1, 1) := by decide +kernel
theorem d1_84 : decode prog_23_method_1_code 84 = .ok (.iload_n 2, 1) := by decide +kernel
theorem d1_85 : decode prog_23_method_1_code 85 = .ok (.lshl, 1) := by decide +kernel
theorem d1_86 : decode prog_23_method_1_code 86 = .ok (.lconst 1, 1) := by decide +kernel
theorem d1_87 : decode prog_23_method_1_code 87 = .ok (.lsub, 1) := by decide +kernel
theorem d1_88 : decode prog_23_method_1_code 88 = .ok (.putfield 42, 3) := by decide +kernel
theorem d1_91 : decode prog_23_method_1_code 91 = .ok (.return_, 1) := by decide +kernel
theorem ef_1 (m : MethodId) (zo : Addr) (za : Addr) (zw : Int32) (zn : Int32) : entryFrame m #[(.ref zo), (.ref za), (.int zw), (.int zn)] 4 = mkF m 0 #[.val (.ref zo), .val (.ref za), .val (.int zw), .val (.int zn)] [] := by first | (simp [entryFrame, mkF, argsToLocals, Value.category]; done) | rfl
def Q1 (Z : State) (zo : Addr) (za : Addr) (zw : Int32) (zn : Int32) (u0 : Value) (u1 : Value) (u2 : Value) (u3 : Value) (zk : ClassId) (zs : Int32) (zl : List Int64) (h0 : Heap) (n0 : Nat) (v : Option Value) (h : Heap) (L : List Loc) : Prop := ∃ (rb : Addr), ∃ (rk : ClassId), v = none ∧ Fr n0 L ∧ Keep h0 h [zo] ∧ n0 ≤ rb ∧ h0.size ≤ rb ∧ Exa Z h zo "com/example/bijecta/bijecta/mph/PackedArray" ∧ Fld Z h zo "com/example/bijecta/bijecta/mph/PackedArray" "words" "[J" (.ref rb) ∧ Fld Z h zo "com/example/bijecta/bijecta/mph/PackedArray" "width" "I" (.int zw) ∧ Fld Z h zo "com/example/bijecta/bijecta/mph/PackedArray" "mask" "J" (.long (own_mk zw)) ∧ Arv Z h rb rk .long (zs + (1 : Int32)) (List.map Value.long zl) (.long (0 : Int64))
set_option maxRecDepth 65536 in
set_option maxHeartbeats 40000000 in
theorem rm1 (l : Launch) (Z : State) (a0 : Array Value) (hw : ∀ d ∈ tables_1, d.before a0 Z = true) (ws : List Jvm.Cond) (zo : Addr) (za : Addr) (zw : Int32) (zn : Int32) (u0 : Value) (u1 : Value) (u2 : Value) (u3 : Value) (zk : ClassId) (zs : Int32) (zl : List Int64) (h0 : Heap) (n0 : Nat) (Z0 : n0 ≤ h0.size) (P0 : Exa Z h0 zo "com/example/bijecta/bijecta/mph/PackedArray") (P1 : Fld Z h0 zo "com/example/bijecta/bijecta/mph/PackedArray" "words" "[J" u0) (P2 : Fld Z h0 zo "com/example/bijecta/bijecta/mph/PackedArray" "width" "I" u1) (P3 : Fld Z h0 zo "com/example/bijecta/bijecta/mph/PackedArray" "length" "I" u2) (P4 : Fld Z h0 zo "com/example/bijecta/bijecta/mph/PackedArray" "mask" "J" u3) (P5 : Arv Z h0 za zk .long zs (List.map Value.long zl) (.long (0 : Int64))) (g_zo : n0 ≤ zo) (hne : zo ≠ za) (hl : zl.length = zs.toNatClampNeg) (hs0 : 0 ≤ zs.toInt) (hs2 : zs.toInt ≤ 2) (hw0 : ¬ zw < 0) (hw1 : ¬ (32 : Int32) < zw) (hn0 : ¬ zn < 0) (hwc : zs = own_wc zw zn) :
    MetFree l (⟨"com/example/bijecta/bijecta/mph/PackedArray", "<init>", "([JII)V"⟩ : MethodName) (head1 (Jvm.Cond.code (⟨"com/example/bijecta/bijecta/mph/PackedArray", "<init>", "([JII)V"⟩ : MethodName) prog_23_method_1_code 4 none :: ws) ({ frames := 2, cells := 1, slots := 3, locals := 55 } : Room)) (fun a U => a = #[(.ref zo), (.ref za), (.int zw), (.int zn)] ∧ Z.Warmed39 U.vm ∧ U.heap = h0) (fun _ _ _ _ _ => True) (fun _ U o U' => ∃ v L, o = .returned v ∧ Q1 Z zo za zw zn u0 u1 u2 u3 zk zs zl h0 n0 v U'.heap L ∧ FrameEnd U o U' L ({ frames := 2, cells := 1, slots := 3, locals := 55 } : Room).cells ({ frames := 2, cells := 1, slots := 3, locals := 55 } : Room).slots) := by
  refine MetFree.of_bodySF (plainFor_of_name own_pn26658) hisR ?_
  intro p e s m args below meth c s₁ Bd hml0 hP hK
  obtain ⟨rfl, hZ, hh⟩ := hP
  have hx := Bd.exec
  have hby := Bd.bytes
  have hml : c.maxLocals = 4 := hml0
  have hown : s.vm.findClass "com/example/bijecta/bijecta/mph/PackedArray" = some m.cls := findClass_of_methodNamed Bd.named
  have hnm := (name_of_methodNamed Bd.named Bd.method).1
  have X0 : Stand p l e ({ frames := 2, cells := 1, slots := 3, locals := 55 } : Room) s m #[(.ref zo), (.ref za), (.int zw), (.int zn)] below meth c s₁ [] 0 0 := Stand.of_body Bd
  have e0 : s₁.heap = h0 := by rw [← hh, Bd.state]; rfl
  have N0 := Fr.nil n0
  have K0 := Keep.refl h0 [zo]
  show own_WP p e below (own_E s (Q1 Z zo za zw zn u0 u1 u2 u3 zk zs zl h0 n0) 1 3) s₁ (entryFrame m #[(.ref zo), (.ref za), (.int zw), (.int zn)] 4)
  rw [ef_1 m zo za zw zn]
  show own_WP _ _ _ _ s₁ (mkF m 0 #[.val (.ref zo), .val (.ref za), .val (.int zw), .val (.int zn)] [])
  refine own_go (fun t k => XS.aloadN X0.here hx rfl (hb hby d1_0) rfl rfl  k) ?_
  show own_WP _ _ _ _ s₁ (mkF m 1 #[.val (.ref zo), .val (.ref za), .val (.int zw), .val (.int zn)] [(.ref zo)])
  obtain ⟨T1, X1, e1, st1⟩ := initO X0 hx hZ hown (hw _ (List.mem_of_getElem? (i := 8) rfl)) (hw _ (List.mem_of_getElem? (i := 9) rfl)) (hw _ (List.mem_of_getElem? (i := 10) rfl)) e0 (g := (mkF m 1 #[.val (.ref zo), .val (.ref za), .val (.int zw), .val (.int zn)] [(.ref zo)])) rfl (by rw [hml]; rfl) rfl (hb hby d1_1) (by decide) (W := 0) (by show 2 * 0 + _ ≤ _; exact Nat.le_of_eq rfl) (by decide)
  refine own_go st1 ?_
  show own_WP _ _ _ _ T1 (mkF m 4 #[.val (.ref zo), .val (.ref za), .val (.int zw), .val (.int zn)] [])
  refine own_go (fun t k => XS.iloadN X1.here hx rfl (hb hby d1_4) rfl  k) ?_
  show own_WP _ _ _ _ T1 (mkF m 5 #[.val (.ref zo), .val (.ref za), .val (.int zw), .val (.int zn)] [(.int zw)])
  have hc5 : ¬ (zw < (0 : Int32)) := by
    exact hw0
  refine own_go (fun t k => XS.ifNo X1.here hx rfl (hb hby d1_5) rfl ((if0 _ _).trans (flt hc5).1) k) ?_
  show own_WP _ _ _ _ T1 (mkF m 8 #[.val (.ref zo), .val (.ref za), .val (.int zw), .val (.int zn)] [])
  refine own_go (fun t k => XS.iloadN X1.here hx rfl (hb hby d1_8) rfl  k) ?_
  show own_WP _ _ _ _ T1 (mkF m 9 #[.val (.ref zo), .val (.ref za), .val (.int zw), .val (.int zn)] [(.int zw)])
  refine own_go (fun t k => XS.bipush X1.here hx rfl (hb hby d1_9) k) ?_
  show own_WP _ _ _ _ T1 (mkF m 11 #[.val (.ref zo), .val (.ref za), .val (.int zw), .val (.int zn)] [(.int (32 : Int32)), (.int zw)])
  have hc11 : ¬ ((32 : Int32) < zw) := by
    exact hw1
  refine own_go (fun t k => XS.icmpNo X1.here hx rfl (hb hby d1_11) rfl (flt hc11).2.2.1 k) ?_
  show own_WP _ _ _ _ T1 (mkF m 14 #[.val (.ref zo), .val (.ref za), .val (.int zw), .val (.int zn)] [])
  refine own_go (fun t k => XS.iloadN X1.here hx rfl (hb hby d1_14) rfl  k) ?_
  show own_WP _ _ _ _ T1 (mkF m 15 #[.val (.ref zo), .val (.ref za), .val (.int zw), .val (.int zn)] [(.int zn)])
  have hc15 : ¬ (zn < (0 : Int32)) := by
    exact hn0
  refine own_go (fun t k => XS.ifYes X1.here hx rfl (pc0 := 15) (pc' := 33) rfl (hb hby d1_15) rfl ((if0 _ _).trans (flt hc15).2.1) (by decide) (by decide) k) ?_
  show own_WP _ _ _ _ T1 (mkF m 33 #[.val (.ref zo), .val (.ref za), .val (.int zw), .val (.int zn)] [])
  refine own_go (fun t k => XS.aloadN X1.here hx rfl (hb hby d1_33) rfl rfl  k) ?_
  show own_WP _ _ _ _ T1 (mkF m 34 #[.val (.ref zo), .val (.ref za), .val (.int zw), .val (.int zn)] [(.ref za)])
  refine own_len X1 hx hZ e1 P5 (hb hby d1_34) ?_
  show own_WP _ _ _ _ T1 (mkF m 35 #[.val (.ref zo), .val (.ref za), .val (.int zw), .val (.int zn)] [(.int zs)])
  refine own_go (fun t k => XS.iloadN X1.here hx rfl (hb hby d1_35) rfl  k) ?_
  show own_WP _ _ _ _ T1 (mkF m 36 #[.val (.ref zo), .val (.ref za), .val (.int zw), .val (.int zn)] [(.int zw), (.int zs)])
  refine own_go (fun t k => XS.iloadN X1.here hx rfl (hb hby d1_36) rfl  k) ?_
  show own_WP _ _ _ _ T1 (mkF m 37 #[.val (.ref zo), .val (.ref za), .val (.int zw), .val (.int zn)] [(.int zn), (.int zw), (.int zs)])
  obtain ⟨_, _, ⟨T2, L2, k2, n2⟩, -, X2, ⟨Lc2, hQ2, l2, y2, z2⟩, st2⟩ := Jvm.LawKit.callS X1 hx (y := (⟨"com/example/bijecta/bijecta/mph/PackedArray", "wordCount", "(II)I"⟩ : MethodName)) hown (mvT hZ (hw _ (List.mem_of_getElem? (i := 11) rfl))) (mvT hZ (hw _ (List.mem_of_getElem? (i := 12) rfl))) (mvT hZ (hw _ (List.mem_of_getElem? (i := 3) rfl))) (mvT hZ (hw _ (List.mem_of_getElem? (i := 13) rfl))) (by decide) (backOf (W := 1) (rm3 l Z a0 hw [] zw zn  h0 n0 (own_le Z0 K0) ) hZ (hw _ (List.mem_of_getElem? (i := 13) rfl)) (hw _ (List.mem_of_getElem? (i := 3) rfl)) (by decide) (by decide)) (g := (mkF m 37 #[.val (.ref zo), .val (.ref za), .val (.int zw), .val (.int zn)] [(.int zn), (.int zw), (.int zs)])) rfl (by rw [hml]; rfl) (argsL := [(.int zw), (.int zn)]) (rest := [(.int zs)]) (lenOf own_pd31088 rfl) rfl (by show 2 * 0 + _ ≤ _; exact Nat.le_of_eq rfl) (hb hby d1_37) (fun _ _ => ⟨rfl, e1, (by decide : 0 + 0 ≤ _), (by decide : 0 + 0 ≤ _)⟩)
  dsimp only [Pt.U, Pt.locs, Pt.cells, Pt.slots] at X2 l2 y2 z2 st2 hQ2
  subst l2 y2 z2
  obtain ⟨rfl, N2q, eq2⟩ := hQ2
  have N2 := Fr.app N0 N2q
  refine own_go st2 ?_
  show own_WP _ _ _ _ T2 (mkF m 40 #[.val (.ref zo), .val (.ref za), .val (.int zw), .val (.int zn)] [(.int (own_wc zw zn)), (.int zs)])
  have hc40 : zs = (own_wc zw zn) := by
    exact hwc
  refine own_go (fun t k => XS.icmpYes X2.here hx rfl (pc0 := 40) (pc' := 60) rfl (hb hby d1_40) rfl (teq hc40).1 (by decide) (by decide) k) ?_
  show own_WP _ _ _ _ T2 (mkF m 60 #[.val (.ref zo), .val (.ref za), .val (.int zw), .val (.int zn)] [])
  refine own_go (fun t k => XS.aloadN X2.here hx rfl (hb hby d1_60) rfl rfl  k) ?_
  show own_WP _ _ _ _ T2 (mkF m 61 #[.val (.ref zo), .val (.ref za), .val (.int zw), .val (.int zn)] [(.ref zo)])
  refine own_go (fun t k => XS.aloadN X2.here hx rfl (hb hby d1_61) rfl rfl  k) ?_
  show own_WP _ _ _ _ T2 (mkF m 62 #[.val (.ref zo), .val (.ref za), .val (.int zw), .val (.int zn)] [(.ref za), (.ref zo)])
  refine own_go (fun t k => XS.aloadN X2.here hx rfl (hb hby d1_62) rfl rfl  k) ?_
  show own_WP _ _ _ _ T2 (mkF m 63 #[.val (.ref zo), .val (.ref za), .val (.int zw), .val (.int zn)] [(.ref za), (.ref za), (.ref zo)])
  refine own_len X2 hx hZ eq2 P5 (hb hby d1_63) ?_
  show own_WP _ _ _ _ T2 (mkF m 64 #[.val (.ref zo), .val (.ref za), .val (.int zw), .val (.int zn)] [(.int zs), (.ref za), (.ref zo)])
  refine own_go (fun t k => XS.iconst X2.here hx rfl (hb hby d1_64) k) ?_
  show own_WP _ _ _ _ T2 (mkF m 65 #[.val (.ref zo), .val (.ref za), .val (.int zw), .val (.int zn)] [(.int (1 : Int32)), (.int zs), (.ref za), (.ref zo)])
  refine own_go (fun t k => XS.iadd X2.here hx rfl (hb hby d1_65) rfl k) ?_
  show own_WP _ _ _ _ T2 (mkF m 66 #[.val (.ref zo), .val (.ref za), .val (.int zw), .val (.int zn)] [(.int (zs + (1 : Int32))), (.ref za), (.ref zo)])
  obtain ⟨_, _, ⟨T3, L3, k3, n3⟩, -, X3, ⟨Lc3, hQ3, l3, y3, z3⟩, st3⟩ := Jvm.LawKit.callS X2 hx (y := (⟨"java/util/Arrays", "copyOf", "([JI)[J"⟩ : MethodName)) hown (mvT hZ (hw _ (List.mem_of_getElem? (i := 15) rfl))) (mvT hZ (hw _ (List.mem_of_getElem? (i := 16) rfl))) (mvT hZ (hw _ (List.mem_of_getElem? (i := 17) rfl))) (mvT hZ (hw _ (List.mem_of_getElem? (i := 18) rfl))) (by decide) (backOf (W := 1) (rm4 l Z a0 hw [] za (zs + (1 : Int32)) zk zs zl h0 n0 (own_le Z0 K0) P5 (show zl.length = zs.toNatClampNeg from hl) (show 0 ≤ zs.toInt from hs0) (show zs.toInt ≤ 2 from hs2) (show (zs + (1 : Int32)) = zs + 1 from rfl)) hZ (hw _ (List.mem_of_getElem? (i := 18) rfl)) (hw _ (List.mem_of_getElem? (i := 17) rfl)) (by decide) (by decide)) (g := (mkF m 66 #[.val (.ref zo), .val (.ref za), .val (.int zw), .val (.int zn)] [(.int (zs + (1 : Int32))), (.ref za), (.ref zo)])) rfl (by rw [hml]; rfl) (argsL := [(.ref za), (.int (zs + (1 : Int32)))]) (rest := [(.ref zo)]) (lenOf own_pd44434 rfl) rfl (by show 2 * 0 + _ ≤ _; exact Nat.le_of_eq rfl) (hb hby d1_66) (fun _ _ => ⟨rfl, eq2, (by decide : 0 + 1 ≤ _), (by decide : 0 + 3 ≤ _)⟩)
  dsimp only [Pt.U, Pt.locs, Pt.cells, Pt.slots] at X3 l3 y3 z3 st3 hQ3
  subst l3 y3 z3
  obtain ⟨zr, zq, rfl, N3q, Kc3, g_zr, szc_zr, f4⟩ := hQ3
  have N3 := Fr.app N2 N3q
  refine own_go st3 ?_
  have sz_zr : h0.size ≤ zr := Nat.le_trans K0.1 szc_zr
  have ne_zo_zr : zo ≠ zr := Nat.ne_of_lt (Nat.lt_of_lt_of_le P0.lt szc_zr)
  have ne_za_zr : za ≠ zr := Nat.ne_of_lt (Nat.lt_of_lt_of_le P5.lt szc_zr)
  have f5 : Exa Z T3.heap zo "com/example/bijecta/bijecta/mph/PackedArray" := P0.keep Kc3
  have f6 : Fld Z T3.heap zo "com/example/bijecta/bijecta/mph/PackedArray" "words" "[J" u0 := P1.keep Kc3 own_nm0
  have f7 : Fld Z T3.heap zo "com/example/bijecta/bijecta/mph/PackedArray" "width" "I" u1 := P2.keep Kc3 own_nm0
  have f8 : Fld Z T3.heap zo "com/example/bijecta/bijecta/mph/PackedArray" "length" "I" u2 := P3.keep Kc3 own_nm0
  have f9 : Fld Z T3.heap zo "com/example/bijecta/bijecta/mph/PackedArray" "mask" "J" u3 := P4.keep Kc3 own_nm0
  have f10 : Arv Z T3.heap za zk .long zs (List.map Value.long zl) (.long (0 : Int64)) := P5.keep Kc3 own_nm0
  have K11 : Keep h0 T3.heap [zo] := K0.trans Kc3 (fun x hx => by cases hx)
  show own_WP _ _ _ _ T3 (mkF m 69 #[.val (.ref zo), .val (.ref za), .val (.int zw), .val (.int zn)] [(.ref zr), (.ref zo)])
  obtain ⟨T12, h12, X12, e12, W12, st12⟩ := putF X3 hx hZ hown (host := "") (Or.inl (hw _ (List.mem_of_getElem? (i := 27) rfl))) Via.refl rfl f6 f5 (Or.inr ⟨(hw _ (List.mem_of_getElem? (i := 28) rfl)), rfl, hnm⟩) (hw _ (List.mem_of_getElem? (i := 2) rfl)) (ty := (.array .long)) (by decide) rfl rfl (g := (mkF m 69 #[.val (.ref zo), .val (.ref za), .val (.int zw), .val (.int zn)] [(.ref zr), (.ref zo)])) rfl rfl (hb hby d1_69)
  refine own_go st12 ?_
  have f13 : Fld Z h12 zo "com/example/bijecta/bijecta/mph/PackedArray" "words" "[J" (.ref zr) := f6.same W12
  have f14 : Exa Z h12 zo "com/example/bijecta/bijecta/mph/PackedArray" := f5.wr W12
  have f16 : Fld Z h12 zo "com/example/bijecta/bijecta/mph/PackedArray" "width" "I" u1 := f7.other W12 (Or.inr (slot_ne (Or.inr (hw _ (List.mem_of_getElem? (i := 30) rfl))) (Or.inr (hw _ (List.mem_of_getElem? (i := 28) rfl))) (by decide) (t := .int) (t' := (.array .long)) (by decide) (by decide)))
  have f17 : Fld Z h12 zo "com/example/bijecta/bijecta/mph/PackedArray" "length" "I" u2 := f8.other W12 (Or.inr (slot_ne (Or.inr (hw _ (List.mem_of_getElem? (i := 32) rfl))) (Or.inr (hw _ (List.mem_of_getElem? (i := 28) rfl))) (by decide) (t := .int) (t' := (.array .long)) (by decide) (by decide)))
  have f18 : Fld Z h12 zo "com/example/bijecta/bijecta/mph/PackedArray" "mask" "J" u3 := f9.other W12 (Or.inr (slot_ne (Or.inr (hw _ (List.mem_of_getElem? (i := 34) rfl))) (Or.inr (hw _ (List.mem_of_getElem? (i := 28) rfl))) (by decide) (t := .long) (t' := (.array .long)) (by decide) (by decide)))
  have f19 : Arv Z h12 za zk .long zs (List.map Value.long zl) (.long (0 : Int64)) := f10.other W12 (Ne.symm hne)
  have f20 : Arv Z h12 zr zq .long (zs + (1 : Int32)) (List.map Value.long zl) (.long (0 : Int64)) := f4.other W12 (Ne.symm ne_zo_zr)
  have K21 : Keep h0 h12 [zo] := K11.wr W12 (Or.inl (List.mem_of_getElem? (i := 0) rfl))
  have N22 := Fr.snoc X12 N3 g_zo
  show own_WP _ _ _ _ T12 (mkF m 72 #[.val (.ref zo), .val (.ref za), .val (.int zw), .val (.int zn)] [])
  refine own_go (fun t k => XS.aloadN X12.here hx rfl (hb hby d1_72) rfl rfl  k) ?_
  show own_WP _ _ _ _ T12 (mkF m 73 #[.val (.ref zo), .val (.ref za), .val (.int zw), .val (.int zn)] [(.ref zo)])
  refine own_go (fun t k => XS.iloadN X12.here hx rfl (hb hby d1_73) rfl  k) ?_
  show own_WP _ _ _ _ T12 (mkF m 74 #[.val (.ref zo), .val (.ref za), .val (.int zw), .val (.int zn)] [(.int zw), (.ref zo)])
  obtain ⟨T23, h23, X23, e23, W23, st23⟩ := putF X12 hx hZ hown (host := "") (Or.inl (hw _ (List.mem_of_getElem? (i := 29) rfl))) Via.refl e12 f16 f14 (Or.inr ⟨(hw _ (List.mem_of_getElem? (i := 30) rfl)), rfl, hnm⟩) (hw _ (List.mem_of_getElem? (i := 2) rfl)) (ty := .int) (by decide) rfl rfl (g := (mkF m 74 #[.val (.ref zo), .val (.ref za), .val (.int zw), .val (.int zn)] [(.int zw), (.ref zo)])) rfl rfl (hb hby d1_74)
  refine own_go st23 ?_
  have f24 : Fld Z h23 zo "com/example/bijecta/bijecta/mph/PackedArray" "width" "I" (.int zw) := f16.same W23
  have f25 : Exa Z h23 zo "com/example/bijecta/bijecta/mph/PackedArray" := f14.wr W23
  have f27 : Fld Z h23 zo "com/example/bijecta/bijecta/mph/PackedArray" "length" "I" u2 := f17.other W23 (Or.inr (slot_ne (Or.inr (hw _ (List.mem_of_getElem? (i := 32) rfl))) (Or.inr (hw _ (List.mem_of_getElem? (i := 30) rfl))) (by decide) (t := .int) (t' := .int) (by decide) (by decide)))
  have f28 : Fld Z h23 zo "com/example/bijecta/bijecta/mph/PackedArray" "mask" "J" u3 := f18.other W23 (Or.inr (slot_ne (Or.inr (hw _ (List.mem_of_getElem? (i := 34) rfl))) (Or.inr (hw _ (List.mem_of_getElem? (i := 30) rfl))) (by decide) (t := .long) (t' := .int) (by decide) (by decide)))
  have f29 : Arv Z h23 za zk .long zs (List.map Value.long zl) (.long (0 : Int64)) := f19.other W23 (Ne.symm hne)
  have f30 : Arv Z h23 zr zq .long (zs + (1 : Int32)) (List.map Value.long zl) (.long (0 : Int64)) := f20.other W23 (Ne.symm ne_zo_zr)
  have f31 : Fld Z h23 zo "com/example/bijecta/bijecta/mph/PackedArray" "words" "[J" (.ref zr) := f13.other W23 (Or.inr (slot_ne (Or.inr (hw _ (List.mem_of_getElem? (i := 28) rfl))) (Or.inr (hw _ (List.mem_of_getElem? (i := 30) rfl))) (by decide) (t := (.array .long)) (t' := .int) (by decide) (by decide)))
  have K32 : Keep h0 h23 [zo] := K21.wr W23 (Or.inl (List.mem_of_getElem? (i := 0) rfl))
  have N33 := Fr.snoc X23 N22 g_zo
  show own_WP _ _ _ _ T23 (mkF m 77 #[.val (.ref zo), .val (.ref za), .val (.int zw), .val (.int zn)] [])
  refine own_go (fun t k => XS.aloadN X23.here hx rfl (hb hby d1_77) rfl rfl  k) ?_
  show own_WP _ _ _ _ T23 (mkF m 78 #[.val (.ref zo), .val (.ref za), .val (.int zw), .val (.int zn)] [(.ref zo)])
  refine own_go (fun t k => XS.iloadN X23.here hx rfl (hb hby d1_78) rfl  k) ?_
  show own_WP _ _ _ _ T23 (mkF m 79 #[.val (.ref zo), .val (.ref za), .val (.int zw), .val (.int zn)] [(.int zn), (.ref zo)])
  obtain ⟨T34, h34, X34, e34, W34, st34⟩ := putF X23 hx hZ hown (host := "") (Or.inl (hw _ (List.mem_of_getElem? (i := 31) rfl))) Via.refl e23 f27 f25 (Or.inr ⟨(hw _ (List.mem_of_getElem? (i := 32) rfl)), rfl, hnm⟩) (hw _ (List.mem_of_getElem? (i := 2) rfl)) (ty := .int) (by decide) rfl rfl (g := (mkF m 79 #[.val (.ref zo), .val (.ref za), .val (.int zw), .val (.int zn)] [(.int zn), (.ref zo)])) rfl rfl (hb hby d1_79)
  refine own_go st34 ?_
  have f35 : Fld Z h34 zo "com/example/bijecta/bijecta/mph/PackedArray" "length" "I" (.int zn) := f27.same W34
  have f36 : Exa Z h34 zo "com/example/bijecta/bijecta/mph/PackedArray" := f25.wr W34
  have f38 : Fld Z h34 zo "com/example/bijecta/bijecta/mph/PackedArray" "mask" "J" u3 := f28.other W34 (Or.inr (slot_ne (Or.inr (hw _ (List.mem_of_getElem? (i := 34) rfl))) (Or.inr (hw _ (List.mem_of_getElem? (i := 32) rfl))) (by decide) (t := .long) (t' := .int) (by decide) (by decide)))
  have f39 : Arv Z h34 za zk .long zs (List.map Value.long zl) (.long (0 : Int64)) := f29.other W34 (Ne.symm hne)
  have f40 : Arv Z h34 zr zq .long (zs + (1 : Int32)) (List.map Value.long zl) (.long (0 : Int64)) := f30.other W34 (Ne.symm ne_zo_zr)
  have f41 : Fld Z h34 zo "com/example/bijecta/bijecta/mph/PackedArray" "words" "[J" (.ref zr) := f31.other W34 (Or.inr (slot_ne (Or.inr (hw _ (List.mem_of_getElem? (i := 28) rfl))) (Or.inr (hw _ (List.mem_of_getElem? (i := 32) rfl))) (by decide) (t := (.array .long)) (t' := .int) (by decide) (by decide)))
  have f42 : Fld Z h34 zo "com/example/bijecta/bijecta/mph/PackedArray" "width" "I" (.int zw) := f24.other W34 (Or.inr (slot_ne (Or.inr (hw _ (List.mem_of_getElem? (i := 30) rfl))) (Or.inr (hw _ (List.mem_of_getElem? (i := 32) rfl))) (by decide) (t := .int) (t' := .int) (by decide) (by decide)))
  have K43 : Keep h0 h34 [zo] := K32.wr W34 (Or.inl (List.mem_of_getElem? (i := 0) rfl))
  have N44 := Fr.snoc X34 N33 g_zo
  show own_WP _ _ _ _ T34 (mkF m 82 #[.val (.ref zo), .val (.ref za), .val (.int zw), .val (.int zn)] [])
  refine own_go (fun t k => XS.aloadN X34.here hx rfl (hb hby d1_82) rfl rfl  k) ?_
  show own_WP _ _ _ _ T34 (mkF m 83 #[.val (.ref zo), .val (.ref za), .val (.int zw), .val (.int zn)] [(.ref zo)])
  refine own_go (fun t k => XS.lconst X34.here hx rfl (hb hby d1_83) k) ?_
  show own_WP _ _ _ _ T34 (mkF m 84 #[.val (.ref zo), .val (.ref za), .val (.int zw), .val (.int zn)] [(.long (1 : Int64)), (.ref zo)])
  refine own_go (fun t k => XS.iloadN X34.here hx rfl (hb hby d1_84) rfl  k) ?_
  show own_WP _ _ _ _ T34 (mkF m 85 #[.val (.ref zo), .val (.ref za), .val (.int zw), .val (.int zn)] [(.int zw), (.long (1 : Int64)), (.ref zo)])
  refine own_go (fun t k => XS.lshl X34.here hx rfl (hb hby d1_85) rfl k) ?_
  show own_WP _ _ _ _ T34 (mkF m 86 #[.val (.ref zo), .val (.ref za), .val (.int zw), .val (.int zn)] [(.long ((1 : Int64) <<< (zw &&& 0x3f).toInt64)), (.ref zo)])
  refine own_go (fun t k => XS.lconst X34.here hx rfl (hb hby d1_86) k) ?_
  show own_WP _ _ _ _ T34 (mkF m 87 #[.val (.ref zo), .val (.ref za), .val (.int zw), .val (.int zn)] [(.long (1 : Int64)), (.long ((1 : Int64) <<< (zw &&& 0x3f).toInt64)), (.ref zo)])
  refine own_go (fun t k => XS.lsub X34.here hx rfl (hb hby d1_87) rfl k) ?_
  show own_WP _ _ _ _ T34 (mkF m 88 #[.val (.ref zo), .val (.ref za), .val (.int zw), .val (.int zn)] [(.long (((1 : Int64) <<< (zw &&& 0x3f).toInt64) - (1 : Int64))), (.ref zo)])
  obtain ⟨T45, h45, X45, e45, W45, st45⟩ := putF X34 hx hZ hown (host := "") (Or.inl (hw _ (List.mem_of_getElem? (i := 33) rfl))) Via.refl e34 f38 f36 (Or.inr ⟨(hw _ (List.mem_of_getElem? (i := 34) rfl)), rfl, hnm⟩) (hw _ (List.mem_of_getElem? (i := 2) rfl)) (ty := .long) (by decide) rfl rfl (g := (mkF m 88 #[.val (.ref zo), .val (.ref za), .val (.int zw), .val (.int zn)] [(.long (((1 : Int64) <<< (zw &&& 0x3f).toInt64) - (1 : Int64))), (.ref zo)])) rfl rfl (hb hby d1_88)
  refine own_go st45 ?_
  have f46 : Fld Z h45 zo "com/example/bijecta/bijecta/mph/PackedArray" "mask" "J" (.long (((1 : Int64) <<< (zw &&& 0x3f).toInt64) - (1 : Int64))) := f38.same W45
  have f47 : Exa Z h45 zo "com/example/bijecta/bijecta/mph/PackedArray" := f36.wr W45
  have f49 : Arv Z h45 za zk .long zs (List.map Value.long zl) (.long (0 : Int64)) := f39.other W45 (Ne.symm hne)
  have f50 : Arv Z h45 zr zq .long (zs + (1 : Int32)) (List.map Value.long zl) (.long (0 : Int64)) := f40.other W45 (Ne.symm ne_zo_zr)
  have f51 : Fld Z h45 zo "com/example/bijecta/bijecta/mph/PackedArray" "words" "[J" (.ref zr) := f41.other W45 (Or.inr (slot_ne (Or.inr (hw _ (List.mem_of_getElem? (i := 28) rfl))) (Or.inr (hw _ (List.mem_of_getElem? (i := 34) rfl))) (by decide) (t := (.array .long)) (t' := .long) (by decide) (by decide)))
  have f52 : Fld Z h45 zo "com/example/bijecta/bijecta/mph/PackedArray" "width" "I" (.int zw) := f42.other W45 (Or.inr (slot_ne (Or.inr (hw _ (List.mem_of_getElem? (i := 30) rfl))) (Or.inr (hw _ (List.mem_of_getElem? (i := 34) rfl))) (by decide) (t := .int) (t' := .long) (by decide) (by decide)))
  have f53 : Fld Z h45 zo "com/example/bijecta/bijecta/mph/PackedArray" "length" "I" (.int zn) := f35.other W45 (Or.inr (slot_ne (Or.inr (hw _ (List.mem_of_getElem? (i := 32) rfl))) (Or.inr (hw _ (List.mem_of_getElem? (i := 34) rfl))) (by decide) (t := .int) (t' := .long) (by decide) (by decide)))
  have K54 : Keep h0 h45 [zo] := K43.wr W45 (Or.inl (List.mem_of_getElem? (i := 0) rfl))
  have N55 := Fr.snoc X45 N44 g_zo
  show own_WP _ _ _ _ T45 (mkF m 91 #[.val (.ref zo), .val (.ref za), .val (.int zw), .val (.int zn)] [])
  refine own_retV X45 hx Bd.notSynchronized Bd.returns (hb hby d1_91) (by decide) (by decide) ?_
  rw [e45]
  exact ⟨zr, zq, rfl, N55, K54, g_zr, sz_zr, f47, f51, f52, ((show ((.long (((1 : Int64) <<< (zw &&& 0x3f).toInt64) - (1 : Int64))) : Value) = (.long (own_mk zw)) from by rfl) ▸ f46), f50⟩
theorem d6_0 : decode prog_23_method_4_code 0 = .ok (.iload_n 1, 1) := by decide +kernel
theorem d6_1 : decode prog_23_method_4_code 1 = .ok (.i2l, 1) := by decide +kernel
theorem d6_2 : decode prog_23_method_4_code 2 = .ok (.aload_n 0, 1) := by decide +kernel
theorem d6_3 : decode prog_23_method_4_code 3 = .ok (.getfield 35, 3) := by decide +kernel
theorem d6_6 : decode prog_23_method_4_code 6 = .ok (.i2l, 1) := by decide +kernel
theorem d6_7 : decode prog_23_method_4_code 7 = .ok (.lmul, 1) := by decide +kernel
theorem d6_8 : decode prog_23_method_4_code 8 = .ok (.lstore_n 2, 1) := by decide +kernel
theorem d6_9 : decode prog_23_method_4_code 9 = .ok (.lload_n 2, 1) := by decide +kernel
theorem d6_10 : decode prog_23_method_4_code 10 = .ok (.bipush 6, 2) := by decide +kernel
theorem d6_12 : decode prog_23_method_4_code 12 = .ok (.lushr, 1) := by decide +kernel
theorem d6_13 : decode prog_23_method_4_code 13 = .ok (.l2i, 1) := by decide +kernel
theorem d6_14 : decode prog_23_method_4_code 14 = .ok (.istore 4, 2) := by decide +kernel
theorem d6_16 : decode prog_23_method_4_code 16 = .ok (.lload_n 2, 1) := by decide +kernel
theorem d6_17 : decode prog_23_method_4_code 17 = .ok (.ldc2_w 60, 3) := by decide +kernel
theorem d6_20 : decode prog_23_method_4_code 20 = .ok (.land, 1) := by decide +kernel
theorem d6_21 : decode prog_23_method_4_code 21 = .ok (.l2i, 1) := by decide +kernel
theorem d6_22 : decode prog_23_method_4_code 22 = .ok (.istore 5, 2) := by decide +kernel
theorem d6_24 : decode prog_23_method_4_code 24 = .ok (.aload_n 0, 1) := by decide +kernel
theorem d6_25 : decode prog_23_method_4_code 25 = .ok (.getfield 31, 3) := by decide +kernel
theorem d6_28 : decode prog_23_method_4_code 28 = .ok (.iload 4, 2) := by decide +kernel
theorem d6_30 : decode prog_23_method_4_code 30 = .ok (.laload, 1) := by decide +kernel
theorem d6_31 : decode prog_23_method_4_code 31 = .ok (.iload 5, 2) := by decide +kernel
theorem d6_33 : decode prog_23_method_4_code 33 = .ok (.lushr, 1) := by decide +kernel
theorem d6_34 : decode prog_23_method_4_code 34 = .ok (.lstore 6, 2) := by decide +kernel
theorem d6_36 : decode prog_23_method_4_code 36 = .ok (.iload 5, 2) := by decide +kernel
theorem d6_38 : decode prog_23_method_4_code 38 = .ok (.aload_n 0, 1) := by decide +kernel
theorem d6_39 : decode prog_23_method_4_code 39 = .ok (.getfield 35, 3) := by decide +kernel
theorem d6_42 : decode prog_23_method_4_code 42 = .ok (.iadd, 1) := by decide +kernel
theorem d6_43 : decode prog_23_method_4_code 43 = .ok (.bipush 64, 2) := by decide +kernel
theorem d6_45 : decode prog_23_method_4_code 45 = .ok (.if_icmp .le 23, 3) := by decide +kernel
theorem d6_48 : decode prog_23_method_4_code 48 = .ok (.lload 6, 2) := by decide +kernel
theorem d6_50 : decode prog_23_method_4_code 50 = .ok (.aload_n 0, 1) := by decide +kernel
theorem d6_51 : decode prog_23_method_4_code 51 = .ok (.getfield 31, 3) := by decide +kernel
theorem d6_54 : decode prog_23_method_4_code 54 = .ok (.iload 4, 2) := by decide +kernel
theorem d6_56 : decode prog_23_method_4_code 56 = .ok (.iconst 1, 1) := by decide +kernel
theorem d6_57 : decode prog_23_method_4_code 57 = .ok (.iadd, 1) := by decide +kernel
theorem d6_58 : decode prog_23_method_4_code 58 = .ok (.laload, 1) := by decide +kernel
theorem d6_59 : decode prog_23_method_4_code 59 = .ok (.bipush 64, 2) := by decide +kernel
theorem d6_61 : decode prog_23_method_4_code 61 = .ok (.iload 5, 2) := by decide +kernel
theorem d6_63 : decode prog_23_method_4_code 63 = .ok (.isub, 1) := by decide +kernel
theorem d6_64 : decode prog_23_method_4_code 64 = .ok (.lshl, 1) := by decide +kernel
theorem d6_65 : decode prog_23_method_4_code 65 = .ok (.lor, 1) := by decide +kernel
theorem d6_66 : decode prog_23_method_4_code 66 = .ok (.lstore 6, 2) := by decide +kernel
theorem d6_68 : decode prog_23_method_4_code 68 = .ok (.lload 6, 2) := by decide +kernel
theorem d6_70 : decode prog_23_method_4_code 70 = .ok (.aload_n 0, 1) := by decide +kernel
theorem d6_71 : decode prog_23_method_4_code 71 = .ok (.getfield 42, 3) := by decide +kernel
theorem d6_74 : decode prog_23_method_4_code 74 = .ok (.land, 1) := by decide +kernel
theorem d6_75 : decode prog_23_method_4_code 75 = .ok (.l2i, 1) := by decide +kernel
theorem d6_76 : decode prog_23_method_4_code 76 = .ok (.ireturn, 1) := by decide +kernel
theorem ef_6 (m : MethodId) (zo : Addr) (zi : Int32) : entryFrame m #[(.ref zo), (.int zi)] 8 = mkF m 0 #[.val (.ref zo), .val (.int zi), .unset, .unset, .unset, .unset, .unset, .unset] [] := by first | (simp [entryFrame, mkF, argsToLocals, Value.category]; done) | rfl
def Q6 (Z : State) (zo : Addr) (zi : Int32) (zr : Addr) (zw : Int32) (zk : Int64) (zq : ClassId) (zn : Int32) (zl : List Int64) (h0 : Heap) (n0 : Nat) (v : Option Value) (h : Heap) (L : List Loc) : Prop := v = some (.int (own_get zw zi zk zl)) ∧ Fr n0 L ∧ h = h0
set_option maxRecDepth 65536 in
set_option maxHeartbeats 40000000 in
theorem rm6 (l : Launch) (Z : State) (a0 : Array Value) (hw : ∀ d ∈ tables_1, d.before a0 Z = true) (ws : List Jvm.Cond) (zo : Addr) (zi : Int32) (zr : Addr) (zw : Int32) (zk : Int64) (zq : ClassId) (zn : Int32) (zl : List Int64) (h0 : Heap) (n0 : Nat) (Z0 : n0 ≤ h0.size) (P0 : Fld Z h0 zo "com/example/bijecta/bijecta/mph/PackedArray" "words" "[J" (.ref zr)) (P1 : Fld Z h0 zo "com/example/bijecta/bijecta/mph/PackedArray" "width" "I" (.int zw)) (P2 : Fld Z h0 zo "com/example/bijecta/bijecta/mph/PackedArray" "mask" "J" (.long zk)) (P3 : Arv Z h0 zr zq .long zn (List.map Value.long zl) (.long (0 : Int64))) (hA : ¬ own_wd zw zi < 0 ∧ own_wd zw zi < zn) (hB : 64 < own_of zw zi + zw → ¬ own_wd zw zi + 1 < 0 ∧ own_wd zw zi + 1 < zn) :
    MetFree l (⟨"com/example/bijecta/bijecta/mph/PackedArray", "get", "(I)I"⟩ : MethodName) (head1 (Jvm.Cond.code (⟨"com/example/bijecta/bijecta/mph/PackedArray", "get", "(I)I"⟩ : MethodName) prog_23_method_4_code 8 (some .int) :: ws) ({ frames := 0, cells := 0, slots := 0, locals := 0 } : Room)) (fun a U => a = #[(.ref zo), (.int zi)] ∧ Z.Warmed39 U.vm ∧ U.heap = h0) (fun _ _ _ _ _ => True) (fun _ U o U' => ∃ v L, o = .returned v ∧ Q6 Z zo zi zr zw zk zq zn zl h0 n0 v U'.heap L ∧ FrameEnd U o U' L ({ frames := 0, cells := 0, slots := 0, locals := 0 } : Room).cells ({ frames := 0, cells := 0, slots := 0, locals := 0 } : Room).slots) := by
  refine MetFree.of_bodySF (plainFor_of_name own_pn26658) hisR ?_
  intro p e s m args below meth c s₁ Bd hml0 hP hK
  obtain ⟨rfl, hZ, hh⟩ := hP
  have hx := Bd.exec
  have hby := Bd.bytes
  have hml : c.maxLocals = 8 := hml0
  have hown : s.vm.findClass "com/example/bijecta/bijecta/mph/PackedArray" = some m.cls := findClass_of_methodNamed Bd.named
  have hnm := (name_of_methodNamed Bd.named Bd.method).1
  have X0 : Stand p l e ({ frames := 0, cells := 0, slots := 0, locals := 0 } : Room) s m #[(.ref zo), (.int zi)] below meth c s₁ [] 0 0 := Stand.of_body Bd
  have e0 : s₁.heap = h0 := by rw [← hh, Bd.state]; rfl
  have N0 := Fr.nil n0
  have K0 := Keep.refl h0 ([] : List Addr)
  show own_WP p e below (own_E s (Q6 Z zo zi zr zw zk zq zn zl h0 n0) 0 0) s₁ (entryFrame m #[(.ref zo), (.int zi)] 8)
  rw [ef_6 m zo zi]
  show own_WP _ _ _ _ s₁ (mkF m 0 #[.val (.ref zo), .val (.int zi), .unset, .unset, .unset, .unset, .unset, .unset] [])
  refine own_go (fun t k => XS.iloadN X0.here hx rfl (hb hby d6_0) rfl  k) ?_
  show own_WP _ _ _ _ s₁ (mkF m 1 #[.val (.ref zo), .val (.int zi), .unset, .unset, .unset, .unset, .unset, .unset] [(.int zi)])
  refine own_go (fun t k => XS.i2l X0.here hx rfl (hb hby d6_1) rfl k) ?_
  show own_WP _ _ _ _ s₁ (mkF m 2 #[.val (.ref zo), .val (.int zi), .unset, .unset, .unset, .unset, .unset, .unset] [(.long (zi.toInt64))])
  refine own_go (fun t k => XS.aloadN X0.here hx rfl (hb hby d6_2) rfl rfl  k) ?_
  show own_WP _ _ _ _ s₁ (mkF m 3 #[.val (.ref zo), .val (.int zi), .unset, .unset, .unset, .unset, .unset, .unset] [(.ref zo), (.long (zi.toInt64))])
  obtain ⟨T1, X1, e1, st1⟩ := getF X0 hx hZ hown (host := "") (Or.inl (hw _ (List.mem_of_getElem? (i := 29) rfl))) Via.refl e0 P1 (g := (mkF m 3 #[.val (.ref zo), .val (.int zi), .unset, .unset, .unset, .unset, .unset, .unset] [(.ref zo), (.long (zi.toInt64))])) rfl rfl (hb hby d6_3)
  refine own_go st1 ?_
  show own_WP _ _ _ _ T1 (mkF m 6 #[.val (.ref zo), .val (.int zi), .unset, .unset, .unset, .unset, .unset, .unset] [(.int zw), (.long (zi.toInt64))])
  refine own_go (fun t k => XS.i2l X1.here hx rfl (hb hby d6_6) rfl k) ?_
  show own_WP _ _ _ _ T1 (mkF m 7 #[.val (.ref zo), .val (.int zi), .unset, .unset, .unset, .unset, .unset, .unset] [(.long (zw.toInt64)), (.long (zi.toInt64))])
  refine own_go (fun t k => XS.lmul X1.here hx rfl (hb hby d6_7) rfl k) ?_
  show own_WP _ _ _ _ T1 (mkF m 8 #[.val (.ref zo), .val (.int zi), .unset, .unset, .unset, .unset, .unset, .unset] [(.long ((zi.toInt64) * (zw.toInt64)))])
  generalize d_zb : ((zi.toInt64) * (zw.toInt64)) = zb
  refine own_go (fun t k => XS.lstoreN X1.here hx rfl (hb hby d6_8) rfl (l' := #[.val (.ref zo), .val (.int zi), .val (.long zb), .second, .unset, .unset, .unset, .unset]) rfl k) ?_
  show own_WP _ _ _ _ T1 (mkF m 9 #[.val (.ref zo), .val (.int zi), .val (.long zb), .second, .unset, .unset, .unset, .unset] [])
  refine own_go (fun t k => XS.lloadN X1.here hx rfl (hb hby d6_9) rfl  k) ?_
  show own_WP _ _ _ _ T1 (mkF m 10 #[.val (.ref zo), .val (.int zi), .val (.long zb), .second, .unset, .unset, .unset, .unset] [(.long zb)])
  refine own_go (fun t k => XS.bipush X1.here hx rfl (hb hby d6_10) k) ?_
  show own_WP _ _ _ _ T1 (mkF m 12 #[.val (.ref zo), .val (.int zi), .val (.long zb), .second, .unset, .unset, .unset, .unset] [(.int (6 : Int32)), (.long zb)])
  refine own_go (fun t k => XS.lushr X1.here hx rfl (hb hby d6_12) rfl k) ?_
  show own_WP _ _ _ _ T1 (mkF m 13 #[.val (.ref zo), .val (.int zi), .val (.long zb), .second, .unset, .unset, .unset, .unset] [(.long ((zb.toUInt64 >>> ((6 : Int32) &&& 0x3f).toInt64.toUInt64).toInt64))])
  refine own_go (fun t k => XS.l2i X1.here hx rfl (hb hby d6_13) rfl k) ?_
  show own_WP _ _ _ _ T1 (mkF m 14 #[.val (.ref zo), .val (.int zi), .val (.long zb), .second, .unset, .unset, .unset, .unset] [(.int (((zb.toUInt64 >>> ((6 : Int32) &&& 0x3f).toInt64.toUInt64).toInt64).toInt32))])
  generalize d_zd : (((zb.toUInt64 >>> ((6 : Int32) &&& 0x3f).toInt64.toUInt64).toInt64).toInt32) = zd
  refine own_go (fun t k => XS.istore X1.here hx rfl (hb hby d6_14) rfl (l' := #[.val (.ref zo), .val (.int zi), .val (.long zb), .second, .val (.int zd), .unset, .unset, .unset]) rfl k) ?_
  show own_WP _ _ _ _ T1 (mkF m 16 #[.val (.ref zo), .val (.int zi), .val (.long zb), .second, .val (.int zd), .unset, .unset, .unset] [])
  refine own_go (fun t k => XS.lloadN X1.here hx rfl (hb hby d6_16) rfl  k) ?_
  show own_WP _ _ _ _ T1 (mkF m 17 #[.val (.ref zo), .val (.int zi), .val (.long zb), .second, .val (.int zd), .unset, .unset, .unset] [(.long zb)])
  refine own_go (fun t k => X1.ldc2Long hx hown (mvT hZ (hw _ (List.mem_of_getElem? (i := 40) rfl))) (g := (mkF m 17 #[.val (.ref zo), .val (.int zi), .val (.long zb), .second, .val (.int zd), .unset, .unset, .unset] [(.long zb)])) rfl (hb hby d6_17) t k) ?_
  show own_WP _ _ _ _ T1 (mkF m 20 #[.val (.ref zo), .val (.int zi), .val (.long zb), .second, .val (.int zd), .unset, .unset, .unset] [(.long (63 : Int64)), (.long zb)])
  refine own_go (fun t k => XS.land X1.here hx rfl (hb hby d6_20) rfl k) ?_
  show own_WP _ _ _ _ T1 (mkF m 21 #[.val (.ref zo), .val (.int zi), .val (.long zb), .second, .val (.int zd), .unset, .unset, .unset] [(.long (zb &&& (63 : Int64)))])
  refine own_go (fun t k => XS.l2i X1.here hx rfl (hb hby d6_21) rfl k) ?_
  show own_WP _ _ _ _ T1 (mkF m 22 #[.val (.ref zo), .val (.int zi), .val (.long zb), .second, .val (.int zd), .unset, .unset, .unset] [(.int ((zb &&& (63 : Int64)).toInt32))])
  generalize d_zf : ((zb &&& (63 : Int64)).toInt32) = zf
  refine own_go (fun t k => XS.istore X1.here hx rfl (hb hby d6_22) rfl (l' := #[.val (.ref zo), .val (.int zi), .val (.long zb), .second, .val (.int zd), .val (.int zf), .unset, .unset]) rfl k) ?_
  have ew1 : own_wd zw zi = zd := by subst d_zb; exact d_zd
  have ew2 : own_of zw zi = zf := by subst d_zb; exact d_zf
  rw [ew1] at hA
  rw [ew1, ew2] at hB
  show own_WP _ _ _ _ T1 (mkF m 24 #[.val (.ref zo), .val (.int zi), .val (.long zb), .second, .val (.int zd), .val (.int zf), .unset, .unset] [])
  refine own_go (fun t k => XS.aloadN X1.here hx rfl (hb hby d6_24) rfl rfl  k) ?_
  show own_WP _ _ _ _ T1 (mkF m 25 #[.val (.ref zo), .val (.int zi), .val (.long zb), .second, .val (.int zd), .val (.int zf), .unset, .unset] [(.ref zo)])
  obtain ⟨T2, X2, e2, st2⟩ := getF X1 hx hZ hown (host := "") (Or.inl (hw _ (List.mem_of_getElem? (i := 27) rfl))) Via.refl e1 P0 (g := (mkF m 25 #[.val (.ref zo), .val (.int zi), .val (.long zb), .second, .val (.int zd), .val (.int zf), .unset, .unset] [(.ref zo)])) rfl rfl (hb hby d6_25)
  refine own_go st2 ?_
  show own_WP _ _ _ _ T2 (mkF m 28 #[.val (.ref zo), .val (.int zi), .val (.long zb), .second, .val (.int zd), .val (.int zf), .unset, .unset] [(.ref zr)])
  refine own_go (fun t k => XS.iload X2.here hx rfl (hb hby d6_28) rfl  k) ?_
  show own_WP _ _ _ _ T2 (mkF m 30 #[.val (.ref zo), .val (.int zi), .val (.long zb), .second, .val (.int zd), .val (.int zf), .unset, .unset] [(.int zd), (.ref zr)])
  refine own_ldJ X2 hx hZ e2 P3 (j := zd) (w := (zl.getD zd.toNatClampNeg 0)) hA (own_mapget zl _ rfl) (hb hby d6_30) ?_
  show own_WP _ _ _ _ T2 (mkF m 31 #[.val (.ref zo), .val (.int zi), .val (.long zb), .second, .val (.int zd), .val (.int zf), .unset, .unset] [(.long (zl.getD zd.toNatClampNeg 0))])
  refine own_go (fun t k => XS.iload X2.here hx rfl (hb hby d6_31) rfl  k) ?_
  show own_WP _ _ _ _ T2 (mkF m 33 #[.val (.ref zo), .val (.int zi), .val (.long zb), .second, .val (.int zd), .val (.int zf), .unset, .unset] [(.int zf), (.long (zl.getD zd.toNatClampNeg 0))])
  refine own_go (fun t k => XS.lushr X2.here hx rfl (hb hby d6_33) rfl k) ?_
  show own_WP _ _ _ _ T2 (mkF m 34 #[.val (.ref zo), .val (.int zi), .val (.long zb), .second, .val (.int zd), .val (.int zf), .unset, .unset] [(.long (((zl.getD zd.toNatClampNeg 0).toUInt64 >>> (zf &&& 0x3f).toInt64.toUInt64).toInt64))])
  generalize d_zv : (((zl.getD zd.toNatClampNeg 0).toUInt64 >>> (zf &&& 0x3f).toInt64.toUInt64).toInt64) = zv
  refine own_go (fun t k => XS.lstore X2.here hx rfl (hb hby d6_34) rfl (l' := #[.val (.ref zo), .val (.int zi), .val (.long zb), .second, .val (.int zd), .val (.int zf), .val (.long zv), .second]) rfl k) ?_
  show own_WP _ _ _ _ T2 (mkF m 36 #[.val (.ref zo), .val (.int zi), .val (.long zb), .second, .val (.int zd), .val (.int zf), .val (.long zv), .second] [])
  refine own_go (fun t k => XS.iload X2.here hx rfl (hb hby d6_36) rfl  k) ?_
  show own_WP _ _ _ _ T2 (mkF m 38 #[.val (.ref zo), .val (.int zi), .val (.long zb), .second, .val (.int zd), .val (.int zf), .val (.long zv), .second] [(.int zf)])
  refine own_go (fun t k => XS.aloadN X2.here hx rfl (hb hby d6_38) rfl rfl  k) ?_
  show own_WP _ _ _ _ T2 (mkF m 39 #[.val (.ref zo), .val (.int zi), .val (.long zb), .second, .val (.int zd), .val (.int zf), .val (.long zv), .second] [(.ref zo), (.int zf)])
  obtain ⟨T3, X3, e3, st3⟩ := getF X2 hx hZ hown (host := "") (Or.inl (hw _ (List.mem_of_getElem? (i := 29) rfl))) Via.refl e2 P1 (g := (mkF m 39 #[.val (.ref zo), .val (.int zi), .val (.long zb), .second, .val (.int zd), .val (.int zf), .val (.long zv), .second] [(.ref zo), (.int zf)])) rfl rfl (hb hby d6_39)
  refine own_go st3 ?_
  show own_WP _ _ _ _ T3 (mkF m 42 #[.val (.ref zo), .val (.int zi), .val (.long zb), .second, .val (.int zd), .val (.int zf), .val (.long zv), .second] [(.int zw), (.int zf)])
  refine own_go (fun t k => XS.iadd X3.here hx rfl (hb hby d6_42) rfl k) ?_
  show own_WP _ _ _ _ T3 (mkF m 43 #[.val (.ref zo), .val (.int zi), .val (.long zb), .second, .val (.int zd), .val (.int zf), .val (.long zv), .second] [(.int (zf + zw))])
  refine own_go (fun t k => XS.bipush X3.here hx rfl (hb hby d6_43) k) ?_
  show own_WP _ _ _ _ T3 (mkF m 45 #[.val (.ref zo), .val (.int zi), .val (.long zb), .second, .val (.int zd), .val (.int zf), .val (.long zv), .second] [(.int (64 : Int32)), (.int (zf + zw))])
  by_cases hc45 : (64 : Int32) < (zf + zw)
  · refine own_go (fun t k => XS.icmpNo X3.here hx rfl (hb hby d6_45) rfl (tlt hc45).2.2.2 k) ?_
    show own_WP _ _ _ _ T3 (mkF m 48 #[.val (.ref zo), .val (.int zi), .val (.long zb), .second, .val (.int zd), .val (.int zf), .val (.long zv), .second] [])
    refine own_go (fun t k => XS.lload X3.here hx rfl (hb hby d6_48) rfl  k) ?_
    show own_WP _ _ _ _ T3 (mkF m 50 #[.val (.ref zo), .val (.int zi), .val (.long zb), .second, .val (.int zd), .val (.int zf), .val (.long zv), .second] [(.long zv)])
    refine own_go (fun t k => XS.aloadN X3.here hx rfl (hb hby d6_50) rfl rfl  k) ?_
    show own_WP _ _ _ _ T3 (mkF m 51 #[.val (.ref zo), .val (.int zi), .val (.long zb), .second, .val (.int zd), .val (.int zf), .val (.long zv), .second] [(.ref zo), (.long zv)])
    obtain ⟨T4, X4, e4, st4⟩ := getF X3 hx hZ hown (host := "") (Or.inl (hw _ (List.mem_of_getElem? (i := 27) rfl))) Via.refl e3 P0 (g := (mkF m 51 #[.val (.ref zo), .val (.int zi), .val (.long zb), .second, .val (.int zd), .val (.int zf), .val (.long zv), .second] [(.ref zo), (.long zv)])) rfl rfl (hb hby d6_51)
    refine own_go st4 ?_
    show own_WP _ _ _ _ T4 (mkF m 54 #[.val (.ref zo), .val (.int zi), .val (.long zb), .second, .val (.int zd), .val (.int zf), .val (.long zv), .second] [(.ref zr), (.long zv)])
    refine own_go (fun t k => XS.iload X4.here hx rfl (hb hby d6_54) rfl  k) ?_
    show own_WP _ _ _ _ T4 (mkF m 56 #[.val (.ref zo), .val (.int zi), .val (.long zb), .second, .val (.int zd), .val (.int zf), .val (.long zv), .second] [(.int zd), (.ref zr), (.long zv)])
    refine own_go (fun t k => XS.iconst X4.here hx rfl (hb hby d6_56) k) ?_
    show own_WP _ _ _ _ T4 (mkF m 57 #[.val (.ref zo), .val (.int zi), .val (.long zb), .second, .val (.int zd), .val (.int zf), .val (.long zv), .second] [(.int (1 : Int32)), (.int zd), (.ref zr), (.long zv)])
    refine own_go (fun t k => XS.iadd X4.here hx rfl (hb hby d6_57) rfl k) ?_
    show own_WP _ _ _ _ T4 (mkF m 58 #[.val (.ref zo), .val (.int zi), .val (.long zb), .second, .val (.int zd), .val (.int zf), .val (.long zv), .second] [(.int (zd + (1 : Int32))), (.ref zr), (.long zv)])
    refine own_ldJ X4 hx hZ e4 P3 (j := (zd + (1 : Int32))) (w := (zl.getD (zd + (1 : Int32)).toNatClampNeg 0)) (hB hc45) (own_mapget zl _ rfl) (hb hby d6_58) ?_
    show own_WP _ _ _ _ T4 (mkF m 59 #[.val (.ref zo), .val (.int zi), .val (.long zb), .second, .val (.int zd), .val (.int zf), .val (.long zv), .second] [(.long (zl.getD (zd + (1 : Int32)).toNatClampNeg 0)), (.long zv)])
    refine own_go (fun t k => XS.bipush X4.here hx rfl (hb hby d6_59) k) ?_
    show own_WP _ _ _ _ T4 (mkF m 61 #[.val (.ref zo), .val (.int zi), .val (.long zb), .second, .val (.int zd), .val (.int zf), .val (.long zv), .second] [(.int (64 : Int32)), (.long (zl.getD (zd + (1 : Int32)).toNatClampNeg 0)), (.long zv)])
    refine own_go (fun t k => XS.iload X4.here hx rfl (hb hby d6_61) rfl  k) ?_
    show own_WP _ _ _ _ T4 (mkF m 63 #[.val (.ref zo), .val (.int zi), .val (.long zb), .second, .val (.int zd), .val (.int zf), .val (.long zv), .second] [(.int zf), (.int (64 : Int32)), (.long (zl.getD (zd + (1 : Int32)).toNatClampNeg 0)), (.long zv)])
    refine own_go (fun t k => XS.isub X4.here hx rfl (hb hby d6_63) rfl k) ?_
    show own_WP _ _ _ _ T4 (mkF m 64 #[.val (.ref zo), .val (.int zi), .val (.long zb), .second, .val (.int zd), .val (.int zf), .val (.long zv), .second] [(.int ((64 : Int32) - zf)), (.long (zl.getD (zd + (1 : Int32)).toNatClampNeg 0)), (.long zv)])
    refine own_go (fun t k => XS.lshl X4.here hx rfl (hb hby d6_64) rfl k) ?_
    show own_WP _ _ _ _ T4 (mkF m 65 #[.val (.ref zo), .val (.int zi), .val (.long zb), .second, .val (.int zd), .val (.int zf), .val (.long zv), .second] [(.long ((zl.getD (zd + (1 : Int32)).toNatClampNeg 0) <<< (((64 : Int32) - zf) &&& 0x3f).toInt64)), (.long zv)])
    refine own_go (fun t k => XS.lor X4.here hx rfl (hb hby d6_65) rfl k) ?_
    show own_WP _ _ _ _ T4 (mkF m 66 #[.val (.ref zo), .val (.int zi), .val (.long zb), .second, .val (.int zd), .val (.int zf), .val (.long zv), .second] [(.long (zv ||| ((zl.getD (zd + (1 : Int32)).toNatClampNeg 0) <<< (((64 : Int32) - zf) &&& 0x3f).toInt64)))])
    generalize d_zx : (zv ||| ((zl.getD (zd + (1 : Int32)).toNatClampNeg 0) <<< (((64 : Int32) - zf) &&& 0x3f).toInt64)) = zx
    refine own_go (fun t k => XS.lstore X4.here hx rfl (hb hby d6_66) rfl (l' := #[.val (.ref zo), .val (.int zi), .val (.long zb), .second, .val (.int zd), .val (.int zf), .val (.long zx), .second]) rfl k) ?_
    show own_WP _ _ _ _ T4 (mkF m 68 #[.val (.ref zo), .val (.int zi), .val (.long zb), .second, .val (.int zd), .val (.int zf), .val (.long zx), .second] [])
    refine own_go (fun t k => XS.lload X4.here hx rfl (hb hby d6_68) rfl  k) ?_
    show own_WP _ _ _ _ T4 (mkF m 70 #[.val (.ref zo), .val (.int zi), .val (.long zb), .second, .val (.int zd), .val (.int zf), .val (.long zx), .second] [(.long zx)])
    refine own_go (fun t k => XS.aloadN X4.here hx rfl (hb hby d6_70) rfl rfl  k) ?_
    show own_WP _ _ _ _ T4 (mkF m 71 #[.val (.ref zo), .val (.int zi), .val (.long zb), .second, .val (.int zd), .val (.int zf), .val (.long zx), .second] [(.ref zo), (.long zx)])
    obtain ⟨T5, X5, e5, st5⟩ := getF X4 hx hZ hown (host := "") (Or.inl (hw _ (List.mem_of_getElem? (i := 33) rfl))) Via.refl e4 P2 (g := (mkF m 71 #[.val (.ref zo), .val (.int zi), .val (.long zb), .second, .val (.int zd), .val (.int zf), .val (.long zx), .second] [(.ref zo), (.long zx)])) rfl rfl (hb hby d6_71)
    refine own_go st5 ?_
    show own_WP _ _ _ _ T5 (mkF m 74 #[.val (.ref zo), .val (.int zi), .val (.long zb), .second, .val (.int zd), .val (.int zf), .val (.long zx), .second] [(.long zk), (.long zx)])
    refine own_go (fun t k => XS.land X5.here hx rfl (hb hby d6_74) rfl k) ?_
    show own_WP _ _ _ _ T5 (mkF m 75 #[.val (.ref zo), .val (.int zi), .val (.long zb), .second, .val (.int zd), .val (.int zf), .val (.long zx), .second] [(.long (zx &&& zk))])
    refine own_go (fun t k => XS.l2i X5.here hx rfl (hb hby d6_75) rfl k) ?_
    show own_WP _ _ _ _ T5 (mkF m 76 #[.val (.ref zo), .val (.int zi), .val (.long zb), .second, .val (.int zd), .val (.int zf), .val (.long zx), .second] [(.int ((zx &&& zk).toInt32))])
    refine own_retI X5 hx Bd.notSynchronized Bd.returns (hb hby d6_76) (by decide) (by decide) ?_
    rw [e5]
    exact ⟨(congrArg (fun z => some (Value.int z)) (show ((zx &&& zk).toInt32) = (own_get zw zi zk zl) from by subst d_zv d_zx; unfold own_get; rw [ew1, ew2, if_pos hc45]; rfl)), N0, rfl⟩
  · refine own_go (fun t k => XS.icmpYes X3.here hx rfl (pc0 := 45) (pc' := 68) rfl (hb hby d6_45) rfl (flt hc45).2.2.2 (by decide) (by decide) k) ?_
    show own_WP _ _ _ _ T3 (mkF m 68 #[.val (.ref zo), .val (.int zi), .val (.long zb), .second, .val (.int zd), .val (.int zf), .val (.long zv), .second] [])
    refine own_go (fun t k => XS.lload X3.here hx rfl (hb hby d6_68) rfl  k) ?_
    show own_WP _ _ _ _ T3 (mkF m 70 #[.val (.ref zo), .val (.int zi), .val (.long zb), .second, .val (.int zd), .val (.int zf), .val (.long zv), .second] [(.long zv)])
    refine own_go (fun t k => XS.aloadN X3.here hx rfl (hb hby d6_70) rfl rfl  k) ?_
    show own_WP _ _ _ _ T3 (mkF m 71 #[.val (.ref zo), .val (.int zi), .val (.long zb), .second, .val (.int zd), .val (.int zf), .val (.long zv), .second] [(.ref zo), (.long zv)])
    obtain ⟨T6, X6, e6, st6⟩ := getF X3 hx hZ hown (host := "") (Or.inl (hw _ (List.mem_of_getElem? (i := 33) rfl))) Via.refl e3 P2 (g := (mkF m 71 #[.val (.ref zo), .val (.int zi), .val (.long zb), .second, .val (.int zd), .val (.int zf), .val (.long zv), .second] [(.ref zo), (.long zv)])) rfl rfl (hb hby d6_71)
    refine own_go st6 ?_
    show own_WP _ _ _ _ T6 (mkF m 74 #[.val (.ref zo), .val (.int zi), .val (.long zb), .second, .val (.int zd), .val (.int zf), .val (.long zv), .second] [(.long zk), (.long zv)])
    refine own_go (fun t k => XS.land X6.here hx rfl (hb hby d6_74) rfl k) ?_
    show own_WP _ _ _ _ T6 (mkF m 75 #[.val (.ref zo), .val (.int zi), .val (.long zb), .second, .val (.int zd), .val (.int zf), .val (.long zv), .second] [(.long (zv &&& zk))])
    refine own_go (fun t k => XS.l2i X6.here hx rfl (hb hby d6_75) rfl k) ?_
    show own_WP _ _ _ _ T6 (mkF m 76 #[.val (.ref zo), .val (.int zi), .val (.long zb), .second, .val (.int zd), .val (.int zf), .val (.long zv), .second] [(.int ((zv &&& zk).toInt32))])
    refine own_retI X6 hx Bd.notSynchronized Bd.returns (hb hby d6_76) (by decide) (by decide) ?_
    rw [e6]
    exact ⟨(congrArg (fun z => some (Value.int z)) (show ((zv &&& zk).toInt32) = (own_get zw zi zk zl) from by subst d_zv; unfold own_get; rw [ew1, ew2, if_neg hc45]; rfl)), N0, rfl⟩
theorem d7_0 : decode method_3_code 0 = .ok (.iload 5, 2) := by decide +kernel
theorem d7_2 : decode method_3_code 2 = .ok (.iload 4, 2) := by decide +kernel
theorem d7_4 : decode method_3_code 4 = .ok (.imul, 1) := by decide +kernel
theorem d7_5 : decode method_3_code 5 = .ok (.istore 6, 2) := by decide +kernel
theorem d7_7 : decode method_3_code 7 = .ok (.lconst 1, 1) := by decide +kernel
theorem d7_8 : decode method_3_code 8 = .ok (.iload 4, 2) := by decide +kernel
theorem d7_10 : decode method_3_code 10 = .ok (.lshl, 1) := by decide +kernel
theorem d7_11 : decode method_3_code 11 = .ok (.lconst 1, 1) := by decide +kernel
theorem d7_12 : decode method_3_code 12 = .ok (.lsub, 1) := by decide +kernel
theorem d7_13 : decode method_3_code 13 = .ok (.lstore 7, 2) := by decide +kernel
theorem d7_15 : decode method_3_code 15 = .ok (.iload 6, 2) := by decide +kernel
theorem d7_17 : decode method_3_code 17 = .ok (.bipush 64, 2) := by decide +kernel
theorem d7_19 : decode method_3_code 19 = .ok (.if_icmp .lt 18, 3) := by decide +kernel
theorem d7_22 : decode method_3_code 22 = .ok (.lload_n 2, 1) := by decide +kernel
theorem d7_23 : decode method_3_code 23 = .ok (.iload 6, 2) := by decide +kernel
theorem d7_25 : decode method_3_code 25 = .ok (.bipush 64, 2) := by decide +kernel
theorem d7_27 : decode method_3_code 27 = .ok (.isub, 1) := by decide +kernel
theorem d7_28 : decode method_3_code 28 = .ok (.lushr, 1) := by decide +kernel
theorem d7_29 : decode method_3_code 29 = .ok (.lload 7, 2) := by decide +kernel
theorem d7_31 : decode method_3_code 31 = .ok (.land, 1) := by decide +kernel
theorem d7_32 : decode method_3_code 32 = .ok (.lstore 9, 2) := by decide +kernel
theorem d7_34 : decode method_3_code 34 = .ok (.goto 65, 3) := by decide +kernel
theorem d7_37 : decode method_3_code 37 = .ok (.iload 6, 2) := by decide +kernel
theorem d7_39 : decode method_3_code 39 = .ok (.iload 4, 2) := by decide +kernel
theorem d7_41 : decode method_3_code 41 = .ok (.iadd, 1) := by decide +kernel
theorem d7_42 : decode method_3_code 42 = .ok (.bipush 64, 2) := by decide +kernel
theorem d7_44 : decode method_3_code 44 = .ok (.if_icmp .gt 15, 3) := by decide +kernel
theorem d7_47 : decode method_3_code 47 = .ok (.lload_n 0, 1) := by decide +kernel
theorem d7_48 : decode method_3_code 48 = .ok (.iload 6, 2) := by decide +kernel
theorem d7_50 : decode method_3_code 50 = .ok (.lushr, 1) := by decide +kernel
theorem d7_51 : decode method_3_code 51 = .ok (.lload 7, 2) := by decide +kernel
theorem d7_53 : decode method_3_code 53 = .ok (.land, 1) := by decide +kernel
theorem d7_54 : decode method_3_code 54 = .ok (.lstore 9, 2) := by decide +kernel
theorem d7_56 : decode method_3_code 56 = .ok (.goto 43, 3) := by decide +kernel
theorem d7_59 : decode method_3_code 59 = .ok (.bipush 64, 2) := by decide +kernel
theorem d7_61 : decode method_3_code 61 = .ok (.iload 6, 2) := by decide +kernel
theorem d7_63 : decode method_3_code 63 = .ok (.isub, 1) := by decide +kernel
theorem d7_64 : decode method_3_code 64 = .ok (.istore 11, 2) := by decide +kernel
theorem d7_66 : decode method_3_code 66 = .ok (.iload 4, 2) := by decide +kernel
theorem d7_68 : decode method_3_code 68 = .ok (.iload 11, 2) := by decide +kernel
theorem d7_70 : decode method_3_code 70 = .ok (.isub, 1) := by decide +kernel
theorem d7_71 : decode method_3_code 71 = .ok (.istore 12, 2) := by decide +kernel
theorem d7_73 : decode method_3_code 73 = .ok (.lload_n 0, 1) := by decide +kernel
theorem d7_74 : decode method_3_code 74 = .ok (.iload 6, 2) := by decide +kernel
theorem d7_76 : decode method_3_code 76 = .ok (.lushr, 1) := by decide +kernel
theorem d7_77 : decode method_3_code 77 = .ok (.lstore 13, 2) := by decide +kernel
theorem d7_79 : decode method_3_code 79 = .ok (.lload_n 2, 1) := by decide +kernel
theorem d7_80 : decode method_3_code 80 = .ok (.lconst 1, 1) := by decide +kernel
theorem d7_81 : decode method_3_code 81 = .ok (.iload 12, 2) := by decide +kernel
theorem d7_83 : decode method_3_code 83 = .ok (.lshl, 1) := by decide +kernel
theorem d7_84 : decode method_3_code 84 = .ok (.lconst 1, 1) := by decide +kernel
theorem d7_85 : decode method_3_code 85 = .ok (.lsub, 1) := by decide +kernel
theorem d7_86 : decode method_3_code 86 = .ok (.land, 1) := by decide +kernel
theorem d7_87 : decode method_3_code 87 = .ok (.lstore 15, 2) := by decide +kernel
theorem d7_89 : decode method_3_code 89 = .ok (.lload 13, 2) := by decide +kernel
theorem d7_91 : decode method_3_code 91 = .ok (.lload 15, 2) := by decide +kernel
theorem d7_93 : decode method_3_code 93 = .ok (.iload 11, 2) := by decide +kernel
theorem d7_95 : decode method_3_code 95 = .ok (.lshl, 1) := by decide +kernel
theorem d7_96 : decode method_3_code 96 = .ok (.lor, 1) := by decide +kernel
theorem d7_97 : decode method_3_code 97 = .ok (.lstore 9, 2) := by decide +kernel
theorem d7_99 : decode method_3_code 99 = .ok (.lload 9, 2) := by decide +kernel
theorem d7_101 : decode method_3_code 101 = .ok (.l2i, 1) := by decide +kernel
theorem d7_102 : decode method_3_code 102 = .ok (.ireturn, 1) := by decide +kernel
theorem own_pn5409 : plainName "com/example/bijecta/bijecta/mph/PackedArrayGetPinLaw" = true := by first | (simp [plainName, overriddenIn]; done) | decide +kernel
theorem ef_7 (m : MethodId) (za : Int64) (zb : Int64) (zw : Int32) (zi : Int32) : entryFrame m #[(.long za), (.long zb), (.int zw), (.int zi)] 17 = mkF m 0 #[.val (.long za), .second, .val (.long zb), .second, .val (.int zw), .val (.int zi), .unset, .unset, .unset, .unset, .unset, .unset, .unset, .unset, .unset, .unset, .unset] [] := by first | (simp [entryFrame, mkF, argsToLocals, Value.category]; done) | rfl
def Q7 (Z : State) (za : Int64) (zb : Int64) (zw : Int32) (zi : Int32) (h0 : Heap) (n0 : Nat) (v : Option Value) (h : Heap) (L : List Loc) : Prop := v = some (.int (own_exp za zb zw zi)) ∧ Fr n0 L ∧ h = h0
set_option maxRecDepth 65536 in
set_option maxHeartbeats 40000000 in
theorem rm7 (l : Launch) (Z : State) (a0 : Array Value) (hw : ∀ d ∈ tables_1, d.before a0 Z = true) (ws : List Jvm.Cond) (za : Int64) (zb : Int64) (zw : Int32) (zi : Int32) (h0 : Heap) (n0 : Nat) (Z0 : n0 ≤ h0.size)  :
    MetFree l (⟨"com/example/bijecta/bijecta/mph/PackedArrayGetPinLaw", "expected", "(JJII)I"⟩ : MethodName) (head1 (Jvm.Cond.code (⟨"com/example/bijecta/bijecta/mph/PackedArrayGetPinLaw", "expected", "(JJII)I"⟩ : MethodName) method_3_code 17 (some .int) :: ws) ({ frames := 0, cells := 0, slots := 0, locals := 0 } : Room)) (fun a U => a = #[(.long za), (.long zb), (.int zw), (.int zi)] ∧ Z.Warmed39 U.vm ∧ U.heap = h0) (fun _ _ _ _ _ => True) (fun _ U o U' => ∃ v L, o = .returned v ∧ Q7 Z za zb zw zi h0 n0 v U'.heap L ∧ FrameEnd U o U' L ({ frames := 0, cells := 0, slots := 0, locals := 0 } : Room).cells ({ frames := 0, cells := 0, slots := 0, locals := 0 } : Room).slots) := by
  refine MetFree.of_bodySF (plainFor_of_name own_pn5409) hisR ?_
  intro p e s m args below meth c s₁ Bd hml0 hP hK
  obtain ⟨rfl, hZ, hh⟩ := hP
  have hx := Bd.exec
  have hby := Bd.bytes
  have hml : c.maxLocals = 17 := hml0
  have hown : s.vm.findClass "com/example/bijecta/bijecta/mph/PackedArrayGetPinLaw" = some m.cls := findClass_of_methodNamed Bd.named
  have hnm := (name_of_methodNamed Bd.named Bd.method).1
  have X0 : Stand p l e ({ frames := 0, cells := 0, slots := 0, locals := 0 } : Room) s m #[(.long za), (.long zb), (.int zw), (.int zi)] below meth c s₁ [] 0 0 := Stand.of_body Bd
  have e0 : s₁.heap = h0 := by rw [← hh, Bd.state]; rfl
  have N0 := Fr.nil n0
  have K0 := Keep.refl h0 ([] : List Addr)
  show own_WP p e below (own_E s (Q7 Z za zb zw zi h0 n0) 0 0) s₁ (entryFrame m #[(.long za), (.long zb), (.int zw), (.int zi)] 17)
  rw [ef_7 m za zb zw zi]
  show own_WP _ _ _ _ s₁ (mkF m 0 #[.val (.long za), .second, .val (.long zb), .second, .val (.int zw), .val (.int zi), .unset, .unset, .unset, .unset, .unset, .unset, .unset, .unset, .unset, .unset, .unset] [])
  refine own_go (fun t k => XS.iload X0.here hx rfl (hb hby d7_0) rfl  k) ?_
  show own_WP _ _ _ _ s₁ (mkF m 2 #[.val (.long za), .second, .val (.long zb), .second, .val (.int zw), .val (.int zi), .unset, .unset, .unset, .unset, .unset, .unset, .unset, .unset, .unset, .unset, .unset] [(.int zi)])
  refine own_go (fun t k => XS.iload X0.here hx rfl (hb hby d7_2) rfl  k) ?_
  show own_WP _ _ _ _ s₁ (mkF m 4 #[.val (.long za), .second, .val (.long zb), .second, .val (.int zw), .val (.int zi), .unset, .unset, .unset, .unset, .unset, .unset, .unset, .unset, .unset, .unset, .unset] [(.int zw), (.int zi)])
  refine own_go (fun t k => XS.imul X0.here hx rfl (hb hby d7_4) rfl k) ?_
  show own_WP _ _ _ _ s₁ (mkF m 5 #[.val (.long za), .second, .val (.long zb), .second, .val (.int zw), .val (.int zi), .unset, .unset, .unset, .unset, .unset, .unset, .unset, .unset, .unset, .unset, .unset] [(.int (zi * zw))])
  generalize d_zs : (zi * zw) = zs
  refine own_go (fun t k => XS.istore X0.here hx rfl (hb hby d7_5) rfl (l' := #[.val (.long za), .second, .val (.long zb), .second, .val (.int zw), .val (.int zi), .val (.int zs), .unset, .unset, .unset, .unset, .unset, .unset, .unset, .unset, .unset, .unset]) rfl k) ?_
  show own_WP _ _ _ _ s₁ (mkF m 7 #[.val (.long za), .second, .val (.long zb), .second, .val (.int zw), .val (.int zi), .val (.int zs), .unset, .unset, .unset, .unset, .unset, .unset, .unset, .unset, .unset, .unset] [])
  refine own_go (fun t k => XS.lconst X0.here hx rfl (hb hby d7_7) k) ?_
  show own_WP _ _ _ _ s₁ (mkF m 8 #[.val (.long za), .second, .val (.long zb), .second, .val (.int zw), .val (.int zi), .val (.int zs), .unset, .unset, .unset, .unset, .unset, .unset, .unset, .unset, .unset, .unset] [(.long (1 : Int64))])
  refine own_go (fun t k => XS.iload X0.here hx rfl (hb hby d7_8) rfl  k) ?_
  show own_WP _ _ _ _ s₁ (mkF m 10 #[.val (.long za), .second, .val (.long zb), .second, .val (.int zw), .val (.int zi), .val (.int zs), .unset, .unset, .unset, .unset, .unset, .unset, .unset, .unset, .unset, .unset] [(.int zw), (.long (1 : Int64))])
  refine own_go (fun t k => XS.lshl X0.here hx rfl (hb hby d7_10) rfl k) ?_
  show own_WP _ _ _ _ s₁ (mkF m 11 #[.val (.long za), .second, .val (.long zb), .second, .val (.int zw), .val (.int zi), .val (.int zs), .unset, .unset, .unset, .unset, .unset, .unset, .unset, .unset, .unset, .unset] [(.long ((1 : Int64) <<< (zw &&& 0x3f).toInt64))])
  refine own_go (fun t k => XS.lconst X0.here hx rfl (hb hby d7_11) k) ?_
  show own_WP _ _ _ _ s₁ (mkF m 12 #[.val (.long za), .second, .val (.long zb), .second, .val (.int zw), .val (.int zi), .val (.int zs), .unset, .unset, .unset, .unset, .unset, .unset, .unset, .unset, .unset, .unset] [(.long (1 : Int64)), (.long ((1 : Int64) <<< (zw &&& 0x3f).toInt64))])
  refine own_go (fun t k => XS.lsub X0.here hx rfl (hb hby d7_12) rfl k) ?_
  show own_WP _ _ _ _ s₁ (mkF m 13 #[.val (.long za), .second, .val (.long zb), .second, .val (.int zw), .val (.int zi), .val (.int zs), .unset, .unset, .unset, .unset, .unset, .unset, .unset, .unset, .unset, .unset] [(.long (((1 : Int64) <<< (zw &&& 0x3f).toInt64) - (1 : Int64)))])
  generalize d_zm : (((1 : Int64) <<< (zw &&& 0x3f).toInt64) - (1 : Int64)) = zm
  refine own_go (fun t k => XS.lstore X0.here hx rfl (hb hby d7_13) rfl (l' := #[.val (.long za), .second, .val (.long zb), .second, .val (.int zw), .val (.int zi), .val (.int zs), .val (.long zm), .second, .unset, .unset, .unset, .unset, .unset, .unset, .unset, .unset]) rfl k) ?_
  show own_WP _ _ _ _ s₁ (mkF m 15 #[.val (.long za), .second, .val (.long zb), .second, .val (.int zw), .val (.int zi), .val (.int zs), .val (.long zm), .second, .unset, .unset, .unset, .unset, .unset, .unset, .unset, .unset] [])
  refine own_go (fun t k => XS.iload X0.here hx rfl (hb hby d7_15) rfl  k) ?_
  show own_WP _ _ _ _ s₁ (mkF m 17 #[.val (.long za), .second, .val (.long zb), .second, .val (.int zw), .val (.int zi), .val (.int zs), .val (.long zm), .second, .unset, .unset, .unset, .unset, .unset, .unset, .unset, .unset] [(.int zs)])
  refine own_go (fun t k => XS.bipush X0.here hx rfl (hb hby d7_17) k) ?_
  show own_WP _ _ _ _ s₁ (mkF m 19 #[.val (.long za), .second, .val (.long zb), .second, .val (.int zw), .val (.int zi), .val (.int zs), .val (.long zm), .second, .unset, .unset, .unset, .unset, .unset, .unset, .unset, .unset] [(.int (64 : Int32)), (.int zs)])
  by_cases hc19 : zs < (64 : Int32)
  · refine own_go (fun t k => XS.icmpYes X0.here hx rfl (pc0 := 19) (pc' := 37) rfl (hb hby d7_19) rfl (tlt hc19).1 (by decide) (by decide) k) ?_
    show own_WP _ _ _ _ s₁ (mkF m 37 #[.val (.long za), .second, .val (.long zb), .second, .val (.int zw), .val (.int zi), .val (.int zs), .val (.long zm), .second, .unset, .unset, .unset, .unset, .unset, .unset, .unset, .unset] [])
    refine own_go (fun t k => XS.iload X0.here hx rfl (hb hby d7_37) rfl  k) ?_
    show own_WP _ _ _ _ s₁ (mkF m 39 #[.val (.long za), .second, .val (.long zb), .second, .val (.int zw), .val (.int zi), .val (.int zs), .val (.long zm), .second, .unset, .unset, .unset, .unset, .unset, .unset, .unset, .unset] [(.int zs)])
    refine own_go (fun t k => XS.iload X0.here hx rfl (hb hby d7_39) rfl  k) ?_
    show own_WP _ _ _ _ s₁ (mkF m 41 #[.val (.long za), .second, .val (.long zb), .second, .val (.int zw), .val (.int zi), .val (.int zs), .val (.long zm), .second, .unset, .unset, .unset, .unset, .unset, .unset, .unset, .unset] [(.int zw), (.int zs)])
    refine own_go (fun t k => XS.iadd X0.here hx rfl (hb hby d7_41) rfl k) ?_
    show own_WP _ _ _ _ s₁ (mkF m 42 #[.val (.long za), .second, .val (.long zb), .second, .val (.int zw), .val (.int zi), .val (.int zs), .val (.long zm), .second, .unset, .unset, .unset, .unset, .unset, .unset, .unset, .unset] [(.int (zs + zw))])
    refine own_go (fun t k => XS.bipush X0.here hx rfl (hb hby d7_42) k) ?_
    show own_WP _ _ _ _ s₁ (mkF m 44 #[.val (.long za), .second, .val (.long zb), .second, .val (.int zw), .val (.int zi), .val (.int zs), .val (.long zm), .second, .unset, .unset, .unset, .unset, .unset, .unset, .unset, .unset] [(.int (64 : Int32)), (.int (zs + zw))])
    by_cases hc44 : (64 : Int32) < (zs + zw)
    · refine own_go (fun t k => XS.icmpYes X0.here hx rfl (pc0 := 44) (pc' := 59) rfl (hb hby d7_44) rfl (tlt hc44).2.2.1 (by decide) (by decide) k) ?_
      show own_WP _ _ _ _ s₁ (mkF m 59 #[.val (.long za), .second, .val (.long zb), .second, .val (.int zw), .val (.int zi), .val (.int zs), .val (.long zm), .second, .unset, .unset, .unset, .unset, .unset, .unset, .unset, .unset] [])
      refine own_go (fun t k => XS.bipush X0.here hx rfl (hb hby d7_59) k) ?_
      show own_WP _ _ _ _ s₁ (mkF m 61 #[.val (.long za), .second, .val (.long zb), .second, .val (.int zw), .val (.int zi), .val (.int zs), .val (.long zm), .second, .unset, .unset, .unset, .unset, .unset, .unset, .unset, .unset] [(.int (64 : Int32))])
      refine own_go (fun t k => XS.iload X0.here hx rfl (hb hby d7_61) rfl  k) ?_
      show own_WP _ _ _ _ s₁ (mkF m 63 #[.val (.long za), .second, .val (.long zb), .second, .val (.int zw), .val (.int zi), .val (.int zs), .val (.long zm), .second, .unset, .unset, .unset, .unset, .unset, .unset, .unset, .unset] [(.int zs), (.int (64 : Int32))])
      refine own_go (fun t k => XS.isub X0.here hx rfl (hb hby d7_63) rfl k) ?_
      show own_WP _ _ _ _ s₁ (mkF m 64 #[.val (.long za), .second, .val (.long zb), .second, .val (.int zw), .val (.int zi), .val (.int zs), .val (.long zm), .second, .unset, .unset, .unset, .unset, .unset, .unset, .unset, .unset] [(.int ((64 : Int32) - zs))])
      generalize d_zlo : ((64 : Int32) - zs) = zlo
      refine own_go (fun t k => XS.istore X0.here hx rfl (hb hby d7_64) rfl (l' := #[.val (.long za), .second, .val (.long zb), .second, .val (.int zw), .val (.int zi), .val (.int zs), .val (.long zm), .second, .unset, .unset, .val (.int zlo), .unset, .unset, .unset, .unset, .unset]) rfl k) ?_
      show own_WP _ _ _ _ s₁ (mkF m 66 #[.val (.long za), .second, .val (.long zb), .second, .val (.int zw), .val (.int zi), .val (.int zs), .val (.long zm), .second, .unset, .unset, .val (.int zlo), .unset, .unset, .unset, .unset, .unset] [])
      refine own_go (fun t k => XS.iload X0.here hx rfl (hb hby d7_66) rfl  k) ?_
      show own_WP _ _ _ _ s₁ (mkF m 68 #[.val (.long za), .second, .val (.long zb), .second, .val (.int zw), .val (.int zi), .val (.int zs), .val (.long zm), .second, .unset, .unset, .val (.int zlo), .unset, .unset, .unset, .unset, .unset] [(.int zw)])
      refine own_go (fun t k => XS.iload X0.here hx rfl (hb hby d7_68) rfl  k) ?_
      show own_WP _ _ _ _ s₁ (mkF m 70 #[.val (.long za), .second, .val (.long zb), .second, .val (.int zw), .val (.int zi), .val (.int zs), .val (.long zm), .second, .unset, .unset, .val (.int zlo), .unset, .unset, .unset, .unset, .unset] [(.int zlo), (.int zw)])
      refine own_go (fun t k => XS.isub X0.here hx rfl (hb hby d7_70) rfl k) ?_
      show own_WP _ _ _ _ s₁ (mkF m 71 #[.val (.long za), .second, .val (.long zb), .second, .val (.int zw), .val (.int zi), .val (.int zs), .val (.long zm), .second, .unset, .unset, .val (.int zlo), .unset, .unset, .unset, .unset, .unset] [(.int (zw - zlo))])
      generalize d_zhi : (zw - zlo) = zhi
      refine own_go (fun t k => XS.istore X0.here hx rfl (hb hby d7_71) rfl (l' := #[.val (.long za), .second, .val (.long zb), .second, .val (.int zw), .val (.int zi), .val (.int zs), .val (.long zm), .second, .unset, .unset, .val (.int zlo), .val (.int zhi), .unset, .unset, .unset, .unset]) rfl k) ?_
      show own_WP _ _ _ _ s₁ (mkF m 73 #[.val (.long za), .second, .val (.long zb), .second, .val (.int zw), .val (.int zi), .val (.int zs), .val (.long zm), .second, .unset, .unset, .val (.int zlo), .val (.int zhi), .unset, .unset, .unset, .unset] [])
      refine own_go (fun t k => XS.lloadN X0.here hx rfl (hb hby d7_73) rfl  k) ?_
      show own_WP _ _ _ _ s₁ (mkF m 74 #[.val (.long za), .second, .val (.long zb), .second, .val (.int zw), .val (.int zi), .val (.int zs), .val (.long zm), .second, .unset, .unset, .val (.int zlo), .val (.int zhi), .unset, .unset, .unset, .unset] [(.long za)])
      refine own_go (fun t k => XS.iload X0.here hx rfl (hb hby d7_74) rfl  k) ?_
      show own_WP _ _ _ _ s₁ (mkF m 76 #[.val (.long za), .second, .val (.long zb), .second, .val (.int zw), .val (.int zi), .val (.int zs), .val (.long zm), .second, .unset, .unset, .val (.int zlo), .val (.int zhi), .unset, .unset, .unset, .unset] [(.int zs), (.long za)])
      refine own_go (fun t k => XS.lushr X0.here hx rfl (hb hby d7_76) rfl k) ?_
      show own_WP _ _ _ _ s₁ (mkF m 77 #[.val (.long za), .second, .val (.long zb), .second, .val (.int zw), .val (.int zi), .val (.int zs), .val (.long zm), .second, .unset, .unset, .val (.int zlo), .val (.int zhi), .unset, .unset, .unset, .unset] [(.long ((za.toUInt64 >>> (zs &&& 0x3f).toInt64.toUInt64).toInt64))])
      generalize d_zl : ((za.toUInt64 >>> (zs &&& 0x3f).toInt64.toUInt64).toInt64) = zl
      refine own_go (fun t k => XS.lstore X0.here hx rfl (hb hby d7_77) rfl (l' := #[.val (.long za), .second, .val (.long zb), .second, .val (.int zw), .val (.int zi), .val (.int zs), .val (.long zm), .second, .unset, .unset, .val (.int zlo), .val (.int zhi), .val (.long zl), .second, .unset, .unset]) rfl k) ?_
      show own_WP _ _ _ _ s₁ (mkF m 79 #[.val (.long za), .second, .val (.long zb), .second, .val (.int zw), .val (.int zi), .val (.int zs), .val (.long zm), .second, .unset, .unset, .val (.int zlo), .val (.int zhi), .val (.long zl), .second, .unset, .unset] [])
      refine own_go (fun t k => XS.lloadN X0.here hx rfl (hb hby d7_79) rfl  k) ?_
      show own_WP _ _ _ _ s₁ (mkF m 80 #[.val (.long za), .second, .val (.long zb), .second, .val (.int zw), .val (.int zi), .val (.int zs), .val (.long zm), .second, .unset, .unset, .val (.int zlo), .val (.int zhi), .val (.long zl), .second, .unset, .unset] [(.long zb)])
      refine own_go (fun t k => XS.lconst X0.here hx rfl (hb hby d7_80) k) ?_
      show own_WP _ _ _ _ s₁ (mkF m 81 #[.val (.long za), .second, .val (.long zb), .second, .val (.int zw), .val (.int zi), .val (.int zs), .val (.long zm), .second, .unset, .unset, .val (.int zlo), .val (.int zhi), .val (.long zl), .second, .unset, .unset] [(.long (1 : Int64)), (.long zb)])
      refine own_go (fun t k => XS.iload X0.here hx rfl (hb hby d7_81) rfl  k) ?_
      show own_WP _ _ _ _ s₁ (mkF m 83 #[.val (.long za), .second, .val (.long zb), .second, .val (.int zw), .val (.int zi), .val (.int zs), .val (.long zm), .second, .unset, .unset, .val (.int zlo), .val (.int zhi), .val (.long zl), .second, .unset, .unset] [(.int zhi), (.long (1 : Int64)), (.long zb)])
      refine own_go (fun t k => XS.lshl X0.here hx rfl (hb hby d7_83) rfl k) ?_
      show own_WP _ _ _ _ s₁ (mkF m 84 #[.val (.long za), .second, .val (.long zb), .second, .val (.int zw), .val (.int zi), .val (.int zs), .val (.long zm), .second, .unset, .unset, .val (.int zlo), .val (.int zhi), .val (.long zl), .second, .unset, .unset] [(.long ((1 : Int64) <<< (zhi &&& 0x3f).toInt64)), (.long zb)])
      refine own_go (fun t k => XS.lconst X0.here hx rfl (hb hby d7_84) k) ?_
      show own_WP _ _ _ _ s₁ (mkF m 85 #[.val (.long za), .second, .val (.long zb), .second, .val (.int zw), .val (.int zi), .val (.int zs), .val (.long zm), .second, .unset, .unset, .val (.int zlo), .val (.int zhi), .val (.long zl), .second, .unset, .unset] [(.long (1 : Int64)), (.long ((1 : Int64) <<< (zhi &&& 0x3f).toInt64)), (.long zb)])
      refine own_go (fun t k => XS.lsub X0.here hx rfl (hb hby d7_85) rfl k) ?_
      show own_WP _ _ _ _ s₁ (mkF m 86 #[.val (.long za), .second, .val (.long zb), .second, .val (.int zw), .val (.int zi), .val (.int zs), .val (.long zm), .second, .unset, .unset, .val (.int zlo), .val (.int zhi), .val (.long zl), .second, .unset, .unset] [(.long (((1 : Int64) <<< (zhi &&& 0x3f).toInt64) - (1 : Int64))), (.long zb)])
      refine own_go (fun t k => XS.land X0.here hx rfl (hb hby d7_86) rfl k) ?_
      show own_WP _ _ _ _ s₁ (mkF m 87 #[.val (.long za), .second, .val (.long zb), .second, .val (.int zw), .val (.int zi), .val (.int zs), .val (.long zm), .second, .unset, .unset, .val (.int zlo), .val (.int zhi), .val (.long zl), .second, .unset, .unset] [(.long (zb &&& (((1 : Int64) <<< (zhi &&& 0x3f).toInt64) - (1 : Int64))))])
      generalize d_zh : (zb &&& (((1 : Int64) <<< (zhi &&& 0x3f).toInt64) - (1 : Int64))) = zh
      refine own_go (fun t k => XS.lstore X0.here hx rfl (hb hby d7_87) rfl (l' := #[.val (.long za), .second, .val (.long zb), .second, .val (.int zw), .val (.int zi), .val (.int zs), .val (.long zm), .second, .unset, .unset, .val (.int zlo), .val (.int zhi), .val (.long zl), .second, .val (.long zh), .second]) rfl k) ?_
      show own_WP _ _ _ _ s₁ (mkF m 89 #[.val (.long za), .second, .val (.long zb), .second, .val (.int zw), .val (.int zi), .val (.int zs), .val (.long zm), .second, .unset, .unset, .val (.int zlo), .val (.int zhi), .val (.long zl), .second, .val (.long zh), .second] [])
      refine own_go (fun t k => XS.lload X0.here hx rfl (hb hby d7_89) rfl  k) ?_
      show own_WP _ _ _ _ s₁ (mkF m 91 #[.val (.long za), .second, .val (.long zb), .second, .val (.int zw), .val (.int zi), .val (.int zs), .val (.long zm), .second, .unset, .unset, .val (.int zlo), .val (.int zhi), .val (.long zl), .second, .val (.long zh), .second] [(.long zl)])
      refine own_go (fun t k => XS.lload X0.here hx rfl (hb hby d7_91) rfl  k) ?_
      show own_WP _ _ _ _ s₁ (mkF m 93 #[.val (.long za), .second, .val (.long zb), .second, .val (.int zw), .val (.int zi), .val (.int zs), .val (.long zm), .second, .unset, .unset, .val (.int zlo), .val (.int zhi), .val (.long zl), .second, .val (.long zh), .second] [(.long zh), (.long zl)])
      refine own_go (fun t k => XS.iload X0.here hx rfl (hb hby d7_93) rfl  k) ?_
      show own_WP _ _ _ _ s₁ (mkF m 95 #[.val (.long za), .second, .val (.long zb), .second, .val (.int zw), .val (.int zi), .val (.int zs), .val (.long zm), .second, .unset, .unset, .val (.int zlo), .val (.int zhi), .val (.long zl), .second, .val (.long zh), .second] [(.int zlo), (.long zh), (.long zl)])
      refine own_go (fun t k => XS.lshl X0.here hx rfl (hb hby d7_95) rfl k) ?_
      show own_WP _ _ _ _ s₁ (mkF m 96 #[.val (.long za), .second, .val (.long zb), .second, .val (.int zw), .val (.int zi), .val (.int zs), .val (.long zm), .second, .unset, .unset, .val (.int zlo), .val (.int zhi), .val (.long zl), .second, .val (.long zh), .second] [(.long (zh <<< (zlo &&& 0x3f).toInt64)), (.long zl)])
      refine own_go (fun t k => XS.lor X0.here hx rfl (hb hby d7_96) rfl k) ?_
      show own_WP _ _ _ _ s₁ (mkF m 97 #[.val (.long za), .second, .val (.long zb), .second, .val (.int zw), .val (.int zi), .val (.int zs), .val (.long zm), .second, .unset, .unset, .val (.int zlo), .val (.int zhi), .val (.long zl), .second, .val (.long zh), .second] [(.long (zl ||| (zh <<< (zlo &&& 0x3f).toInt64)))])
      generalize d_zv : (zl ||| (zh <<< (zlo &&& 0x3f).toInt64)) = zv
      refine own_go (fun t k => XS.lstore X0.here hx rfl (hb hby d7_97) rfl (l' := #[.val (.long za), .second, .val (.long zb), .second, .val (.int zw), .val (.int zi), .val (.int zs), .val (.long zm), .second, .val (.long zv), .second, .val (.int zlo), .val (.int zhi), .val (.long zl), .second, .val (.long zh), .second]) rfl k) ?_
      show own_WP _ _ _ _ s₁ (mkF m 99 #[.val (.long za), .second, .val (.long zb), .second, .val (.int zw), .val (.int zi), .val (.int zs), .val (.long zm), .second, .val (.long zv), .second, .val (.int zlo), .val (.int zhi), .val (.long zl), .second, .val (.long zh), .second] [])
      refine own_go (fun t k => XS.lload X0.here hx rfl (hb hby d7_99) rfl  k) ?_
      show own_WP _ _ _ _ s₁ (mkF m 101 #[.val (.long za), .second, .val (.long zb), .second, .val (.int zw), .val (.int zi), .val (.int zs), .val (.long zm), .second, .val (.long zv), .second, .val (.int zlo), .val (.int zhi), .val (.long zl), .second, .val (.long zh), .second] [(.long zv)])
      refine own_go (fun t k => XS.l2i X0.here hx rfl (hb hby d7_101) rfl k) ?_
      show own_WP _ _ _ _ s₁ (mkF m 102 #[.val (.long za), .second, .val (.long zb), .second, .val (.int zw), .val (.int zi), .val (.int zs), .val (.long zm), .second, .val (.long zv), .second, .val (.int zlo), .val (.int zhi), .val (.long zl), .second, .val (.long zh), .second] [(.int (zv.toInt32))])
      refine own_retI X0 hx Bd.notSynchronized Bd.returns (hb hby d7_102) (by decide) (by decide) ?_
      rw [e0]
      exact ⟨(congrArg (fun z => some (Value.int z)) (show (zv.toInt32) = (own_exp za zb zw zi) from by subst d_zv d_zh d_zl d_zhi d_zlo d_zm d_zs; unfold own_exp; rw [if_pos hc19, if_pos hc44]; rfl)), N0, rfl⟩
    · refine own_go (fun t k => XS.icmpNo X0.here hx rfl (hb hby d7_44) rfl (flt hc44).2.2.1 k) ?_
      show own_WP _ _ _ _ s₁ (mkF m 47 #[.val (.long za), .second, .val (.long zb), .second, .val (.int zw), .val (.int zi), .val (.int zs), .val (.long zm), .second, .unset, .unset, .unset, .unset, .unset, .unset, .unset, .unset] [])
      refine own_go (fun t k => XS.lloadN X0.here hx rfl (hb hby d7_47) rfl  k) ?_
      show own_WP _ _ _ _ s₁ (mkF m 48 #[.val (.long za), .second, .val (.long zb), .second, .val (.int zw), .val (.int zi), .val (.int zs), .val (.long zm), .second, .unset, .unset, .unset, .unset, .unset, .unset, .unset, .unset] [(.long za)])
      refine own_go (fun t k => XS.iload X0.here hx rfl (hb hby d7_48) rfl  k) ?_
      show own_WP _ _ _ _ s₁ (mkF m 50 #[.val (.long za), .second, .val (.long zb), .second, .val (.int zw), .val (.int zi), .val (.int zs), .val (.long zm), .second, .unset, .unset, .unset, .unset, .unset, .unset, .unset, .unset] [(.int zs), (.long za)])
      refine own_go (fun t k => XS.lushr X0.here hx rfl (hb hby d7_50) rfl k) ?_
      show own_WP _ _ _ _ s₁ (mkF m 51 #[.val (.long za), .second, .val (.long zb), .second, .val (.int zw), .val (.int zi), .val (.int zs), .val (.long zm), .second, .unset, .unset, .unset, .unset, .unset, .unset, .unset, .unset] [(.long ((za.toUInt64 >>> (zs &&& 0x3f).toInt64.toUInt64).toInt64))])
      refine own_go (fun t k => XS.lload X0.here hx rfl (hb hby d7_51) rfl  k) ?_
      show own_WP _ _ _ _ s₁ (mkF m 53 #[.val (.long za), .second, .val (.long zb), .second, .val (.int zw), .val (.int zi), .val (.int zs), .val (.long zm), .second, .unset, .unset, .unset, .unset, .unset, .unset, .unset, .unset] [(.long zm), (.long ((za.toUInt64 >>> (zs &&& 0x3f).toInt64.toUInt64).toInt64))])
      refine own_go (fun t k => XS.land X0.here hx rfl (hb hby d7_53) rfl k) ?_
      show own_WP _ _ _ _ s₁ (mkF m 54 #[.val (.long za), .second, .val (.long zb), .second, .val (.int zw), .val (.int zi), .val (.int zs), .val (.long zm), .second, .unset, .unset, .unset, .unset, .unset, .unset, .unset, .unset] [(.long (((za.toUInt64 >>> (zs &&& 0x3f).toInt64.toUInt64).toInt64) &&& zm))])
      generalize d_zv : (((za.toUInt64 >>> (zs &&& 0x3f).toInt64.toUInt64).toInt64) &&& zm) = zv
      refine own_go (fun t k => XS.lstore X0.here hx rfl (hb hby d7_54) rfl (l' := #[.val (.long za), .second, .val (.long zb), .second, .val (.int zw), .val (.int zi), .val (.int zs), .val (.long zm), .second, .val (.long zv), .second, .unset, .unset, .unset, .unset, .unset, .unset]) rfl k) ?_
      show own_WP _ _ _ _ s₁ (mkF m 56 #[.val (.long za), .second, .val (.long zb), .second, .val (.int zw), .val (.int zi), .val (.int zs), .val (.long zm), .second, .val (.long zv), .second, .unset, .unset, .unset, .unset, .unset, .unset] [])
      refine own_go (fun t k => XS.goto X0.here hx rfl (pc0 := 56) (pc' := 99) rfl (hb hby d7_56) (by decide) (by decide) k) ?_
      show own_WP _ _ _ _ s₁ (mkF m 99 #[.val (.long za), .second, .val (.long zb), .second, .val (.int zw), .val (.int zi), .val (.int zs), .val (.long zm), .second, .val (.long zv), .second, .unset, .unset, .unset, .unset, .unset, .unset] [])
      refine own_go (fun t k => XS.lload X0.here hx rfl (hb hby d7_99) rfl  k) ?_
      show own_WP _ _ _ _ s₁ (mkF m 101 #[.val (.long za), .second, .val (.long zb), .second, .val (.int zw), .val (.int zi), .val (.int zs), .val (.long zm), .second, .val (.long zv), .second, .unset, .unset, .unset, .unset, .unset, .unset] [(.long zv)])
      refine own_go (fun t k => XS.l2i X0.here hx rfl (hb hby d7_101) rfl k) ?_
      show own_WP _ _ _ _ s₁ (mkF m 102 #[.val (.long za), .second, .val (.long zb), .second, .val (.int zw), .val (.int zi), .val (.int zs), .val (.long zm), .second, .val (.long zv), .second, .unset, .unset, .unset, .unset, .unset, .unset] [(.int (zv.toInt32))])
      refine own_retI X0 hx Bd.notSynchronized Bd.returns (hb hby d7_102) (by decide) (by decide) ?_
      rw [e0]
      exact ⟨(congrArg (fun z => some (Value.int z)) (show (zv.toInt32) = (own_exp za zb zw zi) from by subst d_zv d_zm d_zs; unfold own_exp; rw [if_pos hc19, if_neg hc44]; rfl)), N0, rfl⟩
  · refine own_go (fun t k => XS.icmpNo X0.here hx rfl (hb hby d7_19) rfl (flt hc19).1 k) ?_
    show own_WP _ _ _ _ s₁ (mkF m 22 #[.val (.long za), .second, .val (.long zb), .second, .val (.int zw), .val (.int zi), .val (.int zs), .val (.long zm), .second, .unset, .unset, .unset, .unset, .unset, .unset, .unset, .unset] [])
    refine own_go (fun t k => XS.lloadN X0.here hx rfl (hb hby d7_22) rfl  k) ?_
    show own_WP _ _ _ _ s₁ (mkF m 23 #[.val (.long za), .second, .val (.long zb), .second, .val (.int zw), .val (.int zi), .val (.int zs), .val (.long zm), .second, .unset, .unset, .unset, .unset, .unset, .unset, .unset, .unset] [(.long zb)])
    refine own_go (fun t k => XS.iload X0.here hx rfl (hb hby d7_23) rfl  k) ?_
    show own_WP _ _ _ _ s₁ (mkF m 25 #[.val (.long za), .second, .val (.long zb), .second, .val (.int zw), .val (.int zi), .val (.int zs), .val (.long zm), .second, .unset, .unset, .unset, .unset, .unset, .unset, .unset, .unset] [(.int zs), (.long zb)])
    refine own_go (fun t k => XS.bipush X0.here hx rfl (hb hby d7_25) k) ?_
    show own_WP _ _ _ _ s₁ (mkF m 27 #[.val (.long za), .second, .val (.long zb), .second, .val (.int zw), .val (.int zi), .val (.int zs), .val (.long zm), .second, .unset, .unset, .unset, .unset, .unset, .unset, .unset, .unset] [(.int (64 : Int32)), (.int zs), (.long zb)])
    refine own_go (fun t k => XS.isub X0.here hx rfl (hb hby d7_27) rfl k) ?_
    show own_WP _ _ _ _ s₁ (mkF m 28 #[.val (.long za), .second, .val (.long zb), .second, .val (.int zw), .val (.int zi), .val (.int zs), .val (.long zm), .second, .unset, .unset, .unset, .unset, .unset, .unset, .unset, .unset] [(.int (zs - (64 : Int32))), (.long zb)])
    refine own_go (fun t k => XS.lushr X0.here hx rfl (hb hby d7_28) rfl k) ?_
    show own_WP _ _ _ _ s₁ (mkF m 29 #[.val (.long za), .second, .val (.long zb), .second, .val (.int zw), .val (.int zi), .val (.int zs), .val (.long zm), .second, .unset, .unset, .unset, .unset, .unset, .unset, .unset, .unset] [(.long ((zb.toUInt64 >>> ((zs - (64 : Int32)) &&& 0x3f).toInt64.toUInt64).toInt64))])
    refine own_go (fun t k => XS.lload X0.here hx rfl (hb hby d7_29) rfl  k) ?_
    show own_WP _ _ _ _ s₁ (mkF m 31 #[.val (.long za), .second, .val (.long zb), .second, .val (.int zw), .val (.int zi), .val (.int zs), .val (.long zm), .second, .unset, .unset, .unset, .unset, .unset, .unset, .unset, .unset] [(.long zm), (.long ((zb.toUInt64 >>> ((zs - (64 : Int32)) &&& 0x3f).toInt64.toUInt64).toInt64))])
    refine own_go (fun t k => XS.land X0.here hx rfl (hb hby d7_31) rfl k) ?_
    show own_WP _ _ _ _ s₁ (mkF m 32 #[.val (.long za), .second, .val (.long zb), .second, .val (.int zw), .val (.int zi), .val (.int zs), .val (.long zm), .second, .unset, .unset, .unset, .unset, .unset, .unset, .unset, .unset] [(.long (((zb.toUInt64 >>> ((zs - (64 : Int32)) &&& 0x3f).toInt64.toUInt64).toInt64) &&& zm))])
    generalize d_zv : (((zb.toUInt64 >>> ((zs - (64 : Int32)) &&& 0x3f).toInt64.toUInt64).toInt64) &&& zm) = zv
    refine own_go (fun t k => XS.lstore X0.here hx rfl (hb hby d7_32) rfl (l' := #[.val (.long za), .second, .val (.long zb), .second, .val (.int zw), .val (.int zi), .val (.int zs), .val (.long zm), .second, .val (.long zv), .second, .unset, .unset, .unset, .unset, .unset, .unset]) rfl k) ?_
    show own_WP _ _ _ _ s₁ (mkF m 34 #[.val (.long za), .second, .val (.long zb), .second, .val (.int zw), .val (.int zi), .val (.int zs), .val (.long zm), .second, .val (.long zv), .second, .unset, .unset, .unset, .unset, .unset, .unset] [])
    refine own_go (fun t k => XS.goto X0.here hx rfl (pc0 := 34) (pc' := 99) rfl (hb hby d7_34) (by decide) (by decide) k) ?_
    show own_WP _ _ _ _ s₁ (mkF m 99 #[.val (.long za), .second, .val (.long zb), .second, .val (.int zw), .val (.int zi), .val (.int zs), .val (.long zm), .second, .val (.long zv), .second, .unset, .unset, .unset, .unset, .unset, .unset] [])
    refine own_go (fun t k => XS.lload X0.here hx rfl (hb hby d7_99) rfl  k) ?_
    show own_WP _ _ _ _ s₁ (mkF m 101 #[.val (.long za), .second, .val (.long zb), .second, .val (.int zw), .val (.int zi), .val (.int zs), .val (.long zm), .second, .val (.long zv), .second, .unset, .unset, .unset, .unset, .unset, .unset] [(.long zv)])
    refine own_go (fun t k => XS.l2i X0.here hx rfl (hb hby d7_101) rfl k) ?_
    show own_WP _ _ _ _ s₁ (mkF m 102 #[.val (.long za), .second, .val (.long zb), .second, .val (.int zw), .val (.int zi), .val (.int zs), .val (.long zm), .second, .val (.long zv), .second, .unset, .unset, .unset, .unset, .unset, .unset] [(.int (zv.toInt32))])
    refine own_retI X0 hx Bd.notSynchronized Bd.returns (hb hby d7_102) (by decide) (by decide) ?_
    rw [e0]
    exact ⟨(congrArg (fun z => some (Value.int z)) (show (zv.toInt32) = (own_exp za zb zw zi) from by subst d_zv d_zm d_zs; unfold own_exp; rw [if_neg hc19]; rfl)), N0, rfl⟩
theorem own_pd87048 : parseMethodDescriptor "([JII)V" = some ⟨[(.array .long), .int, .int], none⟩ := by decide +kernel
theorem own_pd81837 : parseMethodDescriptor "(I)I" = some ⟨[.int], some .int⟩ := by decide +kernel
theorem own_pd91960 : parseMethodDescriptor "(JJII)I" = some ⟨[.long, .long, .int, .int], some .int⟩ := by decide +kernel
theorem ef_0 (m : MethodId) (za : Int64) (zb : Int64) (zq : Int32) (zp : Int32) : entryFrame m #[(.long za), (.long zb), (.int zq), (.int zp)] maxLocals = mkF m 0 #[.val (.long za), .second, .val (.long zb), .second, .val (.int zq), .val (.int zp), .unset, .unset, .unset, .unset] [] := by first | (simp [entryFrame, mkF, argsToLocals, Value.category, maxLocals]; done) | rfl
def Q0 (Z : State) (za : Int64) (zb : Int64) (zq : Int32) (zp : Int32) (h0 : Heap) (n0 : Nat) (v : Option Value) (h : Heap) (L : List Loc) : Prop := v = some (.int 1) ∧ Fr n0 L
set_option maxRecDepth 65536 in
set_option maxHeartbeats 40000000 in
theorem rm0 (l : Launch) (Z : State) (a0 : Array Value) (hw : ∀ d ∈ tables_1, d.before a0 Z = true) (ws : List Jvm.Cond) (za : Int64) (zb : Int64) (zq : Int32) (zp : Int32) (h0 : Heap) (n0 : Nat) (Z0 : n0 ≤ h0.size)  :
    MetFree l x (head1 (Jvm.Cond.code x code maxLocals ret :: ws) room_1) (fun a U => a = #[(.long za), (.long zb), (.int zq), (.int zp)] ∧ Z.Warmed39 U.vm ∧ U.heap = h0) (fun _ _ _ _ _ => True) (fun _ U o U' => ∃ v L, o = .returned v ∧ Q0 Z za zb zq zp h0 n0 v U'.heap L ∧ FrameEnd U o U' L 3 9) := by
  refine MetFree.of_bodySF (plainFor_of_name own_pn5409) hisR ?_
  intro p e s m args below meth c s₁ Bd hml0 hP hK
  obtain ⟨rfl, hZ, hh⟩ := hP
  have hx := Bd.exec
  have hby := Bd.bytes
  have hml : c.maxLocals = 10 := hml0
  have hown : s.vm.findClass "com/example/bijecta/bijecta/mph/PackedArrayGetPinLaw" = some m.cls := findClass_of_methodNamed Bd.named
  have hnm := (name_of_methodNamed Bd.named Bd.method).1
  have X0 : Stand p l e room_1 s m #[(.long za), (.long zb), (.int zq), (.int zp)] below meth c s₁ [] 0 0 := Stand.of_body Bd
  have e0 : s₁.heap = h0 := by rw [← hh, Bd.state]; rfl
  have N0 := Fr.nil n0
  have K0 := Keep.refl h0 ([] : List Addr)
  show own_WP p e below (own_E s (Q0 Z za zb zq zp h0 n0) 3 9) s₁ (entryFrame m #[(.long za), (.long zb), (.int zq), (.int zp)] maxLocals)
  rw [ef_0 m za zb zq zp]
  show own_WP _ _ _ _ s₁ (mkF m 0 #[.val (.long za), .second, .val (.long zb), .second, .val (.int zq), .val (.int zp), .unset, .unset, .unset, .unset] [])
  refine own_go (fun t k => XS.iload X0.here hx rfl (hb hby at_0) rfl  k) ?_
  show own_WP _ _ _ _ s₁ (mkF m 2 #[.val (.long za), .second, .val (.long zb), .second, .val (.int zq), .val (.int zp), .unset, .unset, .unset, .unset] [(.int zq)])
  refine own_go (fun t k => X0.ldcInt hx hown (mvT hZ (hw _ (List.mem_of_getElem? (i := 0) rfl))) (g := (mkF m 2 #[.val (.long za), .second, .val (.long zb), .second, .val (.int zq), .val (.int zp), .unset, .unset, .unset, .unset] [(.int zq)])) rfl (hb hby at_2) t k) ?_
  show own_WP _ _ _ _ s₁ (mkF m 4 #[.val (.long za), .second, .val (.long zb), .second, .val (.int zq), .val (.int zp), .unset, .unset, .unset, .unset] [(.int (2147483647 : Int32)), (.int zq)])
  refine own_go (fun t k => XS.iand X0.here hx rfl (hb hby at_4) rfl k) ?_
  show own_WP _ _ _ _ s₁ (mkF m 5 #[.val (.long za), .second, .val (.long zb), .second, .val (.int zq), .val (.int zp), .unset, .unset, .unset, .unset] [(.int (zq &&& (2147483647 : Int32)))])
  refine own_go (fun t k => XS.bipush X0.here hx rfl (hb hby at_5) k) ?_
  show own_WP _ _ _ _ s₁ (mkF m 7 #[.val (.long za), .second, .val (.long zb), .second, .val (.int zq), .val (.int zp), .unset, .unset, .unset, .unset] [(.int (33 : Int32)), (.int (zq &&& (2147483647 : Int32)))])
  have hnz7 : (33 : Int32) ≠ 0 := by decide
  refine own_go (fun t k => iremM X0 hx rfl (hb hby at_7) rfl hnz7 k) ?_
  show own_WP _ _ _ _ s₁ (mkF m 8 #[.val (.long za), .second, .val (.long zb), .second, .val (.int zq), .val (.int zp), .unset, .unset, .unset, .unset] [(.int ((zq &&& (2147483647 : Int32)) % (33 : Int32)))])
  generalize d_zw : ((zq &&& (2147483647 : Int32)) % (33 : Int32)) = zw
  refine own_go (fun t k => XS.istore X0.here hx rfl (hb hby at_8) rfl (l' := #[.val (.long za), .second, .val (.long zb), .second, .val (.int zq), .val (.int zp), .val (.int zw), .unset, .unset, .unset]) rfl k) ?_
  show own_WP _ _ _ _ s₁ (mkF m 10 #[.val (.long za), .second, .val (.long zb), .second, .val (.int zq), .val (.int zp), .val (.int zw), .unset, .unset, .unset] [])
  refine own_go (fun t k => XS.iload X0.here hx rfl (hb hby at_10) rfl  k) ?_
  show own_WP _ _ _ _ s₁ (mkF m 12 #[.val (.long za), .second, .val (.long zb), .second, .val (.int zq), .val (.int zp), .val (.int zw), .unset, .unset, .unset] [(.int zw)])
  by_cases hc12 : zw = (0 : Int32)
  · refine own_go (fun t k => XS.ifNo X0.here hx rfl (hb hby at_12) rfl ((if0 _ _).trans (teq hc12).2) k) ?_
    show own_WP _ _ _ _ s₁ (mkF m 15 #[.val (.long za), .second, .val (.long zb), .second, .val (.int zq), .val (.int zp), .val (.int zw), .unset, .unset, .unset] [])
    obtain ⟨T1, h1, X1, e1, E1, A1, D1, -, st1⟩ := newO X0 hx hZ hown (hw _ (List.mem_of_getElem? (i := 1) rfl)) (hw _ (List.mem_of_getElem? (i := 2) rfl)) (hw _ (List.mem_of_getElem? (i := 3) rfl)) e0 (g := (mkF m 15 #[.val (.long za), .second, .val (.long zb), .second, .val (.int zq), .val (.int zp), .val (.int zw), .unset, .unset, .unset] [])) rfl (hb hby at_15) (by decide) (by decide)
    obtain ⟨zo, q1⟩ : ∃ z, z = h0.size := ⟨_, rfl⟩
    rw [← q1] at A1 D1 st1
    refine own_go st1 ?_
    have g_zo : n0 ≤ zo := Nat.le_trans (own_le Z0 K0) (Nat.le_of_eq q1.symm)
    have sz_zo : h0.size ≤ zo := Nat.le_trans K0.1 (Nat.le_of_eq q1.symm)
    have K2 : Keep h0 h1 [] := K0.ext E1
    have f3 : Fld Z h1 zo "com/example/bijecta/bijecta/mph/PackedArray" "words" "[J" .null := D1 (Or.inr (hw _ (List.mem_of_getElem? (i := 28) rfl))) (ty := (.array .long)) (by decide)
    have f4 : Fld Z h1 zo "com/example/bijecta/bijecta/mph/PackedArray" "width" "I" (.int (0 : Int32)) := D1 (Or.inr (hw _ (List.mem_of_getElem? (i := 30) rfl))) (ty := .int) (by decide)
    have f5 : Fld Z h1 zo "com/example/bijecta/bijecta/mph/PackedArray" "length" "I" (.int (0 : Int32)) := D1 (Or.inr (hw _ (List.mem_of_getElem? (i := 32) rfl))) (ty := .int) (by decide)
    have f6 : Fld Z h1 zo "com/example/bijecta/bijecta/mph/PackedArray" "mask" "J" (.long (0 : Int64)) := D1 (Or.inr (hw _ (List.mem_of_getElem? (i := 34) rfl))) (ty := .long) (by decide)
    show own_WP _ _ _ _ T1 (mkF m 18 #[.val (.long za), .second, .val (.long zb), .second, .val (.int zq), .val (.int zp), .val (.int zw), .unset, .unset, .unset] [(.ref zo)])
    refine own_go (fun t k => XS.dup X1.here hx rfl (hb hby at_18) rfl rfl k) ?_
    show own_WP _ _ _ _ T1 (mkF m 19 #[.val (.long za), .second, .val (.long zb), .second, .val (.int zq), .val (.int zp), .val (.int zw), .unset, .unset, .unset] [(.ref zo), (.ref zo)])
    refine own_go (fun t k => XS.iconst X1.here hx rfl (hb hby at_19) k) ?_
    show own_WP _ _ _ _ T1 (mkF m 20 #[.val (.long za), .second, .val (.long zb), .second, .val (.int zq), .val (.int zp), .val (.int zw), .unset, .unset, .unset] [(.int (0 : Int32)), (.ref zo), (.ref zo)])
    obtain ⟨T7, h7, k7, X7, e7, E7, A7, G7, st7⟩ := newPE X1 hx hZ (hw _ (List.mem_of_getElem? (i := 4) rfl)) e1 (g := (mkF m 20 #[.val (.long za), .second, .val (.long zb), .second, .val (.int zq), .val (.int zp), .val (.int zw), .unset, .unset, .unset] [(.int (0 : Int32)), (.ref zo), (.ref zo)])) rfl (hb hby at_20) rfl (by decide) (cap := 0) (by decide) (by decide) (by decide) (by decide) (ad := "[J") rfl
    obtain ⟨zA, q7⟩ : ∃ z, z = h1.size := ⟨_, rfl⟩
    rw [← q7] at A7 G7 st7
    refine own_go st7 ?_
    have g_zA : n0 ≤ zA := Nat.le_trans (own_le Z0 K2) (Nat.le_of_eq q7.symm)
    have sz_zA : h0.size ≤ zA := Nat.le_trans K2.1 (Nat.le_of_eq q7.symm)
    have ne_zo_zA : zo ≠ zA := Nat.ne_of_lt (Nat.lt_of_lt_of_le A1.lt (Nat.le_of_eq q7.symm))
    have f8 : Exa Z h7 zo "com/example/bijecta/bijecta/mph/PackedArray" := A1.ext E7
    have f9 : Fld Z h7 zo "com/example/bijecta/bijecta/mph/PackedArray" "words" "[J" .null := f3.ext E7
    have f10 : Fld Z h7 zo "com/example/bijecta/bijecta/mph/PackedArray" "width" "I" (.int (0 : Int32)) := f4.ext E7
    have f11 : Fld Z h7 zo "com/example/bijecta/bijecta/mph/PackedArray" "length" "I" (.int (0 : Int32)) := f5.ext E7
    have f12 : Fld Z h7 zo "com/example/bijecta/bijecta/mph/PackedArray" "mask" "J" (.long (0 : Int64)) := f6.ext E7
    have K13 : Keep h0 h7 [] := K2.ext E7
    have f14 : Arv Z h7 zA k7 .long (0 : Int32) [] (.long (0 : Int64)) := (Arv.new A7 (by decide)).pad (pad_rep [] (.long (0 : Int64)) 0)
    show own_WP _ _ _ _ T7 (mkF m 22 #[.val (.long za), .second, .val (.long zb), .second, .val (.int zq), .val (.int zp), .val (.int zw), .unset, .unset, .unset] [(.ref zA), (.ref zo), (.ref zo)])
    refine own_go (fun t k => XS.iconst X7.here hx rfl (hb hby at_22) k) ?_
    show own_WP _ _ _ _ T7 (mkF m 23 #[.val (.long za), .second, .val (.long zb), .second, .val (.int zq), .val (.int zp), .val (.int zw), .unset, .unset, .unset] [(.int (0 : Int32)), (.ref zA), (.ref zo), (.ref zo)])
    refine own_go (fun t k => XS.bipush X7.here hx rfl (hb hby at_23) k) ?_
    show own_WP _ _ _ _ T7 (mkF m 25 #[.val (.long za), .second, .val (.long zb), .second, .val (.int zq), .val (.int zp), .val (.int zw), .unset, .unset, .unset] [(.int (7 : Int32)), (.int (0 : Int32)), (.ref zA), (.ref zo), (.ref zo)])
    obtain ⟨_, _, ⟨T15, L15, k15, n15⟩, -, X15, ⟨Lc15, hQ15, l15, y15, z15⟩, st15⟩ := X7.specialBack hx (y := (⟨"com/example/bijecta/bijecta/mph/PackedArray", "<init>", "([JII)V"⟩ : MethodName)) rfl hown (mvT hZ (hw _ (List.mem_of_getElem? (i := 5) rfl))) (mvT hZ (hw _ (List.mem_of_getElem? (i := 6) rfl))) (mvT hZ (hw _ (List.mem_of_getElem? (i := 7) rfl))) (by decide) (backOf (W := 1) (rm1 l Z a0 hw [] zo zA (0 : Int32) (7 : Int32) .null (.int (0 : Int32)) (.int (0 : Int32)) (.long (0 : Int64)) k7 (0 : Int32) ([] : List Int64) h7 n0 (own_le Z0 K13) f8 f9 f10 f11 f12 (f14) g_zo ne_zo_zA (show ([] : List Int64).length = (0 : Int32).toNatClampNeg from rfl) (show 0 ≤ (0 : Int32).toInt from by decide) (show (0 : Int32).toInt ≤ 2 from by decide) (show ¬ (0 : Int32) < 0 from by decide) (show ¬ (32 : Int32) < (0 : Int32) from by decide) (show ¬ (7 : Int32) < 0 from by decide) (show (0 : Int32) = own_wc (0 : Int32) (7 : Int32) from by decide)) hZ (hw _ (List.mem_of_getElem? (i := 7) rfl)) (hw _ (List.mem_of_getElem? (i := 3) rfl)) (by decide) (by decide)) (g := (mkF m 25 #[.val (.long za), .second, .val (.long zb), .second, .val (.int zq), .val (.int zp), .val (.int zw), .unset, .unset, .unset] [(.int (7 : Int32)), (.int (0 : Int32)), (.ref zA), (.ref zo), (.ref zo)])) rfl (by rw [hml]; rfl) (Steps.refl _) (a := zo) (argsL := [(.ref zA), (.int (0 : Int32)), (.int (7 : Int32))]) (rest := [(.ref zo)]) (lenOf own_pd87048 rfl) rfl (by show 2 * 0 + _ ≤ _; exact Nat.le_of_eq rfl) (hb hby at_25) (fun _ _ => ⟨rfl, e7, (by decide : 2 + 1 ≤ _), (by decide : 4 + 3 ≤ _)⟩)
    dsimp only [Pt.U, Pt.locs, Pt.cells, Pt.slots] at X15 l15 y15 z15 st15 hQ15
    subst l15 y15 z15
    obtain ⟨zR, zK, rfl, N15q, Kc15, g_zR, szc_zR, f16, f17, f18, f19, f20⟩ := hQ15
    have N15 := Fr.app N0 N15q
    refine own_tr st15 ?_
    have sz_zR : h0.size ≤ zR := Nat.le_trans K13.1 szc_zR
    have ne_zo_zR : zo ≠ zR := Nat.ne_of_lt (Nat.lt_of_lt_of_le f8.lt szc_zR)
    have ne_zA_zR : zA ≠ zR := Nat.ne_of_lt (Nat.lt_of_lt_of_le f14.lt szc_zR)
    have f21 : Exa Z T15.heap zo "com/example/bijecta/bijecta/mph/PackedArray" := f8.keep Kc15
    have f26 : Arv Z T15.heap zA k7 .long (0 : Int32) [] (.long (0 : Int64)) := f14.keep Kc15 (own_nm (Ne.symm ne_zo_zA))
    have K27 : Keep h0 T15.heap [] := K13.trans Kc15 (fun x hx => by cases List.mem_singleton.mp hx; exact Or.inr sz_zo)
    show own_WP _ _ _ _ T15 (mkF m 28 #[.val (.long za), .second, .val (.long zb), .second, .val (.int zq), .val (.int zp), .val (.int zw), .unset, .unset, .unset] [(.ref zo)])
    refine own_go (fun t k => XS.astore X15.here hx rfl (hb hby at_28) rfl rfl (l' := #[.val (.long za), .second, .val (.long zb), .second, .val (.int zq), .val (.int zp), .val (.int zw), .val (.ref zo), .unset, .unset]) rfl k) ?_
    show own_WP _ _ _ _ T15 (mkF m 30 #[.val (.long za), .second, .val (.long zb), .second, .val (.int zq), .val (.int zp), .val (.int zw), .val (.ref zo), .unset, .unset] [])
    refine own_go (fun t k => XS.iload X15.here hx rfl (hb hby at_30) rfl  k) ?_
    show own_WP _ _ _ _ T15 (mkF m 32 #[.val (.long za), .second, .val (.long zb), .second, .val (.int zq), .val (.int zp), .val (.int zw), .val (.ref zo), .unset, .unset] [(.int zp)])
    refine own_go (fun t k => X15.ldcInt hx hown (mvT hZ (hw _ (List.mem_of_getElem? (i := 0) rfl))) (g := (mkF m 32 #[.val (.long za), .second, .val (.long zb), .second, .val (.int zq), .val (.int zp), .val (.int zw), .val (.ref zo), .unset, .unset] [(.int zp)])) rfl (hb hby at_32) t k) ?_
    show own_WP _ _ _ _ T15 (mkF m 34 #[.val (.long za), .second, .val (.long zb), .second, .val (.int zq), .val (.int zp), .val (.int zw), .val (.ref zo), .unset, .unset] [(.int (2147483647 : Int32)), (.int zp)])
    refine own_go (fun t k => XS.iand X15.here hx rfl (hb hby at_34) rfl k) ?_
    show own_WP _ _ _ _ T15 (mkF m 35 #[.val (.long za), .second, .val (.long zb), .second, .val (.int zq), .val (.int zp), .val (.int zw), .val (.ref zo), .unset, .unset] [(.int (zp &&& (2147483647 : Int32)))])
    refine own_go (fun t k => XS.bipush X15.here hx rfl (hb hby at_35) k) ?_
    show own_WP _ _ _ _ T15 (mkF m 37 #[.val (.long za), .second, .val (.long zb), .second, .val (.int zq), .val (.int zp), .val (.int zw), .val (.ref zo), .unset, .unset] [(.int (7 : Int32)), (.int (zp &&& (2147483647 : Int32)))])
    have hnz37 : (7 : Int32) ≠ 0 := by decide
    refine own_go (fun t k => iremM X15 hx rfl (hb hby at_37) rfl hnz37 k) ?_
    show own_WP _ _ _ _ T15 (mkF m 38 #[.val (.long za), .second, .val (.long zb), .second, .val (.int zq), .val (.int zp), .val (.int zw), .val (.ref zo), .unset, .unset] [(.int ((zp &&& (2147483647 : Int32)) % (7 : Int32)))])
    generalize d_zi : ((zp &&& (2147483647 : Int32)) % (7 : Int32)) = zi
    refine own_go (fun t k => XS.istore X15.here hx rfl (hb hby at_38) rfl (l' := #[.val (.long za), .second, .val (.long zb), .second, .val (.int zq), .val (.int zp), .val (.int zw), .val (.ref zo), .val (.int zi), .unset]) rfl k) ?_
    show own_WP _ _ _ _ T15 (mkF m 40 #[.val (.long za), .second, .val (.long zb), .second, .val (.int zq), .val (.int zp), .val (.int zw), .val (.ref zo), .val (.int zi), .unset] [])
    refine own_go (fun t k => XS.aload X15.here hx rfl (hb hby at_40) rfl rfl  k) ?_
    show own_WP _ _ _ _ T15 (mkF m 42 #[.val (.long za), .second, .val (.long zb), .second, .val (.int zq), .val (.int zp), .val (.int zw), .val (.ref zo), .val (.int zi), .unset] [(.ref zo)])
    refine own_go (fun t k => XS.iload X15.here hx rfl (hb hby at_42) rfl  k) ?_
    show own_WP _ _ _ _ T15 (mkF m 44 #[.val (.long za), .second, .val (.long zb), .second, .val (.int zq), .val (.int zp), .val (.int zw), .val (.ref zo), .val (.int zi), .unset] [(.int zi), (.ref zo)])
    obtain ⟨cq28, kq28, q28a, q28b, q28c⟩ := isOf hZ rfl f16
    obtain ⟨_, _, ⟨T28, L28, k28, n28⟩, -, X28, ⟨Lc28, hQ28, l28, y28, z28⟩, st28⟩ := X15.virtualBack hx (y := (⟨"com/example/bijecta/bijecta/mph/PackedArray", "get", "(I)I"⟩ : MethodName)) (z := (⟨"com/example/bijecta/bijecta/mph/PackedArray", "get", "(I)I"⟩ : MethodName)) hown (mvT hZ (hw _ (List.mem_of_getElem? (i := 35) rfl))) (mvT hZ (hw _ (List.mem_of_getElem? (i := 36) rfl))) (notFace_of_selects (args := #[]) (mvT hZ (hw _ (List.mem_of_getElem? (i := 38) rfl)))) (mvT hZ (hw _ (List.mem_of_getElem? (i := 38) rfl))) (mvT hZ (hw _ (List.mem_of_getElem? (i := 37) rfl))) (by decide) (backOf (W := 0) (rm6 l Z a0 hw [] zo zi zR (0 : Int32) (own_mk (0 : Int32)) zK ((0 : Int32) + (1 : Int32)) ([] : List Int64) T15.heap n0 (own_le Z0 K27) f17 f18 f19 f20 (show ¬ own_wd (0 : Int32) zi < 0 ∧ own_wd (0 : Int32) zi < ((0 : Int32) + (1 : Int32)) from own_z1 zi) (show 64 < own_of (0 : Int32) zi + (0 : Int32) → ¬ own_wd (0 : Int32) zi + 1 < 0 ∧ own_wd (0 : Int32) zi + 1 < ((0 : Int32) + (1 : Int32)) from own_z2 zi)) hZ (hw _ (List.mem_of_getElem? (i := 39) rfl)) (hw _ (List.mem_of_getElem? (i := 3) rfl)) (by decide) (by decide)) q28a q28c (g := (mkF m 44 #[.val (.long za), .second, .val (.long zb), .second, .val (.int zq), .val (.int zp), .val (.int zw), .val (.ref zo), .val (.int zi), .unset] [(.int zi), (.ref zo)])) rfl (by rw [hml]; rfl) (Steps.refl _) (argsL := [(.int zi)]) (rest := []) (lenOf own_pd81837 rfl) rfl (by show 2 * 0 + _ ≤ _; exact Nat.le_of_eq rfl) (hb hby at_44) (fun _ _ => ⟨rfl, rfl, (by decide : 3 + 0 ≤ _), (by decide : 7 + 0 ≤ _)⟩)
    dsimp only [Pt.U, Pt.locs, Pt.cells, Pt.slots] at X28 l28 y28 z28 st28 hQ28
    subst l28 y28 z28
    obtain ⟨rfl, N28q, eq28⟩ := hQ28
    have N28 := Fr.app N15 N28q
    refine own_tr st28 ?_
    show own_WP _ _ _ _ T28 (mkF m 47 #[.val (.long za), .second, .val (.long zb), .second, .val (.int zq), .val (.int zp), .val (.int zw), .val (.ref zo), .val (.int zi), .unset] [(.int (own_get (0 : Int32) zi (own_mk (0 : Int32)) ([] : List Int64)))])
    have hc47 : (own_get (0 : Int32) zi (own_mk (0 : Int32)) ([] : List Int64)) = (0 : Int32) := by
      exact own_zero zi
    refine own_go (fun t k => XS.ifNo X28.here hx rfl (hb hby at_47) rfl ((if0 _ _).trans (teq hc47).2) k) ?_
    show own_WP _ _ _ _ T28 (mkF m 50 #[.val (.long za), .second, .val (.long zb), .second, .val (.int zq), .val (.int zp), .val (.int zw), .val (.ref zo), .val (.int zi), .unset] [])
    refine own_go (fun t k => XS.iconst X28.here hx rfl (hb hby at_50) k) ?_
    show own_WP _ _ _ _ T28 (mkF m 51 #[.val (.long za), .second, .val (.long zb), .second, .val (.int zq), .val (.int zp), .val (.int zw), .val (.ref zo), .val (.int zi), .unset] [(.int (1 : Int32))])
    refine own_go (fun t k => XS.goto X28.here hx rfl (pc0 := 51) (pc' := 55) rfl (hb hby at_51) (by decide) (by decide) k) ?_
    show own_WP _ _ _ _ T28 (mkF m 55 #[.val (.long za), .second, .val (.long zb), .second, .val (.int zq), .val (.int zp), .val (.int zw), .val (.ref zo), .val (.int zi), .unset] [(.int (1 : Int32))])
    refine own_retN X28 hx Bd.notSynchronized (t := .boolean) (by simp) Bd.returns (hb hby at_55) (by decide) (by decide) ?_
    rw [eq28]
    exact ⟨rfl, N28⟩
  · refine own_go (fun t k => XS.ifYes X0.here hx rfl (pc0 := 12) (pc' := 56) rfl (hb hby at_12) rfl ((if0 _ _).trans (feq hc12).2) (by decide) (by decide) k) ?_
    have hw1 : 1 ≤ zw.toInt ∧ zw.toInt ≤ 32 := own_w1 (d_zw ▸ own_mod33 zq) hc12
    show own_WP _ _ _ _ s₁ (mkF m 56 #[.val (.long za), .second, .val (.long zb), .second, .val (.int zq), .val (.int zp), .val (.int zw), .unset, .unset, .unset] [])
    refine own_go (fun t k => XS.sipush X0.here hx rfl (hb hby at_56) k) ?_
    show own_WP _ _ _ _ s₁ (mkF m 59 #[.val (.long za), .second, .val (.long zb), .second, .val (.int zq), .val (.int zp), .val (.int zw), .unset, .unset, .unset] [(.int (128 : Int32))])
    refine own_go (fun t k => XS.iload X0.here hx rfl (hb hby at_59) rfl  k) ?_
    show own_WP _ _ _ _ s₁ (mkF m 61 #[.val (.long za), .second, .val (.long zb), .second, .val (.int zq), .val (.int zp), .val (.int zw), .unset, .unset, .unset] [(.int zw), (.int (128 : Int32))])
    have hnz61 : ¬ (zw = (0 : Int32)) := hc12
    refine own_go (fun t k => XS.idiv X0.here hx rfl (hb hby at_61) rfl hnz61 k) ?_
    show own_WP _ _ _ _ s₁ (mkF m 62 #[.val (.long za), .second, .val (.long zb), .second, .val (.int zq), .val (.int zp), .val (.int zw), .unset, .unset, .unset] [(.int ((128 : Int32) / zw))])
    generalize d_zn : ((128 : Int32) / zw) = zn
    refine own_go (fun t k => XS.istore X0.here hx rfl (hb hby at_62) rfl (l' := #[.val (.long za), .second, .val (.long zb), .second, .val (.int zq), .val (.int zp), .val (.int zw), .val (.int zn), .unset, .unset]) rfl k) ?_
    show own_WP _ _ _ _ s₁ (mkF m 64 #[.val (.long za), .second, .val (.long zb), .second, .val (.int zq), .val (.int zp), .val (.int zw), .val (.int zn), .unset, .unset] [])
    refine own_go (fun t k => XS.iload X0.here hx rfl (hb hby at_64) rfl  k) ?_
    show own_WP _ _ _ _ s₁ (mkF m 66 #[.val (.long za), .second, .val (.long zb), .second, .val (.int zq), .val (.int zp), .val (.int zw), .val (.int zn), .unset, .unset] [(.int zp)])
    refine own_go (fun t k => X0.ldcInt hx hown (mvT hZ (hw _ (List.mem_of_getElem? (i := 0) rfl))) (g := (mkF m 66 #[.val (.long za), .second, .val (.long zb), .second, .val (.int zq), .val (.int zp), .val (.int zw), .val (.int zn), .unset, .unset] [(.int zp)])) rfl (hb hby at_66) t k) ?_
    show own_WP _ _ _ _ s₁ (mkF m 68 #[.val (.long za), .second, .val (.long zb), .second, .val (.int zq), .val (.int zp), .val (.int zw), .val (.int zn), .unset, .unset] [(.int (2147483647 : Int32)), (.int zp)])
    refine own_go (fun t k => XS.iand X0.here hx rfl (hb hby at_68) rfl k) ?_
    show own_WP _ _ _ _ s₁ (mkF m 69 #[.val (.long za), .second, .val (.long zb), .second, .val (.int zq), .val (.int zp), .val (.int zw), .val (.int zn), .unset, .unset] [(.int (zp &&& (2147483647 : Int32)))])
    refine own_go (fun t k => XS.iload X0.here hx rfl (hb hby at_69) rfl  k) ?_
    show own_WP _ _ _ _ s₁ (mkF m 71 #[.val (.long za), .second, .val (.long zb), .second, .val (.int zq), .val (.int zp), .val (.int zw), .val (.int zn), .unset, .unset] [(.int zn), (.int (zp &&& (2147483647 : Int32)))])
    have hnz71 : zn ≠ 0 := own_n0 (d_zn ▸ own_div hw1.1 hw1.2) (own_dv hw1.1 hw1.2)
    refine own_go (fun t k => iremM X0 hx rfl (hb hby at_71) rfl hnz71 k) ?_
    show own_WP _ _ _ _ s₁ (mkF m 72 #[.val (.long za), .second, .val (.long zb), .second, .val (.int zq), .val (.int zp), .val (.int zw), .val (.int zn), .unset, .unset] [(.int ((zp &&& (2147483647 : Int32)) % zn))])
    generalize d_zi : ((zp &&& (2147483647 : Int32)) % zn) = zi
    refine own_go (fun t k => XS.istore X0.here hx rfl (hb hby at_72) rfl (l' := #[.val (.long za), .second, .val (.long zb), .second, .val (.int zq), .val (.int zp), .val (.int zw), .val (.int zn), .val (.int zi), .unset]) rfl k) ?_
    have hl1 : zn.toInt = 128 / zw.toInt := by rw [← d_zn]; exact own_div hw1.1 hw1.2
    have hl2 := own_dv hw1.1 hw1.2
    have hi1 := own_pick zp zn (by omega)
    rw [d_zi] at hi1
    have key := own_main za zb zw zi hw1.1 hw1.2 hi1.1 (own_fits hw1.1 hw1.2 hi1.1 (by rw [← hl1]; exact hi1.2))
    show own_WP _ _ _ _ s₁ (mkF m 74 #[.val (.long za), .second, .val (.long zb), .second, .val (.int zq), .val (.int zp), .val (.int zw), .val (.int zn), .val (.int zi), .unset] [])
    obtain ⟨T29, h29, X29, e29, E29, A29, D29, -, st29⟩ := newO X0 hx hZ hown (hw _ (List.mem_of_getElem? (i := 1) rfl)) (hw _ (List.mem_of_getElem? (i := 2) rfl)) (hw _ (List.mem_of_getElem? (i := 3) rfl)) e0 (g := (mkF m 74 #[.val (.long za), .second, .val (.long zb), .second, .val (.int zq), .val (.int zp), .val (.int zw), .val (.int zn), .val (.int zi), .unset] [])) rfl (hb hby at_74) (by decide) (by decide)
    obtain ⟨zo, q29⟩ : ∃ z, z = h0.size := ⟨_, rfl⟩
    rw [← q29] at A29 D29 st29
    refine own_go st29 ?_
    have g_zo : n0 ≤ zo := Nat.le_trans (own_le Z0 K0) (Nat.le_of_eq q29.symm)
    have sz_zo : h0.size ≤ zo := Nat.le_trans K0.1 (Nat.le_of_eq q29.symm)
    have K30 : Keep h0 h29 [] := K0.ext E29
    have f31 : Fld Z h29 zo "com/example/bijecta/bijecta/mph/PackedArray" "words" "[J" .null := D29 (Or.inr (hw _ (List.mem_of_getElem? (i := 28) rfl))) (ty := (.array .long)) (by decide)
    have f32 : Fld Z h29 zo "com/example/bijecta/bijecta/mph/PackedArray" "width" "I" (.int (0 : Int32)) := D29 (Or.inr (hw _ (List.mem_of_getElem? (i := 30) rfl))) (ty := .int) (by decide)
    have f33 : Fld Z h29 zo "com/example/bijecta/bijecta/mph/PackedArray" "length" "I" (.int (0 : Int32)) := D29 (Or.inr (hw _ (List.mem_of_getElem? (i := 32) rfl))) (ty := .int) (by decide)
    have f34 : Fld Z h29 zo "com/example/bijecta/bijecta/mph/PackedArray" "mask" "J" (.long (0 : Int64)) := D29 (Or.inr (hw _ (List.mem_of_getElem? (i := 34) rfl))) (ty := .long) (by decide)
    show own_WP _ _ _ _ T29 (mkF m 77 #[.val (.long za), .second, .val (.long zb), .second, .val (.int zq), .val (.int zp), .val (.int zw), .val (.int zn), .val (.int zi), .unset] [(.ref zo)])
    refine own_go (fun t k => XS.dup X29.here hx rfl (hb hby at_77) rfl rfl k) ?_
    show own_WP _ _ _ _ T29 (mkF m 78 #[.val (.long za), .second, .val (.long zb), .second, .val (.int zq), .val (.int zp), .val (.int zw), .val (.int zn), .val (.int zi), .unset] [(.ref zo), (.ref zo)])
    refine own_go (fun t k => XS.iconst X29.here hx rfl (hb hby at_78) k) ?_
    show own_WP _ _ _ _ T29 (mkF m 79 #[.val (.long za), .second, .val (.long zb), .second, .val (.int zq), .val (.int zp), .val (.int zw), .val (.int zn), .val (.int zi), .unset] [(.int (2 : Int32)), (.ref zo), (.ref zo)])
    obtain ⟨T35, h35, k35, X35, e35, E35, A35, G35, st35⟩ := newPE X29 hx hZ (hw _ (List.mem_of_getElem? (i := 4) rfl)) e29 (g := (mkF m 79 #[.val (.long za), .second, .val (.long zb), .second, .val (.int zq), .val (.int zp), .val (.int zw), .val (.int zn), .val (.int zi), .unset] [(.int (2 : Int32)), (.ref zo), (.ref zo)])) rfl (hb hby at_79) rfl (by decide) (cap := 2) (by decide) (by decide) (by decide) (by decide) (ad := "[J") rfl
    obtain ⟨zA, q35⟩ : ∃ z, z = h29.size := ⟨_, rfl⟩
    rw [← q35] at A35 G35 st35
    refine own_go st35 ?_
    have g_zA : n0 ≤ zA := Nat.le_trans (own_le Z0 K30) (Nat.le_of_eq q35.symm)
    have sz_zA : h0.size ≤ zA := Nat.le_trans K30.1 (Nat.le_of_eq q35.symm)
    have ne_zo_zA : zo ≠ zA := Nat.ne_of_lt (Nat.lt_of_lt_of_le A29.lt (Nat.le_of_eq q35.symm))
    have f36 : Exa Z h35 zo "com/example/bijecta/bijecta/mph/PackedArray" := A29.ext E35
    have f37 : Fld Z h35 zo "com/example/bijecta/bijecta/mph/PackedArray" "words" "[J" .null := f31.ext E35
    have f38 : Fld Z h35 zo "com/example/bijecta/bijecta/mph/PackedArray" "width" "I" (.int (0 : Int32)) := f32.ext E35
    have f39 : Fld Z h35 zo "com/example/bijecta/bijecta/mph/PackedArray" "length" "I" (.int (0 : Int32)) := f33.ext E35
    have f40 : Fld Z h35 zo "com/example/bijecta/bijecta/mph/PackedArray" "mask" "J" (.long (0 : Int64)) := f34.ext E35
    have K41 : Keep h0 h35 [] := K30.ext E35
    have f42 : Arv Z h35 zA k35 .long (2 : Int32) [(.long (0 : Int64)), (.long (0 : Int64))] (.long (0 : Int64)) := (Arv.new A35 (by decide)).pad (pad_rep [] (.long (0 : Int64)) 2)
    show own_WP _ _ _ _ T35 (mkF m 81 #[.val (.long za), .second, .val (.long zb), .second, .val (.int zq), .val (.int zp), .val (.int zw), .val (.int zn), .val (.int zi), .unset] [(.ref zA), (.ref zo), (.ref zo)])
    refine own_go (fun t k => XS.dup X35.here hx rfl (hb hby at_81) rfl rfl k) ?_
    show own_WP _ _ _ _ T35 (mkF m 82 #[.val (.long za), .second, .val (.long zb), .second, .val (.int zq), .val (.int zp), .val (.int zw), .val (.int zn), .val (.int zi), .unset] [(.ref zA), (.ref zA), (.ref zo), (.ref zo)])
    refine own_go (fun t k => XS.iconst X35.here hx rfl (hb hby at_82) k) ?_
    show own_WP _ _ _ _ T35 (mkF m 83 #[.val (.long za), .second, .val (.long zb), .second, .val (.int zq), .val (.int zp), .val (.int zw), .val (.int zn), .val (.int zi), .unset] [(.int (0 : Int32)), (.ref zA), (.ref zA), (.ref zo), (.ref zo)])
    refine own_go (fun t k => XS.lloadN X35.here hx rfl (hb hby at_83) rfl  k) ?_
    show own_WP _ _ _ _ T35 (mkF m 84 #[.val (.long za), .second, .val (.long zb), .second, .val (.int zq), .val (.int zp), .val (.int zw), .val (.int zn), .val (.int zi), .unset] [(.long za), (.int (0 : Int32)), (.ref zA), (.ref zA), (.ref zo), (.ref zo)])
    refine own_stJ X35 hx hZ e35 f42 (j := (0 : Int32)) ⟨by decide, by decide⟩ (i := 0) rfl (Nat.le_of_ble_eq_true rfl) (hb hby at_84) ?_
    intro T43 h43 X43 e43 W43 V43
    have f44 : Arv Z h43 zA k35 .long (2 : Int32) [(.long za), (.long (0 : Int64))] (.long (0 : Int64)) := V43
    have f45 : Exa Z h43 zo "com/example/bijecta/bijecta/mph/PackedArray" := f36.wr W43
    have f46 : Fld Z h43 zo "com/example/bijecta/bijecta/mph/PackedArray" "words" "[J" .null := f37.other W43 (Or.inl ne_zo_zA)
    have f47 : Fld Z h43 zo "com/example/bijecta/bijecta/mph/PackedArray" "width" "I" (.int (0 : Int32)) := f38.other W43 (Or.inl ne_zo_zA)
    have f48 : Fld Z h43 zo "com/example/bijecta/bijecta/mph/PackedArray" "length" "I" (.int (0 : Int32)) := f39.other W43 (Or.inl ne_zo_zA)
    have f49 : Fld Z h43 zo "com/example/bijecta/bijecta/mph/PackedArray" "mask" "J" (.long (0 : Int64)) := f40.other W43 (Or.inl ne_zo_zA)
    have K51 : Keep h0 h43 [] := K41.wr W43 (Or.inr sz_zA)
    have N52 := Fr.snoc X43 N0 g_zA
    show own_WP _ _ _ _ T43 (mkF m 85 #[.val (.long za), .second, .val (.long zb), .second, .val (.int zq), .val (.int zp), .val (.int zw), .val (.int zn), .val (.int zi), .unset] [(.ref zA), (.ref zo), (.ref zo)])
    refine own_go (fun t k => XS.dup X43.here hx rfl (hb hby at_85) rfl rfl k) ?_
    show own_WP _ _ _ _ T43 (mkF m 86 #[.val (.long za), .second, .val (.long zb), .second, .val (.int zq), .val (.int zp), .val (.int zw), .val (.int zn), .val (.int zi), .unset] [(.ref zA), (.ref zA), (.ref zo), (.ref zo)])
    refine own_go (fun t k => XS.iconst X43.here hx rfl (hb hby at_86) k) ?_
    show own_WP _ _ _ _ T43 (mkF m 87 #[.val (.long za), .second, .val (.long zb), .second, .val (.int zq), .val (.int zp), .val (.int zw), .val (.int zn), .val (.int zi), .unset] [(.int (1 : Int32)), (.ref zA), (.ref zA), (.ref zo), (.ref zo)])
    refine own_go (fun t k => XS.lloadN X43.here hx rfl (hb hby at_87) rfl  k) ?_
    show own_WP _ _ _ _ T43 (mkF m 88 #[.val (.long za), .second, .val (.long zb), .second, .val (.int zq), .val (.int zp), .val (.int zw), .val (.int zn), .val (.int zi), .unset] [(.long zb), (.int (1 : Int32)), (.ref zA), (.ref zA), (.ref zo), (.ref zo)])
    refine own_stJ X43 hx hZ e43 f44 (j := (1 : Int32)) ⟨by decide, by decide⟩ (i := 1) rfl (Nat.le_of_ble_eq_true rfl) (hb hby at_88) ?_
    intro T53 h53 X53 e53 W53 V53
    have f54 : Arv Z h53 zA k35 .long (2 : Int32) [(.long za), (.long zb)] (.long (0 : Int64)) := V53
    have f55 : Exa Z h53 zo "com/example/bijecta/bijecta/mph/PackedArray" := f45.wr W53
    have f56 : Fld Z h53 zo "com/example/bijecta/bijecta/mph/PackedArray" "words" "[J" .null := f46.other W53 (Or.inl ne_zo_zA)
    have f57 : Fld Z h53 zo "com/example/bijecta/bijecta/mph/PackedArray" "width" "I" (.int (0 : Int32)) := f47.other W53 (Or.inl ne_zo_zA)
    have f58 : Fld Z h53 zo "com/example/bijecta/bijecta/mph/PackedArray" "length" "I" (.int (0 : Int32)) := f48.other W53 (Or.inl ne_zo_zA)
    have f59 : Fld Z h53 zo "com/example/bijecta/bijecta/mph/PackedArray" "mask" "J" (.long (0 : Int64)) := f49.other W53 (Or.inl ne_zo_zA)
    have K61 : Keep h0 h53 [] := K51.wr W53 (Or.inr sz_zA)
    have N62 := Fr.snoc X53 N52 g_zA
    show own_WP _ _ _ _ T53 (mkF m 89 #[.val (.long za), .second, .val (.long zb), .second, .val (.int zq), .val (.int zp), .val (.int zw), .val (.int zn), .val (.int zi), .unset] [(.ref zA), (.ref zo), (.ref zo)])
    refine own_go (fun t k => XS.iload X53.here hx rfl (hb hby at_89) rfl  k) ?_
    show own_WP _ _ _ _ T53 (mkF m 91 #[.val (.long za), .second, .val (.long zb), .second, .val (.int zq), .val (.int zp), .val (.int zw), .val (.int zn), .val (.int zi), .unset] [(.int zw), (.ref zA), (.ref zo), (.ref zo)])
    refine own_go (fun t k => XS.iload X53.here hx rfl (hb hby at_91) rfl  k) ?_
    show own_WP _ _ _ _ T53 (mkF m 93 #[.val (.long za), .second, .val (.long zb), .second, .val (.int zq), .val (.int zp), .val (.int zw), .val (.int zn), .val (.int zi), .unset] [(.int zn), (.int zw), (.ref zA), (.ref zo), (.ref zo)])
    obtain ⟨_, _, ⟨T63, L63, k63, n63⟩, -, X63, ⟨Lc63, hQ63, l63, y63, z63⟩, st63⟩ := X53.specialBack hx (y := (⟨"com/example/bijecta/bijecta/mph/PackedArray", "<init>", "([JII)V"⟩ : MethodName)) rfl hown (mvT hZ (hw _ (List.mem_of_getElem? (i := 5) rfl))) (mvT hZ (hw _ (List.mem_of_getElem? (i := 6) rfl))) (mvT hZ (hw _ (List.mem_of_getElem? (i := 7) rfl))) (by decide) (backOf (W := 1) (rm1 l Z a0 hw [] zo zA zw zn .null (.int (0 : Int32)) (.int (0 : Int32)) (.long (0 : Int64)) k35 (2 : Int32) [za, zb] h53 n0 (own_le Z0 K61) f55 f56 f57 f58 f59 (f54) g_zo ne_zo_zA (show [za, zb].length = (2 : Int32).toNatClampNeg from rfl) (show 0 ≤ (2 : Int32).toInt from by decide) (show (2 : Int32).toInt ≤ 2 from by decide) (show ¬ zw < 0 from own_nn (by omega)) (show ¬ (32 : Int32) < zw from own_w32 hw1.2) (show ¬ zn < 0 from own_nn (by omega)) (show (2 : Int32) = own_wc zw zn from own_wc2 hw1.1 hw1.2 hl1)) hZ (hw _ (List.mem_of_getElem? (i := 7) rfl)) (hw _ (List.mem_of_getElem? (i := 3) rfl)) (by decide) (by decide)) (g := (mkF m 93 #[.val (.long za), .second, .val (.long zb), .second, .val (.int zq), .val (.int zp), .val (.int zw), .val (.int zn), .val (.int zi), .unset] [(.int zn), (.int zw), (.ref zA), (.ref zo), (.ref zo)])) rfl (by rw [hml]; rfl) (Steps.refl _) (a := zo) (argsL := [(.ref zA), (.int zw), (.int zn)]) (rest := [(.ref zo)]) (lenOf own_pd87048 rfl) rfl (by show 2 * 0 + _ ≤ _; exact Nat.le_of_eq rfl) (hb hby at_93) (fun _ _ => ⟨rfl, e53, (by decide : 2 + 1 ≤ _), (by decide : 6 + 3 ≤ _)⟩)
    dsimp only [Pt.U, Pt.locs, Pt.cells, Pt.slots] at X63 l63 y63 z63 st63 hQ63
    subst l63 y63 z63
    obtain ⟨zR, zK, rfl, N63q, Kc63, g_zR, szc_zR, f64, f65, f66, f67, f68⟩ := hQ63
    have N63 := Fr.app N62 N63q
    refine own_tr st63 ?_
    have sz_zR : h0.size ≤ zR := Nat.le_trans K61.1 szc_zR
    have ne_zo_zR : zo ≠ zR := Nat.ne_of_lt (Nat.lt_of_lt_of_le f55.lt szc_zR)
    have ne_zA_zR : zA ≠ zR := Nat.ne_of_lt (Nat.lt_of_lt_of_le f54.lt szc_zR)
    have f69 : Exa Z T63.heap zo "com/example/bijecta/bijecta/mph/PackedArray" := f55.keep Kc63
    have f74 : Arv Z T63.heap zA k35 .long (2 : Int32) [(.long za), (.long zb)] (.long (0 : Int64)) := f54.keep Kc63 (own_nm (Ne.symm ne_zo_zA))
    have K75 : Keep h0 T63.heap [] := K61.trans Kc63 (fun x hx => by cases List.mem_singleton.mp hx; exact Or.inr sz_zo)
    show own_WP _ _ _ _ T63 (mkF m 96 #[.val (.long za), .second, .val (.long zb), .second, .val (.int zq), .val (.int zp), .val (.int zw), .val (.int zn), .val (.int zi), .unset] [(.ref zo)])
    refine own_go (fun t k => XS.astore X63.here hx rfl (hb hby at_96) rfl rfl (l' := #[.val (.long za), .second, .val (.long zb), .second, .val (.int zq), .val (.int zp), .val (.int zw), .val (.int zn), .val (.int zi), .val (.ref zo)]) rfl k) ?_
    show own_WP _ _ _ _ T63 (mkF m 98 #[.val (.long za), .second, .val (.long zb), .second, .val (.int zq), .val (.int zp), .val (.int zw), .val (.int zn), .val (.int zi), .val (.ref zo)] [])
    refine own_go (fun t k => XS.aload X63.here hx rfl (hb hby at_98) rfl rfl  k) ?_
    show own_WP _ _ _ _ T63 (mkF m 100 #[.val (.long za), .second, .val (.long zb), .second, .val (.int zq), .val (.int zp), .val (.int zw), .val (.int zn), .val (.int zi), .val (.ref zo)] [(.ref zo)])
    refine own_go (fun t k => XS.iload X63.here hx rfl (hb hby at_100) rfl  k) ?_
    show own_WP _ _ _ _ T63 (mkF m 102 #[.val (.long za), .second, .val (.long zb), .second, .val (.int zq), .val (.int zp), .val (.int zw), .val (.int zn), .val (.int zi), .val (.ref zo)] [(.int zi), (.ref zo)])
    obtain ⟨cq76, kq76, q76a, q76b, q76c⟩ := isOf hZ rfl f64
    obtain ⟨_, _, ⟨T76, L76, k76, n76⟩, -, X76, ⟨Lc76, hQ76, l76, y76, z76⟩, st76⟩ := X63.virtualBack hx (y := (⟨"com/example/bijecta/bijecta/mph/PackedArray", "get", "(I)I"⟩ : MethodName)) (z := (⟨"com/example/bijecta/bijecta/mph/PackedArray", "get", "(I)I"⟩ : MethodName)) hown (mvT hZ (hw _ (List.mem_of_getElem? (i := 35) rfl))) (mvT hZ (hw _ (List.mem_of_getElem? (i := 36) rfl))) (notFace_of_selects (args := #[]) (mvT hZ (hw _ (List.mem_of_getElem? (i := 38) rfl)))) (mvT hZ (hw _ (List.mem_of_getElem? (i := 38) rfl))) (mvT hZ (hw _ (List.mem_of_getElem? (i := 37) rfl))) (by decide) (backOf (W := 0) (rm6 l Z a0 hw [] zo zi zR zw (own_mk zw) zK ((2 : Int32) + (1 : Int32)) [za, zb] T63.heap n0 (own_le Z0 K75) f65 f66 f67 f68 (show ¬ own_wd zw zi < 0 ∧ own_wd zw zi < ((2 : Int32) + (1 : Int32)) from key.1) (show 64 < own_of zw zi + zw → ¬ own_wd zw zi + 1 < 0 ∧ own_wd zw zi + 1 < ((2 : Int32) + (1 : Int32)) from key.2.1)) hZ (hw _ (List.mem_of_getElem? (i := 39) rfl)) (hw _ (List.mem_of_getElem? (i := 3) rfl)) (by decide) (by decide)) q76a q76c (g := (mkF m 102 #[.val (.long za), .second, .val (.long zb), .second, .val (.int zq), .val (.int zp), .val (.int zw), .val (.int zn), .val (.int zi), .val (.ref zo)] [(.int zi), (.ref zo)])) rfl (by rw [hml]; rfl) (Steps.refl _) (argsL := [(.int zi)]) (rest := []) (lenOf own_pd81837 rfl) rfl (by show 2 * 0 + _ ≤ _; exact Nat.le_of_eq rfl) (hb hby at_102) (fun _ _ => ⟨rfl, rfl, (by decide : 3 + 0 ≤ _), (by decide : 9 + 0 ≤ _)⟩)
    dsimp only [Pt.U, Pt.locs, Pt.cells, Pt.slots] at X76 l76 y76 z76 st76 hQ76
    subst l76 y76 z76
    obtain ⟨rfl, N76q, eq76⟩ := hQ76
    have N76 := Fr.app N63 N76q
    refine own_tr st76 ?_
    show own_WP _ _ _ _ T76 (mkF m 105 #[.val (.long za), .second, .val (.long zb), .second, .val (.int zq), .val (.int zp), .val (.int zw), .val (.int zn), .val (.int zi), .val (.ref zo)] [(.int (own_get zw zi (own_mk zw) [za, zb]))])
    refine own_go (fun t k => XS.lloadN X76.here hx rfl (hb hby at_105) rfl  k) ?_
    show own_WP _ _ _ _ T76 (mkF m 106 #[.val (.long za), .second, .val (.long zb), .second, .val (.int zq), .val (.int zp), .val (.int zw), .val (.int zn), .val (.int zi), .val (.ref zo)] [(.long za), (.int (own_get zw zi (own_mk zw) [za, zb]))])
    refine own_go (fun t k => XS.lloadN X76.here hx rfl (hb hby at_106) rfl  k) ?_
    show own_WP _ _ _ _ T76 (mkF m 107 #[.val (.long za), .second, .val (.long zb), .second, .val (.int zq), .val (.int zp), .val (.int zw), .val (.int zn), .val (.int zi), .val (.ref zo)] [(.long zb), (.long za), (.int (own_get zw zi (own_mk zw) [za, zb]))])
    refine own_go (fun t k => XS.iload X76.here hx rfl (hb hby at_107) rfl  k) ?_
    show own_WP _ _ _ _ T76 (mkF m 109 #[.val (.long za), .second, .val (.long zb), .second, .val (.int zq), .val (.int zp), .val (.int zw), .val (.int zn), .val (.int zi), .val (.ref zo)] [(.int zw), (.long zb), (.long za), (.int (own_get zw zi (own_mk zw) [za, zb]))])
    refine own_go (fun t k => XS.iload X76.here hx rfl (hb hby at_109) rfl  k) ?_
    show own_WP _ _ _ _ T76 (mkF m 111 #[.val (.long za), .second, .val (.long zb), .second, .val (.int zq), .val (.int zp), .val (.int zw), .val (.int zn), .val (.int zi), .val (.ref zo)] [(.int zi), (.int zw), (.long zb), (.long za), (.int (own_get zw zi (own_mk zw) [za, zb]))])
    obtain ⟨_, _, ⟨T77, L77, k77, n77⟩, -, X77, ⟨Lc77, hQ77, l77, y77, z77⟩, st77⟩ := Jvm.LawKit.callS X76 hx (y := (⟨"com/example/bijecta/bijecta/mph/PackedArrayGetPinLaw", "expected", "(JJII)I"⟩ : MethodName)) hown (mvT hZ (hw _ (List.mem_of_getElem? (i := 41) rfl))) (mvT hZ (hw _ (List.mem_of_getElem? (i := 42) rfl))) (mvT hZ (hw _ (List.mem_of_getElem? (i := 43) rfl))) (mvT hZ (hw _ (List.mem_of_getElem? (i := 44) rfl))) (by decide) (backOf (W := 1) (rm7 l Z a0 hw [] za zb zw zi  T63.heap n0 (own_le Z0 K75) ) hZ (hw _ (List.mem_of_getElem? (i := 44) rfl)) (hw _ (List.mem_of_getElem? (i := 43) rfl)) (by decide) (by decide)) (g := (mkF m 111 #[.val (.long za), .second, .val (.long zb), .second, .val (.int zq), .val (.int zp), .val (.int zw), .val (.int zn), .val (.int zi), .val (.ref zo)] [(.int zi), (.int zw), (.long zb), (.long za), (.int (own_get zw zi (own_mk zw) [za, zb]))])) rfl (by rw [hml]; rfl) (argsL := [(.long za), (.long zb), (.int zw), (.int zi)]) (rest := [(.int (own_get zw zi (own_mk zw) [za, zb]))]) (lenOf own_pd91960 rfl) rfl (by show 2 * 0 + _ ≤ _; exact Nat.le_of_eq rfl) (hb hby at_111) (fun _ _ => ⟨rfl, eq76, (by decide : 3 + 0 ≤ _), (by decide : 9 + 0 ≤ _)⟩)
    dsimp only [Pt.U, Pt.locs, Pt.cells, Pt.slots] at X77 l77 y77 z77 st77 hQ77
    subst l77 y77 z77
    obtain ⟨rfl, N77q, eq77⟩ := hQ77
    have N77 := Fr.app N76 N77q
    refine own_go st77 ?_
    show own_WP _ _ _ _ T77 (mkF m 114 #[.val (.long za), .second, .val (.long zb), .second, .val (.int zq), .val (.int zp), .val (.int zw), .val (.int zn), .val (.int zi), .val (.ref zo)] [(.int (own_exp za zb zw zi)), (.int (own_get zw zi (own_mk zw) [za, zb]))])
    have hc114 : (own_get zw zi (own_mk zw) [za, zb]) = (own_exp za zb zw zi) := by
      exact key.2.2
    refine own_go (fun t k => XS.icmpNo X77.here hx rfl (hb hby at_114) rfl (teq hc114).2 k) ?_
    show own_WP _ _ _ _ T77 (mkF m 117 #[.val (.long za), .second, .val (.long zb), .second, .val (.int zq), .val (.int zp), .val (.int zw), .val (.int zn), .val (.int zi), .val (.ref zo)] [])
    refine own_go (fun t k => XS.iconst X77.here hx rfl (hb hby at_117) k) ?_
    show own_WP _ _ _ _ T77 (mkF m 118 #[.val (.long za), .second, .val (.long zb), .second, .val (.int zq), .val (.int zp), .val (.int zw), .val (.int zn), .val (.int zi), .val (.ref zo)] [(.int (1 : Int32))])
    refine own_go (fun t k => XS.goto X77.here hx rfl (pc0 := 118) (pc' := 122) rfl (hb hby at_118) (by decide) (by decide) k) ?_
    show own_WP _ _ _ _ T77 (mkF m 122 #[.val (.long za), .second, .val (.long zb), .second, .val (.int zq), .val (.int zp), .val (.int zw), .val (.int zn), .val (.int zi), .val (.ref zo)] [(.int (1 : Int32))])
    refine own_retN X77 hx Bd.notSynchronized (t := .boolean) (by simp) Bd.returns (hb hby at_122) (by decide) (by decide) ?_
    rw [eq77]
    exact ⟨rfl, N77⟩
set_option maxRecDepth 65536 in
set_option maxHeartbeats 40000000 in
theorem comes_1 {Post : Tables → Env → Array Value → State → Outcome → State → Prop} (hpost : ∀ tb e args s v u, (limb_1_1.after args s (.returned v) u = true ∧ limb_1_2.after args s (.returned v) u = true ∧ True) → FrameEnd s (.returned v) u (Jvm.fieldLocs frame_1_writes args s ++ Jvm.arrayLocs frame_1_arrays args s ++ Jvm.staticLocs frame_1_statics s) 16 128 → Post tb e args s (.returned v) u) :
    ArmFor flags0 classFile x code maxLocals ret World_1 tables_1 room_1 Calls_1 rest_1 Pre_1 Post := by
  intro l hfl _ _ p e ha hc hk s m args below hf hA hF happ hP
  obtain ⟨hcalls, hrest, hpre⟩ := hP
  obtain ⟨-, -, -, hnamed, -, -, -, hat⟩ := (Spec.applies_iff hf).mp happ
  obtain ⟨hg, hn⟩ := and_e (Cond.before_iff.mp (show (Jvm.Cond.and given_1 narrow_1).before args s = true from hpre))
  obtain ⟨u0, v0⟩ := and_e hg
  obtain ⟨u1, v1⟩ := and_e v0
  obtain ⟨u2, v2⟩ := and_e v1
  obtain ⟨u3, v3⟩ := and_e v2
  obtain ⟨w0, w1, w2, w3, rfl⟩ : ∃ w0 w1 w2 w3 : Value, args = #[w0, w1, w2, w3] := by
    have hs : args.size = 4 := by simpa [Cond.value, given_1] using u0
    obtain ⟨L⟩ := args
    match L, hs with
    | [w0, w1, w2, w3], _ => exact ⟨w0, w1, w2, w3, rfl⟩
  have hw := fun d (hd : d ∈ tables_1) => atoms_spec (ws := Jvm.Cond.code x code maxLocals ret :: tables_1) hat d (List.mem_cons_of_mem _ hd)
  obtain ⟨i0, ei0⟩ := isL_v u1
  obtain rfl : w0 = (.long i0) := Option.some.inj ei0
  obtain ⟨i1, ei1⟩ := isL_v u2
  obtain rfl : w1 = (.long i1) := Option.some.inj ei1
  obtain ⟨i2, ei2⟩ := is_v u3
  obtain rfl : w2 = (.int i2) := Option.some.inj ei2
  obtain ⟨i3, ei3⟩ := is_v v3
  obtain rfl : w3 = (.int i3) := Option.some.inj ei3
  obtain ⟨n, o, h1, h2, h3, _, L, rfl, ⟨rfl, N⟩, hq⟩ := rm0 l s _ hw tables_1 i0 i1 i2 i3  s.heap s.heap.size (Nat.le_refl _)  p e ha hc hk s m _ below hf ((Spec.applies_iff_loose hf).mp happ).1 ⟨rfl, State.Warmed39.refl s, rfl⟩ trivial
  refine ⟨n, _, h1, h2, h3, hpost _ _ _ _ _ _ ⟨Cond.after_iff.mpr rfl, Cond.after_iff.mpr (eq_i res_at (Term.int_eval (1)) rfl), trivial⟩ ⟨hq.1, hq.2.1, (hq.2.2.sift fun y hy => Or.inr (N y hy)).mono (by decide) (by decide)⟩⟩
theorem main_1_1 : Claimed_1_1 := comes_1 fun _ _ _ _ _ _ h hF => ⟨h.1, hF⟩
theorem main_1_2 : Claimed_1_2 := comes_1 fun _ _ _ _ _ _ h hF => ⟨h.2.1, hF⟩
end Jvm.Pilot.@@N@@
namespace Jvm.Pilot.@@N@@
open Jvm Jvm.ClassFile Sem Op Lib Jvm.Free Jvm.Stand Jvm.Pilot.@@N@@.Jvm.D
/-! MADE BY PROGRAM (witnessworld.py) out of the Statement's table words and the real class files: 14 classes; the members and pool entries that the words name. The judged class is class 1, her method 1. -/
namespace start1
open Jvm.ClassFile
def u (s : String) : CpInfo := .utf8 (stringToUtf16 s)
/-- a pool by its gaps: so many unusable entries, then the entry; so many at the end -/
def gap : Nat → List CpInfo → List CpInfo
  | 0, r => r
  | n + 1, r => .unusable :: gap n r
def poolList (es : List (Nat × CpInfo)) (last : Nat) : List CpInfo := es.foldr (fun e r => gap e.1 (e.2 :: r)) (gap last [])
def pool (es : List (Nat × CpInfo)) (last : Nat) : Array CpInfo := ⟨poolList es last⟩
def fileOf (pool : Array CpInfo) (this : Nat) (attrs : Array Attribute := #[]) (ms : Array MethodInfo := #[]) (fl : Nat := 33) (sup : Nat := 0) (ifs : Array Nat := #[]) (fds : Array FieldInfo := #[]) : ClassFile where
  minorVersion := 0
  majorVersion := 65
  constantPool := pool
  accessFlags := fl
  thisClass := this
  superClass := sup
  interfaces := ifs
  fields := fds
  methods := ms
  attributes := attrs
def plain (name : String) (sup : Option ClassId) : Class where
  name := name
  kind := .ordinary
  loader := none
  accessFlags := 33
  super := sup
  interfaces := #[]
  cf := none
  fields := #[]
  methods := #[]
  instanceTypes := #[]
  staticTypes := #[]
  resolved := #[]
  callSites := []
  init := .initialized
  statics := none
  mirror := none

def pool0 : Array CpInfo := pool [(5, u "<init>"), (0, u "()V"), (1, .class_ 10), (1, u "java/lang/Object")] 113

def k0c0 : Code := { maxStack := 0, maxLocals := 1, code := object_method_1_code, exceptionTable := #[], attributes := #[] }
def k0m0 : Method := { name := "<init>", desc := "()V", sig := { parameters := [], returnType := none }, accessFlags := 1, code := some k0c0 }
/-- java/lang/Object -/
def k0 : Class := { plain "java/lang/Object" none with
  accessFlags := 33
  interfaces := #[]
  cf := some (fileOf pool0 8 #[] #[{ accessFlags := 1, nameIndex := 5, descriptorIndex := 6, attributes := #[] }] 33 0 #[] #[])
  fields := #[]
  methods := #[k0m0]
  instanceTypes := #[]
  staticTypes := #[]
  resolved := Array.replicate 124 none
  statics := none }

def pool1 : Array CpInfo := pool [(2, .class_ 4), (1, u "java/lang/Object"), (0, u "<init>"), (0, u "()V"), (0, .integer 2147483647), (0, .class_ 9), (0, u "com/example/bijecta/bijecta/mph/PackedArray"), (0, .methodref 8 11), (0, .nameAndType 5 12), (0, u "([JII)V"), (0, .methodref 8 14), (0, .nameAndType 15 16), (0, u "get"), (0, u "(I)I"), (0, .methodref 18 19), (0, .class_ 20), (0, .nameAndType 21 22), (0, u "com/example/bijecta/bijecta/mph/PackedArrayGetPinLaw"), (0, u "expected"), (0, u "(JJII)I"), (2, u "law"), (0, u "(JJII)Z")] 3

def k1m0 : Method := { name := "<init>", desc := "()V", sig := { parameters := [], returnType := none }, accessFlags := 1, code := none }
def k1c1 : Code := { maxStack := 7, maxLocals := 10, code := code, exceptionTable := #[], attributes := #[] }
def k1m1 : Method := { name := "law", desc := "(JJII)Z", sig := { parameters := [.long, .long, .int, .int], returnType := some .boolean }, accessFlags := 9, code := some k1c1 }
def k1c2 : Code := { maxStack := 6, maxLocals := 17, code := method_3_code, exceptionTable := #[], attributes := #[] }
def k1m2 : Method := { name := "expected", desc := "(JJII)I", sig := { parameters := [.long, .long, .int, .int], returnType := some .int }, accessFlags := 10, code := some k1c2 }
/-- com/example/bijecta/bijecta/mph/PackedArrayGetPinLaw -/
def k1 : Class := { plain "com/example/bijecta/bijecta/mph/PackedArrayGetPinLaw" (some 0) with
  accessFlags := 49
  interfaces := #[]
  cf := some (fileOf pool1 18 #[] #[{ accessFlags := 1, nameIndex := 5, descriptorIndex := 6, attributes := #[] }, { accessFlags := 9, nameIndex := 25, descriptorIndex := 26, attributes := #[] }, { accessFlags := 10, nameIndex := 21, descriptorIndex := 22, attributes := #[] }] 49 2 #[] #[])
  fields := #[]
  methods := #[k1m0, k1m1, k1m2]
  instanceTypes := #[]
  staticTypes := #[]
  resolved := Array.replicate 30 none
  statics := none }

def pool2 : Array CpInfo := pool [(1, .methodref 2 3), (0, .class_ 4), (0, .nameAndType 5 6), (0, u "java/lang/Object"), (0, u "<init>"), (0, u "()V"), (0, .class_ 8), (0, u "com/example/bijecta/bijecta/mph/PackedArray"), (9, .methodref 7 19), (0, .nameAndType 20 21), (0, u "wordCount"), (0, u "(II)I"), (3, .methodref 26 27), (0, .class_ 28), (0, .nameAndType 29 30), (0, u "java/util/Arrays"), (0, u "copyOf"), (0, u "([JI)[J"), (0, .fieldref 7 32), (0, .nameAndType 33 34), (0, u "words"), (0, u "[J"), (0, .fieldref 7 36), (0, .nameAndType 37 38), (0, u "width"), (0, u "I"), (0, .fieldref 7 40), (0, .nameAndType 41 38), (0, u "length"), (0, .fieldref 7 43), (0, .nameAndType 44 45), (0, u "mask"), (0, u "J"), (13, u "(I)I"), (0, .long 63), (5, u "([JII)V"), (0, .long 64), (1, u "MAX_WIDTH"), (10, u "get")] 23

def k2c0 : Code := { maxStack := 5, maxLocals := 4, code := prog_23_method_1_code, exceptionTable := #[], attributes := #[] }
def k2m0 : Method := { name := "<init>", desc := "([JII)V", sig := { parameters := [(.array .long), .int, .int], returnType := none }, accessFlags := 1, code := some k2c0 }
def k2c1 : Code := { maxStack := 4, maxLocals := 2, code := prog_23_method_3_code, exceptionTable := #[], attributes := #[] }
def k2m1 : Method := { name := "wordCount", desc := "(II)I", sig := { parameters := [.int, .int], returnType := some .int }, accessFlags := 9, code := some k2c1 }
def k2c2 : Code := { maxStack := 6, maxLocals := 8, code := prog_23_method_4_code, exceptionTable := #[], attributes := #[] }
def k2m2 : Method := { name := "get", desc := "(I)I", sig := { parameters := [.int], returnType := some .int }, accessFlags := 1, code := some k2c2 }
/-- com/example/bijecta/bijecta/mph/PackedArray -/
def k2 : Class := { plain "com/example/bijecta/bijecta/mph/PackedArray" (some 0) with
  accessFlags := 49
  interfaces := #[]
  cf := some (fileOf pool2 7 #[] #[{ accessFlags := 1, nameIndex := 5, descriptorIndex := 66, attributes := #[] }, { accessFlags := 9, nameIndex := 20, descriptorIndex := 21, attributes := #[] }, { accessFlags := 1, nameIndex := 80, descriptorIndex := 59, attributes := #[] }] 49 2 #[] #[{ accessFlags := 25, nameIndex := 69, descriptorIndex := 38, attributes := #[] }, { accessFlags := 18, nameIndex := 33, descriptorIndex := 34, attributes := #[] }, { accessFlags := 18, nameIndex := 37, descriptorIndex := 38, attributes := #[] }, { accessFlags := 18, nameIndex := 41, descriptorIndex := 38, attributes := #[] }, { accessFlags := 18, nameIndex := 44, descriptorIndex := 45, attributes := #[] }])
  fields := #[{ name := "MAX_WIDTH", type := .int, accessFlags := 25, slot := 0, constantValue := 0 }, { name := "words", type := (.array .long), accessFlags := 18, slot := 0, constantValue := 0 }, { name := "width", type := .int, accessFlags := 18, slot := 1, constantValue := 0 }, { name := "length", type := .int, accessFlags := 18, slot := 2, constantValue := 0 }, { name := "mask", type := .long, accessFlags := 18, slot := 3, constantValue := 0 }]
  methods := #[k2m0, k2m1, k2m2]
  instanceTypes := #[(.array .long), .int, .int, .long]
  staticTypes := #[.int]
  resolved := Array.replicate 104 none
  statics := none }

def pool3 : Array CpInfo := pool [(2, .class_ 4), (1, u "java/lang/Object"), (0, u "<init>"), (0, u "()V"), (7, .class_ 16), (1, u "java/util/Arrays"), (57, .class_ 76), (1, u "java/util/Arrays$NaturalOrder"), (36, .class_ 115), (1, u "java/util/Arrays$LegacyMergeSort"), (1, u "Z"), (32, .methodref 151 152), (0, .class_ 153), (0, .nameAndType 154 155), (0, u "java/lang/System"), (0, u "arraycopy"), (0, u "(Ljava/lang/Object;ILjava/lang/Object;II)V"), (146, u "copyOf"), (1, .methodref 305 306), (0, .class_ 307), (0, .nameAndType 308 309), (0, u "java/lang/Math"), (0, u "min"), (0, u "(II)I"), (65, .class_ 376), (0, u "java/util/Arrays$ArrayList"), (68, u "$assertionsDisabled"), (269, u "MIN_ARRAY_SORT_GRAN"), (0, u "I"), (2, u "INSERTIONSORT_THRESHOLD"), (152, u "([JI)[J"), (102, .class_ 976), (0, u "java/util/Arrays$ArrayItr")] 52

def k3m0 : Method := { name := "<init>", desc := "()V", sig := { parameters := [], returnType := none }, accessFlags := 2, code := none }
def k3c1 : Code := { maxStack := 6, maxLocals := 3, code := jdk_65_method_124_code, exceptionTable := #[], attributes := #[] }
def k3m1 : Method := { name := "copyOf", desc := "([JI)[J", sig := { parameters := [(.array .long), .int], returnType := some (.array .long) }, accessFlags := 9, code := some k3c1 }
/-- java/util/Arrays -/
def k3 : Class := { plain "java/util/Arrays" (some 0) with
  accessFlags := 49
  interfaces := #[]
  cf := some (fileOf pool3 14 #[.nestMembers #[975, 375, 113, 74]] #[{ accessFlags := 2, nameIndex := 5, descriptorIndex := 6, attributes := #[] }, { accessFlags := 9, nameIndex := 302, descriptorIndex := 872, attributes := #[] }] 49 2 #[] #[{ accessFlags := 26, nameIndex := 715, descriptorIndex := 716, attributes := #[] }, { accessFlags := 26, nameIndex := 719, descriptorIndex := 716, attributes := #[] }, { accessFlags := 4120, nameIndex := 445, descriptorIndex := 117, attributes := #[] }])
  fields := #[{ name := "MIN_ARRAY_SORT_GRAN", type := .int, accessFlags := 26, slot := 0, constantValue := 0 }, { name := "INSERTIONSORT_THRESHOLD", type := .int, accessFlags := 26, slot := 1, constantValue := 0 }, { name := "$assertionsDisabled", type := .boolean, accessFlags := 4120, slot := 2, constantValue := 0 }]
  methods := #[k3m0, k3m1]
  instanceTypes := #[]
  staticTypes := #[.int, .int, .boolean]
  resolved := Array.replicate 1029 none
  statics := none }

def pool4 : Array CpInfo := pool [(1, .class_ 2), (0, u "java/lang/Math"), (1, .class_ 6), (1, u "java/lang/Object"), (0, u "<init>"), (0, u "()V"), (89, .class_ 100), (1, u "java/lang/Math$RandomNumberGeneratorHolder"), (71, u "negativeZeroFloatBits"), (0, u "J"), (2, u "negativeZeroDoubleBits"), (24, u "min"), (43, u "$assertionsDisabled"), (0, u "Z"), (88, u "(II)I"), (2, u "twoToTheDoubleScaleDown"), (0, u "D"), (4, u "twoToTheDoubleScaleUp"), (9, u "E"), (3, u "PI"), (2, u "TAU"), (2, u "DEGREES_TO_RADIANS"), (0, u "RADIANS_TO_DEGREES")] 94

def k4m0 : Method := { name := "<init>", desc := "()V", sig := { parameters := [], returnType := none }, accessFlags := 2, code := none }
def k4c1 : Code := { maxStack := 2, maxLocals := 2, code := jdk_29_method_69_code, exceptionTable := #[], attributes := #[] }
def k4m1 : Method := { name := "min", desc := "(II)I", sig := { parameters := [.int, .int], returnType := some .int }, accessFlags := 9, code := some k4c1 }
/-- java/lang/Math -/
def k4 : Class := { plain "java/lang/Math" (some 0) with
  accessFlags := 49
  interfaces := #[]
  cf := some (fileOf pool4 1 #[.nestMembers #[98]] #[{ accessFlags := 2, nameIndex := 7, descriptorIndex := 8, attributes := #[] }, { accessFlags := 9, nameIndex := 201, descriptorIndex := 335, attributes := #[] }] 49 4 #[] #[{ accessFlags := 25, nameIndex := 354, descriptorIndex := 339, attributes := #[] }, { accessFlags := 25, nameIndex := 358, descriptorIndex := 339, attributes := #[] }, { accessFlags := 25, nameIndex := 361, descriptorIndex := 339, attributes := #[] }, { accessFlags := 26, nameIndex := 364, descriptorIndex := 339, attributes := #[] }, { accessFlags := 26, nameIndex := 365, descriptorIndex := 339, attributes := #[] }, { accessFlags := 26, nameIndex := 172, descriptorIndex := 173, attributes := #[] }, { accessFlags := 26, nameIndex := 176, descriptorIndex := 173, attributes := #[] }, { accessFlags := 8, nameIndex := 344, descriptorIndex := 339, attributes := #[] }, { accessFlags := 8, nameIndex := 338, descriptorIndex := 339, attributes := #[] }, { accessFlags := 4120, nameIndex := 245, descriptorIndex := 246, attributes := #[] }])
  fields := #[{ name := "E", type := .double, accessFlags := 25, slot := 0, constantValue := 0 }, { name := "PI", type := .double, accessFlags := 25, slot := 1, constantValue := 0 }, { name := "TAU", type := .double, accessFlags := 25, slot := 2, constantValue := 0 }, { name := "DEGREES_TO_RADIANS", type := .double, accessFlags := 26, slot := 3, constantValue := 0 }, { name := "RADIANS_TO_DEGREES", type := .double, accessFlags := 26, slot := 4, constantValue := 0 }, { name := "negativeZeroFloatBits", type := .long, accessFlags := 26, slot := 5, constantValue := 0 }, { name := "negativeZeroDoubleBits", type := .long, accessFlags := 26, slot := 6, constantValue := 0 }, { name := "twoToTheDoubleScaleUp", type := .double, accessFlags := 8, slot := 7, constantValue := 0 }, { name := "twoToTheDoubleScaleDown", type := .double, accessFlags := 8, slot := 8, constantValue := 0 }, { name := "$assertionsDisabled", type := .boolean, accessFlags := 4120, slot := 9, constantValue := 0 }]
  methods := #[k4m0, k4m1]
  instanceTypes := #[]
  staticTypes := #[.double, .double, .double, .double, .double, .long, .long, .double, .double, .boolean]
  resolved := Array.replicate 460 none
  statics := none }

def pool5 : Array CpInfo := pool [(2, .class_ 4), (1, u "java/lang/Object"), (0, u "<init>"), (0, u "()V"), (1, .class_ 10), (1, u "java/lang/System"), (0, u "allowSecurityManager"), (0, u "I"), (16, u "cons"), (0, u "Ljava/io/Console;"), (77, .class_ 110), (1, u "java/lang/System$CallersHolder"), (43, u "initialErrStream"), (0, u "Ljava/io/PrintStream;"), (19, u "security"), (0, u "Ljava/lang/SecurityManager;"), (31, .class_ 209), (0, u "java/lang/System$1"), (7, u "props"), (0, u "Ljava/util/Properties;"), (2, u "lineSeparator"), (0, u "Ljava/lang/String;"), (96, .class_ 321), (1, u "java/lang/System$LoggerFinder"), (5, .class_ 328), (0, u "java/lang/System$Logger"), (67, u "err"), (2, u "out"), (91, u "notSupportedJnuEncoding"), (15, u "in"), (17, u "initialIn"), (0, u "Ljava/io/InputStream;"), (35, u "bootLayer"), (0, u "Ljava/lang/ModuleLayer;"), (99, .class_ 664), (0, u "java/lang/System$2"), (9, u "NEVER"), (2, u "MAYBE"), (49, u "arraycopy"), (0, u "(Ljava/lang/Object;ILjava/lang/Object;II)V"), (72, .class_ 802), (0, u "java/lang/System$Logger$Level")] 31

def k5m0 : Method := { name := "<init>", desc := "()V", sig := { parameters := [], returnType := none }, accessFlags := 2, code := none }
def k5m1 : Method := { name := "arraycopy", desc := "(Ljava/lang/Object;ILjava/lang/Object;II)V", sig := { parameters := [(.object "java/lang/Object"), .int, (.object "java/lang/Object"), .int, .int], returnType := none }, accessFlags := 265, code := none }
/-- java/lang/System -/
def k5 : Class := { plain "java/lang/System" (some 0) with
  accessFlags := 49
  interfaces := #[]
  cf := some (fileOf pool5 8 #[.nestMembers #[319, 327, 801, 108, 663, 208]] #[{ accessFlags := 2, nameIndex := 5, descriptorIndex := 6, attributes := #[] }, { accessFlags := 265, nameIndex := 727, descriptorIndex := 728, attributes := #[] }] 49 2 #[] #[{ accessFlags := 25, nameIndex := 507, descriptorIndex := 526, attributes := #[] }, { accessFlags := 25, nameIndex := 399, descriptorIndex := 155, attributes := #[] }, { accessFlags := 25, nameIndex := 396, descriptorIndex := 155, attributes := #[] }, { accessFlags := 10, nameIndex := 525, descriptorIndex := 526, attributes := #[] }, { accessFlags := 26, nameIndex := 674, descriptorIndex := 12, attributes := #[] }, { accessFlags := 26, nameIndex := 677, descriptorIndex := 12, attributes := #[] }, { accessFlags := 10, nameIndex := 11, descriptorIndex := 12, attributes := #[] }, { accessFlags := 74, nameIndex := 175, descriptorIndex := 176, attributes := #[] }, { accessFlags := 10, nameIndex := 491, descriptorIndex := 222, attributes := #[] }, { accessFlags := 74, nameIndex := 29, descriptorIndex := 30, attributes := #[] }, { accessFlags := 74, nameIndex := 154, descriptorIndex := 155, attributes := #[] }, { accessFlags := 10, nameIndex := 217, descriptorIndex := 218, attributes := #[] }, { accessFlags := 10, nameIndex := 221, descriptorIndex := 222, attributes := #[] }, { accessFlags := 8, nameIndex := 562, descriptorIndex := 563, attributes := #[] }])
  fields := #[{ name := "in", type := (.object "java/io/InputStream"), accessFlags := 25, slot := 0, constantValue := 0 }, { name := "out", type := (.object "java/io/PrintStream"), accessFlags := 25, slot := 1, constantValue := 0 }, { name := "err", type := (.object "java/io/PrintStream"), accessFlags := 25, slot := 2, constantValue := 0 }, { name := "initialIn", type := (.object "java/io/InputStream"), accessFlags := 10, slot := 3, constantValue := 0 }, { name := "NEVER", type := .int, accessFlags := 26, slot := 4, constantValue := 0 }, { name := "MAYBE", type := .int, accessFlags := 26, slot := 5, constantValue := 0 }, { name := "allowSecurityManager", type := .int, accessFlags := 10, slot := 6, constantValue := 0 }, { name := "security", type := (.object "java/lang/SecurityManager"), accessFlags := 74, slot := 7, constantValue := 0 }, { name := "notSupportedJnuEncoding", type := (.object "java/lang/String"), accessFlags := 10, slot := 8, constantValue := 0 }, { name := "cons", type := (.object "java/io/Console"), accessFlags := 74, slot := 9, constantValue := 0 }, { name := "initialErrStream", type := (.object "java/io/PrintStream"), accessFlags := 74, slot := 10, constantValue := 0 }, { name := "props", type := (.object "java/util/Properties"), accessFlags := 10, slot := 11, constantValue := 0 }, { name := "lineSeparator", type := (.object "java/lang/String"), accessFlags := 10, slot := 12, constantValue := 0 }, { name := "bootLayer", type := (.object "java/lang/ModuleLayer"), accessFlags := 8, slot := 13, constantValue := 0 }]
  methods := #[k5m0, k5m1]
  instanceTypes := #[]
  staticTypes := #[(.object "java/io/InputStream"), (.object "java/io/PrintStream"), (.object "java/io/PrintStream"), (.object "java/io/InputStream"), .int, .int, .int, (.object "java/lang/SecurityManager"), (.object "java/lang/String"), (.object "java/io/Console"), (.object "java/io/PrintStream"), (.object "java/util/Properties"), (.object "java/lang/String"), (.object "java/lang/ModuleLayer")]
  resolved := Array.replicate 834 none
  statics := none }

def pool6 : Array CpInfo := pool [(1, u "java/lang/Cloneable"), (0, .class_ 1), (0, u "java/lang/Object"), (0, .class_ 3)] 3

/-- java/lang/Cloneable -/
def k6 : Class := { plain "java/lang/Cloneable" (some 0) with
  accessFlags := 1537
  interfaces := #[]
  cf := some (fileOf pool6 2 #[] #[] 1537 4 #[] #[])
  fields := #[]
  methods := #[]
  instanceTypes := #[]
  staticTypes := #[]
  resolved := Array.replicate 8 none
  statics := none }

def pool7 : Array CpInfo := pool [(1, u "java/io/Serializable"), (0, .class_ 1), (0, u "java/lang/Object"), (0, .class_ 3)] 3

/-- java/io/Serializable -/
def k7 : Class := { plain "java/io/Serializable" (some 0) with
  accessFlags := 1537
  interfaces := #[]
  cf := some (fileOf pool7 2 #[] #[] 1537 4 #[] #[])
  fields := #[]
  methods := #[]
  instanceTypes := #[]
  staticTypes := #[]
  resolved := Array.replicate 8 none
  statics := none }

/-- the primitive byte -/
def k8 : Class := { plain "byte" none with kind := .primitive 'B', accessFlags := 0x411 }
/-- [B -/
def k9 : Class := { plain "[B" (some 0) with kind := .array 8 .byte, interfaces := #[6, 7], accessFlags := 1041 }

/-- the primitive int -/
def k10 : Class := { plain "int" none with kind := .primitive 'I', accessFlags := 0x411 }
/-- [I -/
def k11 : Class := { plain "[I" (some 0) with kind := .array 10 .int, interfaces := #[6, 7], accessFlags := 1041 }

/-- the primitive long -/
def k12 : Class := { plain "long" none with kind := .primitive 'J', accessFlags := 0x411 }
/-- [J -/
def k13 : Class := { plain "[J" (some 0) with kind := .array 12 .long, interfaces := #[6, 7], accessFlags := 1041 }

def heap : Heap := #[]
def classes : Array Class := #[k0, k1, k2, k3, k4, k5, k6, k7, k8, k9, k10, k11, k12, k13]
def interned : List (Array UInt16 × Addr) := []
def slotsUsed : Nat := 0
def theMethod : MethodId := ⟨1, 1⟩
def args0 : Array Value := #[.long 5, .long 9, .int 3, .int 2]
def aboutOver (below : List Frame) : State where
  vm := { classes := classes, interned := interned.toArray }
  heap := heap
  slotsUsed := slotsUsed
  threads := #[{ frames := .invoking theMethod args0 :: below }]
def below0 : List Frame := [.native { method := ⟨0, 0⟩, args := #[] }]
def about1 : State := aboutOver below0
def p0 : Program := .bare "" "" ""
def e0 : Env := launch0.env 0 0 0
theorem w_frames : about1.frames = Frame.invoking theMethod args0 :: below0 := rfl
set_option maxRecDepth 65536 in
theorem w_args : argsFit about1.vm theMethod args0 = true := by decide +kernel
set_option maxRecDepth 65536 in
theorem w_heap : heapFits about1 = true := by decide +kernel
set_option maxRecDepth 65536 in
theorem w_runnable : about1.curStatus? = some .runnable := by decide +kernel
set_option maxRecDepth 65536 in
theorem w_alone : about1.alone = true := by decide +kernel
set_option maxRecDepth 65536 in
theorem w_named : about1.methodNamed? x = some theMethod := by decide +kernel
set_option maxRecDepth 65536 in
theorem w_hears : about1.hears theMethod below0 = true := by decide +kernel
set_option maxRecDepth 65536 in
theorem w_ripe : about1.ripe theMethod args0 below0 = true := by decide +kernel
theorem w_running : about1.status = .running := rfl
set_option maxRecDepth 65536 in
theorem w_room : about1.hasRoom e0.platform room_1 = true :=
  launch0.hasRoom_least _ room_1 (by decide +kernel) (by decide +kernel) (by decide +kernel) (by decide +kernel) (by decide +kernel) (by decide +kernel)
theorem allAtoms_all (ts : List Jvm.Cond) (a : Array Jvm.Value) (st : Jvm.State) : (allAtoms ts).before a st = ts.all (fun c => c.before a st) := by
  induction ts with
  | nil => rfl
  | cons c t ih =>
    show (Jvm.Cond.and c (allAtoms t)).before a st = _
    rw [Jvm.Cond.before_and, ih, List.all_cons]
def words1 : List Jvm.Cond := Jvm.Cond.code x code maxLocals ret :: tables_1
/-- a 'code' word, met by the world's own term for the bytes: nothing is compared byte by byte -/
theorem code_word {y : MethodName} {bytes : ByteArray} {mx : Nat} {rt : Option FieldType} {a : Array Value} {s : State} {m : MethodId} {meth : Method} {c : Code} (h1 : s.methodNamed? y = some m) (h2 : s.vm.method? m = some meth) (h3 : meth.code = some c) (h4 : c.code = bytes)
    (h5 : (c.maxLocals == mx && c.exceptionTable.isEmpty && decide (c.maxStack ≤ mostOperands) && decide (meth.sig.returnType = rt) && !meth.locks && decide (parseMethodDescriptor y.desc = some meth.sig)) = true) : (Jvm.Cond.code y bytes mx rt).before a s = true := by
  simp only [Bool.and_eq_true, beq_iff_eq, Bool.not_eq_true', decide_eq_true_eq] at h5
  obtain ⟨⟨⟨⟨⟨g1, g2⟩, g3⟩, g4⟩, g5⟩, g6⟩ := h5
  simp [Cond.before, Cond.holds, Cond.value, h1, h2, h3, h4, g1, g2, g3, g4, g5, g6]
def isCode : Jvm.Cond → Bool
  | .code _ _ _ _ => true
  | _ => false
theorem all_split {L : List Jvm.Cond} {P : Jvm.Cond → Bool} (h1 : L.all (fun c => isCode c || P c) = true) (h2 : ∀ c ∈ L.filter isCode, P c = true) : L.all P = true := by
  refine List.all_eq_true.mpr fun c hc => ?_
  have h := List.all_eq_true.mp h1 c hc
  rcases Bool.eq_false_or_eq_true (isCode c) with hi | hi
  · exact h2 c (List.mem_filter.mpr ⟨hc, hi⟩)
  · simpa [hi] using h
set_option maxRecDepth 65536 in
theorem w_c0 : (Jvm.Cond.code x code maxLocals ret).before args0 about1 = true := code_word (m := ⟨1, 1⟩) (meth := k1m1) (c := k1c1) (by decide +kernel) rfl rfl rfl (by decide +kernel)
set_option maxRecDepth 65536 in
theorem w_c1 : (Jvm.Cond.code ({ cls := "com/example/bijecta/bijecta/mph/PackedArray", name := "<init>", desc := "([JII)V" } : Jvm.MethodName) prog_23_method_1_code (4 : Nat) (Option.none : Option Jvm.ClassFile.FieldType)).before args0 about1 = true := code_word (m := ⟨2, 0⟩) (meth := k2m0) (c := k2c0) (by decide +kernel) rfl rfl rfl (by decide +kernel)
set_option maxRecDepth 65536 in
theorem w_c2 : (Jvm.Cond.code ({ cls := "java/lang/Object", name := "<init>", desc := "()V" } : Jvm.MethodName) object_method_1_code (1 : Nat) (Option.none : Option Jvm.ClassFile.FieldType)).before args0 about1 = true := code_word (m := ⟨0, 0⟩) (meth := k0m0) (c := k0c0) (by decide +kernel) rfl rfl rfl (by decide +kernel)
set_option maxRecDepth 65536 in
theorem w_c3 : (Jvm.Cond.code ({ cls := "com/example/bijecta/bijecta/mph/PackedArray", name := "wordCount", desc := "(II)I" } : Jvm.MethodName) prog_23_method_3_code (2 : Nat) (Option.some Jvm.ClassFile.FieldType.int)).before args0 about1 = true := code_word (m := ⟨2, 1⟩) (meth := k2m1) (c := k2c1) (by decide +kernel) rfl rfl rfl (by decide +kernel)
set_option maxRecDepth 65536 in
theorem w_c4 : (Jvm.Cond.code ({ cls := "java/util/Arrays", name := "copyOf", desc := "([JI)[J" } : Jvm.MethodName) jdk_65_method_124_code (3 : Nat) (Option.some (Jvm.ClassFile.FieldType.array Jvm.ClassFile.FieldType.long))).before args0 about1 = true := code_word (m := ⟨3, 1⟩) (meth := k3m1) (c := k3c1) (by decide +kernel) rfl rfl rfl (by decide +kernel)
set_option maxRecDepth 65536 in
theorem w_c5 : (Jvm.Cond.code ({ cls := "java/lang/Math", name := "min", desc := "(II)I" } : Jvm.MethodName) jdk_29_method_69_code (2 : Nat) (Option.some Jvm.ClassFile.FieldType.int)).before args0 about1 = true := code_word (m := ⟨4, 1⟩) (meth := k4m1) (c := k4c1) (by decide +kernel) rfl rfl rfl (by decide +kernel)
set_option maxRecDepth 65536 in
theorem w_c6 : (Jvm.Cond.code ({ cls := "com/example/bijecta/bijecta/mph/PackedArray", name := "get", desc := "(I)I" } : Jvm.MethodName) prog_23_method_4_code (8 : Nat) (Option.some Jvm.ClassFile.FieldType.int)).before args0 about1 = true := code_word (m := ⟨2, 2⟩) (meth := k2m2) (c := k2c2) (by decide +kernel) rfl rfl rfl (by decide +kernel)
set_option maxRecDepth 65536 in
theorem w_c7 : (Jvm.Cond.code ({ cls := "com/example/bijecta/bijecta/mph/PackedArrayGetPinLaw", name := "expected", desc := "(JJII)I" } : Jvm.MethodName) method_3_code (17 : Nat) (Option.some Jvm.ClassFile.FieldType.int)).before args0 about1 = true := code_word (m := ⟨1, 2⟩) (meth := k1m2) (c := k1c2) (by decide +kernel) rfl rfl rfl (by decide +kernel)
def codes1 : List Jvm.Cond := [Jvm.Cond.code x code maxLocals ret, Jvm.Cond.code ({ cls := "com/example/bijecta/bijecta/mph/PackedArray", name := "<init>", desc := "([JII)V" } : Jvm.MethodName) prog_23_method_1_code (4 : Nat) (Option.none : Option Jvm.ClassFile.FieldType), Jvm.Cond.code ({ cls := "java/lang/Object", name := "<init>", desc := "()V" } : Jvm.MethodName) object_method_1_code (1 : Nat) (Option.none : Option Jvm.ClassFile.FieldType), Jvm.Cond.code ({ cls := "com/example/bijecta/bijecta/mph/PackedArray", name := "wordCount", desc := "(II)I" } : Jvm.MethodName) prog_23_method_3_code (2 : Nat) (Option.some Jvm.ClassFile.FieldType.int), Jvm.Cond.code ({ cls := "java/util/Arrays", name := "copyOf", desc := "([JI)[J" } : Jvm.MethodName) jdk_65_method_124_code (3 : Nat) (Option.some (Jvm.ClassFile.FieldType.array Jvm.ClassFile.FieldType.long)), Jvm.Cond.code ({ cls := "java/lang/Math", name := "min", desc := "(II)I" } : Jvm.MethodName) jdk_29_method_69_code (2 : Nat) (Option.some Jvm.ClassFile.FieldType.int), Jvm.Cond.code ({ cls := "com/example/bijecta/bijecta/mph/PackedArray", name := "get", desc := "(I)I" } : Jvm.MethodName) prog_23_method_4_code (8 : Nat) (Option.some Jvm.ClassFile.FieldType.int), Jvm.Cond.code ({ cls := "com/example/bijecta/bijecta/mph/PackedArrayGetPinLaw", name := "expected", desc := "(JJII)I" } : Jvm.MethodName) method_3_code (17 : Nat) (Option.some Jvm.ClassFile.FieldType.int)]
set_option maxRecDepth 65536 in
theorem codes_eq : words1.filter isCode = codes1 := rfl
theorem w_codes : ∀ c ∈ words1.filter isCode, c.before args0 about1 = true := by
  rw [codes_eq]
  intro c hc
  simp only [codes1, List.mem_cons, List.not_mem_nil, or_false] at hc
  rcases hc with rfl | rfl | rfl | rfl | rfl | rfl | rfl | rfl
  · exact w_c0
  · exact w_c1
  · exact w_c2
  · exact w_c3
  · exact w_c4
  · exact w_c5
  · exact w_c6
  · exact w_c7
set_option maxRecDepth 65536 in
theorem w_t1 : (words1.take 24).all (fun c => isCode c || c.before args0 about1) = true := by decide +kernel
set_option maxRecDepth 65536 in
theorem w_t2 : (words1.drop 24).all (fun c => isCode c || c.before args0 about1) = true := by decide +kernel
theorem w_tables : (allAtoms (Jvm.Cond.code x code maxLocals ret :: tables_1)).before args0 about1 = true := by
  rw [allAtoms_all]
  show words1.all (fun c => c.before args0 about1) = true
  refine all_split ?_ w_codes
  rw [← List.take_append_drop 24 words1, List.all_append, w_t1, w_t2]
  rfl
set_option maxRecDepth 65536 in
theorem w_case : (Jvm.Cond.and given_1 narrow_1).before args0 about1 = true := by decide +kernel
theorem w_applies : (headSpec (Jvm.Cond.code x code maxLocals ret :: tables_1) room_1).applies x e0.platform about1 = true :=
  (Spec.applies_iff w_frames).mpr ⟨w_running, w_runnable, w_alone, w_named, w_hears, w_ripe, w_room, w_tables⟩
theorem atStart : AtStart classFile x code maxLocals ret World_1 tables_1 room_1 Calls_1 rest_1 Pre_1 launch0 p0 e0 about1 theMethod args0 below0 :=
  ⟨lists_1, trivial, launch0.admits_env _ _ _, launch0.least_env, fairChoices_fair.cas, fairChoices_fair.clock, w_frames, w_args, w_heap, w_applies, trivial, trivial, w_case⟩
end start1
theorem witness_1 : WitnessClaimed_1 := ⟨start1.p0, start1.e0, start1.about1, start1.theMethod, start1.args0, start1.below0, start1.atStart⟩
end Jvm.Pilot.@@N@@
