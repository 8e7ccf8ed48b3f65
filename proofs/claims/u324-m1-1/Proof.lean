import JvmDerived
import JvmDerived.Pilot.@@N@@Statement
import JvmDerived.Pilot.@@N@@Code
set_option linter.unusedVariables false
set_option linter.unusedSimpArgs false
namespace Jvm.Pilot.@@N@@
open Jvm Jvm.ClassFile Sem Op Lib Jvm.Free Jvm.Stand Jvm.LawKit Jvm.RoadKit Bundle Jvm.Pilot.@@N@@.Jvm.D
section OwnKit
variable {p : Program} {l : Launch} {e : Env} {R : Room} {s : State} {m : MethodId} {args : Array Value} {below : List Frame} {meth : Method} {c : Code} {T T' : State} {locs : List Loc} {cells slots : Nat} {Z : State} {h : Heap} {a0 : Array Value}
/-- from the state T with the frame g on top the method comes to its end, and what it leaves meets E -/
def own_WP (p : Program) (e : Env) (below : List Frame) (E : Outcome → State → Prop) (T : State) (g : JFrame) : Prop :=
  ∃ s₂ o, Steps p.tables e below (T.setTop g) s₂ ∧ s₂.status = .running ∧ Ended s₂ below o ∧ E o s₂
/-- it returns, and what it leaves meets Q within K cells and N slots -/
def own_E (s : State) (Q : Option Value → Heap → List Loc → Prop) (K N : Nat) (o : Outcome) (t : State) : Prop := ∃ v L, o = .returned v ∧ Q v t.heap L ∧ FrameEnd s o t L K N
variable {Q : Option Value → Heap → List Loc → Prop} {K N : Nat} {g g' : JFrame} {E : Outcome → State → Prop}
theorem own_go (h : ∀ t, Steps p.tables e below (T'.setTop g') t → Steps p.tables e below (T.setTop g) t) (k : own_WP p e below E T' g') : own_WP p e below E T g := by
  obtain ⟨s₂, o, h1, h2⟩ := k
  exact ⟨s₂, o, h s₂ h1, h2⟩
theorem own_tr (h : Steps p.tables e below (T.setTop g) (T'.setTop g')) (k : own_WP p e below E T' g') : own_WP p e below E T g := by
  obtain ⟨s₂, o, h1, h2⟩ := k
  exact ⟨s₂, o, h.trans h1, h2⟩
theorem own_end (X : Stand p l e R s m args below meth c T locs cells slots) (hlk : meth.locks = false) {v : Option Value} (hv : meth.sig.returnType = none → v = none)
    (hs : ∀ fs, (∀ (f : JFrame) (acts : List Action), f.method = m → f.locked = none → f.entered = [] → (doReturn e (T.setTop f) acts v).1 = T.setFrames fs) → Steps p.tables e below (T.setTop g) (T.setFrames fs))
    (hk : cells ≤ K) (hn : slots ≤ N) (hq : Q v T.heap locs) : own_WP p e below (own_E s Q K N) T g := by
  obtain ⟨fs, hr, hrun, hended, hW, hsame⟩ := X.leave hv hlk
  exact ⟨_, _, hs fs hr, hrun, hended, _, _, rfl, hq, ⟨_, rfl⟩, hW, hsame.mono hk hn⟩
theorem own_retV (X : Stand p l e R s m args below meth c T locs cells slots) (hx : p.tables.exec = Jvm.exec) (hlk : meth.locks = false) {pc : Nat} {Ls : Array Slot} (hret : meth.sig.returnType = none) (hd : decode c.code pc = .ok (.return_, 1))
    (hk : cells ≤ K) (hn : slots ≤ N) (hq : Q none T.heap locs) : own_WP p e below (own_E s Q K N) T (mkF m pc Ls []) :=
  own_end X hlk (fun _ => rfl) (fun fs hr => X.returnOut hx hret hd hr) hk hn hq
theorem own_retI (X : Stand p l e R s m args below meth c T locs cells slots) (hx : p.tables.exec = Jvm.exec) (hlk : meth.locks = false) {pc : Nat} {Ls : Array Slot} {z : Int32} (hret : meth.sig.returnType = some .int) (hd : decode c.code pc = .ok (.ireturn, 1))
    (hk : cells ≤ K) (hn : slots ≤ N) (hq : Q (some (.int z)) T.heap locs) : own_WP p e below (own_E s Q K N) T (mkF m pc Ls [.int z]) :=
  own_end X hlk (fun h => by rw [hret] at h; cases h) (fun fs hr => retOut X hx hret rfl (Or.inl ⟨rfl, Or.inl rfl, z, rfl⟩) hd hr) hk hn hq
theorem own_retJ (X : Stand p l e R s m args below meth c T locs cells slots) (hx : p.tables.exec = Jvm.exec) (hlk : meth.locks = false) {pc : Nat} {Ls : Array Slot} {z : Int64} (hret : meth.sig.returnType = some .long) (hd : decode c.code pc = .ok (.lreturn, 1))
    (hk : cells ≤ K) (hn : slots ≤ N) (hq : Q (some (.long z)) T.heap locs) : own_WP p e below (own_E s Q K N) T (mkF m pc Ls [.long z]) :=
  own_end X hlk (fun h => by rw [hret] at h; cases h) (fun fs hr => X.lreturnOut hx hret hd hr) hk hn hq
theorem own_retA (X : Stand p l e R s m args below meth c T locs cells slots) (hx : p.tables.exec = Jvm.exec) (hlk : meth.locks = false) {pc : Nat} {Ls : Array Slot} {w : Value} (hw : w.isRef = true) {t : FieldType} (ht : t.isReference = true) (hret : meth.sig.returnType = some t) (hd : decode c.code pc = .ok (.areturn, 1))
    (hk : cells ≤ K) (hn : slots ≤ N) (hq : Q (some w) T.heap locs) : own_WP p e below (own_E s Q K N) T (mkF m pc Ls [w]) :=
  own_end X hlk (fun h => by rw [hret] at h; cases h) (fun fs hr => X.areturnOut hx hw hret ht hd hr) hk hn hq
theorem own_retN (X : Stand p l e R s m args below meth c T locs cells slots) (hx : p.tables.exec = Jvm.exec) (hlk : meth.locks = false) {pc : Nat} {Ls : Array Slot} {z : Int32} {t : FieldType} (ht : t = .boolean ∨ t = .byte ∨ t = .char ∨ t = .short) (hret : meth.sig.returnType = some t) (hd : decode c.code pc = .ok (.ireturn, 1))
    (hk : cells ≤ K) (hn : slots ≤ N) (hq : Q (some (.int (nar t z))) T.heap locs) : own_WP p e below (own_E s Q K N) T (mkF m pc Ls [.int z]) :=
  own_end X hlk (fun h => by rw [hret] at h; cases h) (fun fs hr => retN X hx hret ht hd hr) hk hn hq
theorem own_len (X : Stand p l e R s m args below meth c T locs cells slots) (hx : p.tables.exec = Jvm.exec) (hZ : Z.Warmed39 s.vm) (eT : T.heap = h) {a : Addr} {k : ClassId} {ty : FieldType} {n : Int32} {vs : List Value} {d : Value} (V : Arv Z h a k ty n vs d)
    {pc : Nat} {Ls : Array Slot} {S : List Value} (hd : decode c.code pc = .ok (.arraylength, 1)) (kk : own_WP p e below E T (mkF m (pc + 1) Ls (.int n :: S))) : own_WP p e below E T (mkF m pc Ls (.ref a :: S)) := by
  obtain ⟨cl, A, q, S1, M, H, G⟩ := V
  refine own_go (fun t k => X.arraylength hx (by rw [eT]; exact A.1) (State.isArrayOf_alike hZ.alike A.2.1) (g := mkF m pc Ls (.ref a :: S)) rfl rfl hd t k) ?_
  rw [len_of S1 M]
  exact kk
theorem own_at {cl : Cell} {n j : Int32} {vs : List Value} {d w : Value} (S1 : cl.slots.size = n.toNatClampNeg) (H : Has cl vs d) (hj : ¬ j < 0 ∧ j < n) (hv : vs.getD j.toNatClampNeg d = w) : cl.slots[j.toNatClampNeg]? = some w :=
  H.at (inb_of S1 hj) hv
theorem own_ldI (X : Stand p l e R s m args below meth c T locs cells slots) (hx : p.tables.exec = Jvm.exec) (hZ : Z.Warmed39 s.vm) (eT : T.heap = h) {a : Addr} {k : ClassId} {n j w : Int32} {vs : List Value} {d : Value} (V : Arv Z h a k .int n vs d) (hj : ¬ j < 0 ∧ j < n) (hv : vs.getD j.toNatClampNeg d = .int w)
    {pc : Nat} {Ls : Array Slot} {S : List Value} (hd : decode c.code pc = .ok (.iaload, 1)) (kk : own_WP p e below E T (mkF m (pc + 1) Ls (.int w :: S))) : own_WP p e below E T (mkF m pc Ls (.int j :: .ref a :: S)) := by
  obtain ⟨cl, A, q, S1, M, H, G⟩ := V
  exact own_go (fun t k => X.iaload hx (j := j) (v := .int w) (by rw [eT]; exact A.1) (State.isArrayOf_alike hZ.alike A.2.1) A.2.2 (inb_of S1 hj) (own_at S1 H hj hv) (g := mkF m pc Ls (.int j :: .ref a :: S)) rfl rfl hd t k) kk
theorem own_ldJ (X : Stand p l e R s m args below meth c T locs cells slots) (hx : p.tables.exec = Jvm.exec) (hZ : Z.Warmed39 s.vm) (eT : T.heap = h) {a : Addr} {k : ClassId} {n j : Int32} {w : Int64} {vs : List Value} {d : Value} (V : Arv Z h a k .long n vs d) (hj : ¬ j < 0 ∧ j < n) (hv : vs.getD j.toNatClampNeg d = .long w)
    {pc : Nat} {Ls : Array Slot} {S : List Value} (hd : decode c.code pc = .ok (.laload, 1)) (kk : own_WP p e below E T (mkF m (pc + 1) Ls (.long w :: S))) : own_WP p e below E T (mkF m pc Ls (.int j :: .ref a :: S)) := by
  obtain ⟨cl, A, q, S1, M, H, G⟩ := V
  exact own_go (fun t k => X.laload hx (j := j) (v := .long w) (by rw [eT]; exact A.1) (State.isArrayOf_alike hZ.alike A.2.1) A.2.2 (inb_of S1 hj) (own_at S1 H hj hv) (g := mkF m pc Ls (.int j :: .ref a :: S)) rfl rfl hd t k) kk
theorem own_ldB (X : Stand p l e R s m args below meth c T locs cells slots) (hx : p.tables.exec = Jvm.exec) (hZ : Z.Warmed39 s.vm) (eT : T.heap = h) {a : Addr} {k : ClassId} {n j w : Int32} {vs : List Value} {d : Value} (V : Arv Z h a k .byte n vs d) (hj : ¬ j < 0 ∧ j < n) (hv : vs.getD j.toNatClampNeg d = .int w)
    {pc : Nat} {Ls : Array Slot} {S : List Value} (hd : decode c.code pc = .ok (.baload, 1)) (kk : own_WP p e below E T (mkF m (pc + 1) Ls (.int w :: S))) : own_WP p e below E T (mkF m pc Ls (.int j :: .ref a :: S)) := by
  obtain ⟨cl, A, q, S1, M, H, G⟩ := V
  exact own_go (fun t k => X.baloadBytes hx (j := j) (v := .int w) (by rw [eT]; exact A.1) (State.isArrayOf_alike hZ.alike A.2.1) A.2.2 (inb_of S1 hj) (own_at S1 H hj hv) (g := mkF m pc Ls (.int j :: .ref a :: S)) rfl rfl hd t k) kk
theorem own_ldR (X : Stand p l e R s m args below meth c T locs cells slots) (hx : p.tables.exec = Jvm.exec) (hZ : Z.Warmed39 s.vm) (eT : T.heap = h) {a : Addr} {k : ClassId} {ty : FieldType} (hty : ty.isReference = true) {n j : Int32} {w : Value} {vs : List Value} {d : Value} (V : Arv Z h a k ty n vs d) (hj : ¬ j < 0 ∧ j < n) (hv : vs.getD j.toNatClampNeg d = w)
    {pc : Nat} {Ls : Array Slot} {S : List Value} (hd : decode c.code pc = .ok (.aaload, 1)) (kk : own_WP p e below E T (mkF m (pc + 1) Ls (w :: S))) : own_WP p e below E T (mkF m pc Ls (.int j :: .ref a :: S)) := by
  obtain ⟨cl, A, q, S1, M, H, G⟩ := V
  exact own_go (fun t k => X.aaload hx (j := j) (v := w) (by rw [eT]; exact A.1) (State.isArrayOf_alike hZ.alike A.2.1) hty A.2.2 (inb_of S1 hj) (own_at S1 H hj hv) (g := mkF m pc Ls (.int j :: .ref a :: S)) rfl rfl hd t k) kk
theorem own_stI (X : Stand p l e R s m args below meth c T locs cells slots) (hx : p.tables.exec = Jvm.exec) (hZ : Z.Warmed39 s.vm) (eT : T.heap = h) {a : Addr} {k : ClassId} {n j x : Int32} {vs : List Value} {d : Value} (V : Arv Z h a k .int n vs d) (hj : ¬ j < 0 ∧ j < n) {i : Nat} (hji : j.toNatClampNeg = i) (hi : i < vs.length)
    {pc : Nat} {Ls : Array Slot} {S : List Value} (hd : decode c.code pc = .ok (.iastore, 1))
    (kk : ∀ T' h', Stand p l e R s m args below meth c T' (locs ++ [⟨a, j.toNatClampNeg⟩]) cells slots → T'.heap = h' → Wr h h' a j.toNatClampNeg (.int x) → Arv Z h' a k .int n (vs.set i (.int x)) d → own_WP p e below E T' (mkF m (pc + 1) Ls S)) : own_WP p e below E T (mkF m pc Ls (.int x :: .int j :: .ref a :: S)) := by
  obtain ⟨cl, A, q, S1, M, H, G⟩ := V
  obtain ⟨T', h', X', e', W', st⟩ := stI X hx hZ eT A (j := j) (inb_of S1 hj) (g := mkF m pc Ls (.int x :: .int j :: .ref a :: S)) rfl rfl hd
  exact own_go st (kk T' h' X' e' W' (Arv.set A q S1 M H G rfl W' i hji hi))
theorem own_stJ (X : Stand p l e R s m args below meth c T locs cells slots) (hx : p.tables.exec = Jvm.exec) (hZ : Z.Warmed39 s.vm) (eT : T.heap = h) {a : Addr} {k : ClassId} {n j : Int32} {x : Int64} {vs : List Value} {d : Value} (V : Arv Z h a k .long n vs d) (hj : ¬ j < 0 ∧ j < n) {i : Nat} (hji : j.toNatClampNeg = i) (hi : i < vs.length)
    {pc : Nat} {Ls : Array Slot} {S : List Value} (hd : decode c.code pc = .ok (.lastore, 1))
    (kk : ∀ T' h', Stand p l e R s m args below meth c T' (locs ++ [⟨a, j.toNatClampNeg⟩]) cells slots → T'.heap = h' → Wr h h' a j.toNatClampNeg (.long x) → Arv Z h' a k .long n (vs.set i (.long x)) d → own_WP p e below E T' (mkF m (pc + 1) Ls S)) : own_WP p e below E T (mkF m pc Ls (.long x :: .int j :: .ref a :: S)) := by
  obtain ⟨cl, A, q, S1, M, H, G⟩ := V
  obtain ⟨T', h', X', e', W', st⟩ := stJ X hx hZ eT A (j := j) (inb_of S1 hj) (g := mkF m pc Ls (.long x :: .int j :: .ref a :: S)) rfl rfl hd
  exact own_go st (kk T' h' X' e' W' (Arv.set A q S1 M H G rfl W' i hji hi))
theorem own_stB (X : Stand p l e R s m args below meth c T locs cells slots) (hx : p.tables.exec = Jvm.exec) (hZ : Z.Warmed39 s.vm) (eT : T.heap = h) {a : Addr} {k : ClassId} {n j x : Int32} {vs : List Value} {d : Value} (V : Arv Z h a k .byte n vs d) (hj : ¬ j < 0 ∧ j < n) {i : Nat} (hji : j.toNatClampNeg = i) (hi : i < vs.length)
    {pc : Nat} {Ls : Array Slot} {S : List Value} (hd : decode c.code pc = .ok (.bastore, 1))
    (kk : ∀ T' h', Stand p l e R s m args below meth c T' (locs ++ [⟨a, j.toNatClampNeg⟩]) cells slots → T'.heap = h' → Wr h h' a j.toNatClampNeg (.int (nar .byte x)) → Arv Z h' a k .byte n (vs.set i (.int (nar .byte x))) d → own_WP p e below E T' (mkF m (pc + 1) Ls S)) : own_WP p e below E T (mkF m pc Ls (.int x :: .int j :: .ref a :: S)) := by
  obtain ⟨cl, A, q, S1, M, H, G⟩ := V
  obtain ⟨T', h', X', e', W', st⟩ := stB X hx hZ eT A (j := j) (inb_of S1 hj) (g := mkF m pc Ls (.int x :: .int j :: .ref a :: S)) rfl rfl hd
  exact own_go st (kk T' h' X' e' W' (Arv.set A q S1 M H G (fits_nar_byte x) W' i hji hi))
theorem own_nm {x a : Addr} (h : x ≠ a) : x ∉ [a] := fun q => h (List.mem_singleton.mp q)
theorem own_nm0 {x : Addr} : x ∉ ([] : List Addr) := List.not_mem_nil
theorem own_nm2 {x a b : Addr} (h : x ≠ a) (h' : x ≠ b) : x ∉ [a, b] := fun q => by
  rcases List.mem_cons.mp q with r | r
  · exact h r
  · exact h' (List.mem_singleton.mp r)
theorem own_le {h0 h : Heap} {n0 : Nat} {ws : List Addr} (Z0 : n0 ≤ h0.size) (K : Keep h0 h ws) : n0 ≤ h.size := Nat.le_trans Z0 K.1
end OwnKit
def own_us (z : Int64) (n : Int32) : Int64 := ((z.toUInt64 >>> (n &&& 0x3f).toInt64.toUInt64).toInt64)
def own_nst (a r : Int64) : Int64 := (r * ((2 : Int64) - (a * r)))
def own_inv (a : Int64) : Int64 := own_nst a (own_nst a (own_nst a (own_nst a (own_nst a a))))
def own_mix (a : Int64) : Int64 :=
  let z1 := (a ^^^ own_us a 30) * (-4658895280553007687 : Int64)
  let z2 := (z1 ^^^ own_us z1 27) * (-7723592293110705685 : Int64)
  z2 ^^^ own_us z2 31
theorem own_xs (x : BitVec 64) (k : Nat) (hk : 64 ≤ 3 * k) : (x ^^^ (x >>> k)) ^^^ ((x ^^^ (x >>> k)) >>> k) ^^^ ((x ^^^ (x >>> k)) >>> (2*k)) = x := by
  apply BitVec.eq_of_getLsbD_eq
  intro i hi
  simp only [BitVec.getLsbD_xor, BitVec.getLsbD_ushiftRight]
  have e1 : k + (k + i) = 2 * k + i := by omega
  have e2 : x.getLsbD (k + (2 * k + i)) = false := BitVec.getLsbD_of_ge _ _ (by omega)
  have e3 : x.getLsbD (k + (k + i)) = x.getLsbD (2 * k + i) := by rw [e1]
  rw [e2, e3]
  cases x.getLsbD i <;> cases x.getLsbD (k + i) <;> cases x.getLsbD (2 * k + i) <;> rfl
theorem own_usB (z : Int64) (n : Int32) (k : Nat) (h : ((n &&& 0x3f).toInt64.toUInt64.toBitVec % 64).toNat = k) : (own_us z n).toBitVec = z.toBitVec >>> k := by
  unfold own_us
  show ((z.toUInt64 >>> _).toBitVec) = _
  rw [UInt64.toBitVec_shiftRight]
  subst h
  rfl
theorem own_un (z : Int64) (n n2 : Int32) (k : Nat) (hk : 64 ≤ 3 * k) (h1 : ((n &&& 0x3f).toInt64.toUInt64.toBitVec % 64).toNat = k) (h2 : ((n2 &&& 0x3f).toInt64.toUInt64.toBitVec % 64).toNat = 2 * k) :
    (z ^^^ own_us z n) ^^^ own_us (z ^^^ own_us z n) n ^^^ own_us (z ^^^ own_us z n) n2 = z := by
  apply Int64.toBitVec_inj.mp
  simp only [Int64.toBitVec_xor, own_usB _ n k h1, own_usB _ n2 (2 * k) h2]
  exact own_xs _ k hk
theorem own_unmul (z a i : Int64) (h : a * i = 1) : (z * a) * i = z := by rw [Int64.mul_assoc, h, Int64.mul_one]

def own_inv6 (a : Int64) : Int64 := own_nst a (own_inv a)
def own_unmix (y : Int64) : Int64 :=
  let z1 := y ^^^ own_us y 31 ^^^ own_us y 62
  let z2 := z1 * own_inv6 (-7723592293110705685)
  let z3 := z2 ^^^ own_us z2 27 ^^^ own_us z2 54
  let z4 := z3 * own_inv6 (-4658895280553007687)
  z4 ^^^ own_us z4 30 ^^^ own_us z4 60
theorem own_back6 (a : Int64) : own_unmix (own_mix a) = a := by
  simp only [own_unmix, own_mix]
  rw [own_un _ 31 62 31 (by decide) (by decide) (by decide), own_unmul _ _ _ (by decide +kernel), own_un _ 27 54 27 (by decide) (by decide) (by decide), own_unmul _ _ _ (by decide +kernel), own_un _ 30 60 30 (by decide) (by decide) (by decide)]
theorem d1_0 : decode prog_48_method_1_code 0 = .ok (.aload_n 0, 1) := by decide +kernel
theorem d1_1 : decode prog_48_method_1_code 1 = .ok (.invokespecial 1, 3) := by decide +kernel
theorem d1_4 : decode prog_48_method_1_code 4 = .ok (.aload_n 0, 1) := by decide +kernel
theorem d1_5 : decode prog_48_method_1_code 5 = .ok (.lload_n 1, 1) := by decide +kernel
theorem d1_6 : decode prog_48_method_1_code 6 = .ok (.putfield 7, 3) := by decide +kernel
theorem d1_9 : decode prog_48_method_1_code 9 = .ok (.return_, 1) := by decide +kernel
theorem own_pn51996 : plainName "branchwork/SplitMix64" = true := by first | (simp [plainName, overriddenIn]; done) | decide +kernel
theorem ef_1 (m : MethodId) (zo : Addr) (zs : Int64) : entryFrame m #[(.ref zo), (.long zs)] 3 = mkF m 0 #[.val (.ref zo), .val (.long zs), .second] [] := by first | (simp [entryFrame, mkF, argsToLocals, Value.category]; done) | rfl
def Q1 (Z : State) (zo : Addr) (zs : Int64) (u0 : Value) (h0 : Heap) (n0 : Nat) (v : Option Value) (h : Heap) (L : List Loc) : Prop := v = none ∧ Fr n0 L ∧ Keep h0 h [zo] ∧ Exa Z h zo "branchwork/SplitMix64" ∧ Fld Z h zo "branchwork/SplitMix64" "state" "J" (.long zs)
set_option maxRecDepth 65536 in
set_option maxHeartbeats 40000000 in
theorem rm1 (l : Launch) (Z : State) (a0 : Array Value) (hw : ∀ d ∈ tables_1, d.before a0 Z = true) (ws : List Jvm.Cond) (zo : Addr) (zs : Int64) (u0 : Value) (h0 : Heap) (n0 : Nat) (Z0 : n0 ≤ h0.size) (P0 : Exa Z h0 zo "branchwork/SplitMix64") (P1 : Fld Z h0 zo "branchwork/SplitMix64" "state" "J" u0) (g_zo : n0 ≤ zo) :
    MetFree l (⟨"branchwork/SplitMix64", "<init>", "(J)V"⟩ : MethodName) (head1 (Jvm.Cond.code (⟨"branchwork/SplitMix64", "<init>", "(J)V"⟩ : MethodName) prog_48_method_1_code 3 none :: ws) ({ frames := 1, cells := 0, slots := 0, locals := 12 } : Room)) (fun a U => a = #[(.ref zo), (.long zs)] ∧ Z.Warmed39 U.vm ∧ U.heap = h0) (fun _ _ _ _ _ => True) (fun _ U o U' => ∃ v L, o = .returned v ∧ Q1 Z zo zs u0 h0 n0 v U'.heap L ∧ FrameEnd U o U' L ({ frames := 1, cells := 0, slots := 0, locals := 12 } : Room).cells ({ frames := 1, cells := 0, slots := 0, locals := 12 } : Room).slots) := by
  refine MetFree.of_bodySF (plainFor_of_name own_pn51996) hisR ?_
  intro p e s m args below meth c s₁ Bd hml0 hP hK
  obtain ⟨rfl, hZ, hh⟩ := hP
  have hx := Bd.exec
  have hby := Bd.bytes
  have hml : c.maxLocals = 3 := hml0
  have hown : s.vm.findClass "branchwork/SplitMix64" = some m.cls := findClass_of_methodNamed Bd.named
  have hnm := (name_of_methodNamed Bd.named Bd.method).1
  have X0 : Stand p l e ({ frames := 1, cells := 0, slots := 0, locals := 12 } : Room) s m #[(.ref zo), (.long zs)] below meth c s₁ [] 0 0 := Stand.of_body Bd
  have e0 : s₁.heap = h0 := by rw [← hh, Bd.state]; rfl
  have N0 := Fr.nil n0
  have K0 := Keep.refl h0 [zo]
  show own_WP p e below (own_E s (Q1 Z zo zs u0 h0 n0) 0 0) s₁ (entryFrame m #[(.ref zo), (.long zs)] 3)
  rw [ef_1 m zo zs]
  show own_WP _ _ _ _ s₁ (mkF m 0 #[.val (.ref zo), .val (.long zs), .second] [])
  refine own_go (fun t k => XS.aloadN X0.here hx rfl (hb hby d1_0) rfl rfl  k) ?_
  show own_WP _ _ _ _ s₁ (mkF m 1 #[.val (.ref zo), .val (.long zs), .second] [(.ref zo)])
  obtain ⟨T1, X1, e1, st1⟩ := initO X0 hx hZ hown (hw _ (List.mem_of_getElem? (i := 6) rfl)) (hw _ (List.mem_of_getElem? (i := 7) rfl)) (hw _ (List.mem_of_getElem? (i := 8) rfl)) e0 (g := (mkF m 1 #[.val (.ref zo), .val (.long zs), .second] [(.ref zo)])) rfl (by rw [hml]; rfl) rfl (hb hby d1_1) (by decide) (W := 0) (by show 2 * 0 + _ ≤ _; exact Nat.le_of_eq rfl) (by decide)
  refine own_go st1 ?_
  show own_WP _ _ _ _ T1 (mkF m 4 #[.val (.ref zo), .val (.long zs), .second] [])
  refine own_go (fun t k => XS.aloadN X1.here hx rfl (hb hby d1_4) rfl rfl  k) ?_
  show own_WP _ _ _ _ T1 (mkF m 5 #[.val (.ref zo), .val (.long zs), .second] [(.ref zo)])
  refine own_go (fun t k => XS.lloadN X1.here hx rfl (hb hby d1_5) rfl  k) ?_
  show own_WP _ _ _ _ T1 (mkF m 6 #[.val (.ref zo), .val (.long zs), .second] [(.long zs), (.ref zo)])
  obtain ⟨T2, h2, X2, e2, W2, st2⟩ := putF X1 hx hZ hown (host := "") (Or.inl (hw _ (List.mem_of_getElem? (i := 9) rfl))) Via.refl e1 P1 P0 (Or.inl (hw _ (List.mem_of_getElem? (i := 10) rfl))) (hw _ (List.mem_of_getElem? (i := 1) rfl)) (ty := .long) (by decide) rfl rfl (g := (mkF m 6 #[.val (.ref zo), .val (.long zs), .second] [(.long zs), (.ref zo)])) rfl rfl (hb hby d1_6)
  refine own_go st2 ?_
  have f3 : Fld Z h2 zo "branchwork/SplitMix64" "state" "J" (.long zs) := P1.same W2
  have f4 : Exa Z h2 zo "branchwork/SplitMix64" := P0.wr W2
  have K6 : Keep h0 h2 [zo] := K0.wr W2 (Or.inl (List.mem_of_getElem? (i := 0) rfl))
  have N7 := Fr.snoc X2 N0 g_zo
  show own_WP _ _ _ _ T2 (mkF m 9 #[.val (.ref zo), .val (.long zs), .second] [])
  refine own_retV X2 hx Bd.notSynchronized Bd.returns (hb hby d1_9) (by decide) (by decide) ?_
  rw [e2]
  exact ⟨rfl, N7, K6, f4, f3⟩
theorem d3_0 : decode prog_48_method_2_code 0 = .ok (.aload_n 0, 1) := by decide +kernel
theorem d3_1 : decode prog_48_method_2_code 1 = .ok (.dup, 1) := by decide +kernel
theorem d3_2 : decode prog_48_method_2_code 2 = .ok (.getfield 7, 3) := by decide +kernel
theorem d3_5 : decode prog_48_method_2_code 5 = .ok (.ldc2_w 13, 3) := by decide +kernel
theorem d3_8 : decode prog_48_method_2_code 8 = .ok (.ladd, 1) := by decide +kernel
theorem d3_9 : decode prog_48_method_2_code 9 = .ok (.putfield 7, 3) := by decide +kernel
theorem d3_12 : decode prog_48_method_2_code 12 = .ok (.aload_n 0, 1) := by decide +kernel
theorem d3_13 : decode prog_48_method_2_code 13 = .ok (.getfield 7, 3) := by decide +kernel
theorem d3_16 : decode prog_48_method_2_code 16 = .ok (.lstore_n 1, 1) := by decide +kernel
theorem d3_17 : decode prog_48_method_2_code 17 = .ok (.lload_n 1, 1) := by decide +kernel
theorem d3_18 : decode prog_48_method_2_code 18 = .ok (.lload_n 1, 1) := by decide +kernel
theorem d3_19 : decode prog_48_method_2_code 19 = .ok (.bipush 30, 2) := by decide +kernel
theorem d3_21 : decode prog_48_method_2_code 21 = .ok (.lushr, 1) := by decide +kernel
theorem d3_22 : decode prog_48_method_2_code 22 = .ok (.lxor, 1) := by decide +kernel
theorem d3_23 : decode prog_48_method_2_code 23 = .ok (.ldc2_w 15, 3) := by decide +kernel
theorem d3_26 : decode prog_48_method_2_code 26 = .ok (.lmul, 1) := by decide +kernel
theorem d3_27 : decode prog_48_method_2_code 27 = .ok (.lstore_n 1, 1) := by decide +kernel
theorem d3_28 : decode prog_48_method_2_code 28 = .ok (.lload_n 1, 1) := by decide +kernel
theorem d3_29 : decode prog_48_method_2_code 29 = .ok (.lload_n 1, 1) := by decide +kernel
theorem d3_30 : decode prog_48_method_2_code 30 = .ok (.bipush 27, 2) := by decide +kernel
theorem d3_32 : decode prog_48_method_2_code 32 = .ok (.lushr, 1) := by decide +kernel
theorem d3_33 : decode prog_48_method_2_code 33 = .ok (.lxor, 1) := by decide +kernel
theorem d3_34 : decode prog_48_method_2_code 34 = .ok (.ldc2_w 17, 3) := by decide +kernel
theorem d3_37 : decode prog_48_method_2_code 37 = .ok (.lmul, 1) := by decide +kernel
theorem d3_38 : decode prog_48_method_2_code 38 = .ok (.lstore_n 1, 1) := by decide +kernel
theorem d3_39 : decode prog_48_method_2_code 39 = .ok (.lload_n 1, 1) := by decide +kernel
theorem d3_40 : decode prog_48_method_2_code 40 = .ok (.lload_n 1, 1) := by decide +kernel
theorem d3_41 : decode prog_48_method_2_code 41 = .ok (.bipush 31, 2) := by decide +kernel
theorem d3_43 : decode prog_48_method_2_code 43 = .ok (.lushr, 1) := by decide +kernel
theorem d3_44 : decode prog_48_method_2_code 44 = .ok (.lxor, 1) := by decide +kernel
theorem d3_45 : decode prog_48_method_2_code 45 = .ok (.lreturn, 1) := by decide +kernel
theorem ef_3 (m : MethodId) (zo : Addr) : entryFrame m #[(.ref zo)] 3 = mkF m 0 #[.val (.ref zo), .unset, .unset] [] := by first | (simp [entryFrame, mkF, argsToLocals, Value.category]; done) | rfl
def Q3 (Z : State) (zo : Addr) (zw : Int64) (h0 : Heap) (n0 : Nat) (v : Option Value) (h : Heap) (L : List Loc) : Prop := v = some (.long (own_mix (zw + (-7046029254386353131 : Int64)))) ∧ Fr n0 L ∧ Keep h0 h [zo] ∧ Exa Z h zo "branchwork/SplitMix64" ∧ Fld Z h zo "branchwork/SplitMix64" "state" "J" (.long (zw + (-7046029254386353131 : Int64)))
set_option maxRecDepth 65536 in
set_option maxHeartbeats 40000000 in
theorem rm3 (l : Launch) (Z : State) (a0 : Array Value) (hw : ∀ d ∈ tables_1, d.before a0 Z = true) (ws : List Jvm.Cond) (zo : Addr) (zw : Int64) (h0 : Heap) (n0 : Nat) (Z0 : n0 ≤ h0.size) (P0 : Exa Z h0 zo "branchwork/SplitMix64") (P1 : Fld Z h0 zo "branchwork/SplitMix64" "state" "J" (.long zw)) (g_zo : n0 ≤ zo) :
    MetFree l (⟨"branchwork/SplitMix64", "next", "()J"⟩ : MethodName) (head1 (Jvm.Cond.code (⟨"branchwork/SplitMix64", "next", "()J"⟩ : MethodName) prog_48_method_2_code 3 (some .long) :: ws) ({ frames := 0, cells := 0, slots := 0, locals := 0 } : Room)) (fun a U => a = #[(.ref zo)] ∧ Z.Warmed39 U.vm ∧ U.heap = h0) (fun _ _ _ _ _ => True) (fun _ U o U' => ∃ v L, o = .returned v ∧ Q3 Z zo zw h0 n0 v U'.heap L ∧ FrameEnd U o U' L ({ frames := 0, cells := 0, slots := 0, locals := 0 } : Room).cells ({ frames := 0, cells := 0, slots := 0, locals := 0 } : Room).slots) := by
  refine MetFree.of_bodySF (plainFor_of_name own_pn51996) hisR ?_
  intro p e s m args below meth c s₁ Bd hml0 hP hK
  obtain ⟨rfl, hZ, hh⟩ := hP
  have hx := Bd.exec
  have hby := Bd.bytes
  have hml : c.maxLocals = 3 := hml0
  have hown : s.vm.findClass "branchwork/SplitMix64" = some m.cls := findClass_of_methodNamed Bd.named
  have hnm := (name_of_methodNamed Bd.named Bd.method).1
  have X0 : Stand p l e ({ frames := 0, cells := 0, slots := 0, locals := 0 } : Room) s m #[(.ref zo)] below meth c s₁ [] 0 0 := Stand.of_body Bd
  have e0 : s₁.heap = h0 := by rw [← hh, Bd.state]; rfl
  have N0 := Fr.nil n0
  have K0 := Keep.refl h0 [zo]
  show own_WP p e below (own_E s (Q3 Z zo zw h0 n0) 0 0) s₁ (entryFrame m #[(.ref zo)] 3)
  rw [ef_3 m zo]
  show own_WP _ _ _ _ s₁ (mkF m 0 #[.val (.ref zo), .unset, .unset] [])
  refine own_go (fun t k => XS.aloadN X0.here hx rfl (hb hby d3_0) rfl rfl  k) ?_
  show own_WP _ _ _ _ s₁ (mkF m 1 #[.val (.ref zo), .unset, .unset] [(.ref zo)])
  refine own_go (fun t k => XS.dup X0.here hx rfl (hb hby d3_1) rfl rfl k) ?_
  show own_WP _ _ _ _ s₁ (mkF m 2 #[.val (.ref zo), .unset, .unset] [(.ref zo), (.ref zo)])
  obtain ⟨T1, X1, e1, st1⟩ := getF X0 hx hZ hown (host := "") (Or.inl (hw _ (List.mem_of_getElem? (i := 9) rfl))) Via.refl e0 P1 (g := (mkF m 2 #[.val (.ref zo), .unset, .unset] [(.ref zo), (.ref zo)])) rfl rfl (hb hby d3_2)
  refine own_go st1 ?_
  show own_WP _ _ _ _ T1 (mkF m 5 #[.val (.ref zo), .unset, .unset] [(.long zw), (.ref zo)])
  refine own_go (fun t k => X1.ldc2Long hx hown (mvT hZ (hw _ (List.mem_of_getElem? (i := 16) rfl))) (g := (mkF m 5 #[.val (.ref zo), .unset, .unset] [(.long zw), (.ref zo)])) rfl (hb hby d3_5) t k) ?_
  show own_WP _ _ _ _ T1 (mkF m 8 #[.val (.ref zo), .unset, .unset] [(.long (-7046029254386353131 : Int64)), (.long zw), (.ref zo)])
  refine own_go (fun t k => XS.ladd X1.here hx rfl (hb hby d3_8) rfl k) ?_
  show own_WP _ _ _ _ T1 (mkF m 9 #[.val (.ref zo), .unset, .unset] [(.long (zw + (-7046029254386353131 : Int64))), (.ref zo)])
  obtain ⟨T2, h2, X2, e2, W2, st2⟩ := putF X1 hx hZ hown (host := "") (Or.inl (hw _ (List.mem_of_getElem? (i := 9) rfl))) Via.refl e1 P1 P0 (Or.inl (hw _ (List.mem_of_getElem? (i := 10) rfl))) (hw _ (List.mem_of_getElem? (i := 1) rfl)) (ty := .long) (by decide) rfl rfl (g := (mkF m 9 #[.val (.ref zo), .unset, .unset] [(.long (zw + (-7046029254386353131 : Int64))), (.ref zo)])) rfl rfl (hb hby d3_9)
  refine own_go st2 ?_
  have f3 : Fld Z h2 zo "branchwork/SplitMix64" "state" "J" (.long (zw + (-7046029254386353131 : Int64))) := P1.same W2
  have f4 : Exa Z h2 zo "branchwork/SplitMix64" := P0.wr W2
  have K6 : Keep h0 h2 [zo] := K0.wr W2 (Or.inl (List.mem_of_getElem? (i := 0) rfl))
  have N7 := Fr.snoc X2 N0 g_zo
  show own_WP _ _ _ _ T2 (mkF m 12 #[.val (.ref zo), .unset, .unset] [])
  refine own_go (fun t k => XS.aloadN X2.here hx rfl (hb hby d3_12) rfl rfl  k) ?_
  show own_WP _ _ _ _ T2 (mkF m 13 #[.val (.ref zo), .unset, .unset] [(.ref zo)])
  obtain ⟨T8, X8, e8, st8⟩ := getF X2 hx hZ hown (host := "") (Or.inl (hw _ (List.mem_of_getElem? (i := 9) rfl))) Via.refl e2 f3 (g := (mkF m 13 #[.val (.ref zo), .unset, .unset] [(.ref zo)])) rfl rfl (hb hby d3_13)
  refine own_go st8 ?_
  show own_WP _ _ _ _ T8 (mkF m 16 #[.val (.ref zo), .unset, .unset] [(.long (zw + (-7046029254386353131 : Int64)))])
  generalize d_z0 : (zw + (-7046029254386353131 : Int64)) = z0
  refine own_go (fun t k => XS.lstoreN X8.here hx rfl (hb hby d3_16) rfl (l' := #[.val (.ref zo), .val (.long z0), .second]) rfl k) ?_
  show own_WP _ _ _ _ T8 (mkF m 17 #[.val (.ref zo), .val (.long z0), .second] [])
  refine own_go (fun t k => XS.lloadN X8.here hx rfl (hb hby d3_17) rfl  k) ?_
  show own_WP _ _ _ _ T8 (mkF m 18 #[.val (.ref zo), .val (.long z0), .second] [(.long z0)])
  refine own_go (fun t k => XS.lloadN X8.here hx rfl (hb hby d3_18) rfl  k) ?_
  show own_WP _ _ _ _ T8 (mkF m 19 #[.val (.ref zo), .val (.long z0), .second] [(.long z0), (.long z0)])
  refine own_go (fun t k => XS.bipush X8.here hx rfl (hb hby d3_19) k) ?_
  show own_WP _ _ _ _ T8 (mkF m 21 #[.val (.ref zo), .val (.long z0), .second] [(.int (30 : Int32)), (.long z0), (.long z0)])
  refine own_go (fun t k => XS.lushr X8.here hx rfl (hb hby d3_21) rfl k) ?_
  show own_WP _ _ _ _ T8 (mkF m 22 #[.val (.ref zo), .val (.long z0), .second] [(.long ((z0.toUInt64 >>> ((30 : Int32) &&& 0x3f).toInt64.toUInt64).toInt64)), (.long z0)])
  refine own_go (fun t k => XS.lxor X8.here hx rfl (hb hby d3_22) rfl k) ?_
  show own_WP _ _ _ _ T8 (mkF m 23 #[.val (.ref zo), .val (.long z0), .second] [(.long (z0 ^^^ ((z0.toUInt64 >>> ((30 : Int32) &&& 0x3f).toInt64.toUInt64).toInt64)))])
  refine own_go (fun t k => X8.ldc2Long hx hown (mvT hZ (hw _ (List.mem_of_getElem? (i := 17) rfl))) (g := (mkF m 23 #[.val (.ref zo), .val (.long z0), .second] [(.long (z0 ^^^ ((z0.toUInt64 >>> ((30 : Int32) &&& 0x3f).toInt64.toUInt64).toInt64)))])) rfl (hb hby d3_23) t k) ?_
  show own_WP _ _ _ _ T8 (mkF m 26 #[.val (.ref zo), .val (.long z0), .second] [(.long (-4658895280553007687 : Int64)), (.long (z0 ^^^ ((z0.toUInt64 >>> ((30 : Int32) &&& 0x3f).toInt64.toUInt64).toInt64)))])
  refine own_go (fun t k => XS.lmul X8.here hx rfl (hb hby d3_26) rfl k) ?_
  show own_WP _ _ _ _ T8 (mkF m 27 #[.val (.ref zo), .val (.long z0), .second] [(.long ((z0 ^^^ ((z0.toUInt64 >>> ((30 : Int32) &&& 0x3f).toInt64.toUInt64).toInt64)) * (-4658895280553007687 : Int64)))])
  generalize d_z1 : ((z0 ^^^ ((z0.toUInt64 >>> ((30 : Int32) &&& 0x3f).toInt64.toUInt64).toInt64)) * (-4658895280553007687 : Int64)) = z1
  refine own_go (fun t k => XS.lstoreN X8.here hx rfl (hb hby d3_27) rfl (l' := #[.val (.ref zo), .val (.long z1), .second]) rfl k) ?_
  show own_WP _ _ _ _ T8 (mkF m 28 #[.val (.ref zo), .val (.long z1), .second] [])
  refine own_go (fun t k => XS.lloadN X8.here hx rfl (hb hby d3_28) rfl  k) ?_
  show own_WP _ _ _ _ T8 (mkF m 29 #[.val (.ref zo), .val (.long z1), .second] [(.long z1)])
  refine own_go (fun t k => XS.lloadN X8.here hx rfl (hb hby d3_29) rfl  k) ?_
  show own_WP _ _ _ _ T8 (mkF m 30 #[.val (.ref zo), .val (.long z1), .second] [(.long z1), (.long z1)])
  refine own_go (fun t k => XS.bipush X8.here hx rfl (hb hby d3_30) k) ?_
  show own_WP _ _ _ _ T8 (mkF m 32 #[.val (.ref zo), .val (.long z1), .second] [(.int (27 : Int32)), (.long z1), (.long z1)])
  refine own_go (fun t k => XS.lushr X8.here hx rfl (hb hby d3_32) rfl k) ?_
  show own_WP _ _ _ _ T8 (mkF m 33 #[.val (.ref zo), .val (.long z1), .second] [(.long ((z1.toUInt64 >>> ((27 : Int32) &&& 0x3f).toInt64.toUInt64).toInt64)), (.long z1)])
  refine own_go (fun t k => XS.lxor X8.here hx rfl (hb hby d3_33) rfl k) ?_
  show own_WP _ _ _ _ T8 (mkF m 34 #[.val (.ref zo), .val (.long z1), .second] [(.long (z1 ^^^ ((z1.toUInt64 >>> ((27 : Int32) &&& 0x3f).toInt64.toUInt64).toInt64)))])
  refine own_go (fun t k => X8.ldc2Long hx hown (mvT hZ (hw _ (List.mem_of_getElem? (i := 18) rfl))) (g := (mkF m 34 #[.val (.ref zo), .val (.long z1), .second] [(.long (z1 ^^^ ((z1.toUInt64 >>> ((27 : Int32) &&& 0x3f).toInt64.toUInt64).toInt64)))])) rfl (hb hby d3_34) t k) ?_
  show own_WP _ _ _ _ T8 (mkF m 37 #[.val (.ref zo), .val (.long z1), .second] [(.long (-7723592293110705685 : Int64)), (.long (z1 ^^^ ((z1.toUInt64 >>> ((27 : Int32) &&& 0x3f).toInt64.toUInt64).toInt64)))])
  refine own_go (fun t k => XS.lmul X8.here hx rfl (hb hby d3_37) rfl k) ?_
  show own_WP _ _ _ _ T8 (mkF m 38 #[.val (.ref zo), .val (.long z1), .second] [(.long ((z1 ^^^ ((z1.toUInt64 >>> ((27 : Int32) &&& 0x3f).toInt64.toUInt64).toInt64)) * (-7723592293110705685 : Int64)))])
  generalize d_z2 : ((z1 ^^^ ((z1.toUInt64 >>> ((27 : Int32) &&& 0x3f).toInt64.toUInt64).toInt64)) * (-7723592293110705685 : Int64)) = z2
  refine own_go (fun t k => XS.lstoreN X8.here hx rfl (hb hby d3_38) rfl (l' := #[.val (.ref zo), .val (.long z2), .second]) rfl k) ?_
  show own_WP _ _ _ _ T8 (mkF m 39 #[.val (.ref zo), .val (.long z2), .second] [])
  refine own_go (fun t k => XS.lloadN X8.here hx rfl (hb hby d3_39) rfl  k) ?_
  show own_WP _ _ _ _ T8 (mkF m 40 #[.val (.ref zo), .val (.long z2), .second] [(.long z2)])
  refine own_go (fun t k => XS.lloadN X8.here hx rfl (hb hby d3_40) rfl  k) ?_
  show own_WP _ _ _ _ T8 (mkF m 41 #[.val (.ref zo), .val (.long z2), .second] [(.long z2), (.long z2)])
  refine own_go (fun t k => XS.bipush X8.here hx rfl (hb hby d3_41) k) ?_
  show own_WP _ _ _ _ T8 (mkF m 43 #[.val (.ref zo), .val (.long z2), .second] [(.int (31 : Int32)), (.long z2), (.long z2)])
  refine own_go (fun t k => XS.lushr X8.here hx rfl (hb hby d3_43) rfl k) ?_
  show own_WP _ _ _ _ T8 (mkF m 44 #[.val (.ref zo), .val (.long z2), .second] [(.long ((z2.toUInt64 >>> ((31 : Int32) &&& 0x3f).toInt64.toUInt64).toInt64)), (.long z2)])
  refine own_go (fun t k => XS.lxor X8.here hx rfl (hb hby d3_44) rfl k) ?_
  show own_WP _ _ _ _ T8 (mkF m 45 #[.val (.ref zo), .val (.long z2), .second] [(.long (z2 ^^^ ((z2.toUInt64 >>> ((31 : Int32) &&& 0x3f).toInt64.toUInt64).toInt64)))])
  refine own_retJ X8 hx Bd.notSynchronized Bd.returns (hb hby d3_45) (by decide) (by decide) ?_
  rw [e8]
  exact ⟨(congrArg (fun z => some (Value.long z)) (show (z2 ^^^ ((z2.toUInt64 >>> ((31 : Int32) &&& 0x3f).toInt64.toUInt64).toInt64)) = (own_mix (zw + (-7046029254386353131 : Int64))) from by subst d_z0 d_z1 d_z2; rfl)), N7, K6, f4, f3⟩
theorem d5_0 : decode method_2_code 0 = .ok (.lload_n 0, 1) := by decide +kernel
theorem d5_1 : decode method_2_code 1 = .ok (.lstore_n 2, 1) := by decide +kernel
theorem d5_2 : decode method_2_code 2 = .ok (.lload_n 2, 1) := by decide +kernel
theorem d5_3 : decode method_2_code 3 = .ok (.ldc2_w 7, 3) := by decide +kernel
theorem d5_6 : decode method_2_code 6 = .ok (.lload_n 0, 1) := by decide +kernel
theorem d5_7 : decode method_2_code 7 = .ok (.lload_n 2, 1) := by decide +kernel
theorem d5_8 : decode method_2_code 8 = .ok (.lmul, 1) := by decide +kernel
theorem d5_9 : decode method_2_code 9 = .ok (.lsub, 1) := by decide +kernel
theorem d5_10 : decode method_2_code 10 = .ok (.lmul, 1) := by decide +kernel
theorem d5_11 : decode method_2_code 11 = .ok (.lstore_n 2, 1) := by decide +kernel
theorem d5_12 : decode method_2_code 12 = .ok (.lload_n 2, 1) := by decide +kernel
theorem d5_13 : decode method_2_code 13 = .ok (.ldc2_w 7, 3) := by decide +kernel
theorem d5_16 : decode method_2_code 16 = .ok (.lload_n 0, 1) := by decide +kernel
theorem d5_17 : decode method_2_code 17 = .ok (.lload_n 2, 1) := by decide +kernel
theorem d5_18 : decode method_2_code 18 = .ok (.lmul, 1) := by decide +kernel
theorem d5_19 : decode method_2_code 19 = .ok (.lsub, 1) := by decide +kernel
theorem d5_20 : decode method_2_code 20 = .ok (.lmul, 1) := by decide +kernel
theorem d5_21 : decode method_2_code 21 = .ok (.lstore_n 2, 1) := by decide +kernel
theorem d5_22 : decode method_2_code 22 = .ok (.lload_n 2, 1) := by decide +kernel
theorem d5_23 : decode method_2_code 23 = .ok (.ldc2_w 7, 3) := by decide +kernel
theorem d5_26 : decode method_2_code 26 = .ok (.lload_n 0, 1) := by decide +kernel
theorem d5_27 : decode method_2_code 27 = .ok (.lload_n 2, 1) := by decide +kernel
theorem d5_28 : decode method_2_code 28 = .ok (.lmul, 1) := by decide +kernel
theorem d5_29 : decode method_2_code 29 = .ok (.lsub, 1) := by decide +kernel
theorem d5_30 : decode method_2_code 30 = .ok (.lmul, 1) := by decide +kernel
theorem d5_31 : decode method_2_code 31 = .ok (.lstore_n 2, 1) := by decide +kernel
theorem d5_32 : decode method_2_code 32 = .ok (.lload_n 2, 1) := by decide +kernel
theorem d5_33 : decode method_2_code 33 = .ok (.ldc2_w 7, 3) := by decide +kernel
theorem d5_36 : decode method_2_code 36 = .ok (.lload_n 0, 1) := by decide +kernel
theorem d5_37 : decode method_2_code 37 = .ok (.lload_n 2, 1) := by decide +kernel
theorem d5_38 : decode method_2_code 38 = .ok (.lmul, 1) := by decide +kernel
theorem d5_39 : decode method_2_code 39 = .ok (.lsub, 1) := by decide +kernel
theorem d5_40 : decode method_2_code 40 = .ok (.lmul, 1) := by decide +kernel
theorem d5_41 : decode method_2_code 41 = .ok (.lstore_n 2, 1) := by decide +kernel
theorem d5_42 : decode method_2_code 42 = .ok (.lload_n 2, 1) := by decide +kernel
theorem d5_43 : decode method_2_code 43 = .ok (.ldc2_w 7, 3) := by decide +kernel
theorem d5_46 : decode method_2_code 46 = .ok (.lload_n 0, 1) := by decide +kernel
theorem d5_47 : decode method_2_code 47 = .ok (.lload_n 2, 1) := by decide +kernel
theorem d5_48 : decode method_2_code 48 = .ok (.lmul, 1) := by decide +kernel
theorem d5_49 : decode method_2_code 49 = .ok (.lsub, 1) := by decide +kernel
theorem d5_50 : decode method_2_code 50 = .ok (.lmul, 1) := by decide +kernel
theorem d5_51 : decode method_2_code 51 = .ok (.lstore_n 2, 1) := by decide +kernel
theorem d5_52 : decode method_2_code 52 = .ok (.lload_n 2, 1) := by decide +kernel
theorem d5_53 : decode method_2_code 53 = .ok (.ldc2_w 7, 3) := by decide +kernel
theorem d5_56 : decode method_2_code 56 = .ok (.lload_n 0, 1) := by decide +kernel
theorem d5_57 : decode method_2_code 57 = .ok (.lload_n 2, 1) := by decide +kernel
theorem d5_58 : decode method_2_code 58 = .ok (.lmul, 1) := by decide +kernel
theorem d5_59 : decode method_2_code 59 = .ok (.lsub, 1) := by decide +kernel
theorem d5_60 : decode method_2_code 60 = .ok (.lmul, 1) := by decide +kernel
theorem d5_61 : decode method_2_code 61 = .ok (.lstore_n 2, 1) := by decide +kernel
theorem d5_62 : decode method_2_code 62 = .ok (.lload_n 2, 1) := by decide +kernel
theorem d5_63 : decode method_2_code 63 = .ok (.lreturn, 1) := by decide +kernel
theorem own_pn51280 : plainName "branchwork/SplitMix64NextPinLaw" = true := by first | (simp [plainName, overriddenIn]; done) | decide +kernel
theorem ef_5 (m : MethodId) (za : Int64) : entryFrame m #[(.long za)] 4 = mkF m 0 #[.val (.long za), .second, .unset, .unset] [] := by first | (simp [entryFrame, mkF, argsToLocals, Value.category]; done) | rfl
def Q5 (Z : State) (za : Int64) (h0 : Heap) (n0 : Nat) (v : Option Value) (h : Heap) (L : List Loc) : Prop := v = some (.long (own_inv6 za)) ∧ Fr n0 L ∧ h = h0
set_option maxRecDepth 65536 in
set_option maxHeartbeats 40000000 in
theorem rm5 (l : Launch) (Z : State) (a0 : Array Value) (hw : ∀ d ∈ tables_1, d.before a0 Z = true) (ws : List Jvm.Cond) (za : Int64) (h0 : Heap) (n0 : Nat) (Z0 : n0 ≤ h0.size)  :
    MetFree l (⟨"branchwork/SplitMix64NextPinLaw", "inverse", "(J)J"⟩ : MethodName) (head1 (Jvm.Cond.code (⟨"branchwork/SplitMix64NextPinLaw", "inverse", "(J)J"⟩ : MethodName) method_2_code 4 (some .long) :: ws) ({ frames := 0, cells := 0, slots := 0, locals := 0 } : Room)) (fun a U => a = #[(.long za)] ∧ Z.Warmed39 U.vm ∧ U.heap = h0) (fun _ _ _ _ _ => True) (fun _ U o U' => ∃ v L, o = .returned v ∧ Q5 Z za h0 n0 v U'.heap L ∧ FrameEnd U o U' L ({ frames := 0, cells := 0, slots := 0, locals := 0 } : Room).cells ({ frames := 0, cells := 0, slots := 0, locals := 0 } : Room).slots) := by
  refine MetFree.of_bodySF (plainFor_of_name own_pn51280) hisR ?_
  intro p e s m args below meth c s₁ Bd hml0 hP hK
  obtain ⟨rfl, hZ, hh⟩ := hP
  have hx := Bd.exec
  have hby := Bd.bytes
  have hml : c.maxLocals = 4 := hml0
  have hown : s.vm.findClass "branchwork/SplitMix64NextPinLaw" = some m.cls := findClass_of_methodNamed Bd.named
  have hnm := (name_of_methodNamed Bd.named Bd.method).1
  have X0 : Stand p l e ({ frames := 0, cells := 0, slots := 0, locals := 0 } : Room) s m #[(.long za)] below meth c s₁ [] 0 0 := Stand.of_body Bd
  have e0 : s₁.heap = h0 := by rw [← hh, Bd.state]; rfl
  have N0 := Fr.nil n0
  have K0 := Keep.refl h0 ([] : List Addr)
  show own_WP p e below (own_E s (Q5 Z za h0 n0) 0 0) s₁ (entryFrame m #[(.long za)] 4)
  rw [ef_5 m za]
  show own_WP _ _ _ _ s₁ (mkF m 0 #[.val (.long za), .second, .unset, .unset] [])
  refine own_go (fun t k => XS.lloadN X0.here hx rfl (hb hby d5_0) rfl  k) ?_
  show own_WP _ _ _ _ s₁ (mkF m 1 #[.val (.long za), .second, .unset, .unset] [(.long za)])
  refine own_go (fun t k => XS.lstoreN X0.here hx rfl (hb hby d5_1) rfl (l' := #[.val (.long za), .second, .val (.long za), .second]) rfl k) ?_
  show own_WP _ _ _ _ s₁ (mkF m 2 #[.val (.long za), .second, .val (.long za), .second] [])
  refine own_go (fun t k => XS.lloadN X0.here hx rfl (hb hby d5_2) rfl  k) ?_
  show own_WP _ _ _ _ s₁ (mkF m 3 #[.val (.long za), .second, .val (.long za), .second] [(.long za)])
  refine own_go (fun t k => X0.ldc2Long hx hown (mvT hZ (hw _ (List.mem_of_getElem? (i := 28) rfl))) (g := (mkF m 3 #[.val (.long za), .second, .val (.long za), .second] [(.long za)])) rfl (hb hby d5_3) t k) ?_
  show own_WP _ _ _ _ s₁ (mkF m 6 #[.val (.long za), .second, .val (.long za), .second] [(.long (2 : Int64)), (.long za)])
  refine own_go (fun t k => XS.lloadN X0.here hx rfl (hb hby d5_6) rfl  k) ?_
  show own_WP _ _ _ _ s₁ (mkF m 7 #[.val (.long za), .second, .val (.long za), .second] [(.long za), (.long (2 : Int64)), (.long za)])
  refine own_go (fun t k => XS.lloadN X0.here hx rfl (hb hby d5_7) rfl  k) ?_
  show own_WP _ _ _ _ s₁ (mkF m 8 #[.val (.long za), .second, .val (.long za), .second] [(.long za), (.long za), (.long (2 : Int64)), (.long za)])
  refine own_go (fun t k => XS.lmul X0.here hx rfl (hb hby d5_8) rfl k) ?_
  show own_WP _ _ _ _ s₁ (mkF m 9 #[.val (.long za), .second, .val (.long za), .second] [(.long (za * za)), (.long (2 : Int64)), (.long za)])
  refine own_go (fun t k => XS.lsub X0.here hx rfl (hb hby d5_9) rfl k) ?_
  show own_WP _ _ _ _ s₁ (mkF m 10 #[.val (.long za), .second, .val (.long za), .second] [(.long ((2 : Int64) - (za * za))), (.long za)])
  refine own_go (fun t k => XS.lmul X0.here hx rfl (hb hby d5_10) rfl k) ?_
  show own_WP _ _ _ _ s₁ (mkF m 11 #[.val (.long za), .second, .val (.long za), .second] [(.long (za * ((2 : Int64) - (za * za))))])
  generalize d_r1 : (za * ((2 : Int64) - (za * za))) = r1
  refine own_go (fun t k => XS.lstoreN X0.here hx rfl (hb hby d5_11) rfl (l' := #[.val (.long za), .second, .val (.long r1), .second]) rfl k) ?_
  show own_WP _ _ _ _ s₁ (mkF m 12 #[.val (.long za), .second, .val (.long r1), .second] [])
  refine own_go (fun t k => XS.lloadN X0.here hx rfl (hb hby d5_12) rfl  k) ?_
  show own_WP _ _ _ _ s₁ (mkF m 13 #[.val (.long za), .second, .val (.long r1), .second] [(.long r1)])
  refine own_go (fun t k => X0.ldc2Long hx hown (mvT hZ (hw _ (List.mem_of_getElem? (i := 28) rfl))) (g := (mkF m 13 #[.val (.long za), .second, .val (.long r1), .second] [(.long r1)])) rfl (hb hby d5_13) t k) ?_
  show own_WP _ _ _ _ s₁ (mkF m 16 #[.val (.long za), .second, .val (.long r1), .second] [(.long (2 : Int64)), (.long r1)])
  refine own_go (fun t k => XS.lloadN X0.here hx rfl (hb hby d5_16) rfl  k) ?_
  show own_WP _ _ _ _ s₁ (mkF m 17 #[.val (.long za), .second, .val (.long r1), .second] [(.long za), (.long (2 : Int64)), (.long r1)])
  refine own_go (fun t k => XS.lloadN X0.here hx rfl (hb hby d5_17) rfl  k) ?_
  show own_WP _ _ _ _ s₁ (mkF m 18 #[.val (.long za), .second, .val (.long r1), .second] [(.long r1), (.long za), (.long (2 : Int64)), (.long r1)])
  refine own_go (fun t k => XS.lmul X0.here hx rfl (hb hby d5_18) rfl k) ?_
  show own_WP _ _ _ _ s₁ (mkF m 19 #[.val (.long za), .second, .val (.long r1), .second] [(.long (za * r1)), (.long (2 : Int64)), (.long r1)])
  refine own_go (fun t k => XS.lsub X0.here hx rfl (hb hby d5_19) rfl k) ?_
  show own_WP _ _ _ _ s₁ (mkF m 20 #[.val (.long za), .second, .val (.long r1), .second] [(.long ((2 : Int64) - (za * r1))), (.long r1)])
  refine own_go (fun t k => XS.lmul X0.here hx rfl (hb hby d5_20) rfl k) ?_
  show own_WP _ _ _ _ s₁ (mkF m 21 #[.val (.long za), .second, .val (.long r1), .second] [(.long (r1 * ((2 : Int64) - (za * r1))))])
  generalize d_r2 : (r1 * ((2 : Int64) - (za * r1))) = r2
  refine own_go (fun t k => XS.lstoreN X0.here hx rfl (hb hby d5_21) rfl (l' := #[.val (.long za), .second, .val (.long r2), .second]) rfl k) ?_
  show own_WP _ _ _ _ s₁ (mkF m 22 #[.val (.long za), .second, .val (.long r2), .second] [])
  refine own_go (fun t k => XS.lloadN X0.here hx rfl (hb hby d5_22) rfl  k) ?_
  show own_WP _ _ _ _ s₁ (mkF m 23 #[.val (.long za), .second, .val (.long r2), .second] [(.long r2)])
  refine own_go (fun t k => X0.ldc2Long hx hown (mvT hZ (hw _ (List.mem_of_getElem? (i := 28) rfl))) (g := (mkF m 23 #[.val (.long za), .second, .val (.long r2), .second] [(.long r2)])) rfl (hb hby d5_23) t k) ?_
  show own_WP _ _ _ _ s₁ (mkF m 26 #[.val (.long za), .second, .val (.long r2), .second] [(.long (2 : Int64)), (.long r2)])
  refine own_go (fun t k => XS.lloadN X0.here hx rfl (hb hby d5_26) rfl  k) ?_
  show own_WP _ _ _ _ s₁ (mkF m 27 #[.val (.long za), .second, .val (.long r2), .second] [(.long za), (.long (2 : Int64)), (.long r2)])
  refine own_go (fun t k => XS.lloadN X0.here hx rfl (hb hby d5_27) rfl  k) ?_
  show own_WP _ _ _ _ s₁ (mkF m 28 #[.val (.long za), .second, .val (.long r2), .second] [(.long r2), (.long za), (.long (2 : Int64)), (.long r2)])
  refine own_go (fun t k => XS.lmul X0.here hx rfl (hb hby d5_28) rfl k) ?_
  show own_WP _ _ _ _ s₁ (mkF m 29 #[.val (.long za), .second, .val (.long r2), .second] [(.long (za * r2)), (.long (2 : Int64)), (.long r2)])
  refine own_go (fun t k => XS.lsub X0.here hx rfl (hb hby d5_29) rfl k) ?_
  show own_WP _ _ _ _ s₁ (mkF m 30 #[.val (.long za), .second, .val (.long r2), .second] [(.long ((2 : Int64) - (za * r2))), (.long r2)])
  refine own_go (fun t k => XS.lmul X0.here hx rfl (hb hby d5_30) rfl k) ?_
  show own_WP _ _ _ _ s₁ (mkF m 31 #[.val (.long za), .second, .val (.long r2), .second] [(.long (r2 * ((2 : Int64) - (za * r2))))])
  generalize d_r3 : (r2 * ((2 : Int64) - (za * r2))) = r3
  refine own_go (fun t k => XS.lstoreN X0.here hx rfl (hb hby d5_31) rfl (l' := #[.val (.long za), .second, .val (.long r3), .second]) rfl k) ?_
  show own_WP _ _ _ _ s₁ (mkF m 32 #[.val (.long za), .second, .val (.long r3), .second] [])
  refine own_go (fun t k => XS.lloadN X0.here hx rfl (hb hby d5_32) rfl  k) ?_
  show own_WP _ _ _ _ s₁ (mkF m 33 #[.val (.long za), .second, .val (.long r3), .second] [(.long r3)])
  refine own_go (fun t k => X0.ldc2Long hx hown (mvT hZ (hw _ (List.mem_of_getElem? (i := 28) rfl))) (g := (mkF m 33 #[.val (.long za), .second, .val (.long r3), .second] [(.long r3)])) rfl (hb hby d5_33) t k) ?_
  show own_WP _ _ _ _ s₁ (mkF m 36 #[.val (.long za), .second, .val (.long r3), .second] [(.long (2 : Int64)), (.long r3)])
  refine own_go (fun t k => XS.lloadN X0.here hx rfl (hb hby d5_36) rfl  k) ?_
  show own_WP _ _ _ _ s₁ (mkF m 37 #[.val (.long za), .second, .val (.long r3), .second] [(.long za), (.long (2 : Int64)), (.long r3)])
  refine own_go (fun t k => XS.lloadN X0.here hx rfl (hb hby d5_37) rfl  k) ?_
  show own_WP _ _ _ _ s₁ (mkF m 38 #[.val (.long za), .second, .val (.long r3), .second] [(.long r3), (.long za), (.long (2 : Int64)), (.long r3)])
  refine own_go (fun t k => XS.lmul X0.here hx rfl (hb hby d5_38) rfl k) ?_
  show own_WP _ _ _ _ s₁ (mkF m 39 #[.val (.long za), .second, .val (.long r3), .second] [(.long (za * r3)), (.long (2 : Int64)), (.long r3)])
  refine own_go (fun t k => XS.lsub X0.here hx rfl (hb hby d5_39) rfl k) ?_
  show own_WP _ _ _ _ s₁ (mkF m 40 #[.val (.long za), .second, .val (.long r3), .second] [(.long ((2 : Int64) - (za * r3))), (.long r3)])
  refine own_go (fun t k => XS.lmul X0.here hx rfl (hb hby d5_40) rfl k) ?_
  show own_WP _ _ _ _ s₁ (mkF m 41 #[.val (.long za), .second, .val (.long r3), .second] [(.long (r3 * ((2 : Int64) - (za * r3))))])
  generalize d_r4 : (r3 * ((2 : Int64) - (za * r3))) = r4
  refine own_go (fun t k => XS.lstoreN X0.here hx rfl (hb hby d5_41) rfl (l' := #[.val (.long za), .second, .val (.long r4), .second]) rfl k) ?_
  show own_WP _ _ _ _ s₁ (mkF m 42 #[.val (.long za), .second, .val (.long r4), .second] [])
  refine own_go (fun t k => XS.lloadN X0.here hx rfl (hb hby d5_42) rfl  k) ?_
  show own_WP _ _ _ _ s₁ (mkF m 43 #[.val (.long za), .second, .val (.long r4), .second] [(.long r4)])
  refine own_go (fun t k => X0.ldc2Long hx hown (mvT hZ (hw _ (List.mem_of_getElem? (i := 28) rfl))) (g := (mkF m 43 #[.val (.long za), .second, .val (.long r4), .second] [(.long r4)])) rfl (hb hby d5_43) t k) ?_
  show own_WP _ _ _ _ s₁ (mkF m 46 #[.val (.long za), .second, .val (.long r4), .second] [(.long (2 : Int64)), (.long r4)])
  refine own_go (fun t k => XS.lloadN X0.here hx rfl (hb hby d5_46) rfl  k) ?_
  show own_WP _ _ _ _ s₁ (mkF m 47 #[.val (.long za), .second, .val (.long r4), .second] [(.long za), (.long (2 : Int64)), (.long r4)])
  refine own_go (fun t k => XS.lloadN X0.here hx rfl (hb hby d5_47) rfl  k) ?_
  show own_WP _ _ _ _ s₁ (mkF m 48 #[.val (.long za), .second, .val (.long r4), .second] [(.long r4), (.long za), (.long (2 : Int64)), (.long r4)])
  refine own_go (fun t k => XS.lmul X0.here hx rfl (hb hby d5_48) rfl k) ?_
  show own_WP _ _ _ _ s₁ (mkF m 49 #[.val (.long za), .second, .val (.long r4), .second] [(.long (za * r4)), (.long (2 : Int64)), (.long r4)])
  refine own_go (fun t k => XS.lsub X0.here hx rfl (hb hby d5_49) rfl k) ?_
  show own_WP _ _ _ _ s₁ (mkF m 50 #[.val (.long za), .second, .val (.long r4), .second] [(.long ((2 : Int64) - (za * r4))), (.long r4)])
  refine own_go (fun t k => XS.lmul X0.here hx rfl (hb hby d5_50) rfl k) ?_
  show own_WP _ _ _ _ s₁ (mkF m 51 #[.val (.long za), .second, .val (.long r4), .second] [(.long (r4 * ((2 : Int64) - (za * r4))))])
  generalize d_r5 : (r4 * ((2 : Int64) - (za * r4))) = r5
  refine own_go (fun t k => XS.lstoreN X0.here hx rfl (hb hby d5_51) rfl (l' := #[.val (.long za), .second, .val (.long r5), .second]) rfl k) ?_
  show own_WP _ _ _ _ s₁ (mkF m 52 #[.val (.long za), .second, .val (.long r5), .second] [])
  refine own_go (fun t k => XS.lloadN X0.here hx rfl (hb hby d5_52) rfl  k) ?_
  show own_WP _ _ _ _ s₁ (mkF m 53 #[.val (.long za), .second, .val (.long r5), .second] [(.long r5)])
  refine own_go (fun t k => X0.ldc2Long hx hown (mvT hZ (hw _ (List.mem_of_getElem? (i := 28) rfl))) (g := (mkF m 53 #[.val (.long za), .second, .val (.long r5), .second] [(.long r5)])) rfl (hb hby d5_53) t k) ?_
  show own_WP _ _ _ _ s₁ (mkF m 56 #[.val (.long za), .second, .val (.long r5), .second] [(.long (2 : Int64)), (.long r5)])
  refine own_go (fun t k => XS.lloadN X0.here hx rfl (hb hby d5_56) rfl  k) ?_
  show own_WP _ _ _ _ s₁ (mkF m 57 #[.val (.long za), .second, .val (.long r5), .second] [(.long za), (.long (2 : Int64)), (.long r5)])
  refine own_go (fun t k => XS.lloadN X0.here hx rfl (hb hby d5_57) rfl  k) ?_
  show own_WP _ _ _ _ s₁ (mkF m 58 #[.val (.long za), .second, .val (.long r5), .second] [(.long r5), (.long za), (.long (2 : Int64)), (.long r5)])
  refine own_go (fun t k => XS.lmul X0.here hx rfl (hb hby d5_58) rfl k) ?_
  show own_WP _ _ _ _ s₁ (mkF m 59 #[.val (.long za), .second, .val (.long r5), .second] [(.long (za * r5)), (.long (2 : Int64)), (.long r5)])
  refine own_go (fun t k => XS.lsub X0.here hx rfl (hb hby d5_59) rfl k) ?_
  show own_WP _ _ _ _ s₁ (mkF m 60 #[.val (.long za), .second, .val (.long r5), .second] [(.long ((2 : Int64) - (za * r5))), (.long r5)])
  refine own_go (fun t k => XS.lmul X0.here hx rfl (hb hby d5_60) rfl k) ?_
  show own_WP _ _ _ _ s₁ (mkF m 61 #[.val (.long za), .second, .val (.long r5), .second] [(.long (r5 * ((2 : Int64) - (za * r5))))])
  generalize d_r6 : (r5 * ((2 : Int64) - (za * r5))) = r6
  refine own_go (fun t k => XS.lstoreN X0.here hx rfl (hb hby d5_61) rfl (l' := #[.val (.long za), .second, .val (.long r6), .second]) rfl k) ?_
  show own_WP _ _ _ _ s₁ (mkF m 62 #[.val (.long za), .second, .val (.long r6), .second] [])
  refine own_go (fun t k => XS.lloadN X0.here hx rfl (hb hby d5_62) rfl  k) ?_
  show own_WP _ _ _ _ s₁ (mkF m 63 #[.val (.long za), .second, .val (.long r6), .second] [(.long r6)])
  refine own_retJ X0 hx Bd.notSynchronized Bd.returns (hb hby d5_63) (by decide) (by decide) ?_
  rw [e0]
  exact ⟨(congrArg (fun z => some (Value.long z)) (show r6 = (own_inv6 za) from by subst d_r1 d_r2 d_r3 d_r4 d_r5 d_r6; rfl)), N0, rfl⟩
theorem own_pd98999 : parseMethodDescriptor "(J)J" = some ⟨[.long], some .long⟩ := by decide +kernel
theorem d4_0 : decode method_3_code 0 = .ok (.lload_n 0, 1) := by decide +kernel
theorem d4_1 : decode method_3_code 1 = .ok (.lstore_n 2, 1) := by decide +kernel
theorem d4_2 : decode method_3_code 2 = .ok (.lload_n 2, 1) := by decide +kernel
theorem d4_3 : decode method_3_code 3 = .ok (.lload_n 2, 1) := by decide +kernel
theorem d4_4 : decode method_3_code 4 = .ok (.bipush 31, 2) := by decide +kernel
theorem d4_6 : decode method_3_code 6 = .ok (.lushr, 1) := by decide +kernel
theorem d4_7 : decode method_3_code 7 = .ok (.lxor, 1) := by decide +kernel
theorem d4_8 : decode method_3_code 8 = .ok (.lload_n 2, 1) := by decide +kernel
theorem d4_9 : decode method_3_code 9 = .ok (.bipush 62, 2) := by decide +kernel
theorem d4_11 : decode method_3_code 11 = .ok (.lushr, 1) := by decide +kernel
theorem d4_12 : decode method_3_code 12 = .ok (.lxor, 1) := by decide +kernel
theorem d4_13 : decode method_3_code 13 = .ok (.lstore_n 2, 1) := by decide +kernel
theorem d4_14 : decode method_3_code 14 = .ok (.lload_n 2, 1) := by decide +kernel
theorem d4_15 : decode method_3_code 15 = .ok (.ldc2_w 9, 3) := by decide +kernel
theorem d4_18 : decode method_3_code 18 = .ok (.invokestatic 11, 3) := by decide +kernel
theorem d4_21 : decode method_3_code 21 = .ok (.lmul, 1) := by decide +kernel
theorem d4_22 : decode method_3_code 22 = .ok (.lstore_n 2, 1) := by decide +kernel
theorem d4_23 : decode method_3_code 23 = .ok (.lload_n 2, 1) := by decide +kernel
theorem d4_24 : decode method_3_code 24 = .ok (.lload_n 2, 1) := by decide +kernel
theorem d4_25 : decode method_3_code 25 = .ok (.bipush 27, 2) := by decide +kernel
theorem d4_27 : decode method_3_code 27 = .ok (.lushr, 1) := by decide +kernel
theorem d4_28 : decode method_3_code 28 = .ok (.lxor, 1) := by decide +kernel
theorem d4_29 : decode method_3_code 29 = .ok (.lload_n 2, 1) := by decide +kernel
theorem d4_30 : decode method_3_code 30 = .ok (.bipush 54, 2) := by decide +kernel
theorem d4_32 : decode method_3_code 32 = .ok (.lushr, 1) := by decide +kernel
theorem d4_33 : decode method_3_code 33 = .ok (.lxor, 1) := by decide +kernel
theorem d4_34 : decode method_3_code 34 = .ok (.lstore_n 2, 1) := by decide +kernel
theorem d4_35 : decode method_3_code 35 = .ok (.lload_n 2, 1) := by decide +kernel
theorem d4_36 : decode method_3_code 36 = .ok (.ldc2_w 17, 3) := by decide +kernel
theorem d4_39 : decode method_3_code 39 = .ok (.invokestatic 11, 3) := by decide +kernel
theorem d4_42 : decode method_3_code 42 = .ok (.lmul, 1) := by decide +kernel
theorem d4_43 : decode method_3_code 43 = .ok (.lstore_n 2, 1) := by decide +kernel
theorem d4_44 : decode method_3_code 44 = .ok (.lload_n 2, 1) := by decide +kernel
theorem d4_45 : decode method_3_code 45 = .ok (.lload_n 2, 1) := by decide +kernel
theorem d4_46 : decode method_3_code 46 = .ok (.bipush 30, 2) := by decide +kernel
theorem d4_48 : decode method_3_code 48 = .ok (.lushr, 1) := by decide +kernel
theorem d4_49 : decode method_3_code 49 = .ok (.lxor, 1) := by decide +kernel
theorem d4_50 : decode method_3_code 50 = .ok (.lload_n 2, 1) := by decide +kernel
theorem d4_51 : decode method_3_code 51 = .ok (.bipush 60, 2) := by decide +kernel
theorem d4_53 : decode method_3_code 53 = .ok (.lushr, 1) := by decide +kernel
theorem d4_54 : decode method_3_code 54 = .ok (.lxor, 1) := by decide +kernel
theorem d4_55 : decode method_3_code 55 = .ok (.lstore_n 2, 1) := by decide +kernel
theorem d4_56 : decode method_3_code 56 = .ok (.lload_n 2, 1) := by decide +kernel
theorem d4_57 : decode method_3_code 57 = .ok (.lreturn, 1) := by decide +kernel
theorem ef_4 (m : MethodId) (za : Int64) : entryFrame m #[(.long za)] 4 = mkF m 0 #[.val (.long za), .second, .unset, .unset] [] := by first | (simp [entryFrame, mkF, argsToLocals, Value.category]; done) | rfl
def Q4 (Z : State) (za : Int64) (h0 : Heap) (n0 : Nat) (v : Option Value) (h : Heap) (L : List Loc) : Prop := v = some (.long (own_unmix za)) ∧ Fr n0 L ∧ h = h0
set_option maxRecDepth 65536 in
set_option maxHeartbeats 40000000 in
theorem rm4 (l : Launch) (Z : State) (a0 : Array Value) (hw : ∀ d ∈ tables_1, d.before a0 Z = true) (ws : List Jvm.Cond) (za : Int64) (h0 : Heap) (n0 : Nat) (Z0 : n0 ≤ h0.size)  :
    MetFree l (⟨"branchwork/SplitMix64NextPinLaw", "unmix", "(J)J"⟩ : MethodName) (head1 (Jvm.Cond.code (⟨"branchwork/SplitMix64NextPinLaw", "unmix", "(J)J"⟩ : MethodName) method_3_code 4 (some .long) :: ws) ({ frames := 1, cells := 0, slots := 0, locals := 17 } : Room)) (fun a U => a = #[(.long za)] ∧ Z.Warmed39 U.vm ∧ U.heap = h0) (fun _ _ _ _ _ => True) (fun _ U o U' => ∃ v L, o = .returned v ∧ Q4 Z za h0 n0 v U'.heap L ∧ FrameEnd U o U' L ({ frames := 1, cells := 0, slots := 0, locals := 17 } : Room).cells ({ frames := 1, cells := 0, slots := 0, locals := 17 } : Room).slots) := by
  refine MetFree.of_bodySF (plainFor_of_name own_pn51280) hisR ?_
  intro p e s m args below meth c s₁ Bd hml0 hP hK
  obtain ⟨rfl, hZ, hh⟩ := hP
  have hx := Bd.exec
  have hby := Bd.bytes
  have hml : c.maxLocals = 4 := hml0
  have hown : s.vm.findClass "branchwork/SplitMix64NextPinLaw" = some m.cls := findClass_of_methodNamed Bd.named
  have hnm := (name_of_methodNamed Bd.named Bd.method).1
  have X0 : Stand p l e ({ frames := 1, cells := 0, slots := 0, locals := 17 } : Room) s m #[(.long za)] below meth c s₁ [] 0 0 := Stand.of_body Bd
  have e0 : s₁.heap = h0 := by rw [← hh, Bd.state]; rfl
  have N0 := Fr.nil n0
  have K0 := Keep.refl h0 ([] : List Addr)
  show own_WP p e below (own_E s (Q4 Z za h0 n0) 0 0) s₁ (entryFrame m #[(.long za)] 4)
  rw [ef_4 m za]
  show own_WP _ _ _ _ s₁ (mkF m 0 #[.val (.long za), .second, .unset, .unset] [])
  refine own_go (fun t k => XS.lloadN X0.here hx rfl (hb hby d4_0) rfl  k) ?_
  show own_WP _ _ _ _ s₁ (mkF m 1 #[.val (.long za), .second, .unset, .unset] [(.long za)])
  refine own_go (fun t k => XS.lstoreN X0.here hx rfl (hb hby d4_1) rfl (l' := #[.val (.long za), .second, .val (.long za), .second]) rfl k) ?_
  show own_WP _ _ _ _ s₁ (mkF m 2 #[.val (.long za), .second, .val (.long za), .second] [])
  refine own_go (fun t k => XS.lloadN X0.here hx rfl (hb hby d4_2) rfl  k) ?_
  show own_WP _ _ _ _ s₁ (mkF m 3 #[.val (.long za), .second, .val (.long za), .second] [(.long za)])
  refine own_go (fun t k => XS.lloadN X0.here hx rfl (hb hby d4_3) rfl  k) ?_
  show own_WP _ _ _ _ s₁ (mkF m 4 #[.val (.long za), .second, .val (.long za), .second] [(.long za), (.long za)])
  refine own_go (fun t k => XS.bipush X0.here hx rfl (hb hby d4_4) k) ?_
  show own_WP _ _ _ _ s₁ (mkF m 6 #[.val (.long za), .second, .val (.long za), .second] [(.int (31 : Int32)), (.long za), (.long za)])
  refine own_go (fun t k => XS.lushr X0.here hx rfl (hb hby d4_6) rfl k) ?_
  show own_WP _ _ _ _ s₁ (mkF m 7 #[.val (.long za), .second, .val (.long za), .second] [(.long ((za.toUInt64 >>> ((31 : Int32) &&& 0x3f).toInt64.toUInt64).toInt64)), (.long za)])
  refine own_go (fun t k => XS.lxor X0.here hx rfl (hb hby d4_7) rfl k) ?_
  show own_WP _ _ _ _ s₁ (mkF m 8 #[.val (.long za), .second, .val (.long za), .second] [(.long (za ^^^ ((za.toUInt64 >>> ((31 : Int32) &&& 0x3f).toInt64.toUInt64).toInt64)))])
  refine own_go (fun t k => XS.lloadN X0.here hx rfl (hb hby d4_8) rfl  k) ?_
  show own_WP _ _ _ _ s₁ (mkF m 9 #[.val (.long za), .second, .val (.long za), .second] [(.long za), (.long (za ^^^ ((za.toUInt64 >>> ((31 : Int32) &&& 0x3f).toInt64.toUInt64).toInt64)))])
  refine own_go (fun t k => XS.bipush X0.here hx rfl (hb hby d4_9) k) ?_
  show own_WP _ _ _ _ s₁ (mkF m 11 #[.val (.long za), .second, .val (.long za), .second] [(.int (62 : Int32)), (.long za), (.long (za ^^^ ((za.toUInt64 >>> ((31 : Int32) &&& 0x3f).toInt64.toUInt64).toInt64)))])
  refine own_go (fun t k => XS.lushr X0.here hx rfl (hb hby d4_11) rfl k) ?_
  show own_WP _ _ _ _ s₁ (mkF m 12 #[.val (.long za), .second, .val (.long za), .second] [(.long ((za.toUInt64 >>> ((62 : Int32) &&& 0x3f).toInt64.toUInt64).toInt64)), (.long (za ^^^ ((za.toUInt64 >>> ((31 : Int32) &&& 0x3f).toInt64.toUInt64).toInt64)))])
  refine own_go (fun t k => XS.lxor X0.here hx rfl (hb hby d4_12) rfl k) ?_
  show own_WP _ _ _ _ s₁ (mkF m 13 #[.val (.long za), .second, .val (.long za), .second] [(.long ((za ^^^ ((za.toUInt64 >>> ((31 : Int32) &&& 0x3f).toInt64.toUInt64).toInt64)) ^^^ ((za.toUInt64 >>> ((62 : Int32) &&& 0x3f).toInt64.toUInt64).toInt64)))])
  generalize d_z1 : ((za ^^^ ((za.toUInt64 >>> ((31 : Int32) &&& 0x3f).toInt64.toUInt64).toInt64)) ^^^ ((za.toUInt64 >>> ((62 : Int32) &&& 0x3f).toInt64.toUInt64).toInt64)) = z1
  refine own_go (fun t k => XS.lstoreN X0.here hx rfl (hb hby d4_13) rfl (l' := #[.val (.long za), .second, .val (.long z1), .second]) rfl k) ?_
  show own_WP _ _ _ _ s₁ (mkF m 14 #[.val (.long za), .second, .val (.long z1), .second] [])
  refine own_go (fun t k => XS.lloadN X0.here hx rfl (hb hby d4_14) rfl  k) ?_
  show own_WP _ _ _ _ s₁ (mkF m 15 #[.val (.long za), .second, .val (.long z1), .second] [(.long z1)])
  refine own_go (fun t k => X0.ldc2Long hx hown (mvT hZ (hw _ (List.mem_of_getElem? (i := 24) rfl))) (g := (mkF m 15 #[.val (.long za), .second, .val (.long z1), .second] [(.long z1)])) rfl (hb hby d4_15) t k) ?_
  show own_WP _ _ _ _ s₁ (mkF m 18 #[.val (.long za), .second, .val (.long z1), .second] [(.long (-7723592293110705685 : Int64)), (.long z1)])
  obtain ⟨_, _, ⟨T1, L1, k1, n1⟩, -, X1, ⟨Lc1, hQ1, l1, y1, z1⟩, st1⟩ := Jvm.LawKit.callS X0 hx (y := (⟨"branchwork/SplitMix64NextPinLaw", "inverse", "(J)J"⟩ : MethodName)) hown (mvT hZ (hw _ (List.mem_of_getElem? (i := 25) rfl))) (mvT hZ (hw _ (List.mem_of_getElem? (i := 26) rfl))) (mvT hZ (hw _ (List.mem_of_getElem? (i := 22) rfl))) (mvT hZ (hw _ (List.mem_of_getElem? (i := 27) rfl))) (by decide) (backOf (W := 2) (rm5 l Z a0 hw [] (-7723592293110705685 : Int64)  h0 n0 (own_le Z0 K0) ) hZ (hw _ (List.mem_of_getElem? (i := 27) rfl)) (hw _ (List.mem_of_getElem? (i := 22) rfl)) (by decide) (by decide)) (g := (mkF m 18 #[.val (.long za), .second, .val (.long z1), .second] [(.long (-7723592293110705685 : Int64)), (.long z1)])) rfl (by rw [hml]; rfl) (argsL := [(.long (-7723592293110705685 : Int64))]) (rest := [(.long z1)]) (lenOf own_pd98999 rfl) rfl (by show 2 * 0 + _ ≤ _; exact Nat.le_of_eq rfl) (hb hby d4_18) (fun _ _ => ⟨rfl, e0, (by decide : 0 + 0 ≤ _), (by decide : 0 + 0 ≤ _)⟩)
  dsimp only [Pt.U, Pt.locs, Pt.cells, Pt.slots] at X1 l1 y1 z1 st1 hQ1
  subst l1 y1 z1
  obtain ⟨rfl, N1q, eq1⟩ := hQ1
  have N1 := Fr.app N0 N1q
  refine own_go st1 ?_
  show own_WP _ _ _ _ T1 (mkF m 21 #[.val (.long za), .second, .val (.long z1), .second] [(.long (own_inv6 (-7723592293110705685 : Int64))), (.long z1)])
  refine own_go (fun t k => XS.lmul X1.here hx rfl (hb hby d4_21) rfl k) ?_
  show own_WP _ _ _ _ T1 (mkF m 22 #[.val (.long za), .second, .val (.long z1), .second] [(.long (z1 * (own_inv6 (-7723592293110705685 : Int64))))])
  generalize d_z2 : (z1 * (own_inv6 (-7723592293110705685 : Int64))) = z2
  refine own_go (fun t k => XS.lstoreN X1.here hx rfl (hb hby d4_22) rfl (l' := #[.val (.long za), .second, .val (.long z2), .second]) rfl k) ?_
  show own_WP _ _ _ _ T1 (mkF m 23 #[.val (.long za), .second, .val (.long z2), .second] [])
  refine own_go (fun t k => XS.lloadN X1.here hx rfl (hb hby d4_23) rfl  k) ?_
  show own_WP _ _ _ _ T1 (mkF m 24 #[.val (.long za), .second, .val (.long z2), .second] [(.long z2)])
  refine own_go (fun t k => XS.lloadN X1.here hx rfl (hb hby d4_24) rfl  k) ?_
  show own_WP _ _ _ _ T1 (mkF m 25 #[.val (.long za), .second, .val (.long z2), .second] [(.long z2), (.long z2)])
  refine own_go (fun t k => XS.bipush X1.here hx rfl (hb hby d4_25) k) ?_
  show own_WP _ _ _ _ T1 (mkF m 27 #[.val (.long za), .second, .val (.long z2), .second] [(.int (27 : Int32)), (.long z2), (.long z2)])
  refine own_go (fun t k => XS.lushr X1.here hx rfl (hb hby d4_27) rfl k) ?_
  show own_WP _ _ _ _ T1 (mkF m 28 #[.val (.long za), .second, .val (.long z2), .second] [(.long ((z2.toUInt64 >>> ((27 : Int32) &&& 0x3f).toInt64.toUInt64).toInt64)), (.long z2)])
  refine own_go (fun t k => XS.lxor X1.here hx rfl (hb hby d4_28) rfl k) ?_
  show own_WP _ _ _ _ T1 (mkF m 29 #[.val (.long za), .second, .val (.long z2), .second] [(.long (z2 ^^^ ((z2.toUInt64 >>> ((27 : Int32) &&& 0x3f).toInt64.toUInt64).toInt64)))])
  refine own_go (fun t k => XS.lloadN X1.here hx rfl (hb hby d4_29) rfl  k) ?_
  show own_WP _ _ _ _ T1 (mkF m 30 #[.val (.long za), .second, .val (.long z2), .second] [(.long z2), (.long (z2 ^^^ ((z2.toUInt64 >>> ((27 : Int32) &&& 0x3f).toInt64.toUInt64).toInt64)))])
  refine own_go (fun t k => XS.bipush X1.here hx rfl (hb hby d4_30) k) ?_
  show own_WP _ _ _ _ T1 (mkF m 32 #[.val (.long za), .second, .val (.long z2), .second] [(.int (54 : Int32)), (.long z2), (.long (z2 ^^^ ((z2.toUInt64 >>> ((27 : Int32) &&& 0x3f).toInt64.toUInt64).toInt64)))])
  refine own_go (fun t k => XS.lushr X1.here hx rfl (hb hby d4_32) rfl k) ?_
  show own_WP _ _ _ _ T1 (mkF m 33 #[.val (.long za), .second, .val (.long z2), .second] [(.long ((z2.toUInt64 >>> ((54 : Int32) &&& 0x3f).toInt64.toUInt64).toInt64)), (.long (z2 ^^^ ((z2.toUInt64 >>> ((27 : Int32) &&& 0x3f).toInt64.toUInt64).toInt64)))])
  refine own_go (fun t k => XS.lxor X1.here hx rfl (hb hby d4_33) rfl k) ?_
  show own_WP _ _ _ _ T1 (mkF m 34 #[.val (.long za), .second, .val (.long z2), .second] [(.long ((z2 ^^^ ((z2.toUInt64 >>> ((27 : Int32) &&& 0x3f).toInt64.toUInt64).toInt64)) ^^^ ((z2.toUInt64 >>> ((54 : Int32) &&& 0x3f).toInt64.toUInt64).toInt64)))])
  generalize d_z3 : ((z2 ^^^ ((z2.toUInt64 >>> ((27 : Int32) &&& 0x3f).toInt64.toUInt64).toInt64)) ^^^ ((z2.toUInt64 >>> ((54 : Int32) &&& 0x3f).toInt64.toUInt64).toInt64)) = z3
  refine own_go (fun t k => XS.lstoreN X1.here hx rfl (hb hby d4_34) rfl (l' := #[.val (.long za), .second, .val (.long z3), .second]) rfl k) ?_
  show own_WP _ _ _ _ T1 (mkF m 35 #[.val (.long za), .second, .val (.long z3), .second] [])
  refine own_go (fun t k => XS.lloadN X1.here hx rfl (hb hby d4_35) rfl  k) ?_
  show own_WP _ _ _ _ T1 (mkF m 36 #[.val (.long za), .second, .val (.long z3), .second] [(.long z3)])
  refine own_go (fun t k => X1.ldc2Long hx hown (mvT hZ (hw _ (List.mem_of_getElem? (i := 29) rfl))) (g := (mkF m 36 #[.val (.long za), .second, .val (.long z3), .second] [(.long z3)])) rfl (hb hby d4_36) t k) ?_
  show own_WP _ _ _ _ T1 (mkF m 39 #[.val (.long za), .second, .val (.long z3), .second] [(.long (-4658895280553007687 : Int64)), (.long z3)])
  obtain ⟨_, _, ⟨T2, L2, k2, n2⟩, -, X2, ⟨Lc2, hQ2, l2, y2, z2⟩, st2⟩ := Jvm.LawKit.callS X1 hx (y := (⟨"branchwork/SplitMix64NextPinLaw", "inverse", "(J)J"⟩ : MethodName)) hown (mvT hZ (hw _ (List.mem_of_getElem? (i := 25) rfl))) (mvT hZ (hw _ (List.mem_of_getElem? (i := 26) rfl))) (mvT hZ (hw _ (List.mem_of_getElem? (i := 22) rfl))) (mvT hZ (hw _ (List.mem_of_getElem? (i := 27) rfl))) (by decide) (backOf (W := 2) (rm5 l Z a0 hw [] (-4658895280553007687 : Int64)  h0 n0 (own_le Z0 K0) ) hZ (hw _ (List.mem_of_getElem? (i := 27) rfl)) (hw _ (List.mem_of_getElem? (i := 22) rfl)) (by decide) (by decide)) (g := (mkF m 39 #[.val (.long za), .second, .val (.long z3), .second] [(.long (-4658895280553007687 : Int64)), (.long z3)])) rfl (by rw [hml]; rfl) (argsL := [(.long (-4658895280553007687 : Int64))]) (rest := [(.long z3)]) (lenOf own_pd98999 rfl) rfl (by show 2 * 0 + _ ≤ _; exact Nat.le_of_eq rfl) (hb hby d4_39) (fun _ _ => ⟨rfl, eq1, (by decide : 0 + 0 ≤ _), (by decide : 0 + 0 ≤ _)⟩)
  dsimp only [Pt.U, Pt.locs, Pt.cells, Pt.slots] at X2 l2 y2 z2 st2 hQ2
  subst l2 y2 z2
  obtain ⟨rfl, N2q, eq2⟩ := hQ2
  have N2 := Fr.app N1 N2q
  refine own_go st2 ?_
  show own_WP _ _ _ _ T2 (mkF m 42 #[.val (.long za), .second, .val (.long z3), .second] [(.long (own_inv6 (-4658895280553007687 : Int64))), (.long z3)])
  refine own_go (fun t k => XS.lmul X2.here hx rfl (hb hby d4_42) rfl k) ?_
  show own_WP _ _ _ _ T2 (mkF m 43 #[.val (.long za), .second, .val (.long z3), .second] [(.long (z3 * (own_inv6 (-4658895280553007687 : Int64))))])
  generalize d_z4 : (z3 * (own_inv6 (-4658895280553007687 : Int64))) = z4
  refine own_go (fun t k => XS.lstoreN X2.here hx rfl (hb hby d4_43) rfl (l' := #[.val (.long za), .second, .val (.long z4), .second]) rfl k) ?_
  show own_WP _ _ _ _ T2 (mkF m 44 #[.val (.long za), .second, .val (.long z4), .second] [])
  refine own_go (fun t k => XS.lloadN X2.here hx rfl (hb hby d4_44) rfl  k) ?_
  show own_WP _ _ _ _ T2 (mkF m 45 #[.val (.long za), .second, .val (.long z4), .second] [(.long z4)])
  refine own_go (fun t k => XS.lloadN X2.here hx rfl (hb hby d4_45) rfl  k) ?_
  show own_WP _ _ _ _ T2 (mkF m 46 #[.val (.long za), .second, .val (.long z4), .second] [(.long z4), (.long z4)])
  refine own_go (fun t k => XS.bipush X2.here hx rfl (hb hby d4_46) k) ?_
  show own_WP _ _ _ _ T2 (mkF m 48 #[.val (.long za), .second, .val (.long z4), .second] [(.int (30 : Int32)), (.long z4), (.long z4)])
  refine own_go (fun t k => XS.lushr X2.here hx rfl (hb hby d4_48) rfl k) ?_
  show own_WP _ _ _ _ T2 (mkF m 49 #[.val (.long za), .second, .val (.long z4), .second] [(.long ((z4.toUInt64 >>> ((30 : Int32) &&& 0x3f).toInt64.toUInt64).toInt64)), (.long z4)])
  refine own_go (fun t k => XS.lxor X2.here hx rfl (hb hby d4_49) rfl k) ?_
  show own_WP _ _ _ _ T2 (mkF m 50 #[.val (.long za), .second, .val (.long z4), .second] [(.long (z4 ^^^ ((z4.toUInt64 >>> ((30 : Int32) &&& 0x3f).toInt64.toUInt64).toInt64)))])
  refine own_go (fun t k => XS.lloadN X2.here hx rfl (hb hby d4_50) rfl  k) ?_
  show own_WP _ _ _ _ T2 (mkF m 51 #[.val (.long za), .second, .val (.long z4), .second] [(.long z4), (.long (z4 ^^^ ((z4.toUInt64 >>> ((30 : Int32) &&& 0x3f).toInt64.toUInt64).toInt64)))])
  refine own_go (fun t k => XS.bipush X2.here hx rfl (hb hby d4_51) k) ?_
  show own_WP _ _ _ _ T2 (mkF m 53 #[.val (.long za), .second, .val (.long z4), .second] [(.int (60 : Int32)), (.long z4), (.long (z4 ^^^ ((z4.toUInt64 >>> ((30 : Int32) &&& 0x3f).toInt64.toUInt64).toInt64)))])
  refine own_go (fun t k => XS.lushr X2.here hx rfl (hb hby d4_53) rfl k) ?_
  show own_WP _ _ _ _ T2 (mkF m 54 #[.val (.long za), .second, .val (.long z4), .second] [(.long ((z4.toUInt64 >>> ((60 : Int32) &&& 0x3f).toInt64.toUInt64).toInt64)), (.long (z4 ^^^ ((z4.toUInt64 >>> ((30 : Int32) &&& 0x3f).toInt64.toUInt64).toInt64)))])
  refine own_go (fun t k => XS.lxor X2.here hx rfl (hb hby d4_54) rfl k) ?_
  show own_WP _ _ _ _ T2 (mkF m 55 #[.val (.long za), .second, .val (.long z4), .second] [(.long ((z4 ^^^ ((z4.toUInt64 >>> ((30 : Int32) &&& 0x3f).toInt64.toUInt64).toInt64)) ^^^ ((z4.toUInt64 >>> ((60 : Int32) &&& 0x3f).toInt64.toUInt64).toInt64)))])
  generalize d_z5 : ((z4 ^^^ ((z4.toUInt64 >>> ((30 : Int32) &&& 0x3f).toInt64.toUInt64).toInt64)) ^^^ ((z4.toUInt64 >>> ((60 : Int32) &&& 0x3f).toInt64.toUInt64).toInt64)) = z5
  refine own_go (fun t k => XS.lstoreN X2.here hx rfl (hb hby d4_55) rfl (l' := #[.val (.long za), .second, .val (.long z5), .second]) rfl k) ?_
  show own_WP _ _ _ _ T2 (mkF m 56 #[.val (.long za), .second, .val (.long z5), .second] [])
  refine own_go (fun t k => XS.lloadN X2.here hx rfl (hb hby d4_56) rfl  k) ?_
  show own_WP _ _ _ _ T2 (mkF m 57 #[.val (.long za), .second, .val (.long z5), .second] [(.long z5)])
  refine own_retJ X2 hx Bd.notSynchronized Bd.returns (hb hby d4_57) (by decide) (by decide) ?_
  rw [eq2]
  exact ⟨(congrArg (fun z => some (Value.long z)) (show z5 = (own_unmix za) from by subst d_z1 d_z2 d_z3 d_z4 d_z5; rfl)), N2, rfl⟩
theorem own_pd99011 : parseMethodDescriptor "(J)V" = some ⟨[.long], none⟩ := by decide +kernel
theorem own_pd91885 : parseMethodDescriptor "()J" = some ⟨[], some .long⟩ := by decide +kernel
theorem ef_0 (m : MethodId) (zs : Int64) : entryFrame m #[(.long zs)] maxLocals = mkF m 0 #[.val (.long zs), .second, .unset, .unset, .unset, .unset, .unset, .unset, .unset, .unset, .unset, .unset, .unset, .unset, .unset] [] := by first | (simp [entryFrame, mkF, argsToLocals, Value.category, maxLocals]; done) | rfl
def Q0 (Z : State) (zs : Int64) (h0 : Heap) (n0 : Nat) (v : Option Value) (h : Heap) (L : List Loc) : Prop := v = some (.int 1) ∧ Fr n0 L
set_option maxRecDepth 65536 in
set_option maxHeartbeats 40000000 in
theorem rm0 (l : Launch) (Z : State) (a0 : Array Value) (hw : ∀ d ∈ tables_1, d.before a0 Z = true) (ws : List Jvm.Cond) (zs : Int64) (h0 : Heap) (n0 : Nat) (Z0 : n0 ≤ h0.size)  :
    MetFree l x (head1 (Jvm.Cond.code x code maxLocals ret :: ws) room_1) (fun a U => a = #[(.long zs)] ∧ Z.Warmed39 U.vm ∧ U.heap = h0) (fun _ _ _ _ _ => True) (fun _ U o U' => ∃ v L, o = .returned v ∧ Q0 Z zs h0 n0 v U'.heap L ∧ FrameEnd U o U' L 1 1) := by
  refine MetFree.of_bodySF (plainFor_of_name own_pn51280) hisR ?_
  intro p e s m args below meth c s₁ Bd hml0 hP hK
  obtain ⟨rfl, hZ, hh⟩ := hP
  have hx := Bd.exec
  have hby := Bd.bytes
  have hml : c.maxLocals = 15 := hml0
  have hown : s.vm.findClass "branchwork/SplitMix64NextPinLaw" = some m.cls := findClass_of_methodNamed Bd.named
  have hnm := (name_of_methodNamed Bd.named Bd.method).1
  have X0 : Stand p l e room_1 s m #[(.long zs)] below meth c s₁ [] 0 0 := Stand.of_body Bd
  have e0 : s₁.heap = h0 := by rw [← hh, Bd.state]; rfl
  have N0 := Fr.nil n0
  have K0 := Keep.refl h0 ([] : List Addr)
  show own_WP p e below (own_E s (Q0 Z zs h0 n0) 1 1) s₁ (entryFrame m #[(.long zs)] maxLocals)
  rw [ef_0 m zs]
  show own_WP _ _ _ _ s₁ (mkF m 0 #[.val (.long zs), .second, .unset, .unset, .unset, .unset, .unset, .unset, .unset, .unset, .unset, .unset, .unset, .unset, .unset] [])
  obtain ⟨T1, h1, X1, e1, E1, A1, D1, -, st1⟩ := newO X0 hx hZ hown (hw _ (List.mem_of_getElem? (i := 0) rfl)) (hw _ (List.mem_of_getElem? (i := 1) rfl)) (hw _ (List.mem_of_getElem? (i := 2) rfl)) e0 (g := (mkF m 0 #[.val (.long zs), .second, .unset, .unset, .unset, .unset, .unset, .unset, .unset, .unset, .unset, .unset, .unset, .unset, .unset] [])) rfl (hb hby at_0) (by decide) (by decide)
  obtain ⟨b1, q1⟩ : ∃ z, z = h0.size := ⟨_, rfl⟩
  rw [← q1] at A1 D1 st1
  refine own_go st1 ?_
  have g_b1 : n0 ≤ b1 := Nat.le_trans (own_le Z0 K0) (Nat.le_of_eq q1.symm)
  have sz_b1 : h0.size ≤ b1 := Nat.le_trans K0.1 (Nat.le_of_eq q1.symm)
  have K2 : Keep h0 h1 [] := K0.ext E1
  have f3 : Fld Z h1 b1 "branchwork/SplitMix64" "state" "J" (.long (0 : Int64)) := D1 (Or.inl (hw _ (List.mem_of_getElem? (i := 10) rfl))) (ty := .long) (by decide)
  show own_WP _ _ _ _ T1 (mkF m 3 #[.val (.long zs), .second, .unset, .unset, .unset, .unset, .unset, .unset, .unset, .unset, .unset, .unset, .unset, .unset, .unset] [(.ref b1)])
  refine own_go (fun t k => XS.dup X1.here hx rfl (hb hby at_3) rfl rfl k) ?_
  show own_WP _ _ _ _ T1 (mkF m 4 #[.val (.long zs), .second, .unset, .unset, .unset, .unset, .unset, .unset, .unset, .unset, .unset, .unset, .unset, .unset, .unset] [(.ref b1), (.ref b1)])
  refine own_go (fun t k => XS.lloadN X1.here hx rfl (hb hby at_4) rfl  k) ?_
  show own_WP _ _ _ _ T1 (mkF m 5 #[.val (.long zs), .second, .unset, .unset, .unset, .unset, .unset, .unset, .unset, .unset, .unset, .unset, .unset, .unset, .unset] [(.long zs), (.ref b1), (.ref b1)])
  obtain ⟨_, _, ⟨T4, L4, k4, n4⟩, -, X4, ⟨Lc4, hQ4, l4, y4, z4⟩, st4⟩ := X1.specialBack hx (y := (⟨"branchwork/SplitMix64", "<init>", "(J)V"⟩ : MethodName)) rfl hown (mvT hZ (hw _ (List.mem_of_getElem? (i := 3) rfl))) (mvT hZ (hw _ (List.mem_of_getElem? (i := 4) rfl))) (mvT hZ (hw _ (List.mem_of_getElem? (i := 5) rfl))) (by decide) (backOf (W := 1) (rm1 l Z a0 hw [] b1 zs (.long (0 : Int64)) h1 n0 (own_le Z0 K2) A1 f3 g_b1) hZ (hw _ (List.mem_of_getElem? (i := 5) rfl)) (hw _ (List.mem_of_getElem? (i := 2) rfl)) (by decide) (by decide)) (g := (mkF m 5 #[.val (.long zs), .second, .unset, .unset, .unset, .unset, .unset, .unset, .unset, .unset, .unset, .unset, .unset, .unset, .unset] [(.long zs), (.ref b1), (.ref b1)])) rfl (by rw [hml]; rfl) (Steps.refl _) (a := b1) (argsL := [(.long zs)]) (rest := [(.ref b1)]) (lenOf own_pd99011 rfl) rfl (by show 2 * 0 + _ ≤ _; exact Nat.le_of_eq rfl) (hb hby at_5) (fun _ _ => ⟨rfl, e1, (by decide : 1 + 0 ≤ _), (by decide : 1 + 0 ≤ _)⟩)
  dsimp only [Pt.U, Pt.locs, Pt.cells, Pt.slots] at X4 l4 y4 z4 st4 hQ4
  subst l4 y4 z4
  obtain ⟨rfl, N4q, Kc4, f5, f6⟩ := hQ4
  have N4 := Fr.app N0 N4q
  refine own_tr st4 ?_
  have f7 : Exa Z T4.heap b1 "branchwork/SplitMix64" := A1.keep Kc4
  have K9 : Keep h0 T4.heap [] := K2.trans Kc4 (fun x hx => by cases List.mem_singleton.mp hx; exact Or.inr sz_b1)
  show own_WP _ _ _ _ T4 (mkF m 8 #[.val (.long zs), .second, .unset, .unset, .unset, .unset, .unset, .unset, .unset, .unset, .unset, .unset, .unset, .unset, .unset] [(.ref b1)])
  refine own_go (fun t k => XS.astoreN X4.here hx rfl (hb hby at_8) rfl rfl (l' := #[.val (.long zs), .second, .val (.ref b1), .unset, .unset, .unset, .unset, .unset, .unset, .unset, .unset, .unset, .unset, .unset, .unset]) rfl k) ?_
  show own_WP _ _ _ _ T4 (mkF m 9 #[.val (.long zs), .second, .val (.ref b1), .unset, .unset, .unset, .unset, .unset, .unset, .unset, .unset, .unset, .unset, .unset, .unset] [])
  refine own_go (fun t k => XS.aloadN X4.here hx rfl (hb hby at_9) rfl rfl  k) ?_
  show own_WP _ _ _ _ T4 (mkF m 10 #[.val (.long zs), .second, .val (.ref b1), .unset, .unset, .unset, .unset, .unset, .unset, .unset, .unset, .unset, .unset, .unset, .unset] [(.ref b1)])
  obtain ⟨cq10, kq10, q10a, q10b, q10c⟩ := isOf hZ rfl f5
  obtain ⟨_, _, ⟨T10, L10, k10, n10⟩, -, X10, ⟨Lc10, hQ10, l10, y10, z10⟩, st10⟩ := X4.virtualBack hx (y := (⟨"branchwork/SplitMix64", "next", "()J"⟩ : MethodName)) (z := (⟨"branchwork/SplitMix64", "next", "()J"⟩ : MethodName)) hown (mvT hZ (hw _ (List.mem_of_getElem? (i := 11) rfl))) (mvT hZ (hw _ (List.mem_of_getElem? (i := 12) rfl))) (notFace_of_selects (args := #[]) (mvT hZ (hw _ (List.mem_of_getElem? (i := 14) rfl)))) (mvT hZ (hw _ (List.mem_of_getElem? (i := 14) rfl))) (mvT hZ (hw _ (List.mem_of_getElem? (i := 13) rfl))) (by decide) (backOf (W := 0) (rm3 l Z a0 hw [] b1 zs T4.heap n0 (own_le Z0 K9) f5 f6 g_b1) hZ (hw _ (List.mem_of_getElem? (i := 15) rfl)) (hw _ (List.mem_of_getElem? (i := 2) rfl)) (by decide) (by decide)) q10a q10c (g := (mkF m 10 #[.val (.long zs), .second, .val (.ref b1), .unset, .unset, .unset, .unset, .unset, .unset, .unset, .unset, .unset, .unset, .unset, .unset] [(.ref b1)])) rfl (by rw [hml]; rfl) (Steps.refl _) (argsL := []) (rest := []) (lenOf own_pd91885 rfl) rfl (by show 2 * 0 + _ ≤ _; exact Nat.le_of_eq rfl) (hb hby at_10) (fun _ _ => ⟨rfl, rfl, (by decide : 1 + 0 ≤ _), (by decide : 1 + 0 ≤ _)⟩)
  dsimp only [Pt.U, Pt.locs, Pt.cells, Pt.slots] at X10 l10 y10 z10 st10 hQ10
  subst l10 y10 z10
  obtain ⟨rfl, N10q, Kc10, f11, f12⟩ := hQ10
  have N10 := Fr.app N4 N10q
  refine own_tr st10 ?_
  have f13 : Exa Z T10.heap b1 "branchwork/SplitMix64" := f5.keep Kc10
  have K15 : Keep h0 T10.heap [] := K9.trans Kc10 (fun x hx => by cases List.mem_singleton.mp hx; exact Or.inr sz_b1)
  show own_WP _ _ _ _ T10 (mkF m 13 #[.val (.long zs), .second, .val (.ref b1), .unset, .unset, .unset, .unset, .unset, .unset, .unset, .unset, .unset, .unset, .unset, .unset] [(.long (own_mix (zs + (-7046029254386353131 : Int64))))])
  refine own_go (fun t k => XS.lstoreN X10.here hx rfl (hb hby at_13) rfl (l' := #[.val (.long zs), .second, .val (.ref b1), .val (.long (own_mix (zs + (-7046029254386353131 : Int64)))), .second, .unset, .unset, .unset, .unset, .unset, .unset, .unset, .unset, .unset, .unset]) rfl k) ?_
  show own_WP _ _ _ _ T10 (mkF m 14 #[.val (.long zs), .second, .val (.ref b1), .val (.long (own_mix (zs + (-7046029254386353131 : Int64)))), .second, .unset, .unset, .unset, .unset, .unset, .unset, .unset, .unset, .unset, .unset] [])
  refine own_go (fun t k => XS.aloadN X10.here hx rfl (hb hby at_14) rfl rfl  k) ?_
  show own_WP _ _ _ _ T10 (mkF m 15 #[.val (.long zs), .second, .val (.ref b1), .val (.long (own_mix (zs + (-7046029254386353131 : Int64)))), .second, .unset, .unset, .unset, .unset, .unset, .unset, .unset, .unset, .unset, .unset] [(.ref b1)])
  obtain ⟨cq16, kq16, q16a, q16b, q16c⟩ := isOf hZ rfl f11
  obtain ⟨_, _, ⟨T16, L16, k16, n16⟩, -, X16, ⟨Lc16, hQ16, l16, y16, z16⟩, st16⟩ := X10.virtualBack hx (y := (⟨"branchwork/SplitMix64", "next", "()J"⟩ : MethodName)) (z := (⟨"branchwork/SplitMix64", "next", "()J"⟩ : MethodName)) hown (mvT hZ (hw _ (List.mem_of_getElem? (i := 11) rfl))) (mvT hZ (hw _ (List.mem_of_getElem? (i := 12) rfl))) (notFace_of_selects (args := #[]) (mvT hZ (hw _ (List.mem_of_getElem? (i := 14) rfl)))) (mvT hZ (hw _ (List.mem_of_getElem? (i := 14) rfl))) (mvT hZ (hw _ (List.mem_of_getElem? (i := 13) rfl))) (by decide) (backOf (W := 0) (rm3 l Z a0 hw [] b1 (zs + (-7046029254386353131 : Int64)) T10.heap n0 (own_le Z0 K15) f11 f12 g_b1) hZ (hw _ (List.mem_of_getElem? (i := 15) rfl)) (hw _ (List.mem_of_getElem? (i := 2) rfl)) (by decide) (by decide)) q16a q16c (g := (mkF m 15 #[.val (.long zs), .second, .val (.ref b1), .val (.long (own_mix (zs + (-7046029254386353131 : Int64)))), .second, .unset, .unset, .unset, .unset, .unset, .unset, .unset, .unset, .unset, .unset] [(.ref b1)])) rfl (by rw [hml]; rfl) (Steps.refl _) (argsL := []) (rest := []) (lenOf own_pd91885 rfl) rfl (by show 2 * 0 + _ ≤ _; exact Nat.le_of_eq rfl) (hb hby at_15) (fun _ _ => ⟨rfl, rfl, (by decide : 1 + 0 ≤ _), (by decide : 1 + 0 ≤ _)⟩)
  dsimp only [Pt.U, Pt.locs, Pt.cells, Pt.slots] at X16 l16 y16 z16 st16 hQ16
  subst l16 y16 z16
  obtain ⟨rfl, N16q, Kc16, f17, f18⟩ := hQ16
  have N16 := Fr.app N10 N16q
  refine own_tr st16 ?_
  have f19 : Exa Z T16.heap b1 "branchwork/SplitMix64" := f11.keep Kc16
  have K21 : Keep h0 T16.heap [] := K15.trans Kc16 (fun x hx => by cases List.mem_singleton.mp hx; exact Or.inr sz_b1)
  show own_WP _ _ _ _ T16 (mkF m 18 #[.val (.long zs), .second, .val (.ref b1), .val (.long (own_mix (zs + (-7046029254386353131 : Int64)))), .second, .unset, .unset, .unset, .unset, .unset, .unset, .unset, .unset, .unset, .unset] [(.long (own_mix ((zs + (-7046029254386353131 : Int64)) + (-7046029254386353131 : Int64))))])
  refine own_go (fun t k => XS.lstore X16.here hx rfl (hb hby at_18) rfl (l' := #[.val (.long zs), .second, .val (.ref b1), .val (.long (own_mix (zs + (-7046029254386353131 : Int64)))), .second, .val (.long (own_mix ((zs + (-7046029254386353131 : Int64)) + (-7046029254386353131 : Int64)))), .second, .unset, .unset, .unset, .unset, .unset, .unset, .unset, .unset]) rfl k) ?_
  show own_WP _ _ _ _ T16 (mkF m 20 #[.val (.long zs), .second, .val (.ref b1), .val (.long (own_mix (zs + (-7046029254386353131 : Int64)))), .second, .val (.long (own_mix ((zs + (-7046029254386353131 : Int64)) + (-7046029254386353131 : Int64)))), .second, .unset, .unset, .unset, .unset, .unset, .unset, .unset, .unset] [])
  refine own_go (fun t k => XS.aloadN X16.here hx rfl (hb hby at_20) rfl rfl  k) ?_
  show own_WP _ _ _ _ T16 (mkF m 21 #[.val (.long zs), .second, .val (.ref b1), .val (.long (own_mix (zs + (-7046029254386353131 : Int64)))), .second, .val (.long (own_mix ((zs + (-7046029254386353131 : Int64)) + (-7046029254386353131 : Int64)))), .second, .unset, .unset, .unset, .unset, .unset, .unset, .unset, .unset] [(.ref b1)])
  obtain ⟨cq22, kq22, q22a, q22b, q22c⟩ := isOf hZ rfl f17
  obtain ⟨_, _, ⟨T22, L22, k22, n22⟩, -, X22, ⟨Lc22, hQ22, l22, y22, z22⟩, st22⟩ := X16.virtualBack hx (y := (⟨"branchwork/SplitMix64", "next", "()J"⟩ : MethodName)) (z := (⟨"branchwork/SplitMix64", "next", "()J"⟩ : MethodName)) hown (mvT hZ (hw _ (List.mem_of_getElem? (i := 11) rfl))) (mvT hZ (hw _ (List.mem_of_getElem? (i := 12) rfl))) (notFace_of_selects (args := #[]) (mvT hZ (hw _ (List.mem_of_getElem? (i := 14) rfl)))) (mvT hZ (hw _ (List.mem_of_getElem? (i := 14) rfl))) (mvT hZ (hw _ (List.mem_of_getElem? (i := 13) rfl))) (by decide) (backOf (W := 0) (rm3 l Z a0 hw [] b1 ((zs + (-7046029254386353131 : Int64)) + (-7046029254386353131 : Int64)) T16.heap n0 (own_le Z0 K21) f17 f18 g_b1) hZ (hw _ (List.mem_of_getElem? (i := 15) rfl)) (hw _ (List.mem_of_getElem? (i := 2) rfl)) (by decide) (by decide)) q22a q22c (g := (mkF m 21 #[.val (.long zs), .second, .val (.ref b1), .val (.long (own_mix (zs + (-7046029254386353131 : Int64)))), .second, .val (.long (own_mix ((zs + (-7046029254386353131 : Int64)) + (-7046029254386353131 : Int64)))), .second, .unset, .unset, .unset, .unset, .unset, .unset, .unset, .unset] [(.ref b1)])) rfl (by rw [hml]; rfl) (Steps.refl _) (argsL := []) (rest := []) (lenOf own_pd91885 rfl) rfl (by show 2 * 0 + _ ≤ _; exact Nat.le_of_eq rfl) (hb hby at_21) (fun _ _ => ⟨rfl, rfl, (by decide : 1 + 0 ≤ _), (by decide : 1 + 0 ≤ _)⟩)
  dsimp only [Pt.U, Pt.locs, Pt.cells, Pt.slots] at X22 l22 y22 z22 st22 hQ22
  subst l22 y22 z22
  obtain ⟨rfl, N22q, Kc22, f23, f24⟩ := hQ22
  have N22 := Fr.app N16 N22q
  refine own_tr st22 ?_
  have f25 : Exa Z T22.heap b1 "branchwork/SplitMix64" := f17.keep Kc22
  have K27 : Keep h0 T22.heap [] := K21.trans Kc22 (fun x hx => by cases List.mem_singleton.mp hx; exact Or.inr sz_b1)
  show own_WP _ _ _ _ T22 (mkF m 24 #[.val (.long zs), .second, .val (.ref b1), .val (.long (own_mix (zs + (-7046029254386353131 : Int64)))), .second, .val (.long (own_mix ((zs + (-7046029254386353131 : Int64)) + (-7046029254386353131 : Int64)))), .second, .unset, .unset, .unset, .unset, .unset, .unset, .unset, .unset] [(.long (own_mix (((zs + (-7046029254386353131 : Int64)) + (-7046029254386353131 : Int64)) + (-7046029254386353131 : Int64))))])
  refine own_go (fun t k => XS.lstore X22.here hx rfl (hb hby at_24) rfl (l' := #[.val (.long zs), .second, .val (.ref b1), .val (.long (own_mix (zs + (-7046029254386353131 : Int64)))), .second, .val (.long (own_mix ((zs + (-7046029254386353131 : Int64)) + (-7046029254386353131 : Int64)))), .second, .val (.long (own_mix (((zs + (-7046029254386353131 : Int64)) + (-7046029254386353131 : Int64)) + (-7046029254386353131 : Int64)))), .second, .unset, .unset, .unset, .unset, .unset, .unset]) rfl k) ?_
  show own_WP _ _ _ _ T22 (mkF m 26 #[.val (.long zs), .second, .val (.ref b1), .val (.long (own_mix (zs + (-7046029254386353131 : Int64)))), .second, .val (.long (own_mix ((zs + (-7046029254386353131 : Int64)) + (-7046029254386353131 : Int64)))), .second, .val (.long (own_mix (((zs + (-7046029254386353131 : Int64)) + (-7046029254386353131 : Int64)) + (-7046029254386353131 : Int64)))), .second, .unset, .unset, .unset, .unset, .unset, .unset] [])
  refine own_go (fun t k => XS.lloadN X22.here hx rfl (hb hby at_26) rfl  k) ?_
  show own_WP _ _ _ _ T22 (mkF m 27 #[.val (.long zs), .second, .val (.ref b1), .val (.long (own_mix (zs + (-7046029254386353131 : Int64)))), .second, .val (.long (own_mix ((zs + (-7046029254386353131 : Int64)) + (-7046029254386353131 : Int64)))), .second, .val (.long (own_mix (((zs + (-7046029254386353131 : Int64)) + (-7046029254386353131 : Int64)) + (-7046029254386353131 : Int64)))), .second, .unset, .unset, .unset, .unset, .unset, .unset] [(.long zs)])
  refine own_go (fun t k => X22.ldc2Long hx hown (mvT hZ (hw _ (List.mem_of_getElem? (i := 19) rfl))) (g := (mkF m 27 #[.val (.long zs), .second, .val (.ref b1), .val (.long (own_mix (zs + (-7046029254386353131 : Int64)))), .second, .val (.long (own_mix ((zs + (-7046029254386353131 : Int64)) + (-7046029254386353131 : Int64)))), .second, .val (.long (own_mix (((zs + (-7046029254386353131 : Int64)) + (-7046029254386353131 : Int64)) + (-7046029254386353131 : Int64)))), .second, .unset, .unset, .unset, .unset, .unset, .unset] [(.long zs)])) rfl (hb hby at_27) t k) ?_
  show own_WP _ _ _ _ T22 (mkF m 30 #[.val (.long zs), .second, .val (.ref b1), .val (.long (own_mix (zs + (-7046029254386353131 : Int64)))), .second, .val (.long (own_mix ((zs + (-7046029254386353131 : Int64)) + (-7046029254386353131 : Int64)))), .second, .val (.long (own_mix (((zs + (-7046029254386353131 : Int64)) + (-7046029254386353131 : Int64)) + (-7046029254386353131 : Int64)))), .second, .unset, .unset, .unset, .unset, .unset, .unset] [(.long (-7046029254386353131 : Int64)), (.long zs)])
  refine own_go (fun t k => XS.ladd X22.here hx rfl (hb hby at_30) rfl k) ?_
  show own_WP _ _ _ _ T22 (mkF m 31 #[.val (.long zs), .second, .val (.ref b1), .val (.long (own_mix (zs + (-7046029254386353131 : Int64)))), .second, .val (.long (own_mix ((zs + (-7046029254386353131 : Int64)) + (-7046029254386353131 : Int64)))), .second, .val (.long (own_mix (((zs + (-7046029254386353131 : Int64)) + (-7046029254386353131 : Int64)) + (-7046029254386353131 : Int64)))), .second, .unset, .unset, .unset, .unset, .unset, .unset] [(.long (zs + (-7046029254386353131 : Int64)))])
  refine own_go (fun t k => XS.lstore X22.here hx rfl (hb hby at_31) rfl (l' := #[.val (.long zs), .second, .val (.ref b1), .val (.long (own_mix (zs + (-7046029254386353131 : Int64)))), .second, .val (.long (own_mix ((zs + (-7046029254386353131 : Int64)) + (-7046029254386353131 : Int64)))), .second, .val (.long (own_mix (((zs + (-7046029254386353131 : Int64)) + (-7046029254386353131 : Int64)) + (-7046029254386353131 : Int64)))), .second, .val (.long (zs + (-7046029254386353131 : Int64))), .second, .unset, .unset, .unset, .unset]) rfl k) ?_
  show own_WP _ _ _ _ T22 (mkF m 33 #[.val (.long zs), .second, .val (.ref b1), .val (.long (own_mix (zs + (-7046029254386353131 : Int64)))), .second, .val (.long (own_mix ((zs + (-7046029254386353131 : Int64)) + (-7046029254386353131 : Int64)))), .second, .val (.long (own_mix (((zs + (-7046029254386353131 : Int64)) + (-7046029254386353131 : Int64)) + (-7046029254386353131 : Int64)))), .second, .val (.long (zs + (-7046029254386353131 : Int64))), .second, .unset, .unset, .unset, .unset] [])
  refine own_go (fun t k => XS.lload X22.here hx rfl (hb hby at_33) rfl  k) ?_
  show own_WP _ _ _ _ T22 (mkF m 35 #[.val (.long zs), .second, .val (.ref b1), .val (.long (own_mix (zs + (-7046029254386353131 : Int64)))), .second, .val (.long (own_mix ((zs + (-7046029254386353131 : Int64)) + (-7046029254386353131 : Int64)))), .second, .val (.long (own_mix (((zs + (-7046029254386353131 : Int64)) + (-7046029254386353131 : Int64)) + (-7046029254386353131 : Int64)))), .second, .val (.long (zs + (-7046029254386353131 : Int64))), .second, .unset, .unset, .unset, .unset] [(.long (zs + (-7046029254386353131 : Int64)))])
  refine own_go (fun t k => X22.ldc2Long hx hown (mvT hZ (hw _ (List.mem_of_getElem? (i := 19) rfl))) (g := (mkF m 35 #[.val (.long zs), .second, .val (.ref b1), .val (.long (own_mix (zs + (-7046029254386353131 : Int64)))), .second, .val (.long (own_mix ((zs + (-7046029254386353131 : Int64)) + (-7046029254386353131 : Int64)))), .second, .val (.long (own_mix (((zs + (-7046029254386353131 : Int64)) + (-7046029254386353131 : Int64)) + (-7046029254386353131 : Int64)))), .second, .val (.long (zs + (-7046029254386353131 : Int64))), .second, .unset, .unset, .unset, .unset] [(.long (zs + (-7046029254386353131 : Int64)))])) rfl (hb hby at_35) t k) ?_
  show own_WP _ _ _ _ T22 (mkF m 38 #[.val (.long zs), .second, .val (.ref b1), .val (.long (own_mix (zs + (-7046029254386353131 : Int64)))), .second, .val (.long (own_mix ((zs + (-7046029254386353131 : Int64)) + (-7046029254386353131 : Int64)))), .second, .val (.long (own_mix (((zs + (-7046029254386353131 : Int64)) + (-7046029254386353131 : Int64)) + (-7046029254386353131 : Int64)))), .second, .val (.long (zs + (-7046029254386353131 : Int64))), .second, .unset, .unset, .unset, .unset] [(.long (-7046029254386353131 : Int64)), (.long (zs + (-7046029254386353131 : Int64)))])
  refine own_go (fun t k => XS.ladd X22.here hx rfl (hb hby at_38) rfl k) ?_
  show own_WP _ _ _ _ T22 (mkF m 39 #[.val (.long zs), .second, .val (.ref b1), .val (.long (own_mix (zs + (-7046029254386353131 : Int64)))), .second, .val (.long (own_mix ((zs + (-7046029254386353131 : Int64)) + (-7046029254386353131 : Int64)))), .second, .val (.long (own_mix (((zs + (-7046029254386353131 : Int64)) + (-7046029254386353131 : Int64)) + (-7046029254386353131 : Int64)))), .second, .val (.long (zs + (-7046029254386353131 : Int64))), .second, .unset, .unset, .unset, .unset] [(.long ((zs + (-7046029254386353131 : Int64)) + (-7046029254386353131 : Int64)))])
  refine own_go (fun t k => XS.lstore X22.here hx rfl (hb hby at_39) rfl (l' := #[.val (.long zs), .second, .val (.ref b1), .val (.long (own_mix (zs + (-7046029254386353131 : Int64)))), .second, .val (.long (own_mix ((zs + (-7046029254386353131 : Int64)) + (-7046029254386353131 : Int64)))), .second, .val (.long (own_mix (((zs + (-7046029254386353131 : Int64)) + (-7046029254386353131 : Int64)) + (-7046029254386353131 : Int64)))), .second, .val (.long (zs + (-7046029254386353131 : Int64))), .second, .val (.long ((zs + (-7046029254386353131 : Int64)) + (-7046029254386353131 : Int64))), .second, .unset, .unset]) rfl k) ?_
  show own_WP _ _ _ _ T22 (mkF m 41 #[.val (.long zs), .second, .val (.ref b1), .val (.long (own_mix (zs + (-7046029254386353131 : Int64)))), .second, .val (.long (own_mix ((zs + (-7046029254386353131 : Int64)) + (-7046029254386353131 : Int64)))), .second, .val (.long (own_mix (((zs + (-7046029254386353131 : Int64)) + (-7046029254386353131 : Int64)) + (-7046029254386353131 : Int64)))), .second, .val (.long (zs + (-7046029254386353131 : Int64))), .second, .val (.long ((zs + (-7046029254386353131 : Int64)) + (-7046029254386353131 : Int64))), .second, .unset, .unset] [])
  refine own_go (fun t k => XS.lload X22.here hx rfl (hb hby at_41) rfl  k) ?_
  show own_WP _ _ _ _ T22 (mkF m 43 #[.val (.long zs), .second, .val (.ref b1), .val (.long (own_mix (zs + (-7046029254386353131 : Int64)))), .second, .val (.long (own_mix ((zs + (-7046029254386353131 : Int64)) + (-7046029254386353131 : Int64)))), .second, .val (.long (own_mix (((zs + (-7046029254386353131 : Int64)) + (-7046029254386353131 : Int64)) + (-7046029254386353131 : Int64)))), .second, .val (.long (zs + (-7046029254386353131 : Int64))), .second, .val (.long ((zs + (-7046029254386353131 : Int64)) + (-7046029254386353131 : Int64))), .second, .unset, .unset] [(.long ((zs + (-7046029254386353131 : Int64)) + (-7046029254386353131 : Int64)))])
  refine own_go (fun t k => X22.ldc2Long hx hown (mvT hZ (hw _ (List.mem_of_getElem? (i := 19) rfl))) (g := (mkF m 43 #[.val (.long zs), .second, .val (.ref b1), .val (.long (own_mix (zs + (-7046029254386353131 : Int64)))), .second, .val (.long (own_mix ((zs + (-7046029254386353131 : Int64)) + (-7046029254386353131 : Int64)))), .second, .val (.long (own_mix (((zs + (-7046029254386353131 : Int64)) + (-7046029254386353131 : Int64)) + (-7046029254386353131 : Int64)))), .second, .val (.long (zs + (-7046029254386353131 : Int64))), .second, .val (.long ((zs + (-7046029254386353131 : Int64)) + (-7046029254386353131 : Int64))), .second, .unset, .unset] [(.long ((zs + (-7046029254386353131 : Int64)) + (-7046029254386353131 : Int64)))])) rfl (hb hby at_43) t k) ?_
  show own_WP _ _ _ _ T22 (mkF m 46 #[.val (.long zs), .second, .val (.ref b1), .val (.long (own_mix (zs + (-7046029254386353131 : Int64)))), .second, .val (.long (own_mix ((zs + (-7046029254386353131 : Int64)) + (-7046029254386353131 : Int64)))), .second, .val (.long (own_mix (((zs + (-7046029254386353131 : Int64)) + (-7046029254386353131 : Int64)) + (-7046029254386353131 : Int64)))), .second, .val (.long (zs + (-7046029254386353131 : Int64))), .second, .val (.long ((zs + (-7046029254386353131 : Int64)) + (-7046029254386353131 : Int64))), .second, .unset, .unset] [(.long (-7046029254386353131 : Int64)), (.long ((zs + (-7046029254386353131 : Int64)) + (-7046029254386353131 : Int64)))])
  refine own_go (fun t k => XS.ladd X22.here hx rfl (hb hby at_46) rfl k) ?_
  show own_WP _ _ _ _ T22 (mkF m 47 #[.val (.long zs), .second, .val (.ref b1), .val (.long (own_mix (zs + (-7046029254386353131 : Int64)))), .second, .val (.long (own_mix ((zs + (-7046029254386353131 : Int64)) + (-7046029254386353131 : Int64)))), .second, .val (.long (own_mix (((zs + (-7046029254386353131 : Int64)) + (-7046029254386353131 : Int64)) + (-7046029254386353131 : Int64)))), .second, .val (.long (zs + (-7046029254386353131 : Int64))), .second, .val (.long ((zs + (-7046029254386353131 : Int64)) + (-7046029254386353131 : Int64))), .second, .unset, .unset] [(.long (((zs + (-7046029254386353131 : Int64)) + (-7046029254386353131 : Int64)) + (-7046029254386353131 : Int64)))])
  refine own_go (fun t k => XS.lstore X22.here hx rfl (hb hby at_47) rfl (l' := #[.val (.long zs), .second, .val (.ref b1), .val (.long (own_mix (zs + (-7046029254386353131 : Int64)))), .second, .val (.long (own_mix ((zs + (-7046029254386353131 : Int64)) + (-7046029254386353131 : Int64)))), .second, .val (.long (own_mix (((zs + (-7046029254386353131 : Int64)) + (-7046029254386353131 : Int64)) + (-7046029254386353131 : Int64)))), .second, .val (.long (zs + (-7046029254386353131 : Int64))), .second, .val (.long ((zs + (-7046029254386353131 : Int64)) + (-7046029254386353131 : Int64))), .second, .val (.long (((zs + (-7046029254386353131 : Int64)) + (-7046029254386353131 : Int64)) + (-7046029254386353131 : Int64))), .second]) rfl k) ?_
  show own_WP _ _ _ _ T22 (mkF m 49 #[.val (.long zs), .second, .val (.ref b1), .val (.long (own_mix (zs + (-7046029254386353131 : Int64)))), .second, .val (.long (own_mix ((zs + (-7046029254386353131 : Int64)) + (-7046029254386353131 : Int64)))), .second, .val (.long (own_mix (((zs + (-7046029254386353131 : Int64)) + (-7046029254386353131 : Int64)) + (-7046029254386353131 : Int64)))), .second, .val (.long (zs + (-7046029254386353131 : Int64))), .second, .val (.long ((zs + (-7046029254386353131 : Int64)) + (-7046029254386353131 : Int64))), .second, .val (.long (((zs + (-7046029254386353131 : Int64)) + (-7046029254386353131 : Int64)) + (-7046029254386353131 : Int64))), .second] [])
  refine own_go (fun t k => XS.lloadN X22.here hx rfl (hb hby at_49) rfl  k) ?_
  show own_WP _ _ _ _ T22 (mkF m 50 #[.val (.long zs), .second, .val (.ref b1), .val (.long (own_mix (zs + (-7046029254386353131 : Int64)))), .second, .val (.long (own_mix ((zs + (-7046029254386353131 : Int64)) + (-7046029254386353131 : Int64)))), .second, .val (.long (own_mix (((zs + (-7046029254386353131 : Int64)) + (-7046029254386353131 : Int64)) + (-7046029254386353131 : Int64)))), .second, .val (.long (zs + (-7046029254386353131 : Int64))), .second, .val (.long ((zs + (-7046029254386353131 : Int64)) + (-7046029254386353131 : Int64))), .second, .val (.long (((zs + (-7046029254386353131 : Int64)) + (-7046029254386353131 : Int64)) + (-7046029254386353131 : Int64))), .second] [(.long (own_mix (zs + (-7046029254386353131 : Int64))))])
  obtain ⟨_, _, ⟨T28, L28, k28, n28⟩, -, X28, ⟨Lc28, hQ28, l28, y28, z28⟩, st28⟩ := Jvm.LawKit.callS X22 hx (y := (⟨"branchwork/SplitMix64NextPinLaw", "unmix", "(J)J"⟩ : MethodName)) hown (mvT hZ (hw _ (List.mem_of_getElem? (i := 20) rfl))) (mvT hZ (hw _ (List.mem_of_getElem? (i := 21) rfl))) (mvT hZ (hw _ (List.mem_of_getElem? (i := 22) rfl))) (mvT hZ (hw _ (List.mem_of_getElem? (i := 23) rfl))) (by decide) (backOf (W := 0) (rm4 l Z a0 hw [] (own_mix (zs + (-7046029254386353131 : Int64)))  T22.heap n0 (own_le Z0 K27) ) hZ (hw _ (List.mem_of_getElem? (i := 23) rfl)) (hw _ (List.mem_of_getElem? (i := 22) rfl)) (by decide) (by decide)) (g := (mkF m 50 #[.val (.long zs), .second, .val (.ref b1), .val (.long (own_mix (zs + (-7046029254386353131 : Int64)))), .second, .val (.long (own_mix ((zs + (-7046029254386353131 : Int64)) + (-7046029254386353131 : Int64)))), .second, .val (.long (own_mix (((zs + (-7046029254386353131 : Int64)) + (-7046029254386353131 : Int64)) + (-7046029254386353131 : Int64)))), .second, .val (.long (zs + (-7046029254386353131 : Int64))), .second, .val (.long ((zs + (-7046029254386353131 : Int64)) + (-7046029254386353131 : Int64))), .second, .val (.long (((zs + (-7046029254386353131 : Int64)) + (-7046029254386353131 : Int64)) + (-7046029254386353131 : Int64))), .second] [(.long (own_mix (zs + (-7046029254386353131 : Int64))))])) rfl (by rw [hml]; rfl) (argsL := [(.long (own_mix (zs + (-7046029254386353131 : Int64))))]) (rest := []) (lenOf own_pd98999 rfl) rfl (by show 2 * 0 + _ ≤ _; exact Nat.le_of_eq rfl) (hb hby at_50) (fun _ _ => ⟨rfl, rfl, (by decide : 1 + 0 ≤ _), (by decide : 1 + 0 ≤ _)⟩)
  dsimp only [Pt.U, Pt.locs, Pt.cells, Pt.slots] at X28 l28 y28 z28 st28 hQ28
  subst l28 y28 z28
  obtain ⟨rfl, N28q, eq28⟩ := hQ28
  have N28 := Fr.app N22 N28q
  refine own_go st28 ?_
  show own_WP _ _ _ _ T28 (mkF m 53 #[.val (.long zs), .second, .val (.ref b1), .val (.long (own_mix (zs + (-7046029254386353131 : Int64)))), .second, .val (.long (own_mix ((zs + (-7046029254386353131 : Int64)) + (-7046029254386353131 : Int64)))), .second, .val (.long (own_mix (((zs + (-7046029254386353131 : Int64)) + (-7046029254386353131 : Int64)) + (-7046029254386353131 : Int64)))), .second, .val (.long (zs + (-7046029254386353131 : Int64))), .second, .val (.long ((zs + (-7046029254386353131 : Int64)) + (-7046029254386353131 : Int64))), .second, .val (.long (((zs + (-7046029254386353131 : Int64)) + (-7046029254386353131 : Int64)) + (-7046029254386353131 : Int64))), .second] [(.long (own_unmix (own_mix (zs + (-7046029254386353131 : Int64)))))])
  refine own_go (fun t k => XS.lload X28.here hx rfl (hb hby at_53) rfl  k) ?_
  show own_WP _ _ _ _ T28 (mkF m 55 #[.val (.long zs), .second, .val (.ref b1), .val (.long (own_mix (zs + (-7046029254386353131 : Int64)))), .second, .val (.long (own_mix ((zs + (-7046029254386353131 : Int64)) + (-7046029254386353131 : Int64)))), .second, .val (.long (own_mix (((zs + (-7046029254386353131 : Int64)) + (-7046029254386353131 : Int64)) + (-7046029254386353131 : Int64)))), .second, .val (.long (zs + (-7046029254386353131 : Int64))), .second, .val (.long ((zs + (-7046029254386353131 : Int64)) + (-7046029254386353131 : Int64))), .second, .val (.long (((zs + (-7046029254386353131 : Int64)) + (-7046029254386353131 : Int64)) + (-7046029254386353131 : Int64))), .second] [(.long (zs + (-7046029254386353131 : Int64))), (.long (own_unmix (own_mix (zs + (-7046029254386353131 : Int64)))))])
  refine own_go (fun t k => XS.lcmp X28.here hx rfl (hb hby at_55) rfl k) ?_
  show own_WP _ _ _ _ T28 (mkF m 56 #[.val (.long zs), .second, .val (.ref b1), .val (.long (own_mix (zs + (-7046029254386353131 : Int64)))), .second, .val (.long (own_mix ((zs + (-7046029254386353131 : Int64)) + (-7046029254386353131 : Int64)))), .second, .val (.long (own_mix (((zs + (-7046029254386353131 : Int64)) + (-7046029254386353131 : Int64)) + (-7046029254386353131 : Int64)))), .second, .val (.long (zs + (-7046029254386353131 : Int64))), .second, .val (.long ((zs + (-7046029254386353131 : Int64)) + (-7046029254386353131 : Int64))), .second, .val (.long (((zs + (-7046029254386353131 : Int64)) + (-7046029254386353131 : Int64)) + (-7046029254386353131 : Int64))), .second] [(.int (lcmpW (own_unmix (own_mix (zs + (-7046029254386353131 : Int64)))) (zs + (-7046029254386353131 : Int64))))])
  have hc56 : (own_unmix (own_mix (zs + (-7046029254386353131 : Int64)))) = (zs + (-7046029254386353131 : Int64)) := by
    exact own_back6 _
  refine own_go (fun t k => XS.ifNo X28.here hx rfl (hb hby at_56) rfl ((if0 _ _).trans (teq ((lw_eq (own_unmix (own_mix (zs + (-7046029254386353131 : Int64)))) (zs + (-7046029254386353131 : Int64))).mpr hc56)).2) k) ?_
  show own_WP _ _ _ _ T28 (mkF m 59 #[.val (.long zs), .second, .val (.ref b1), .val (.long (own_mix (zs + (-7046029254386353131 : Int64)))), .second, .val (.long (own_mix ((zs + (-7046029254386353131 : Int64)) + (-7046029254386353131 : Int64)))), .second, .val (.long (own_mix (((zs + (-7046029254386353131 : Int64)) + (-7046029254386353131 : Int64)) + (-7046029254386353131 : Int64)))), .second, .val (.long (zs + (-7046029254386353131 : Int64))), .second, .val (.long ((zs + (-7046029254386353131 : Int64)) + (-7046029254386353131 : Int64))), .second, .val (.long (((zs + (-7046029254386353131 : Int64)) + (-7046029254386353131 : Int64)) + (-7046029254386353131 : Int64))), .second] [])
  refine own_go (fun t k => XS.lload X28.here hx rfl (hb hby at_59) rfl  k) ?_
  show own_WP _ _ _ _ T28 (mkF m 61 #[.val (.long zs), .second, .val (.ref b1), .val (.long (own_mix (zs + (-7046029254386353131 : Int64)))), .second, .val (.long (own_mix ((zs + (-7046029254386353131 : Int64)) + (-7046029254386353131 : Int64)))), .second, .val (.long (own_mix (((zs + (-7046029254386353131 : Int64)) + (-7046029254386353131 : Int64)) + (-7046029254386353131 : Int64)))), .second, .val (.long (zs + (-7046029254386353131 : Int64))), .second, .val (.long ((zs + (-7046029254386353131 : Int64)) + (-7046029254386353131 : Int64))), .second, .val (.long (((zs + (-7046029254386353131 : Int64)) + (-7046029254386353131 : Int64)) + (-7046029254386353131 : Int64))), .second] [(.long (own_mix ((zs + (-7046029254386353131 : Int64)) + (-7046029254386353131 : Int64))))])
  obtain ⟨_, _, ⟨T29, L29, k29, n29⟩, -, X29, ⟨Lc29, hQ29, l29, y29, z29⟩, st29⟩ := Jvm.LawKit.callS X28 hx (y := (⟨"branchwork/SplitMix64NextPinLaw", "unmix", "(J)J"⟩ : MethodName)) hown (mvT hZ (hw _ (List.mem_of_getElem? (i := 20) rfl))) (mvT hZ (hw _ (List.mem_of_getElem? (i := 21) rfl))) (mvT hZ (hw _ (List.mem_of_getElem? (i := 22) rfl))) (mvT hZ (hw _ (List.mem_of_getElem? (i := 23) rfl))) (by decide) (backOf (W := 0) (rm4 l Z a0 hw [] (own_mix ((zs + (-7046029254386353131 : Int64)) + (-7046029254386353131 : Int64)))  T22.heap n0 (own_le Z0 K27) ) hZ (hw _ (List.mem_of_getElem? (i := 23) rfl)) (hw _ (List.mem_of_getElem? (i := 22) rfl)) (by decide) (by decide)) (g := (mkF m 61 #[.val (.long zs), .second, .val (.ref b1), .val (.long (own_mix (zs + (-7046029254386353131 : Int64)))), .second, .val (.long (own_mix ((zs + (-7046029254386353131 : Int64)) + (-7046029254386353131 : Int64)))), .second, .val (.long (own_mix (((zs + (-7046029254386353131 : Int64)) + (-7046029254386353131 : Int64)) + (-7046029254386353131 : Int64)))), .second, .val (.long (zs + (-7046029254386353131 : Int64))), .second, .val (.long ((zs + (-7046029254386353131 : Int64)) + (-7046029254386353131 : Int64))), .second, .val (.long (((zs + (-7046029254386353131 : Int64)) + (-7046029254386353131 : Int64)) + (-7046029254386353131 : Int64))), .second] [(.long (own_mix ((zs + (-7046029254386353131 : Int64)) + (-7046029254386353131 : Int64))))])) rfl (by rw [hml]; rfl) (argsL := [(.long (own_mix ((zs + (-7046029254386353131 : Int64)) + (-7046029254386353131 : Int64))))]) (rest := []) (lenOf own_pd98999 rfl) rfl (by show 2 * 0 + _ ≤ _; exact Nat.le_of_eq rfl) (hb hby at_61) (fun _ _ => ⟨rfl, eq28, (by decide : 1 + 0 ≤ _), (by decide : 1 + 0 ≤ _)⟩)
  dsimp only [Pt.U, Pt.locs, Pt.cells, Pt.slots] at X29 l29 y29 z29 st29 hQ29
  subst l29 y29 z29
  obtain ⟨rfl, N29q, eq29⟩ := hQ29
  have N29 := Fr.app N28 N29q
  refine own_go st29 ?_
  show own_WP _ _ _ _ T29 (mkF m 64 #[.val (.long zs), .second, .val (.ref b1), .val (.long (own_mix (zs + (-7046029254386353131 : Int64)))), .second, .val (.long (own_mix ((zs + (-7046029254386353131 : Int64)) + (-7046029254386353131 : Int64)))), .second, .val (.long (own_mix (((zs + (-7046029254386353131 : Int64)) + (-7046029254386353131 : Int64)) + (-7046029254386353131 : Int64)))), .second, .val (.long (zs + (-7046029254386353131 : Int64))), .second, .val (.long ((zs + (-7046029254386353131 : Int64)) + (-7046029254386353131 : Int64))), .second, .val (.long (((zs + (-7046029254386353131 : Int64)) + (-7046029254386353131 : Int64)) + (-7046029254386353131 : Int64))), .second] [(.long (own_unmix (own_mix ((zs + (-7046029254386353131 : Int64)) + (-7046029254386353131 : Int64)))))])
  refine own_go (fun t k => XS.lload X29.here hx rfl (hb hby at_64) rfl  k) ?_
  show own_WP _ _ _ _ T29 (mkF m 66 #[.val (.long zs), .second, .val (.ref b1), .val (.long (own_mix (zs + (-7046029254386353131 : Int64)))), .second, .val (.long (own_mix ((zs + (-7046029254386353131 : Int64)) + (-7046029254386353131 : Int64)))), .second, .val (.long (own_mix (((zs + (-7046029254386353131 : Int64)) + (-7046029254386353131 : Int64)) + (-7046029254386353131 : Int64)))), .second, .val (.long (zs + (-7046029254386353131 : Int64))), .second, .val (.long ((zs + (-7046029254386353131 : Int64)) + (-7046029254386353131 : Int64))), .second, .val (.long (((zs + (-7046029254386353131 : Int64)) + (-7046029254386353131 : Int64)) + (-7046029254386353131 : Int64))), .second] [(.long ((zs + (-7046029254386353131 : Int64)) + (-7046029254386353131 : Int64))), (.long (own_unmix (own_mix ((zs + (-7046029254386353131 : Int64)) + (-7046029254386353131 : Int64)))))])
  refine own_go (fun t k => XS.lcmp X29.here hx rfl (hb hby at_66) rfl k) ?_
  show own_WP _ _ _ _ T29 (mkF m 67 #[.val (.long zs), .second, .val (.ref b1), .val (.long (own_mix (zs + (-7046029254386353131 : Int64)))), .second, .val (.long (own_mix ((zs + (-7046029254386353131 : Int64)) + (-7046029254386353131 : Int64)))), .second, .val (.long (own_mix (((zs + (-7046029254386353131 : Int64)) + (-7046029254386353131 : Int64)) + (-7046029254386353131 : Int64)))), .second, .val (.long (zs + (-7046029254386353131 : Int64))), .second, .val (.long ((zs + (-7046029254386353131 : Int64)) + (-7046029254386353131 : Int64))), .second, .val (.long (((zs + (-7046029254386353131 : Int64)) + (-7046029254386353131 : Int64)) + (-7046029254386353131 : Int64))), .second] [(.int (lcmpW (own_unmix (own_mix ((zs + (-7046029254386353131 : Int64)) + (-7046029254386353131 : Int64)))) ((zs + (-7046029254386353131 : Int64)) + (-7046029254386353131 : Int64))))])
  have hc67 : (own_unmix (own_mix ((zs + (-7046029254386353131 : Int64)) + (-7046029254386353131 : Int64)))) = ((zs + (-7046029254386353131 : Int64)) + (-7046029254386353131 : Int64)) := by
    exact own_back6 _
  refine own_go (fun t k => XS.ifNo X29.here hx rfl (hb hby at_67) rfl ((if0 _ _).trans (teq ((lw_eq (own_unmix (own_mix ((zs + (-7046029254386353131 : Int64)) + (-7046029254386353131 : Int64)))) ((zs + (-7046029254386353131 : Int64)) + (-7046029254386353131 : Int64))).mpr hc67)).2) k) ?_
  show own_WP _ _ _ _ T29 (mkF m 70 #[.val (.long zs), .second, .val (.ref b1), .val (.long (own_mix (zs + (-7046029254386353131 : Int64)))), .second, .val (.long (own_mix ((zs + (-7046029254386353131 : Int64)) + (-7046029254386353131 : Int64)))), .second, .val (.long (own_mix (((zs + (-7046029254386353131 : Int64)) + (-7046029254386353131 : Int64)) + (-7046029254386353131 : Int64)))), .second, .val (.long (zs + (-7046029254386353131 : Int64))), .second, .val (.long ((zs + (-7046029254386353131 : Int64)) + (-7046029254386353131 : Int64))), .second, .val (.long (((zs + (-7046029254386353131 : Int64)) + (-7046029254386353131 : Int64)) + (-7046029254386353131 : Int64))), .second] [])
  refine own_go (fun t k => XS.lload X29.here hx rfl (hb hby at_70) rfl  k) ?_
  show own_WP _ _ _ _ T29 (mkF m 72 #[.val (.long zs), .second, .val (.ref b1), .val (.long (own_mix (zs + (-7046029254386353131 : Int64)))), .second, .val (.long (own_mix ((zs + (-7046029254386353131 : Int64)) + (-7046029254386353131 : Int64)))), .second, .val (.long (own_mix (((zs + (-7046029254386353131 : Int64)) + (-7046029254386353131 : Int64)) + (-7046029254386353131 : Int64)))), .second, .val (.long (zs + (-7046029254386353131 : Int64))), .second, .val (.long ((zs + (-7046029254386353131 : Int64)) + (-7046029254386353131 : Int64))), .second, .val (.long (((zs + (-7046029254386353131 : Int64)) + (-7046029254386353131 : Int64)) + (-7046029254386353131 : Int64))), .second] [(.long (own_mix (((zs + (-7046029254386353131 : Int64)) + (-7046029254386353131 : Int64)) + (-7046029254386353131 : Int64))))])
  obtain ⟨_, _, ⟨T30, L30, k30, n30⟩, -, X30, ⟨Lc30, hQ30, l30, y30, z30⟩, st30⟩ := Jvm.LawKit.callS X29 hx (y := (⟨"branchwork/SplitMix64NextPinLaw", "unmix", "(J)J"⟩ : MethodName)) hown (mvT hZ (hw _ (List.mem_of_getElem? (i := 20) rfl))) (mvT hZ (hw _ (List.mem_of_getElem? (i := 21) rfl))) (mvT hZ (hw _ (List.mem_of_getElem? (i := 22) rfl))) (mvT hZ (hw _ (List.mem_of_getElem? (i := 23) rfl))) (by decide) (backOf (W := 0) (rm4 l Z a0 hw [] (own_mix (((zs + (-7046029254386353131 : Int64)) + (-7046029254386353131 : Int64)) + (-7046029254386353131 : Int64)))  T22.heap n0 (own_le Z0 K27) ) hZ (hw _ (List.mem_of_getElem? (i := 23) rfl)) (hw _ (List.mem_of_getElem? (i := 22) rfl)) (by decide) (by decide)) (g := (mkF m 72 #[.val (.long zs), .second, .val (.ref b1), .val (.long (own_mix (zs + (-7046029254386353131 : Int64)))), .second, .val (.long (own_mix ((zs + (-7046029254386353131 : Int64)) + (-7046029254386353131 : Int64)))), .second, .val (.long (own_mix (((zs + (-7046029254386353131 : Int64)) + (-7046029254386353131 : Int64)) + (-7046029254386353131 : Int64)))), .second, .val (.long (zs + (-7046029254386353131 : Int64))), .second, .val (.long ((zs + (-7046029254386353131 : Int64)) + (-7046029254386353131 : Int64))), .second, .val (.long (((zs + (-7046029254386353131 : Int64)) + (-7046029254386353131 : Int64)) + (-7046029254386353131 : Int64))), .second] [(.long (own_mix (((zs + (-7046029254386353131 : Int64)) + (-7046029254386353131 : Int64)) + (-7046029254386353131 : Int64))))])) rfl (by rw [hml]; rfl) (argsL := [(.long (own_mix (((zs + (-7046029254386353131 : Int64)) + (-7046029254386353131 : Int64)) + (-7046029254386353131 : Int64))))]) (rest := []) (lenOf own_pd98999 rfl) rfl (by show 2 * 0 + _ ≤ _; exact Nat.le_of_eq rfl) (hb hby at_72) (fun _ _ => ⟨rfl, eq29, (by decide : 1 + 0 ≤ _), (by decide : 1 + 0 ≤ _)⟩)
  dsimp only [Pt.U, Pt.locs, Pt.cells, Pt.slots] at X30 l30 y30 z30 st30 hQ30
  subst l30 y30 z30
  obtain ⟨rfl, N30q, eq30⟩ := hQ30
  have N30 := Fr.app N29 N30q
  refine own_go st30 ?_
  show own_WP _ _ _ _ T30 (mkF m 75 #[.val (.long zs), .second, .val (.ref b1), .val (.long (own_mix (zs + (-7046029254386353131 : Int64)))), .second, .val (.long (own_mix ((zs + (-7046029254386353131 : Int64)) + (-7046029254386353131 : Int64)))), .second, .val (.long (own_mix (((zs + (-7046029254386353131 : Int64)) + (-7046029254386353131 : Int64)) + (-7046029254386353131 : Int64)))), .second, .val (.long (zs + (-7046029254386353131 : Int64))), .second, .val (.long ((zs + (-7046029254386353131 : Int64)) + (-7046029254386353131 : Int64))), .second, .val (.long (((zs + (-7046029254386353131 : Int64)) + (-7046029254386353131 : Int64)) + (-7046029254386353131 : Int64))), .second] [(.long (own_unmix (own_mix (((zs + (-7046029254386353131 : Int64)) + (-7046029254386353131 : Int64)) + (-7046029254386353131 : Int64)))))])
  refine own_go (fun t k => XS.lload X30.here hx rfl (hb hby at_75) rfl  k) ?_
  show own_WP _ _ _ _ T30 (mkF m 77 #[.val (.long zs), .second, .val (.ref b1), .val (.long (own_mix (zs + (-7046029254386353131 : Int64)))), .second, .val (.long (own_mix ((zs + (-7046029254386353131 : Int64)) + (-7046029254386353131 : Int64)))), .second, .val (.long (own_mix (((zs + (-7046029254386353131 : Int64)) + (-7046029254386353131 : Int64)) + (-7046029254386353131 : Int64)))), .second, .val (.long (zs + (-7046029254386353131 : Int64))), .second, .val (.long ((zs + (-7046029254386353131 : Int64)) + (-7046029254386353131 : Int64))), .second, .val (.long (((zs + (-7046029254386353131 : Int64)) + (-7046029254386353131 : Int64)) + (-7046029254386353131 : Int64))), .second] [(.long (((zs + (-7046029254386353131 : Int64)) + (-7046029254386353131 : Int64)) + (-7046029254386353131 : Int64))), (.long (own_unmix (own_mix (((zs + (-7046029254386353131 : Int64)) + (-7046029254386353131 : Int64)) + (-7046029254386353131 : Int64)))))])
  refine own_go (fun t k => XS.lcmp X30.here hx rfl (hb hby at_77) rfl k) ?_
  show own_WP _ _ _ _ T30 (mkF m 78 #[.val (.long zs), .second, .val (.ref b1), .val (.long (own_mix (zs + (-7046029254386353131 : Int64)))), .second, .val (.long (own_mix ((zs + (-7046029254386353131 : Int64)) + (-7046029254386353131 : Int64)))), .second, .val (.long (own_mix (((zs + (-7046029254386353131 : Int64)) + (-7046029254386353131 : Int64)) + (-7046029254386353131 : Int64)))), .second, .val (.long (zs + (-7046029254386353131 : Int64))), .second, .val (.long ((zs + (-7046029254386353131 : Int64)) + (-7046029254386353131 : Int64))), .second, .val (.long (((zs + (-7046029254386353131 : Int64)) + (-7046029254386353131 : Int64)) + (-7046029254386353131 : Int64))), .second] [(.int (lcmpW (own_unmix (own_mix (((zs + (-7046029254386353131 : Int64)) + (-7046029254386353131 : Int64)) + (-7046029254386353131 : Int64)))) (((zs + (-7046029254386353131 : Int64)) + (-7046029254386353131 : Int64)) + (-7046029254386353131 : Int64))))])
  have hc78 : (own_unmix (own_mix (((zs + (-7046029254386353131 : Int64)) + (-7046029254386353131 : Int64)) + (-7046029254386353131 : Int64)))) = (((zs + (-7046029254386353131 : Int64)) + (-7046029254386353131 : Int64)) + (-7046029254386353131 : Int64)) := by
    exact own_back6 _
  refine own_go (fun t k => XS.ifNo X30.here hx rfl (hb hby at_78) rfl ((if0 _ _).trans (teq ((lw_eq (own_unmix (own_mix (((zs + (-7046029254386353131 : Int64)) + (-7046029254386353131 : Int64)) + (-7046029254386353131 : Int64)))) (((zs + (-7046029254386353131 : Int64)) + (-7046029254386353131 : Int64)) + (-7046029254386353131 : Int64))).mpr hc78)).2) k) ?_
  show own_WP _ _ _ _ T30 (mkF m 81 #[.val (.long zs), .second, .val (.ref b1), .val (.long (own_mix (zs + (-7046029254386353131 : Int64)))), .second, .val (.long (own_mix ((zs + (-7046029254386353131 : Int64)) + (-7046029254386353131 : Int64)))), .second, .val (.long (own_mix (((zs + (-7046029254386353131 : Int64)) + (-7046029254386353131 : Int64)) + (-7046029254386353131 : Int64)))), .second, .val (.long (zs + (-7046029254386353131 : Int64))), .second, .val (.long ((zs + (-7046029254386353131 : Int64)) + (-7046029254386353131 : Int64))), .second, .val (.long (((zs + (-7046029254386353131 : Int64)) + (-7046029254386353131 : Int64)) + (-7046029254386353131 : Int64))), .second] [])
  refine own_go (fun t k => XS.iconst X30.here hx rfl (hb hby at_81) k) ?_
  show own_WP _ _ _ _ T30 (mkF m 82 #[.val (.long zs), .second, .val (.ref b1), .val (.long (own_mix (zs + (-7046029254386353131 : Int64)))), .second, .val (.long (own_mix ((zs + (-7046029254386353131 : Int64)) + (-7046029254386353131 : Int64)))), .second, .val (.long (own_mix (((zs + (-7046029254386353131 : Int64)) + (-7046029254386353131 : Int64)) + (-7046029254386353131 : Int64)))), .second, .val (.long (zs + (-7046029254386353131 : Int64))), .second, .val (.long ((zs + (-7046029254386353131 : Int64)) + (-7046029254386353131 : Int64))), .second, .val (.long (((zs + (-7046029254386353131 : Int64)) + (-7046029254386353131 : Int64)) + (-7046029254386353131 : Int64))), .second] [(.int (1 : Int32))])
  refine own_go (fun t k => XS.goto X30.here hx rfl (pc0 := 82) (pc' := 86) rfl (hb hby at_82) (by decide) (by decide) k) ?_
  show own_WP _ _ _ _ T30 (mkF m 86 #[.val (.long zs), .second, .val (.ref b1), .val (.long (own_mix (zs + (-7046029254386353131 : Int64)))), .second, .val (.long (own_mix ((zs + (-7046029254386353131 : Int64)) + (-7046029254386353131 : Int64)))), .second, .val (.long (own_mix (((zs + (-7046029254386353131 : Int64)) + (-7046029254386353131 : Int64)) + (-7046029254386353131 : Int64)))), .second, .val (.long (zs + (-7046029254386353131 : Int64))), .second, .val (.long ((zs + (-7046029254386353131 : Int64)) + (-7046029254386353131 : Int64))), .second, .val (.long (((zs + (-7046029254386353131 : Int64)) + (-7046029254386353131 : Int64)) + (-7046029254386353131 : Int64))), .second] [(.int (1 : Int32))])
  refine own_retN X30 hx Bd.notSynchronized (t := .boolean) (by simp) Bd.returns (hb hby at_86) (by decide) (by decide) ?_
  rw [eq30]
  exact ⟨rfl, N30⟩
set_option maxRecDepth 65536 in
set_option maxHeartbeats 40000000 in
theorem comes_1 {Post : Tables → Env → Array Value → State → Outcome → State → Prop} (hpost : ∀ tb e args s v u, (limb_1_1.after args s (.returned v) u = true ∧ limb_1_2.after args s (.returned v) u = true ∧ True) → FrameEnd s (.returned v) u (Jvm.fieldLocs frame_1_writes args s ++ Jvm.arrayLocs frame_1_arrays args s ++ Jvm.staticLocs frame_1_statics s) 16 128 → Post tb e args s (.returned v) u) :
    ArmFor flags0 classFile x code maxLocals ret World_1 tables_1 room_1 Calls_1 rest_1 Pre_1 Post := by
  intro l hfl _ _ p e ha hc hk s m args below hf hA hF happ hP
  obtain ⟨hcalls, hrest, hpre⟩ := hP
  obtain ⟨-, -, -, hnamed, -, -, -, hat⟩ := (Spec.applies_iff hf).mp happ
  obtain ⟨hg, hn⟩ := and_e (Cond.before_iff.mp (show (Jvm.Cond.and given_1 narrow_1).before args s = true from hpre))
  obtain ⟨u0, v0⟩ := and_e hg
  obtain ⟨w0, rfl⟩ : ∃ w0 : Value, args = #[w0] := by
    have hs : args.size = 1 := by simpa [Cond.value, given_1] using u0
    obtain ⟨L⟩ := args
    match L, hs with
    | [w0], _ => exact ⟨w0, rfl⟩
  have hw := fun d (hd : d ∈ tables_1) => atoms_spec (ws := Jvm.Cond.code x code maxLocals ret :: tables_1) hat d (List.mem_cons_of_mem _ hd)
  obtain ⟨i0, ei0⟩ := isL_v v0
  obtain rfl : w0 = (.long i0) := Option.some.inj ei0
  obtain ⟨n, o, h1, h2, h3, _, L, rfl, ⟨rfl, N⟩, hq⟩ := rm0 l s _ hw tables_1 i0  s.heap s.heap.size (Nat.le_refl _)  p e ha hc hk s m _ below hf ((Spec.applies_iff_loose hf).mp happ).1 ⟨rfl, State.Warmed39.refl s, rfl⟩ trivial
  refine ⟨n, _, h1, h2, h3, hpost _ _ _ _ _ _ ⟨Cond.after_iff.mpr rfl, Cond.after_iff.mpr (eq_i res_at (Term.int_eval (1)) rfl), trivial⟩ ⟨hq.1, hq.2.1, (hq.2.2.sift fun y hy => Or.inr (N y hy)).mono (by decide) (by decide)⟩⟩
theorem main_1_1 : Claimed_1_1 := comes_1 fun _ _ _ _ _ _ h hF => ⟨h.1, hF⟩
theorem main_1_2 : Claimed_1_2 := comes_1 fun _ _ _ _ _ _ h hF => ⟨h.2.1, hF⟩
end Jvm.Pilot.@@N@@
namespace Jvm.Pilot.@@N@@
open Jvm Jvm.ClassFile Sem Op Lib Jvm.Free Jvm.Stand Jvm.Pilot.@@N@@.Jvm.D
/-! MADE BY PROGRAM (witnessworld.py) out of the Statement's table words and the real class files: 9 classes; the members and pool entries that the words name. The judged class is class 1, her method 3. -/
namespace start1
open Jvm.ClassFile
def u (s : String) : CpInfo := .utf8 (stringToUtf16 s)
/-- a pool by its gaps: so many unusable entries, then the entry; so many at the end -/
def gap : Nat → List CpInfo → List CpInfo
  | 0, r => r
  | n + 1, r => .unusable :: gap n r
def poolList (es : List (Nat × CpInfo)) (last : Nat) : List CpInfo := es.foldr (fun e r => gap e.1 (e.2 :: r)) (gap last [])
def pool (es : List (Nat × CpInfo)) (last : Nat) : Array CpInfo := ⟨poolList es last⟩
def fileOf (pool : Array CpInfo) (this : Nat) (attrs : Array Attribute := #[]) (ms : Array MethodInfo := #[]) (fl : Nat := 33) (sup : Nat := 0) (ifs : Array Nat := #[]) (fds : Array FieldInfo := #[]) : ClassFile where
  minorVersion := 0
  majorVersion := 65
  constantPool := pool
  accessFlags := fl
  thisClass := this
  superClass := sup
  interfaces := ifs
  fields := fds
  methods := ms
  attributes := attrs
def plain (name : String) (sup : Option ClassId) : Class where
  name := name
  kind := .ordinary
  loader := none
  accessFlags := 33
  super := sup
  interfaces := #[]
  cf := none
  fields := #[]
  methods := #[]
  instanceTypes := #[]
  staticTypes := #[]
  resolved := #[]
  callSites := []
  init := .initialized
  statics := none
  mirror := none

def pool0 : Array CpInfo := pool [(5, u "<init>"), (0, u "()V"), (1, .class_ 10), (1, u "java/lang/Object")] 113

def k0c0 : Code := { maxStack := 0, maxLocals := 1, code := object_method_1_code, exceptionTable := #[], attributes := #[] }
def k0m0 : Method := { name := "<init>", desc := "()V", sig := { parameters := [], returnType := none }, accessFlags := 1, code := some k0c0 }
/-- java/lang/Object -/
def k0 : Class := { plain "java/lang/Object" none with
  accessFlags := 33
  interfaces := #[]
  cf := some (fileOf pool0 8 #[] #[{ accessFlags := 1, nameIndex := 5, descriptorIndex := 6, attributes := #[] }] 33 0 #[] #[])
  fields := #[]
  methods := #[k0m0]
  instanceTypes := #[]
  staticTypes := #[]
  resolved := Array.replicate 124 none
  statics := none }

def pool1 : Array CpInfo := pool [(2, .class_ 4), (1, u "java/lang/Object"), (0, u "<init>"), (0, u "()V"), (0, .long 2), (1, .long 10723151780598845931), (1, .methodref 12 13), (0, .class_ 14), (0, .nameAndType 15 16), (0, u "branchwork/SplitMix64NextPinLaw"), (0, u "inverse"), (0, u "(J)J"), (0, .long 13787848793156543929), (1, .class_ 20), (0, u "branchwork/SplitMix64"), (0, .methodref 19 22), (0, .nameAndType 5 23), (0, u "(J)V"), (0, .methodref 19 25), (0, .nameAndType 26 27), (0, u "next"), (0, u "()J"), (0, .long 11400714819323198485), (1, .methodref 12 31), (0, .nameAndType 32 16), (0, u "unmix"), (0, u "GAMMA"), (0, u "J"), (3, u "law"), (0, u "(J)Z")] 3

def k1m0 : Method := { name := "<init>", desc := "()V", sig := { parameters := [], returnType := none }, accessFlags := 1, code := none }
def k1c1 : Code := { maxStack := 8, maxLocals := 4, code := method_2_code, exceptionTable := #[], attributes := #[] }
def k1m1 : Method := { name := "inverse", desc := "(J)J", sig := { parameters := [.long], returnType := some .long }, accessFlags := 10, code := some k1c1 }
def k1c2 : Code := { maxStack := 5, maxLocals := 4, code := method_3_code, exceptionTable := #[], attributes := #[] }
def k1m2 : Method := { name := "unmix", desc := "(J)J", sig := { parameters := [.long], returnType := some .long }, accessFlags := 10, code := some k1c2 }
def k1c3 : Code := { maxStack := 4, maxLocals := 15, code := code, exceptionTable := #[], attributes := #[] }
def k1m3 : Method := { name := "law", desc := "(J)Z", sig := { parameters := [.long], returnType := some .boolean }, accessFlags := 9, code := some k1c3 }
/-- branchwork/SplitMix64NextPinLaw -/
def k1 : Class := { plain "branchwork/SplitMix64NextPinLaw" (some 0) with
  accessFlags := 49
  interfaces := #[]
  cf := some (fileOf pool1 12 #[] #[{ accessFlags := 1, nameIndex := 5, descriptorIndex := 6, attributes := #[] }, { accessFlags := 10, nameIndex := 15, descriptorIndex := 16, attributes := #[] }, { accessFlags := 10, nameIndex := 32, descriptorIndex := 16, attributes := #[] }, { accessFlags := 9, nameIndex := 38, descriptorIndex := 39, attributes := #[] }] 49 2 #[] #[{ accessFlags := 26, nameIndex := 33, descriptorIndex := 34, attributes := #[] }])
  fields := #[{ name := "GAMMA", type := .long, accessFlags := 26, slot := 0, constantValue := 0 }]
  methods := #[k1m0, k1m1, k1m2, k1m3]
  instanceTypes := #[]
  staticTypes := #[.long]
  resolved := Array.replicate 43 none
  statics := none }

def pool2 : Array CpInfo := pool [(1, .methodref 2 3), (0, .class_ 4), (0, .nameAndType 5 6), (0, u "java/lang/Object"), (0, u "<init>"), (0, u "()V"), (0, .fieldref 8 9), (0, .class_ 10), (0, .nameAndType 11 12), (0, u "branchwork/SplitMix64"), (0, u "state"), (0, u "J"), (0, .long 11400714819323198485), (1, .long 13787848793156543929), (1, .long 10723151780598845931), (3, u "next"), (0, u "()J"), (6, u "(J)V")] 6

def k2c0 : Code := { maxStack := 3, maxLocals := 3, code := prog_48_method_1_code, exceptionTable := #[], attributes := #[] }
def k2m0 : Method := { name := "<init>", desc := "(J)V", sig := { parameters := [.long], returnType := none }, accessFlags := 0, code := some k2c0 }
def k2c1 : Code := { maxStack := 5, maxLocals := 3, code := prog_48_method_2_code, exceptionTable := #[], attributes := #[] }
def k2m1 : Method := { name := "next", desc := "()J", sig := { parameters := [], returnType := some .long }, accessFlags := 0, code := some k2c1 }
/-- branchwork/SplitMix64 -/
def k2 : Class := { plain "branchwork/SplitMix64" (some 0) with
  accessFlags := 48
  interfaces := #[]
  cf := some (fileOf pool2 8 #[] #[{ accessFlags := 0, nameIndex := 5, descriptorIndex := 29, attributes := #[] }, { accessFlags := 0, nameIndex := 21, descriptorIndex := 22, attributes := #[] }] 48 2 #[] #[{ accessFlags := 2, nameIndex := 11, descriptorIndex := 12, attributes := #[] }])
  fields := #[{ name := "state", type := .long, accessFlags := 2, slot := 0, constantValue := 0 }]
  methods := #[k2m0, k2m1]
  instanceTypes := #[.long]
  staticTypes := #[]
  resolved := Array.replicate 36 none
  statics := none }

def pool3 : Array CpInfo := pool [(1, u "java/lang/Cloneable"), (0, .class_ 1), (0, u "java/lang/Object"), (0, .class_ 3)] 3

/-- java/lang/Cloneable -/
def k3 : Class := { plain "java/lang/Cloneable" (some 0) with
  accessFlags := 1537
  interfaces := #[]
  cf := some (fileOf pool3 2 #[] #[] 1537 4 #[] #[])
  fields := #[]
  methods := #[]
  instanceTypes := #[]
  staticTypes := #[]
  resolved := Array.replicate 8 none
  statics := none }

def pool4 : Array CpInfo := pool [(1, u "java/io/Serializable"), (0, .class_ 1), (0, u "java/lang/Object"), (0, .class_ 3)] 3

/-- java/io/Serializable -/
def k4 : Class := { plain "java/io/Serializable" (some 0) with
  accessFlags := 1537
  interfaces := #[]
  cf := some (fileOf pool4 2 #[] #[] 1537 4 #[] #[])
  fields := #[]
  methods := #[]
  instanceTypes := #[]
  staticTypes := #[]
  resolved := Array.replicate 8 none
  statics := none }

/-- the primitive byte -/
def k5 : Class := { plain "byte" none with kind := .primitive 'B', accessFlags := 0x411 }
/-- [B -/
def k6 : Class := { plain "[B" (some 0) with kind := .array 5 .byte, interfaces := #[3, 4], accessFlags := 1041 }

/-- the primitive int -/
def k7 : Class := { plain "int" none with kind := .primitive 'I', accessFlags := 0x411 }
/-- [I -/
def k8 : Class := { plain "[I" (some 0) with kind := .array 7 .int, interfaces := #[3, 4], accessFlags := 1041 }

def heap : Heap := #[]
def classes : Array Class := #[k0, k1, k2, k3, k4, k5, k6, k7, k8]
def interned : List (Array UInt16 × Addr) := []
def slotsUsed : Nat := 0
def theMethod : MethodId := ⟨1, 3⟩
def args0 : Array Value := #[.long 5]
def aboutOver (below : List Frame) : State where
  vm := { classes := classes, interned := interned.toArray }
  heap := heap
  slotsUsed := slotsUsed
  threads := #[{ frames := .invoking theMethod args0 :: below }]
def below0 : List Frame := [.native { method := ⟨0, 0⟩, args := #[] }]
def about1 : State := aboutOver below0
def p0 : Program := .bare "" "" ""
def e0 : Env := launch0.env 0 0 0
theorem w_frames : about1.frames = Frame.invoking theMethod args0 :: below0 := rfl
set_option maxRecDepth 65536 in
theorem w_args : argsFit about1.vm theMethod args0 = true := by decide +kernel
set_option maxRecDepth 65536 in
theorem w_heap : heapFits about1 = true := by decide +kernel
set_option maxRecDepth 65536 in
theorem w_runnable : about1.curStatus? = some .runnable := by decide +kernel
set_option maxRecDepth 65536 in
theorem w_alone : about1.alone = true := by decide +kernel
set_option maxRecDepth 65536 in
theorem w_named : about1.methodNamed? x = some theMethod := by decide +kernel
set_option maxRecDepth 65536 in
theorem w_hears : about1.hears theMethod below0 = true := by decide +kernel
set_option maxRecDepth 65536 in
theorem w_ripe : about1.ripe theMethod args0 below0 = true := by decide +kernel
theorem w_running : about1.status = .running := rfl
set_option maxRecDepth 65536 in
theorem w_room : about1.hasRoom e0.platform room_1 = true :=
  launch0.hasRoom_least _ room_1 (by decide +kernel) (by decide +kernel) (by decide +kernel) (by decide +kernel) (by decide +kernel) (by decide +kernel)
theorem allAtoms_all (ts : List Jvm.Cond) (a : Array Jvm.Value) (st : Jvm.State) : (allAtoms ts).before a st = ts.all (fun c => c.before a st) := by
  induction ts with
  | nil => rfl
  | cons c t ih =>
    show (Jvm.Cond.and c (allAtoms t)).before a st = _
    rw [Jvm.Cond.before_and, ih, List.all_cons]
def words1 : List Jvm.Cond := Jvm.Cond.code x code maxLocals ret :: tables_1
/-- a 'code' word, met by the world's own term for the bytes: nothing is compared byte by byte -/
theorem code_word {y : MethodName} {bytes : ByteArray} {mx : Nat} {rt : Option FieldType} {a : Array Value} {s : State} {m : MethodId} {meth : Method} {c : Code} (h1 : s.methodNamed? y = some m) (h2 : s.vm.method? m = some meth) (h3 : meth.code = some c) (h4 : c.code = bytes)
    (h5 : (c.maxLocals == mx && c.exceptionTable.isEmpty && decide (c.maxStack ≤ mostOperands) && decide (meth.sig.returnType = rt) && !meth.locks && decide (parseMethodDescriptor y.desc = some meth.sig)) = true) : (Jvm.Cond.code y bytes mx rt).before a s = true := by
  simp only [Bool.and_eq_true, beq_iff_eq, Bool.not_eq_true', decide_eq_true_eq] at h5
  obtain ⟨⟨⟨⟨⟨g1, g2⟩, g3⟩, g4⟩, g5⟩, g6⟩ := h5
  simp [Cond.before, Cond.holds, Cond.value, h1, h2, h3, h4, g1, g2, g3, g4, g5, g6]
def isCode : Jvm.Cond → Bool
  | .code _ _ _ _ => true
  | _ => false
theorem all_split {L : List Jvm.Cond} {P : Jvm.Cond → Bool} (h1 : L.all (fun c => isCode c || P c) = true) (h2 : ∀ c ∈ L.filter isCode, P c = true) : L.all P = true := by
  refine List.all_eq_true.mpr fun c hc => ?_
  have h := List.all_eq_true.mp h1 c hc
  rcases Bool.eq_false_or_eq_true (isCode c) with hi | hi
  · exact h2 c (List.mem_filter.mpr ⟨hc, hi⟩)
  · simpa [hi] using h
set_option maxRecDepth 65536 in
theorem w_c0 : (Jvm.Cond.code x code maxLocals ret).before args0 about1 = true := code_word (m := ⟨1, 3⟩) (meth := k1m3) (c := k1c3) (by decide +kernel) rfl rfl rfl (by decide +kernel)
set_option maxRecDepth 65536 in
theorem w_c1 : (Jvm.Cond.code ({ cls := "branchwork/SplitMix64", name := "<init>", desc := "(J)V" } : Jvm.MethodName) prog_48_method_1_code (3 : Nat) (Option.none : Option Jvm.ClassFile.FieldType)).before args0 about1 = true := code_word (m := ⟨2, 0⟩) (meth := k2m0) (c := k2c0) (by decide +kernel) rfl rfl rfl (by decide +kernel)
set_option maxRecDepth 65536 in
theorem w_c2 : (Jvm.Cond.code ({ cls := "java/lang/Object", name := "<init>", desc := "()V" } : Jvm.MethodName) object_method_1_code (1 : Nat) (Option.none : Option Jvm.ClassFile.FieldType)).before args0 about1 = true := code_word (m := ⟨0, 0⟩) (meth := k0m0) (c := k0c0) (by decide +kernel) rfl rfl rfl (by decide +kernel)
set_option maxRecDepth 65536 in
theorem w_c3 : (Jvm.Cond.code ({ cls := "branchwork/SplitMix64", name := "next", desc := "()J" } : Jvm.MethodName) prog_48_method_2_code (3 : Nat) (Option.some Jvm.ClassFile.FieldType.long)).before args0 about1 = true := code_word (m := ⟨2, 1⟩) (meth := k2m1) (c := k2c1) (by decide +kernel) rfl rfl rfl (by decide +kernel)
set_option maxRecDepth 65536 in
theorem w_c4 : (Jvm.Cond.code ({ cls := "branchwork/SplitMix64NextPinLaw", name := "unmix", desc := "(J)J" } : Jvm.MethodName) method_3_code (4 : Nat) (Option.some Jvm.ClassFile.FieldType.long)).before args0 about1 = true := code_word (m := ⟨1, 2⟩) (meth := k1m2) (c := k1c2) (by decide +kernel) rfl rfl rfl (by decide +kernel)
set_option maxRecDepth 65536 in
theorem w_c5 : (Jvm.Cond.code ({ cls := "branchwork/SplitMix64NextPinLaw", name := "inverse", desc := "(J)J" } : Jvm.MethodName) method_2_code (4 : Nat) (Option.some Jvm.ClassFile.FieldType.long)).before args0 about1 = true := code_word (m := ⟨1, 1⟩) (meth := k1m1) (c := k1c1) (by decide +kernel) rfl rfl rfl (by decide +kernel)
def codes1 : List Jvm.Cond := [Jvm.Cond.code x code maxLocals ret, Jvm.Cond.code ({ cls := "branchwork/SplitMix64", name := "<init>", desc := "(J)V" } : Jvm.MethodName) prog_48_method_1_code (3 : Nat) (Option.none : Option Jvm.ClassFile.FieldType), Jvm.Cond.code ({ cls := "java/lang/Object", name := "<init>", desc := "()V" } : Jvm.MethodName) object_method_1_code (1 : Nat) (Option.none : Option Jvm.ClassFile.FieldType), Jvm.Cond.code ({ cls := "branchwork/SplitMix64", name := "next", desc := "()J" } : Jvm.MethodName) prog_48_method_2_code (3 : Nat) (Option.some Jvm.ClassFile.FieldType.long), Jvm.Cond.code ({ cls := "branchwork/SplitMix64NextPinLaw", name := "unmix", desc := "(J)J" } : Jvm.MethodName) method_3_code (4 : Nat) (Option.some Jvm.ClassFile.FieldType.long), Jvm.Cond.code ({ cls := "branchwork/SplitMix64NextPinLaw", name := "inverse", desc := "(J)J" } : Jvm.MethodName) method_2_code (4 : Nat) (Option.some Jvm.ClassFile.FieldType.long)]
set_option maxRecDepth 65536 in
theorem codes_eq : words1.filter isCode = codes1 := rfl
theorem w_codes : ∀ c ∈ words1.filter isCode, c.before args0 about1 = true := by
  rw [codes_eq]
  intro c hc
  simp only [codes1, List.mem_cons, List.not_mem_nil, or_false] at hc
  rcases hc with rfl | rfl | rfl | rfl | rfl | rfl
  · exact w_c0
  · exact w_c1
  · exact w_c2
  · exact w_c3
  · exact w_c4
  · exact w_c5
set_option maxRecDepth 65536 in
theorem w_t1 : (words1.take 24).all (fun c => isCode c || c.before args0 about1) = true := by decide +kernel
set_option maxRecDepth 65536 in
theorem w_t2 : (words1.drop 24).all (fun c => isCode c || c.before args0 about1) = true := by decide +kernel
theorem w_tables : (allAtoms (Jvm.Cond.code x code maxLocals ret :: tables_1)).before args0 about1 = true := by
  rw [allAtoms_all]
  show words1.all (fun c => c.before args0 about1) = true
  refine all_split ?_ w_codes
  rw [← List.take_append_drop 24 words1, List.all_append, w_t1, w_t2]
  rfl
set_option maxRecDepth 65536 in
theorem w_case : (Jvm.Cond.and given_1 narrow_1).before args0 about1 = true := by decide +kernel
theorem w_applies : (headSpec (Jvm.Cond.code x code maxLocals ret :: tables_1) room_1).applies x e0.platform about1 = true :=
  (Spec.applies_iff w_frames).mpr ⟨w_running, w_runnable, w_alone, w_named, w_hears, w_ripe, w_room, w_tables⟩
theorem atStart : AtStart classFile x code maxLocals ret World_1 tables_1 room_1 Calls_1 rest_1 Pre_1 launch0 p0 e0 about1 theMethod args0 below0 :=
  ⟨lists_1, trivial, launch0.admits_env _ _ _, launch0.least_env, fairChoices_fair.cas, fairChoices_fair.clock, w_frames, w_args, w_heap, w_applies, trivial, trivial, w_case⟩
end start1
theorem witness_1 : WitnessClaimed_1 := ⟨start1.p0, start1.e0, start1.about1, start1.theMethod, start1.args0, start1.below0, start1.atStart⟩
end Jvm.Pilot.@@N@@
