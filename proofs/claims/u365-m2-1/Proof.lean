import JvmDerived
import JvmDerived.Pilot.@@N@@Statement
import JvmDerived.Pilot.@@N@@Code
set_option linter.unusedVariables false
set_option linter.unusedSimpArgs false
namespace Jvm.Pilot.@@N@@
open Jvm Jvm.ClassFile Sem Op Lib Jvm.Free Jvm.Stand Jvm.LawKit Jvm.RoadKit Bundle Jvm.Pilot.@@N@@.Jvm.D
section OwnKit
variable {p : Program} {l : Launch} {e : Env} {R : Room} {s : State} {m : MethodId} {args : Array Value} {below : List Frame} {meth : Method} {c : Code} {T T' : State} {locs : List Loc} {cells slots : Nat} {Z : State} {h : Heap} {a0 : Array Value}
/-- from the state T with the frame g on top the method comes to its end, and what it leaves meets E -/
def own_WP (p : Program) (e : Env) (below : List Frame) (E : Outcome → State → Prop) (T : State) (g : JFrame) : Prop :=
  ∃ s₂ o, Steps p.tables e below (T.setTop g) s₂ ∧ s₂.status = .running ∧ Ended s₂ below o ∧ E o s₂
/-- it returns, and what it leaves meets Q within K cells and N slots -/
def own_E (s : State) (Q : Option Value → Heap → List Loc → Prop) (K N : Nat) (o : Outcome) (t : State) : Prop := ∃ v L, o = .returned v ∧ Q v t.heap L ∧ FrameEnd s o t L K N
variable {Q : Option Value → Heap → List Loc → Prop} {K N : Nat} {g g' : JFrame} {E : Outcome → State → Prop}
theorem own_go (h : ∀ t, Steps p.tables e below (T'.setTop g') t → Steps p.tables e below (T.setTop g) t) (k : own_WP p e below E T' g') : own_WP p e below E T g := by
  obtain ⟨s₂, o, h1, h2⟩ := k
  exact ⟨s₂, o, h s₂ h1, h2⟩
theorem own_tr (h : Steps p.tables e below (T.setTop g) (T'.setTop g')) (k : own_WP p e below E T' g') : own_WP p e below E T g := by
  obtain ⟨s₂, o, h1, h2⟩ := k
  exact ⟨s₂, o, h.trans h1, h2⟩
theorem own_end (X : Stand p l e R s m args below meth c T locs cells slots) (hlk : meth.locks = false) {v : Option Value} (hv : meth.sig.returnType = none → v = none)
    (hs : ∀ fs, (∀ (f : JFrame) (acts : List Action), f.method = m → f.locked = none → f.entered = [] → (doReturn e (T.setTop f) acts v).1 = T.setFrames fs) → Steps p.tables e below (T.setTop g) (T.setFrames fs))
    (hk : cells ≤ K) (hn : slots ≤ N) (hq : Q v T.heap locs) : own_WP p e below (own_E s Q K N) T g := by
  obtain ⟨fs, hr, hrun, hended, hW, hsame⟩ := X.leave hv hlk
  exact ⟨_, _, hs fs hr, hrun, hended, _, _, rfl, hq, ⟨_, rfl⟩, hW, hsame.mono hk hn⟩
theorem own_retV (X : Stand p l e R s m args below meth c T locs cells slots) (hx : p.tables.exec = Jvm.exec) (hlk : meth.locks = false) {pc : Nat} {Ls : Array Slot} (hret : meth.sig.returnType = none) (hd : decode c.code pc = .ok (.return_, 1))
    (hk : cells ≤ K) (hn : slots ≤ N) (hq : Q none T.heap locs) : own_WP p e below (own_E s Q K N) T (mkF m pc Ls []) :=
  own_end X hlk (fun _ => rfl) (fun fs hr => X.returnOut hx hret hd hr) hk hn hq
theorem own_retI (X : Stand p l e R s m args below meth c T locs cells slots) (hx : p.tables.exec = Jvm.exec) (hlk : meth.locks = false) {pc : Nat} {Ls : Array Slot} {z : Int32} (hret : meth.sig.returnType = some .int) (hd : decode c.code pc = .ok (.ireturn, 1))
    (hk : cells ≤ K) (hn : slots ≤ N) (hq : Q (some (.int z)) T.heap locs) : own_WP p e below (own_E s Q K N) T (mkF m pc Ls [.int z]) :=
  own_end X hlk (fun h => by rw [hret] at h; cases h) (fun fs hr => retOut X hx hret rfl (Or.inl ⟨rfl, Or.inl rfl, z, rfl⟩) hd hr) hk hn hq
theorem own_retJ (X : Stand p l e R s m args below meth c T locs cells slots) (hx : p.tables.exec = Jvm.exec) (hlk : meth.locks = false) {pc : Nat} {Ls : Array Slot} {z : Int64} (hret : meth.sig.returnType = some .long) (hd : decode c.code pc = .ok (.lreturn, 1))
    (hk : cells ≤ K) (hn : slots ≤ N) (hq : Q (some (.long z)) T.heap locs) : own_WP p e below (own_E s Q K N) T (mkF m pc Ls [.long z]) :=
  own_end X hlk (fun h => by rw [hret] at h; cases h) (fun fs hr => X.lreturnOut hx hret hd hr) hk hn hq
theorem own_retA (X : Stand p l e R s m args below meth c T locs cells slots) (hx : p.tables.exec = Jvm.exec) (hlk : meth.locks = false) {pc : Nat} {Ls : Array Slot} {w : Value} (hw : w.isRef = true) {t : FieldType} (ht : t.isReference = true) (hret : meth.sig.returnType = some t) (hd : decode c.code pc = .ok (.areturn, 1))
    (hk : cells ≤ K) (hn : slots ≤ N) (hq : Q (some w) T.heap locs) : own_WP p e below (own_E s Q K N) T (mkF m pc Ls [w]) :=
  own_end X hlk (fun h => by rw [hret] at h; cases h) (fun fs hr => X.areturnOut hx hw hret ht hd hr) hk hn hq
theorem own_retN (X : Stand p l e R s m args below meth c T locs cells slots) (hx : p.tables.exec = Jvm.exec) (hlk : meth.locks = false) {pc : Nat} {Ls : Array Slot} {z : Int32} {t : FieldType} (ht : t = .boolean ∨ t = .byte ∨ t = .char ∨ t = .short) (hret : meth.sig.returnType = some t) (hd : decode c.code pc = .ok (.ireturn, 1))
    (hk : cells ≤ K) (hn : slots ≤ N) (hq : Q (some (.int (nar t z))) T.heap locs) : own_WP p e below (own_E s Q K N) T (mkF m pc Ls [.int z]) :=
  own_end X hlk (fun h => by rw [hret] at h; cases h) (fun fs hr => retN X hx hret ht hd hr) hk hn hq
theorem own_len (X : Stand p l e R s m args below meth c T locs cells slots) (hx : p.tables.exec = Jvm.exec) (hZ : Z.Warmed39 s.vm) (eT : T.heap = h) {a : Addr} {k : ClassId} {ty : FieldType} {n : Int32} {vs : List Value} {d : Value} (V : Arv Z h a k ty n vs d)
    {pc : Nat} {Ls : Array Slot} {S : List Value} (hd : decode c.code pc = .ok (.arraylength, 1)) (kk : own_WP p e below E T (mkF m (pc + 1) Ls (.int n :: S))) : own_WP p e below E T (mkF m pc Ls (.ref a :: S)) := by
  obtain ⟨cl, A, q, S1, M, H, G⟩ := V
  refine own_go (fun t k => X.arraylength hx (by rw [eT]; exact A.1) (State.isArrayOf_alike hZ.alike A.2.1) (g := mkF m pc Ls (.ref a :: S)) rfl rfl hd t k) ?_
  rw [len_of S1 M]
  exact kk
theorem own_at {cl : Cell} {n j : Int32} {vs : List Value} {d w : Value} (S1 : cl.slots.size = n.toNatClampNeg) (H : Has cl vs d) (hj : ¬ j < 0 ∧ j < n) (hv : vs.getD j.toNatClampNeg d = w) : cl.slots[j.toNatClampNeg]? = some w :=
  H.at (inb_of S1 hj) hv
theorem own_ldI (X : Stand p l e R s m args below meth c T locs cells slots) (hx : p.tables.exec = Jvm.exec) (hZ : Z.Warmed39 s.vm) (eT : T.heap = h) {a : Addr} {k : ClassId} {n j w : Int32} {vs : List Value} {d : Value} (V : Arv Z h a k .int n vs d) (hj : ¬ j < 0 ∧ j < n) (hv : vs.getD j.toNatClampNeg d = .int w)
    {pc : Nat} {Ls : Array Slot} {S : List Value} (hd : decode c.code pc = .ok (.iaload, 1)) (kk : own_WP p e below E T (mkF m (pc + 1) Ls (.int w :: S))) : own_WP p e below E T (mkF m pc Ls (.int j :: .ref a :: S)) := by
  obtain ⟨cl, A, q, S1, M, H, G⟩ := V
  exact own_go (fun t k => X.iaload hx (j := j) (v := .int w) (by rw [eT]; exact A.1) (State.isArrayOf_alike hZ.alike A.2.1) A.2.2 (inb_of S1 hj) (own_at S1 H hj hv) (g := mkF m pc Ls (.int j :: .ref a :: S)) rfl rfl hd t k) kk
theorem own_ldJ (X : Stand p l e R s m args below meth c T locs cells slots) (hx : p.tables.exec = Jvm.exec) (hZ : Z.Warmed39 s.vm) (eT : T.heap = h) {a : Addr} {k : ClassId} {n j : Int32} {w : Int64} {vs : List Value} {d : Value} (V : Arv Z h a k .long n vs d) (hj : ¬ j < 0 ∧ j < n) (hv : vs.getD j.toNatClampNeg d = .long w)
    {pc : Nat} {Ls : Array Slot} {S : List Value} (hd : decode c.code pc = .ok (.laload, 1)) (kk : own_WP p e below E T (mkF m (pc + 1) Ls (.long w :: S))) : own_WP p e below E T (mkF m pc Ls (.int j :: .ref a :: S)) := by
  obtain ⟨cl, A, q, S1, M, H, G⟩ := V
  exact own_go (fun t k => X.laload hx (j := j) (v := .long w) (by rw [eT]; exact A.1) (State.isArrayOf_alike hZ.alike A.2.1) A.2.2 (inb_of S1 hj) (own_at S1 H hj hv) (g := mkF m pc Ls (.int j :: .ref a :: S)) rfl rfl hd t k) kk
theorem own_ldB (X : Stand p l e R s m args below meth c T locs cells slots) (hx : p.tables.exec = Jvm.exec) (hZ : Z.Warmed39 s.vm) (eT : T.heap = h) {a : Addr} {k : ClassId} {n j w : Int32} {vs : List Value} {d : Value} (V : Arv Z h a k .byte n vs d) (hj : ¬ j < 0 ∧ j < n) (hv : vs.getD j.toNatClampNeg d = .int w)
    {pc : Nat} {Ls : Array Slot} {S : List Value} (hd : decode c.code pc = .ok (.baload, 1)) (kk : own_WP p e below E T (mkF m (pc + 1) Ls (.int w :: S))) : own_WP p e below E T (mkF m pc Ls (.int j :: .ref a :: S)) := by
  obtain ⟨cl, A, q, S1, M, H, G⟩ := V
  exact own_go (fun t k => X.baloadBytes hx (j := j) (v := .int w) (by rw [eT]; exact A.1) (State.isArrayOf_alike hZ.alike A.2.1) A.2.2 (inb_of S1 hj) (own_at S1 H hj hv) (g := mkF m pc Ls (.int j :: .ref a :: S)) rfl rfl hd t k) kk
theorem own_ldR (X : Stand p l e R s m args below meth c T locs cells slots) (hx : p.tables.exec = Jvm.exec) (hZ : Z.Warmed39 s.vm) (eT : T.heap = h) {a : Addr} {k : ClassId} {ty : FieldType} (hty : ty.isReference = true) {n j : Int32} {w : Value} {vs : List Value} {d : Value} (V : Arv Z h a k ty n vs d) (hj : ¬ j < 0 ∧ j < n) (hv : vs.getD j.toNatClampNeg d = w)
    {pc : Nat} {Ls : Array Slot} {S : List Value} (hd : decode c.code pc = .ok (.aaload, 1)) (kk : own_WP p e below E T (mkF m (pc + 1) Ls (w :: S))) : own_WP p e below E T (mkF m pc Ls (.int j :: .ref a :: S)) := by
  obtain ⟨cl, A, q, S1, M, H, G⟩ := V
  exact own_go (fun t k => X.aaload hx (j := j) (v := w) (by rw [eT]; exact A.1) (State.isArrayOf_alike hZ.alike A.2.1) hty A.2.2 (inb_of S1 hj) (own_at S1 H hj hv) (g := mkF m pc Ls (.int j :: .ref a :: S)) rfl rfl hd t k) kk
theorem own_stI (X : Stand p l e R s m args below meth c T locs cells slots) (hx : p.tables.exec = Jvm.exec) (hZ : Z.Warmed39 s.vm) (eT : T.heap = h) {a : Addr} {k : ClassId} {n j x : Int32} {vs : List Value} {d : Value} (V : Arv Z h a k .int n vs d) (hj : ¬ j < 0 ∧ j < n) {i : Nat} (hji : j.toNatClampNeg = i) (hi : i < vs.length)
    {pc : Nat} {Ls : Array Slot} {S : List Value} (hd : decode c.code pc = .ok (.iastore, 1))
    (kk : ∀ T' h', Stand p l e R s m args below meth c T' (locs ++ [⟨a, j.toNatClampNeg⟩]) cells slots → T'.heap = h' → Wr h h' a j.toNatClampNeg (.int x) → Arv Z h' a k .int n (vs.set i (.int x)) d → own_WP p e below E T' (mkF m (pc + 1) Ls S)) : own_WP p e below E T (mkF m pc Ls (.int x :: .int j :: .ref a :: S)) := by
  obtain ⟨cl, A, q, S1, M, H, G⟩ := V
  obtain ⟨T', h', X', e', W', st⟩ := stI X hx hZ eT A (j := j) (inb_of S1 hj) (g := mkF m pc Ls (.int x :: .int j :: .ref a :: S)) rfl rfl hd
  exact own_go st (kk T' h' X' e' W' (Arv.set A q S1 M H G rfl W' i hji hi))
theorem own_stJ (X : Stand p l e R s m args below meth c T locs cells slots) (hx : p.tables.exec = Jvm.exec) (hZ : Z.Warmed39 s.vm) (eT : T.heap = h) {a : Addr} {k : ClassId} {n j : Int32} {x : Int64} {vs : List Value} {d : Value} (V : Arv Z h a k .long n vs d) (hj : ¬ j < 0 ∧ j < n) {i : Nat} (hji : j.toNatClampNeg = i) (hi : i < vs.length)
    {pc : Nat} {Ls : Array Slot} {S : List Value} (hd : decode c.code pc = .ok (.lastore, 1))
    (kk : ∀ T' h', Stand p l e R s m args below meth c T' (locs ++ [⟨a, j.toNatClampNeg⟩]) cells slots → T'.heap = h' → Wr h h' a j.toNatClampNeg (.long x) → Arv Z h' a k .long n (vs.set i (.long x)) d → own_WP p e below E T' (mkF m (pc + 1) Ls S)) : own_WP p e below E T (mkF m pc Ls (.long x :: .int j :: .ref a :: S)) := by
  obtain ⟨cl, A, q, S1, M, H, G⟩ := V
  obtain ⟨T', h', X', e', W', st⟩ := stJ X hx hZ eT A (j := j) (inb_of S1 hj) (g := mkF m pc Ls (.long x :: .int j :: .ref a :: S)) rfl rfl hd
  exact own_go st (kk T' h' X' e' W' (Arv.set A q S1 M H G rfl W' i hji hi))
theorem own_stB (X : Stand p l e R s m args below meth c T locs cells slots) (hx : p.tables.exec = Jvm.exec) (hZ : Z.Warmed39 s.vm) (eT : T.heap = h) {a : Addr} {k : ClassId} {n j x : Int32} {vs : List Value} {d : Value} (V : Arv Z h a k .byte n vs d) (hj : ¬ j < 0 ∧ j < n) {i : Nat} (hji : j.toNatClampNeg = i) (hi : i < vs.length)
    {pc : Nat} {Ls : Array Slot} {S : List Value} (hd : decode c.code pc = .ok (.bastore, 1))
    (kk : ∀ T' h', Stand p l e R s m args below meth c T' (locs ++ [⟨a, j.toNatClampNeg⟩]) cells slots → T'.heap = h' → Wr h h' a j.toNatClampNeg (.int (nar .byte x)) → Arv Z h' a k .byte n (vs.set i (.int (nar .byte x))) d → own_WP p e below E T' (mkF m (pc + 1) Ls S)) : own_WP p e below E T (mkF m pc Ls (.int x :: .int j :: .ref a :: S)) := by
  obtain ⟨cl, A, q, S1, M, H, G⟩ := V
  obtain ⟨T', h', X', e', W', st⟩ := stB X hx hZ eT A (j := j) (inb_of S1 hj) (g := mkF m pc Ls (.int x :: .int j :: .ref a :: S)) rfl rfl hd
  exact own_go st (kk T' h' X' e' W' (Arv.set A q S1 M H G (fits_nar_byte x) W' i hji hi))
theorem own_nm {x a : Addr} (h : x ≠ a) : x ∉ [a] := fun q => h (List.mem_singleton.mp q)
theorem own_nm0 {x : Addr} : x ∉ ([] : List Addr) := List.not_mem_nil
theorem own_nm2 {x a b : Addr} (h : x ≠ a) (h' : x ≠ b) : x ∉ [a, b] := fun q => by
  rcases List.mem_cons.mp q with r | r
  · exact h r
  · exact h' (List.mem_singleton.mp r)
theorem own_le {h0 h : Heap} {n0 : Nat} {ws : List Addr} (Z0 : n0 ≤ h0.size) (K : Keep h0 h ws) : n0 ≤ h.size := Nat.le_trans Z0 K.1
end OwnKit
def own_us (z : Int64) (n : Int32) : Int64 := ((z.toUInt64 >>> (n &&& 0x3f).toInt64.toUInt64).toInt64)
def own_nst (a r : Int64) : Int64 := (r * ((2 : Int64) - (a * r)))
def own_inv (a : Int64) : Int64 := own_nst a (own_nst a (own_nst a (own_nst a (own_nst a a))))
def own_mix (a : Int64) : Int64 :=
  let z1 := (a ^^^ own_us a 30) * (-4658895280553007687 : Int64)
  let z2 := (z1 ^^^ own_us z1 27) * (-7723592293110705685 : Int64)
  z2 ^^^ own_us z2 31
theorem own_xs (x : BitVec 64) (k : Nat) (hk : 64 ≤ 3 * k) : (x ^^^ (x >>> k)) ^^^ ((x ^^^ (x >>> k)) >>> k) ^^^ ((x ^^^ (x >>> k)) >>> (2*k)) = x := by
  apply BitVec.eq_of_getLsbD_eq
  intro i hi
  simp only [BitVec.getLsbD_xor, BitVec.getLsbD_ushiftRight]
  have e1 : k + (k + i) = 2 * k + i := by omega
  have e2 : x.getLsbD (k + (2 * k + i)) = false := BitVec.getLsbD_of_ge _ _ (by omega)
  have e3 : x.getLsbD (k + (k + i)) = x.getLsbD (2 * k + i) := by rw [e1]
  rw [e2, e3]
  cases x.getLsbD i <;> cases x.getLsbD (k + i) <;> cases x.getLsbD (2 * k + i) <;> rfl
theorem own_usB (z : Int64) (n : Int32) (k : Nat) (h : ((n &&& 0x3f).toInt64.toUInt64.toBitVec % 64).toNat = k) : (own_us z n).toBitVec = z.toBitVec >>> k := by
  unfold own_us
  show ((z.toUInt64 >>> _).toBitVec) = _
  rw [UInt64.toBitVec_shiftRight]
  subst h
  rfl
theorem own_un (z : Int64) (n n2 : Int32) (k : Nat) (hk : 64 ≤ 3 * k) (h1 : ((n &&& 0x3f).toInt64.toUInt64.toBitVec % 64).toNat = k) (h2 : ((n2 &&& 0x3f).toInt64.toUInt64.toBitVec % 64).toNat = 2 * k) :
    (z ^^^ own_us z n) ^^^ own_us (z ^^^ own_us z n) n ^^^ own_us (z ^^^ own_us z n) n2 = z := by
  apply Int64.toBitVec_inj.mp
  simp only [Int64.toBitVec_xor, own_usB _ n k h1, own_usB _ n2 (2 * k) h2]
  exact own_xs _ k hk
theorem own_unmul (z a i : Int64) (h : a * i = 1) : (z * a) * i = z := by rw [Int64.mul_assoc, h, Int64.mul_one]
theorem own_back (a : Int64) :
    (let y := own_mix a
     let z1 := y ^^^ own_us y 31 ^^^ own_us y 62
     let z2 := z1 * own_inv (-7723592293110705685)
     let z3 := z2 ^^^ own_us z2 27 ^^^ own_us z2 54
     let z4 := z3 * own_inv (-4658895280553007687)
     z4 ^^^ own_us z4 30 ^^^ own_us z4 60) = a := by
  simp only [own_mix]
  rw [own_un _ 31 62 31 (by decide) (by decide) (by decide), own_unmul _ _ _ (by decide +kernel), own_un _ 27 54 27 (by decide) (by decide) (by decide), own_unmul _ _ _ (by decide +kernel), own_un _ 30 60 30 (by decide) (by decide) (by decide)]
theorem d1_0 : decode prog_8_method_7_code 0 = .ok (.lload_n 0, 1) := by decide +kernel
theorem d1_1 : decode prog_8_method_7_code 1 = .ok (.lstore_n 2, 1) := by decide +kernel
theorem d1_2 : decode prog_8_method_7_code 2 = .ok (.lload_n 2, 1) := by decide +kernel
theorem d1_3 : decode prog_8_method_7_code 3 = .ok (.lload_n 2, 1) := by decide +kernel
theorem d1_4 : decode prog_8_method_7_code 4 = .ok (.bipush 30, 2) := by decide +kernel
theorem d1_6 : decode prog_8_method_7_code 6 = .ok (.lushr, 1) := by decide +kernel
theorem d1_7 : decode prog_8_method_7_code 7 = .ok (.lxor, 1) := by decide +kernel
theorem d1_8 : decode prog_8_method_7_code 8 = .ok (.ldc2_w 70, 3) := by decide +kernel
theorem d1_11 : decode prog_8_method_7_code 11 = .ok (.lmul, 1) := by decide +kernel
theorem d1_12 : decode prog_8_method_7_code 12 = .ok (.lstore_n 2, 1) := by decide +kernel
theorem d1_13 : decode prog_8_method_7_code 13 = .ok (.lload_n 2, 1) := by decide +kernel
theorem d1_14 : decode prog_8_method_7_code 14 = .ok (.lload_n 2, 1) := by decide +kernel
theorem d1_15 : decode prog_8_method_7_code 15 = .ok (.bipush 27, 2) := by decide +kernel
theorem d1_17 : decode prog_8_method_7_code 17 = .ok (.lushr, 1) := by decide +kernel
theorem d1_18 : decode prog_8_method_7_code 18 = .ok (.lxor, 1) := by decide +kernel
theorem d1_19 : decode prog_8_method_7_code 19 = .ok (.ldc2_w 72, 3) := by decide +kernel
theorem d1_22 : decode prog_8_method_7_code 22 = .ok (.lmul, 1) := by decide +kernel
theorem d1_23 : decode prog_8_method_7_code 23 = .ok (.lstore_n 2, 1) := by decide +kernel
theorem d1_24 : decode prog_8_method_7_code 24 = .ok (.lload_n 2, 1) := by decide +kernel
theorem d1_25 : decode prog_8_method_7_code 25 = .ok (.lload_n 2, 1) := by decide +kernel
theorem d1_26 : decode prog_8_method_7_code 26 = .ok (.bipush 31, 2) := by decide +kernel
theorem d1_28 : decode prog_8_method_7_code 28 = .ok (.lushr, 1) := by decide +kernel
theorem d1_29 : decode prog_8_method_7_code 29 = .ok (.lxor, 1) := by decide +kernel
theorem d1_30 : decode prog_8_method_7_code 30 = .ok (.lreturn, 1) := by decide +kernel
theorem own_pn43709 : plainName "com/example/bijecta/bijecta/hash/KeyHash" = true := by first | (simp [plainName, overriddenIn]; done) | decide +kernel
theorem ef_1 (m : MethodId) (za : Int64) : entryFrame m #[(.long za)] 4 = mkF m 0 #[.val (.long za), .second, .unset, .unset] [] := by first | (simp [entryFrame, mkF, argsToLocals, Value.category]; done) | rfl
def Q1 (Z : State) (za : Int64) (h0 : Heap) (n0 : Nat) (v : Option Value) (h : Heap) (L : List Loc) : Prop := v = some (.long (own_mix za)) ∧ Fr n0 L ∧ h = h0
set_option maxRecDepth 65536 in
set_option maxHeartbeats 40000000 in
theorem rm1 (l : Launch) (Z : State) (a0 : Array Value) (hw : ∀ d ∈ tables_1, d.before a0 Z = true) (ws : List Jvm.Cond) (za : Int64) (h0 : Heap) (n0 : Nat) (Z0 : n0 ≤ h0.size)  :
    MetFree l (⟨"com/example/bijecta/bijecta/hash/KeyHash", "mix", "(J)J"⟩ : MethodName) (head1 (Jvm.Cond.code (⟨"com/example/bijecta/bijecta/hash/KeyHash", "mix", "(J)J"⟩ : MethodName) prog_8_method_7_code 4 (some .long) :: ws) ({ frames := 0, cells := 0, slots := 0, locals := 0 } : Room)) (fun a U => a = #[(.long za)] ∧ Z.Warmed39 U.vm ∧ U.heap = h0) (fun _ _ _ _ _ => True) (fun _ U o U' => ∃ v L, o = .returned v ∧ Q1 Z za h0 n0 v U'.heap L ∧ FrameEnd U o U' L ({ frames := 0, cells := 0, slots := 0, locals := 0 } : Room).cells ({ frames := 0, cells := 0, slots := 0, locals := 0 } : Room).slots) := by
  refine MetFree.of_bodySF (plainFor_of_name own_pn43709) hisR ?_
  intro p e s m args below meth c s₁ Bd hml0 hP hK
  obtain ⟨rfl, hZ, hh⟩ := hP
  have hx := Bd.exec
  have hby := Bd.bytes
  have hml : c.maxLocals = 4 := hml0
  have hown : s.vm.findClass "com/example/bijecta/bijecta/hash/KeyHash" = some m.cls := findClass_of_methodNamed Bd.named
  have hnm := (name_of_methodNamed Bd.named Bd.method).1
  have X0 : Stand p l e ({ frames := 0, cells := 0, slots := 0, locals := 0 } : Room) s m #[(.long za)] below meth c s₁ [] 0 0 := Stand.of_body Bd
  have e0 : s₁.heap = h0 := by rw [← hh, Bd.state]; rfl
  have N0 := Fr.nil n0
  have K0 := Keep.refl h0 ([] : List Addr)
  show own_WP p e below (own_E s (Q1 Z za h0 n0) 0 0) s₁ (entryFrame m #[(.long za)] 4)
  rw [ef_1 m za]
  show own_WP _ _ _ _ s₁ (mkF m 0 #[.val (.long za), .second, .unset, .unset] [])
  refine own_go (fun t k => XS.lloadN X0.here hx rfl (hb hby d1_0) rfl  k) ?_
  show own_WP _ _ _ _ s₁ (mkF m 1 #[.val (.long za), .second, .unset, .unset] [(.long za)])
  refine own_go (fun t k => XS.lstoreN X0.here hx rfl (hb hby d1_1) rfl (l' := #[.val (.long za), .second, .val (.long za), .second]) rfl k) ?_
  show own_WP _ _ _ _ s₁ (mkF m 2 #[.val (.long za), .second, .val (.long za), .second] [])
  refine own_go (fun t k => XS.lloadN X0.here hx rfl (hb hby d1_2) rfl  k) ?_
  show own_WP _ _ _ _ s₁ (mkF m 3 #[.val (.long za), .second, .val (.long za), .second] [(.long za)])
  refine own_go (fun t k => XS.lloadN X0.here hx rfl (hb hby d1_3) rfl  k) ?_
  show own_WP _ _ _ _ s₁ (mkF m 4 #[.val (.long za), .second, .val (.long za), .second] [(.long za), (.long za)])
  refine own_go (fun t k => XS.bipush X0.here hx rfl (hb hby d1_4) k) ?_
  show own_WP _ _ _ _ s₁ (mkF m 6 #[.val (.long za), .second, .val (.long za), .second] [(.int (30 : Int32)), (.long za), (.long za)])
  refine own_go (fun t k => XS.lushr X0.here hx rfl (hb hby d1_6) rfl k) ?_
  show own_WP _ _ _ _ s₁ (mkF m 7 #[.val (.long za), .second, .val (.long za), .second] [(.long ((za.toUInt64 >>> ((30 : Int32) &&& 0x3f).toInt64.toUInt64).toInt64)), (.long za)])
  refine own_go (fun t k => XS.lxor X0.here hx rfl (hb hby d1_7) rfl k) ?_
  show own_WP _ _ _ _ s₁ (mkF m 8 #[.val (.long za), .second, .val (.long za), .second] [(.long (za ^^^ ((za.toUInt64 >>> ((30 : Int32) &&& 0x3f).toInt64.toUInt64).toInt64)))])
  refine own_go (fun t k => X0.ldc2Long hx hown (mvT hZ (hw _ (List.mem_of_getElem? (i := 4) rfl))) (g := (mkF m 8 #[.val (.long za), .second, .val (.long za), .second] [(.long (za ^^^ ((za.toUInt64 >>> ((30 : Int32) &&& 0x3f).toInt64.toUInt64).toInt64)))])) rfl (hb hby d1_8) t k) ?_
  show own_WP _ _ _ _ s₁ (mkF m 11 #[.val (.long za), .second, .val (.long za), .second] [(.long (-4658895280553007687 : Int64)), (.long (za ^^^ ((za.toUInt64 >>> ((30 : Int32) &&& 0x3f).toInt64.toUInt64).toInt64)))])
  refine own_go (fun t k => XS.lmul X0.here hx rfl (hb hby d1_11) rfl k) ?_
  show own_WP _ _ _ _ s₁ (mkF m 12 #[.val (.long za), .second, .val (.long za), .second] [(.long ((za ^^^ ((za.toUInt64 >>> ((30 : Int32) &&& 0x3f).toInt64.toUInt64).toInt64)) * (-4658895280553007687 : Int64)))])
  refine own_go (fun t k => XS.lstoreN X0.here hx rfl (hb hby d1_12) rfl (l' := #[.val (.long za), .second, .val (.long ((za ^^^ ((za.toUInt64 >>> ((30 : Int32) &&& 0x3f).toInt64.toUInt64).toInt64)) * (-4658895280553007687 : Int64))), .second]) rfl k) ?_
  show own_WP _ _ _ _ s₁ (mkF m 13 #[.val (.long za), .second, .val (.long ((za ^^^ ((za.toUInt64 >>> ((30 : Int32) &&& 0x3f).toInt64.toUInt64).toInt64)) * (-4658895280553007687 : Int64))), .second] [])
  refine own_go (fun t k => XS.lloadN X0.here hx rfl (hb hby d1_13) rfl  k) ?_
  show own_WP _ _ _ _ s₁ (mkF m 14 #[.val (.long za), .second, .val (.long ((za ^^^ ((za.toUInt64 >>> ((30 : Int32) &&& 0x3f).toInt64.toUInt64).toInt64)) * (-4658895280553007687 : Int64))), .second] [(.long ((za ^^^ ((za.toUInt64 >>> ((30 : Int32) &&& 0x3f).toInt64.toUInt64).toInt64)) * (-4658895280553007687 : Int64)))])
  refine own_go (fun t k => XS.lloadN X0.here hx rfl (hb hby d1_14) rfl  k) ?_
  show own_WP _ _ _ _ s₁ (mkF m 15 #[.val (.long za), .second, .val (.long ((za ^^^ ((za.toUInt64 >>> ((30 : Int32) &&& 0x3f).toInt64.toUInt64).toInt64)) * (-4658895280553007687 : Int64))), .second] [(.long ((za ^^^ ((za.toUInt64 >>> ((30 : Int32) &&& 0x3f).toInt64.toUInt64).toInt64)) * (-4658895280553007687 : Int64))), (.long ((za ^^^ ((za.toUInt64 >>> ((30 : Int32) &&& 0x3f).toInt64.toUInt64).toInt64)) * (-4658895280553007687 : Int64)))])
  refine own_go (fun t k => XS.bipush X0.here hx rfl (hb hby d1_15) k) ?_
  show own_WP _ _ _ _ s₁ (mkF m 17 #[.val (.long za), .second, .val (.long ((za ^^^ ((za.toUInt64 >>> ((30 : Int32) &&& 0x3f).toInt64.toUInt64).toInt64)) * (-4658895280553007687 : Int64))), .second] [(.int (27 : Int32)), (.long ((za ^^^ ((za.toUInt64 >>> ((30 : Int32) &&& 0x3f).toInt64.toUInt64).toInt64)) * (-4658895280553007687 : Int64))), (.long ((za ^^^ ((za.toUInt64 >>> ((30 : Int32) &&& 0x3f).toInt64.toUInt64).toInt64)) * (-4658895280553007687 : Int64)))])
  refine own_go (fun t k => XS.lushr X0.here hx rfl (hb hby d1_17) rfl k) ?_
  show own_WP _ _ _ _ s₁ (mkF m 18 #[.val (.long za), .second, .val (.long ((za ^^^ ((za.toUInt64 >>> ((30 : Int32) &&& 0x3f).toInt64.toUInt64).toInt64)) * (-4658895280553007687 : Int64))), .second] [(.long ((((za ^^^ ((za.toUInt64 >>> ((30 : Int32) &&& 0x3f).toInt64.toUInt64).toInt64)) * (-4658895280553007687 : Int64)).toUInt64 >>> ((27 : Int32) &&& 0x3f).toInt64.toUInt64).toInt64)), (.long ((za ^^^ ((za.toUInt64 >>> ((30 : Int32) &&& 0x3f).toInt64.toUInt64).toInt64)) * (-4658895280553007687 : Int64)))])
  refine own_go (fun t k => XS.lxor X0.here hx rfl (hb hby d1_18) rfl k) ?_
  show own_WP _ _ _ _ s₁ (mkF m 19 #[.val (.long za), .second, .val (.long ((za ^^^ ((za.toUInt64 >>> ((30 : Int32) &&& 0x3f).toInt64.toUInt64).toInt64)) * (-4658895280553007687 : Int64))), .second] [(.long (((za ^^^ ((za.toUInt64 >>> ((30 : Int32) &&& 0x3f).toInt64.toUInt64).toInt64)) * (-4658895280553007687 : Int64)) ^^^ ((((za ^^^ ((za.toUInt64 >>> ((30 : Int32) &&& 0x3f).toInt64.toUInt64).toInt64)) * (-4658895280553007687 : Int64)).toUInt64 >>> ((27 : Int32) &&& 0x3f).toInt64.toUInt64).toInt64)))])
  refine own_go (fun t k => X0.ldc2Long hx hown (mvT hZ (hw _ (List.mem_of_getElem? (i := 5) rfl))) (g := (mkF m 19 #[.val (.long za), .second, .val (.long ((za ^^^ ((za.toUInt64 >>> ((30 : Int32) &&& 0x3f).toInt64.toUInt64).toInt64)) * (-4658895280553007687 : Int64))), .second] [(.long (((za ^^^ ((za.toUInt64 >>> ((30 : Int32) &&& 0x3f).toInt64.toUInt64).toInt64)) * (-4658895280553007687 : Int64)) ^^^ ((((za ^^^ ((za.toUInt64 >>> ((30 : Int32) &&& 0x3f).toInt64.toUInt64).toInt64)) * (-4658895280553007687 : Int64)).toUInt64 >>> ((27 : Int32) &&& 0x3f).toInt64.toUInt64).toInt64)))])) rfl (hb hby d1_19) t k) ?_
  show own_WP _ _ _ _ s₁ (mkF m 22 #[.val (.long za), .second, .val (.long ((za ^^^ ((za.toUInt64 >>> ((30 : Int32) &&& 0x3f).toInt64.toUInt64).toInt64)) * (-4658895280553007687 : Int64))), .second] [(.long (-7723592293110705685 : Int64)), (.long (((za ^^^ ((za.toUInt64 >>> ((30 : Int32) &&& 0x3f).toInt64.toUInt64).toInt64)) * (-4658895280553007687 : Int64)) ^^^ ((((za ^^^ ((za.toUInt64 >>> ((30 : Int32) &&& 0x3f).toInt64.toUInt64).toInt64)) * (-4658895280553007687 : Int64)).toUInt64 >>> ((27 : Int32) &&& 0x3f).toInt64.toUInt64).toInt64)))])
  refine own_go (fun t k => XS.lmul X0.here hx rfl (hb hby d1_22) rfl k) ?_
  show own_WP _ _ _ _ s₁ (mkF m 23 #[.val (.long za), .second, .val (.long ((za ^^^ ((za.toUInt64 >>> ((30 : Int32) &&& 0x3f).toInt64.toUInt64).toInt64)) * (-4658895280553007687 : Int64))), .second] [(.long ((((za ^^^ ((za.toUInt64 >>> ((30 : Int32) &&& 0x3f).toInt64.toUInt64).toInt64)) * (-4658895280553007687 : Int64)) ^^^ ((((za ^^^ ((za.toUInt64 >>> ((30 : Int32) &&& 0x3f).toInt64.toUInt64).toInt64)) * (-4658895280553007687 : Int64)).toUInt64 >>> ((27 : Int32) &&& 0x3f).toInt64.toUInt64).toInt64)) * (-7723592293110705685 : Int64)))])
  refine own_go (fun t k => XS.lstoreN X0.here hx rfl (hb hby d1_23) rfl (l' := #[.val (.long za), .second, .val (.long ((((za ^^^ ((za.toUInt64 >>> ((30 : Int32) &&& 0x3f).toInt64.toUInt64).toInt64)) * (-4658895280553007687 : Int64)) ^^^ ((((za ^^^ ((za.toUInt64 >>> ((30 : Int32) &&& 0x3f).toInt64.toUInt64).toInt64)) * (-4658895280553007687 : Int64)).toUInt64 >>> ((27 : Int32) &&& 0x3f).toInt64.toUInt64).toInt64)) * (-7723592293110705685 : Int64))), .second]) rfl k) ?_
  show own_WP _ _ _ _ s₁ (mkF m 24 #[.val (.long za), .second, .val (.long ((((za ^^^ ((za.toUInt64 >>> ((30 : Int32) &&& 0x3f).toInt64.toUInt64).toInt64)) * (-4658895280553007687 : Int64)) ^^^ ((((za ^^^ ((za.toUInt64 >>> ((30 : Int32) &&& 0x3f).toInt64.toUInt64).toInt64)) * (-4658895280553007687 : Int64)).toUInt64 >>> ((27 : Int32) &&& 0x3f).toInt64.toUInt64).toInt64)) * (-7723592293110705685 : Int64))), .second] [])
  refine own_go (fun t k => XS.lloadN X0.here hx rfl (hb hby d1_24) rfl  k) ?_
  show own_WP _ _ _ _ s₁ (mkF m 25 #[.val (.long za), .second, .val (.long ((((za ^^^ ((za.toUInt64 >>> ((30 : Int32) &&& 0x3f).toInt64.toUInt64).toInt64)) * (-4658895280553007687 : Int64)) ^^^ ((((za ^^^ ((za.toUInt64 >>> ((30 : Int32) &&& 0x3f).toInt64.toUInt64).toInt64)) * (-4658895280553007687 : Int64)).toUInt64 >>> ((27 : Int32) &&& 0x3f).toInt64.toUInt64).toInt64)) * (-7723592293110705685 : Int64))), .second] [(.long ((((za ^^^ ((za.toUInt64 >>> ((30 : Int32) &&& 0x3f).toInt64.toUInt64).toInt64)) * (-4658895280553007687 : Int64)) ^^^ ((((za ^^^ ((za.toUInt64 >>> ((30 : Int32) &&& 0x3f).toInt64.toUInt64).toInt64)) * (-4658895280553007687 : Int64)).toUInt64 >>> ((27 : Int32) &&& 0x3f).toInt64.toUInt64).toInt64)) * (-7723592293110705685 : Int64)))])
  refine own_go (fun t k => XS.lloadN X0.here hx rfl (hb hby d1_25) rfl  k) ?_
  show own_WP _ _ _ _ s₁ (mkF m 26 #[.val (.long za), .second, .val (.long ((((za ^^^ ((za.toUInt64 >>> ((30 : Int32) &&& 0x3f).toInt64.toUInt64).toInt64)) * (-4658895280553007687 : Int64)) ^^^ ((((za ^^^ ((za.toUInt64 >>> ((30 : Int32) &&& 0x3f).toInt64.toUInt64).toInt64)) * (-4658895280553007687 : Int64)).toUInt64 >>> ((27 : Int32) &&& 0x3f).toInt64.toUInt64).toInt64)) * (-7723592293110705685 : Int64))), .second] [(.long ((((za ^^^ ((za.toUInt64 >>> ((30 : Int32) &&& 0x3f).toInt64.toUInt64).toInt64)) * (-4658895280553007687 : Int64)) ^^^ ((((za ^^^ ((za.toUInt64 >>> ((30 : Int32) &&& 0x3f).toInt64.toUInt64).toInt64)) * (-4658895280553007687 : Int64)).toUInt64 >>> ((27 : Int32) &&& 0x3f).toInt64.toUInt64).toInt64)) * (-7723592293110705685 : Int64))), (.long ((((za ^^^ ((za.toUInt64 >>> ((30 : Int32) &&& 0x3f).toInt64.toUInt64).toInt64)) * (-4658895280553007687 : Int64)) ^^^ ((((za ^^^ ((za.toUInt64 >>> ((30 : Int32) &&& 0x3f).toInt64.toUInt64).toInt64)) * (-4658895280553007687 : Int64)).toUInt64 >>> ((27 : Int32) &&& 0x3f).toInt64.toUInt64).toInt64)) * (-7723592293110705685 : Int64)))])
  refine own_go (fun t k => XS.bipush X0.here hx rfl (hb hby d1_26) k) ?_
  show own_WP _ _ _ _ s₁ (mkF m 28 #[.val (.long za), .second, .val (.long ((((za ^^^ ((za.toUInt64 >>> ((30 : Int32) &&& 0x3f).toInt64.toUInt64).toInt64)) * (-4658895280553007687 : Int64)) ^^^ ((((za ^^^ ((za.toUInt64 >>> ((30 : Int32) &&& 0x3f).toInt64.toUInt64).toInt64)) * (-4658895280553007687 : Int64)).toUInt64 >>> ((27 : Int32) &&& 0x3f).toInt64.toUInt64).toInt64)) * (-7723592293110705685 : Int64))), .second] [(.int (31 : Int32)), (.long ((((za ^^^ ((za.toUInt64 >>> ((30 : Int32) &&& 0x3f).toInt64.toUInt64).toInt64)) * (-4658895280553007687 : Int64)) ^^^ ((((za ^^^ ((za.toUInt64 >>> ((30 : Int32) &&& 0x3f).toInt64.toUInt64).toInt64)) * (-4658895280553007687 : Int64)).toUInt64 >>> ((27 : Int32) &&& 0x3f).toInt64.toUInt64).toInt64)) * (-7723592293110705685 : Int64))), (.long ((((za ^^^ ((za.toUInt64 >>> ((30 : Int32) &&& 0x3f).toInt64.toUInt64).toInt64)) * (-4658895280553007687 : Int64)) ^^^ ((((za ^^^ ((za.toUInt64 >>> ((30 : Int32) &&& 0x3f).toInt64.toUInt64).toInt64)) * (-4658895280553007687 : Int64)).toUInt64 >>> ((27 : Int32) &&& 0x3f).toInt64.toUInt64).toInt64)) * (-7723592293110705685 : Int64)))])
  refine own_go (fun t k => XS.lushr X0.here hx rfl (hb hby d1_28) rfl k) ?_
  show own_WP _ _ _ _ s₁ (mkF m 29 #[.val (.long za), .second, .val (.long ((((za ^^^ ((za.toUInt64 >>> ((30 : Int32) &&& 0x3f).toInt64.toUInt64).toInt64)) * (-4658895280553007687 : Int64)) ^^^ ((((za ^^^ ((za.toUInt64 >>> ((30 : Int32) &&& 0x3f).toInt64.toUInt64).toInt64)) * (-4658895280553007687 : Int64)).toUInt64 >>> ((27 : Int32) &&& 0x3f).toInt64.toUInt64).toInt64)) * (-7723592293110705685 : Int64))), .second] [(.long ((((((za ^^^ ((za.toUInt64 >>> ((30 : Int32) &&& 0x3f).toInt64.toUInt64).toInt64)) * (-4658895280553007687 : Int64)) ^^^ ((((za ^^^ ((za.toUInt64 >>> ((30 : Int32) &&& 0x3f).toInt64.toUInt64).toInt64)) * (-4658895280553007687 : Int64)).toUInt64 >>> ((27 : Int32) &&& 0x3f).toInt64.toUInt64).toInt64)) * (-7723592293110705685 : Int64)).toUInt64 >>> ((31 : Int32) &&& 0x3f).toInt64.toUInt64).toInt64)), (.long ((((za ^^^ ((za.toUInt64 >>> ((30 : Int32) &&& 0x3f).toInt64.toUInt64).toInt64)) * (-4658895280553007687 : Int64)) ^^^ ((((za ^^^ ((za.toUInt64 >>> ((30 : Int32) &&& 0x3f).toInt64.toUInt64).toInt64)) * (-4658895280553007687 : Int64)).toUInt64 >>> ((27 : Int32) &&& 0x3f).toInt64.toUInt64).toInt64)) * (-7723592293110705685 : Int64)))])
  refine own_go (fun t k => XS.lxor X0.here hx rfl (hb hby d1_29) rfl k) ?_
  show own_WP _ _ _ _ s₁ (mkF m 30 #[.val (.long za), .second, .val (.long ((((za ^^^ ((za.toUInt64 >>> ((30 : Int32) &&& 0x3f).toInt64.toUInt64).toInt64)) * (-4658895280553007687 : Int64)) ^^^ ((((za ^^^ ((za.toUInt64 >>> ((30 : Int32) &&& 0x3f).toInt64.toUInt64).toInt64)) * (-4658895280553007687 : Int64)).toUInt64 >>> ((27 : Int32) &&& 0x3f).toInt64.toUInt64).toInt64)) * (-7723592293110705685 : Int64))), .second] [(.long (((((za ^^^ ((za.toUInt64 >>> ((30 : Int32) &&& 0x3f).toInt64.toUInt64).toInt64)) * (-4658895280553007687 : Int64)) ^^^ ((((za ^^^ ((za.toUInt64 >>> ((30 : Int32) &&& 0x3f).toInt64.toUInt64).toInt64)) * (-4658895280553007687 : Int64)).toUInt64 >>> ((27 : Int32) &&& 0x3f).toInt64.toUInt64).toInt64)) * (-7723592293110705685 : Int64)) ^^^ ((((((za ^^^ ((za.toUInt64 >>> ((30 : Int32) &&& 0x3f).toInt64.toUInt64).toInt64)) * (-4658895280553007687 : Int64)) ^^^ ((((za ^^^ ((za.toUInt64 >>> ((30 : Int32) &&& 0x3f).toInt64.toUInt64).toInt64)) * (-4658895280553007687 : Int64)).toUInt64 >>> ((27 : Int32) &&& 0x3f).toInt64.toUInt64).toInt64)) * (-7723592293110705685 : Int64)).toUInt64 >>> ((31 : Int32) &&& 0x3f).toInt64.toUInt64).toInt64)))])
  refine own_retJ X0 hx Bd.notSynchronized Bd.returns (hb hby d1_30) (by decide) (by decide) ?_
  rw [e0]
  exact ⟨(congrArg (fun z => some (Value.long z)) (show (((((za ^^^ ((za.toUInt64 >>> ((30 : Int32) &&& 0x3f).toInt64.toUInt64).toInt64)) * (-4658895280553007687 : Int64)) ^^^ ((((za ^^^ ((za.toUInt64 >>> ((30 : Int32) &&& 0x3f).toInt64.toUInt64).toInt64)) * (-4658895280553007687 : Int64)).toUInt64 >>> ((27 : Int32) &&& 0x3f).toInt64.toUInt64).toInt64)) * (-7723592293110705685 : Int64)) ^^^ ((((((za ^^^ ((za.toUInt64 >>> ((30 : Int32) &&& 0x3f).toInt64.toUInt64).toInt64)) * (-4658895280553007687 : Int64)) ^^^ ((((za ^^^ ((za.toUInt64 >>> ((30 : Int32) &&& 0x3f).toInt64.toUInt64).toInt64)) * (-4658895280553007687 : Int64)).toUInt64 >>> ((27 : Int32) &&& 0x3f).toInt64.toUInt64).toInt64)) * (-7723592293110705685 : Int64)).toUInt64 >>> ((31 : Int32) &&& 0x3f).toInt64.toUInt64).toInt64)) = (own_mix za) from by rfl)), N0, rfl⟩
theorem d2_0 : decode method_2_code 0 = .ok (.lload_n 0, 1) := by decide +kernel
theorem d2_1 : decode method_2_code 1 = .ok (.lstore_n 2, 1) := by decide +kernel
theorem d2_2 : decode method_2_code 2 = .ok (.lload_n 2, 1) := by decide +kernel
theorem d2_3 : decode method_2_code 3 = .ok (.ldc2_w 7, 3) := by decide +kernel
theorem d2_6 : decode method_2_code 6 = .ok (.lload_n 0, 1) := by decide +kernel
theorem d2_7 : decode method_2_code 7 = .ok (.lload_n 2, 1) := by decide +kernel
theorem d2_8 : decode method_2_code 8 = .ok (.lmul, 1) := by decide +kernel
theorem d2_9 : decode method_2_code 9 = .ok (.lsub, 1) := by decide +kernel
theorem d2_10 : decode method_2_code 10 = .ok (.lmul, 1) := by decide +kernel
theorem d2_11 : decode method_2_code 11 = .ok (.lstore_n 2, 1) := by decide +kernel
theorem d2_12 : decode method_2_code 12 = .ok (.lload_n 2, 1) := by decide +kernel
theorem d2_13 : decode method_2_code 13 = .ok (.ldc2_w 7, 3) := by decide +kernel
theorem d2_16 : decode method_2_code 16 = .ok (.lload_n 0, 1) := by decide +kernel
theorem d2_17 : decode method_2_code 17 = .ok (.lload_n 2, 1) := by decide +kernel
theorem d2_18 : decode method_2_code 18 = .ok (.lmul, 1) := by decide +kernel
theorem d2_19 : decode method_2_code 19 = .ok (.lsub, 1) := by decide +kernel
theorem d2_20 : decode method_2_code 20 = .ok (.lmul, 1) := by decide +kernel
theorem d2_21 : decode method_2_code 21 = .ok (.lstore_n 2, 1) := by decide +kernel
theorem d2_22 : decode method_2_code 22 = .ok (.lload_n 2, 1) := by decide +kernel
theorem d2_23 : decode method_2_code 23 = .ok (.ldc2_w 7, 3) := by decide +kernel
theorem d2_26 : decode method_2_code 26 = .ok (.lload_n 0, 1) := by decide +kernel
theorem d2_27 : decode method_2_code 27 = .ok (.lload_n 2, 1) := by decide +kernel
theorem d2_28 : decode method_2_code 28 = .ok (.lmul, 1) := by decide +kernel
theorem d2_29 : decode method_2_code 29 = .ok (.lsub, 1) := by decide +kernel
theorem d2_30 : decode method_2_code 30 = .ok (.lmul, 1) := by decide +kernel
theorem d2_31 : decode method_2_code 31 = .ok (.lstore_n 2, 1) := by decide +kernel
theorem d2_32 : decode method_2_code 32 = .ok (.lload_n 2, 1) := by decide +kernel
theorem d2_33 : decode method_2_code 33 = .ok (.ldc2_w 7, 3) := by decide +kernel
theorem d2_36 : decode method_2_code 36 = .ok (.lload_n 0, 1) := by decide +kernel
theorem d2_37 : decode method_2_code 37 = .ok (.lload_n 2, 1) := by decide +kernel
theorem d2_38 : decode method_2_code 38 = .ok (.lmul, 1) := by decide +kernel
theorem d2_39 : decode method_2_code 39 = .ok (.lsub, 1) := by decide +kernel
theorem d2_40 : decode method_2_code 40 = .ok (.lmul, 1) := by decide +kernel
theorem d2_41 : decode method_2_code 41 = .ok (.lstore_n 2, 1) := by decide +kernel
theorem d2_42 : decode method_2_code 42 = .ok (.lload_n 2, 1) := by decide +kernel
theorem d2_43 : decode method_2_code 43 = .ok (.ldc2_w 7, 3) := by decide +kernel
theorem d2_46 : decode method_2_code 46 = .ok (.lload_n 0, 1) := by decide +kernel
theorem d2_47 : decode method_2_code 47 = .ok (.lload_n 2, 1) := by decide +kernel
theorem d2_48 : decode method_2_code 48 = .ok (.lmul, 1) := by decide +kernel
theorem d2_49 : decode method_2_code 49 = .ok (.lsub, 1) := by decide +kernel
theorem d2_50 : decode method_2_code 50 = .ok (.lmul, 1) := by decide +kernel
theorem d2_51 : decode method_2_code 51 = .ok (.lstore_n 2, 1) := by decide +kernel
theorem d2_52 : decode method_2_code 52 = .ok (.lload_n 2, 1) := by decide +kernel
theorem d2_53 : decode method_2_code 53 = .ok (.lreturn, 1) := by decide +kernel
theorem own_pn46056 : plainName "com/example/bijecta/bijecta/hash/KeyHashMixPinLaw" = true := by first | (simp [plainName, overriddenIn]; done) | decide +kernel
theorem ef_2 (m : MethodId) (za : Int64) : entryFrame m #[(.long za)] 4 = mkF m 0 #[.val (.long za), .second, .unset, .unset] [] := by first | (simp [entryFrame, mkF, argsToLocals, Value.category]; done) | rfl
def Q2 (Z : State) (za : Int64) (h0 : Heap) (n0 : Nat) (v : Option Value) (h : Heap) (L : List Loc) : Prop := v = some (.long (own_inv za)) ∧ Fr n0 L ∧ h = h0
set_option maxRecDepth 65536 in
set_option maxHeartbeats 40000000 in
theorem rm2 (l : Launch) (Z : State) (a0 : Array Value) (hw : ∀ d ∈ tables_1, d.before a0 Z = true) (ws : List Jvm.Cond) (za : Int64) (h0 : Heap) (n0 : Nat) (Z0 : n0 ≤ h0.size)  :
    MetFree l (⟨"com/example/bijecta/bijecta/hash/KeyHashMixPinLaw", "inverse", "(J)J"⟩ : MethodName) (head1 (Jvm.Cond.code (⟨"com/example/bijecta/bijecta/hash/KeyHashMixPinLaw", "inverse", "(J)J"⟩ : MethodName) method_2_code 4 (some .long) :: ws) ({ frames := 0, cells := 0, slots := 0, locals := 0 } : Room)) (fun a U => a = #[(.long za)] ∧ Z.Warmed39 U.vm ∧ U.heap = h0) (fun _ _ _ _ _ => True) (fun _ U o U' => ∃ v L, o = .returned v ∧ Q2 Z za h0 n0 v U'.heap L ∧ FrameEnd U o U' L ({ frames := 0, cells := 0, slots := 0, locals := 0 } : Room).cells ({ frames := 0, cells := 0, slots := 0, locals := 0 } : Room).slots) := by
  refine MetFree.of_bodySF (plainFor_of_name own_pn46056) hisR ?_
  intro p e s m args below meth c s₁ Bd hml0 hP hK
  obtain ⟨rfl, hZ, hh⟩ := hP
  have hx := Bd.exec
  have hby := Bd.bytes
  have hml : c.maxLocals = 4 := hml0
  have hown : s.vm.findClass "com/example/bijecta/bijecta/hash/KeyHashMixPinLaw" = some m.cls := findClass_of_methodNamed Bd.named
  have hnm := (name_of_methodNamed Bd.named Bd.method).1
  have X0 : Stand p l e ({ frames := 0, cells := 0, slots := 0, locals := 0 } : Room) s m #[(.long za)] below meth c s₁ [] 0 0 := Stand.of_body Bd
  have e0 : s₁.heap = h0 := by rw [← hh, Bd.state]; rfl
  have N0 := Fr.nil n0
  have K0 := Keep.refl h0 ([] : List Addr)
  show own_WP p e below (own_E s (Q2 Z za h0 n0) 0 0) s₁ (entryFrame m #[(.long za)] 4)
  rw [ef_2 m za]
  show own_WP _ _ _ _ s₁ (mkF m 0 #[.val (.long za), .second, .unset, .unset] [])
  refine own_go (fun t k => XS.lloadN X0.here hx rfl (hb hby d2_0) rfl  k) ?_
  show own_WP _ _ _ _ s₁ (mkF m 1 #[.val (.long za), .second, .unset, .unset] [(.long za)])
  refine own_go (fun t k => XS.lstoreN X0.here hx rfl (hb hby d2_1) rfl (l' := #[.val (.long za), .second, .val (.long za), .second]) rfl k) ?_
  show own_WP _ _ _ _ s₁ (mkF m 2 #[.val (.long za), .second, .val (.long za), .second] [])
  refine own_go (fun t k => XS.lloadN X0.here hx rfl (hb hby d2_2) rfl  k) ?_
  show own_WP _ _ _ _ s₁ (mkF m 3 #[.val (.long za), .second, .val (.long za), .second] [(.long za)])
  refine own_go (fun t k => X0.ldc2Long hx hown (mvT hZ (hw _ (List.mem_of_getElem? (i := 11) rfl))) (g := (mkF m 3 #[.val (.long za), .second, .val (.long za), .second] [(.long za)])) rfl (hb hby d2_3) t k) ?_
  show own_WP _ _ _ _ s₁ (mkF m 6 #[.val (.long za), .second, .val (.long za), .second] [(.long (2 : Int64)), (.long za)])
  refine own_go (fun t k => XS.lloadN X0.here hx rfl (hb hby d2_6) rfl  k) ?_
  show own_WP _ _ _ _ s₁ (mkF m 7 #[.val (.long za), .second, .val (.long za), .second] [(.long za), (.long (2 : Int64)), (.long za)])
  refine own_go (fun t k => XS.lloadN X0.here hx rfl (hb hby d2_7) rfl  k) ?_
  show own_WP _ _ _ _ s₁ (mkF m 8 #[.val (.long za), .second, .val (.long za), .second] [(.long za), (.long za), (.long (2 : Int64)), (.long za)])
  refine own_go (fun t k => XS.lmul X0.here hx rfl (hb hby d2_8) rfl k) ?_
  show own_WP _ _ _ _ s₁ (mkF m 9 #[.val (.long za), .second, .val (.long za), .second] [(.long (za * za)), (.long (2 : Int64)), (.long za)])
  refine own_go (fun t k => XS.lsub X0.here hx rfl (hb hby d2_9) rfl k) ?_
  show own_WP _ _ _ _ s₁ (mkF m 10 #[.val (.long za), .second, .val (.long za), .second] [(.long ((2 : Int64) - (za * za))), (.long za)])
  refine own_go (fun t k => XS.lmul X0.here hx rfl (hb hby d2_10) rfl k) ?_
  show own_WP _ _ _ _ s₁ (mkF m 11 #[.val (.long za), .second, .val (.long za), .second] [(.long (za * ((2 : Int64) - (za * za))))])
  generalize d_r1 : (za * ((2 : Int64) - (za * za))) = r1
  refine own_go (fun t k => XS.lstoreN X0.here hx rfl (hb hby d2_11) rfl (l' := #[.val (.long za), .second, .val (.long r1), .second]) rfl k) ?_
  show own_WP _ _ _ _ s₁ (mkF m 12 #[.val (.long za), .second, .val (.long r1), .second] [])
  refine own_go (fun t k => XS.lloadN X0.here hx rfl (hb hby d2_12) rfl  k) ?_
  show own_WP _ _ _ _ s₁ (mkF m 13 #[.val (.long za), .second, .val (.long r1), .second] [(.long r1)])
  refine own_go (fun t k => X0.ldc2Long hx hown (mvT hZ (hw _ (List.mem_of_getElem? (i := 11) rfl))) (g := (mkF m 13 #[.val (.long za), .second, .val (.long r1), .second] [(.long r1)])) rfl (hb hby d2_13) t k) ?_
  show own_WP _ _ _ _ s₁ (mkF m 16 #[.val (.long za), .second, .val (.long r1), .second] [(.long (2 : Int64)), (.long r1)])
  refine own_go (fun t k => XS.lloadN X0.here hx rfl (hb hby d2_16) rfl  k) ?_
  show own_WP _ _ _ _ s₁ (mkF m 17 #[.val (.long za), .second, .val (.long r1), .second] [(.long za), (.long (2 : Int64)), (.long r1)])
  refine own_go (fun t k => XS.lloadN X0.here hx rfl (hb hby d2_17) rfl  k) ?_
  show own_WP _ _ _ _ s₁ (mkF m 18 #[.val (.long za), .second, .val (.long r1), .second] [(.long r1), (.long za), (.long (2 : Int64)), (.long r1)])
  refine own_go (fun t k => XS.lmul X0.here hx rfl (hb hby d2_18) rfl k) ?_
  show own_WP _ _ _ _ s₁ (mkF m 19 #[.val (.long za), .second, .val (.long r1), .second] [(.long (za * r1)), (.long (2 : Int64)), (.long r1)])
  refine own_go (fun t k => XS.lsub X0.here hx rfl (hb hby d2_19) rfl k) ?_
  show own_WP _ _ _ _ s₁ (mkF m 20 #[.val (.long za), .second, .val (.long r1), .second] [(.long ((2 : Int64) - (za * r1))), (.long r1)])
  refine own_go (fun t k => XS.lmul X0.here hx rfl (hb hby d2_20) rfl k) ?_
  show own_WP _ _ _ _ s₁ (mkF m 21 #[.val (.long za), .second, .val (.long r1), .second] [(.long (r1 * ((2 : Int64) - (za * r1))))])
  generalize d_r2 : (r1 * ((2 : Int64) - (za * r1))) = r2
  refine own_go (fun t k => XS.lstoreN X0.here hx rfl (hb hby d2_21) rfl (l' := #[.val (.long za), .second, .val (.long r2), .second]) rfl k) ?_
  show own_WP _ _ _ _ s₁ (mkF m 22 #[.val (.long za), .second, .val (.long r2), .second] [])
  refine own_go (fun t k => XS.lloadN X0.here hx rfl (hb hby d2_22) rfl  k) ?_
  show own_WP _ _ _ _ s₁ (mkF m 23 #[.val (.long za), .second, .val (.long r2), .second] [(.long r2)])
  refine own_go (fun t k => X0.ldc2Long hx hown (mvT hZ (hw _ (List.mem_of_getElem? (i := 11) rfl))) (g := (mkF m 23 #[.val (.long za), .second, .val (.long r2), .second] [(.long r2)])) rfl (hb hby d2_23) t k) ?_
  show own_WP _ _ _ _ s₁ (mkF m 26 #[.val (.long za), .second, .val (.long r2), .second] [(.long (2 : Int64)), (.long r2)])
  refine own_go (fun t k => XS.lloadN X0.here hx rfl (hb hby d2_26) rfl  k) ?_
  show own_WP _ _ _ _ s₁ (mkF m 27 #[.val (.long za), .second, .val (.long r2), .second] [(.long za), (.long (2 : Int64)), (.long r2)])
  refine own_go (fun t k => XS.lloadN X0.here hx rfl (hb hby d2_27) rfl  k) ?_
  show own_WP _ _ _ _ s₁ (mkF m 28 #[.val (.long za), .second, .val (.long r2), .second] [(.long r2), (.long za), (.long (2 : Int64)), (.long r2)])
  refine own_go (fun t k => XS.lmul X0.here hx rfl (hb hby d2_28) rfl k) ?_
  show own_WP _ _ _ _ s₁ (mkF m 29 #[.val (.long za), .second, .val (.long r2), .second] [(.long (za * r2)), (.long (2 : Int64)), (.long r2)])
  refine own_go (fun t k => XS.lsub X0.here hx rfl (hb hby d2_29) rfl k) ?_
  show own_WP _ _ _ _ s₁ (mkF m 30 #[.val (.long za), .second, .val (.long r2), .second] [(.long ((2 : Int64) - (za * r2))), (.long r2)])
  refine own_go (fun t k => XS.lmul X0.here hx rfl (hb hby d2_30) rfl k) ?_
  show own_WP _ _ _ _ s₁ (mkF m 31 #[.val (.long za), .second, .val (.long r2), .second] [(.long (r2 * ((2 : Int64) - (za * r2))))])
  generalize d_r3 : (r2 * ((2 : Int64) - (za * r2))) = r3
  refine own_go (fun t k => XS.lstoreN X0.here hx rfl (hb hby d2_31) rfl (l' := #[.val (.long za), .second, .val (.long r3), .second]) rfl k) ?_
  show own_WP _ _ _ _ s₁ (mkF m 32 #[.val (.long za), .second, .val (.long r3), .second] [])
  refine own_go (fun t k => XS.lloadN X0.here hx rfl (hb hby d2_32) rfl  k) ?_
  show own_WP _ _ _ _ s₁ (mkF m 33 #[.val (.long za), .second, .val (.long r3), .second] [(.long r3)])
  refine own_go (fun t k => X0.ldc2Long hx hown (mvT hZ (hw _ (List.mem_of_getElem? (i := 11) rfl))) (g := (mkF m 33 #[.val (.long za), .second, .val (.long r3), .second] [(.long r3)])) rfl (hb hby d2_33) t k) ?_
  show own_WP _ _ _ _ s₁ (mkF m 36 #[.val (.long za), .second, .val (.long r3), .second] [(.long (2 : Int64)), (.long r3)])
  refine own_go (fun t k => XS.lloadN X0.here hx rfl (hb hby d2_36) rfl  k) ?_
  show own_WP _ _ _ _ s₁ (mkF m 37 #[.val (.long za), .second, .val (.long r3), .second] [(.long za), (.long (2 : Int64)), (.long r3)])
  refine own_go (fun t k => XS.lloadN X0.here hx rfl (hb hby d2_37) rfl  k) ?_
  show own_WP _ _ _ _ s₁ (mkF m 38 #[.val (.long za), .second, .val (.long r3), .second] [(.long r3), (.long za), (.long (2 : Int64)), (.long r3)])
  refine own_go (fun t k => XS.lmul X0.here hx rfl (hb hby d2_38) rfl k) ?_
  show own_WP _ _ _ _ s₁ (mkF m 39 #[.val (.long za), .second, .val (.long r3), .second] [(.long (za * r3)), (.long (2 : Int64)), (.long r3)])
  refine own_go (fun t k => XS.lsub X0.here hx rfl (hb hby d2_39) rfl k) ?_
  show own_WP _ _ _ _ s₁ (mkF m 40 #[.val (.long za), .second, .val (.long r3), .second] [(.long ((2 : Int64) - (za * r3))), (.long r3)])
  refine own_go (fun t k => XS.lmul X0.here hx rfl (hb hby d2_40) rfl k) ?_
  show own_WP _ _ _ _ s₁ (mkF m 41 #[.val (.long za), .second, .val (.long r3), .second] [(.long (r3 * ((2 : Int64) - (za * r3))))])
  generalize d_r4 : (r3 * ((2 : Int64) - (za * r3))) = r4
  refine own_go (fun t k => XS.lstoreN X0.here hx rfl (hb hby d2_41) rfl (l' := #[.val (.long za), .second, .val (.long r4), .second]) rfl k) ?_
  show own_WP _ _ _ _ s₁ (mkF m 42 #[.val (.long za), .second, .val (.long r4), .second] [])
  refine own_go (fun t k => XS.lloadN X0.here hx rfl (hb hby d2_42) rfl  k) ?_
  show own_WP _ _ _ _ s₁ (mkF m 43 #[.val (.long za), .second, .val (.long r4), .second] [(.long r4)])
  refine own_go (fun t k => X0.ldc2Long hx hown (mvT hZ (hw _ (List.mem_of_getElem? (i := 11) rfl))) (g := (mkF m 43 #[.val (.long za), .second, .val (.long r4), .second] [(.long r4)])) rfl (hb hby d2_43) t k) ?_
  show own_WP _ _ _ _ s₁ (mkF m 46 #[.val (.long za), .second, .val (.long r4), .second] [(.long (2 : Int64)), (.long r4)])
  refine own_go (fun t k => XS.lloadN X0.here hx rfl (hb hby d2_46) rfl  k) ?_
  show own_WP _ _ _ _ s₁ (mkF m 47 #[.val (.long za), .second, .val (.long r4), .second] [(.long za), (.long (2 : Int64)), (.long r4)])
  refine own_go (fun t k => XS.lloadN X0.here hx rfl (hb hby d2_47) rfl  k) ?_
  show own_WP _ _ _ _ s₁ (mkF m 48 #[.val (.long za), .second, .val (.long r4), .second] [(.long r4), (.long za), (.long (2 : Int64)), (.long r4)])
  refine own_go (fun t k => XS.lmul X0.here hx rfl (hb hby d2_48) rfl k) ?_
  show own_WP _ _ _ _ s₁ (mkF m 49 #[.val (.long za), .second, .val (.long r4), .second] [(.long (za * r4)), (.long (2 : Int64)), (.long r4)])
  refine own_go (fun t k => XS.lsub X0.here hx rfl (hb hby d2_49) rfl k) ?_
  show own_WP _ _ _ _ s₁ (mkF m 50 #[.val (.long za), .second, .val (.long r4), .second] [(.long ((2 : Int64) - (za * r4))), (.long r4)])
  refine own_go (fun t k => XS.lmul X0.here hx rfl (hb hby d2_50) rfl k) ?_
  show own_WP _ _ _ _ s₁ (mkF m 51 #[.val (.long za), .second, .val (.long r4), .second] [(.long (r4 * ((2 : Int64) - (za * r4))))])
  generalize d_r5 : (r4 * ((2 : Int64) - (za * r4))) = r5
  refine own_go (fun t k => XS.lstoreN X0.here hx rfl (hb hby d2_51) rfl (l' := #[.val (.long za), .second, .val (.long r5), .second]) rfl k) ?_
  show own_WP _ _ _ _ s₁ (mkF m 52 #[.val (.long za), .second, .val (.long r5), .second] [])
  refine own_go (fun t k => XS.lloadN X0.here hx rfl (hb hby d2_52) rfl  k) ?_
  show own_WP _ _ _ _ s₁ (mkF m 53 #[.val (.long za), .second, .val (.long r5), .second] [(.long r5)])
  refine own_retJ X0 hx Bd.notSynchronized Bd.returns (hb hby d2_53) (by decide) (by decide) ?_
  rw [e0]
  exact ⟨(congrArg (fun z => some (Value.long z)) (show r5 = (own_inv za) from by subst d_r1 d_r2 d_r3 d_r4 d_r5; rfl)), N0, rfl⟩
theorem own_pd98999 : parseMethodDescriptor "(J)J" = some ⟨[.long], some .long⟩ := by decide +kernel
theorem ef_0 (m : MethodId) (za : Int64) : entryFrame m #[(.long za)] maxLocals = mkF m 0 #[.val (.long za), .second, .unset, .unset, .unset, .unset] [] := by first | (simp [entryFrame, mkF, argsToLocals, Value.category, maxLocals]; done) | rfl
def Q0 (Z : State) (za : Int64) (h0 : Heap) (n0 : Nat) (v : Option Value) (h : Heap) (L : List Loc) : Prop := v = some (.int 1) ∧ Fr n0 L
set_option maxRecDepth 65536 in
set_option maxHeartbeats 40000000 in
theorem rm0 (l : Launch) (Z : State) (a0 : Array Value) (hw : ∀ d ∈ tables_1, d.before a0 Z = true) (ws : List Jvm.Cond) (za : Int64) (h0 : Heap) (n0 : Nat) (Z0 : n0 ≤ h0.size)  :
    MetFree l x (head1 (Jvm.Cond.code x code maxLocals ret :: ws) room_1) (fun a U => a = #[(.long za)] ∧ Z.Warmed39 U.vm ∧ U.heap = h0) (fun _ _ _ _ _ => True) (fun _ U o U' => ∃ v L, o = .returned v ∧ Q0 Z za h0 n0 v U'.heap L ∧ FrameEnd U o U' L 0 0) := by
  refine MetFree.of_bodySF (plainFor_of_name own_pn46056) hisR ?_
  intro p e s m args below meth c s₁ Bd hml0 hP hK
  obtain ⟨rfl, hZ, hh⟩ := hP
  have hx := Bd.exec
  have hby := Bd.bytes
  have hml : c.maxLocals = 6 := hml0
  have hown : s.vm.findClass "com/example/bijecta/bijecta/hash/KeyHashMixPinLaw" = some m.cls := findClass_of_methodNamed Bd.named
  have hnm := (name_of_methodNamed Bd.named Bd.method).1
  have X0 : Stand p l e room_1 s m #[(.long za)] below meth c s₁ [] 0 0 := Stand.of_body Bd
  have e0 : s₁.heap = h0 := by rw [← hh, Bd.state]; rfl
  have N0 := Fr.nil n0
  have K0 := Keep.refl h0 ([] : List Addr)
  show own_WP p e below (own_E s (Q0 Z za h0 n0) 0 0) s₁ (entryFrame m #[(.long za)] maxLocals)
  rw [ef_0 m za]
  show own_WP _ _ _ _ s₁ (mkF m 0 #[.val (.long za), .second, .unset, .unset, .unset, .unset] [])
  refine own_go (fun t k => XS.lloadN X0.here hx rfl (hb hby at_0) rfl  k) ?_
  show own_WP _ _ _ _ s₁ (mkF m 1 #[.val (.long za), .second, .unset, .unset, .unset, .unset] [(.long za)])
  obtain ⟨_, _, ⟨T1, L1, k1, n1⟩, -, X1, ⟨Lc1, hQ1, l1, y1, z1⟩, st1⟩ := Jvm.LawKit.callS X0 hx (y := (⟨"com/example/bijecta/bijecta/hash/KeyHash", "mix", "(J)J"⟩ : MethodName)) hown (mvT hZ (hw _ (List.mem_of_getElem? (i := 0) rfl))) (mvT hZ (hw _ (List.mem_of_getElem? (i := 1) rfl))) (mvT hZ (hw _ (List.mem_of_getElem? (i := 2) rfl))) (mvT hZ (hw _ (List.mem_of_getElem? (i := 3) rfl))) (by decide) (backOf (W := 0) (rm1 l Z a0 hw [] za  h0 n0 (own_le Z0 K0) ) hZ (hw _ (List.mem_of_getElem? (i := 3) rfl)) (hw _ (List.mem_of_getElem? (i := 2) rfl)) (by decide) (by decide)) (g := (mkF m 1 #[.val (.long za), .second, .unset, .unset, .unset, .unset] [(.long za)])) rfl (by rw [hml]; rfl) (argsL := [(.long za)]) (rest := []) (lenOf own_pd98999 rfl) rfl (by show 2 * 0 + _ ≤ _; exact Nat.le_of_eq rfl) (hb hby at_1) (fun _ _ => ⟨rfl, e0, (by decide : 0 + 0 ≤ _), (by decide : 0 + 0 ≤ _)⟩)
  dsimp only [Pt.U, Pt.locs, Pt.cells, Pt.slots] at X1 l1 y1 z1 st1 hQ1
  subst l1 y1 z1
  obtain ⟨rfl, N1q, eq1⟩ := hQ1
  have N1 := Fr.app N0 N1q
  refine own_go st1 ?_
  show own_WP _ _ _ _ T1 (mkF m 4 #[.val (.long za), .second, .unset, .unset, .unset, .unset] [(.long (own_mix za))])
  generalize d_z0 : (own_mix za) = z0
  refine own_go (fun t k => XS.lstoreN X1.here hx rfl (hb hby at_4) rfl (l' := #[.val (.long za), .second, .val (.long z0), .second, .unset, .unset]) rfl k) ?_
  show own_WP _ _ _ _ T1 (mkF m 5 #[.val (.long za), .second, .val (.long z0), .second, .unset, .unset] [])
  refine own_go (fun t k => XS.lloadN X1.here hx rfl (hb hby at_5) rfl  k) ?_
  show own_WP _ _ _ _ T1 (mkF m 6 #[.val (.long za), .second, .val (.long z0), .second, .unset, .unset] [(.long z0)])
  refine own_go (fun t k => XS.lloadN X1.here hx rfl (hb hby at_6) rfl  k) ?_
  show own_WP _ _ _ _ T1 (mkF m 7 #[.val (.long za), .second, .val (.long z0), .second, .unset, .unset] [(.long z0), (.long z0)])
  refine own_go (fun t k => XS.bipush X1.here hx rfl (hb hby at_7) k) ?_
  show own_WP _ _ _ _ T1 (mkF m 9 #[.val (.long za), .second, .val (.long z0), .second, .unset, .unset] [(.int (31 : Int32)), (.long z0), (.long z0)])
  refine own_go (fun t k => XS.lushr X1.here hx rfl (hb hby at_9) rfl k) ?_
  show own_WP _ _ _ _ T1 (mkF m 10 #[.val (.long za), .second, .val (.long z0), .second, .unset, .unset] [(.long ((z0.toUInt64 >>> ((31 : Int32) &&& 0x3f).toInt64.toUInt64).toInt64)), (.long z0)])
  refine own_go (fun t k => XS.lxor X1.here hx rfl (hb hby at_10) rfl k) ?_
  show own_WP _ _ _ _ T1 (mkF m 11 #[.val (.long za), .second, .val (.long z0), .second, .unset, .unset] [(.long (z0 ^^^ ((z0.toUInt64 >>> ((31 : Int32) &&& 0x3f).toInt64.toUInt64).toInt64)))])
  refine own_go (fun t k => XS.lloadN X1.here hx rfl (hb hby at_11) rfl  k) ?_
  show own_WP _ _ _ _ T1 (mkF m 12 #[.val (.long za), .second, .val (.long z0), .second, .unset, .unset] [(.long z0), (.long (z0 ^^^ ((z0.toUInt64 >>> ((31 : Int32) &&& 0x3f).toInt64.toUInt64).toInt64)))])
  refine own_go (fun t k => XS.bipush X1.here hx rfl (hb hby at_12) k) ?_
  show own_WP _ _ _ _ T1 (mkF m 14 #[.val (.long za), .second, .val (.long z0), .second, .unset, .unset] [(.int (62 : Int32)), (.long z0), (.long (z0 ^^^ ((z0.toUInt64 >>> ((31 : Int32) &&& 0x3f).toInt64.toUInt64).toInt64)))])
  refine own_go (fun t k => XS.lushr X1.here hx rfl (hb hby at_14) rfl k) ?_
  show own_WP _ _ _ _ T1 (mkF m 15 #[.val (.long za), .second, .val (.long z0), .second, .unset, .unset] [(.long ((z0.toUInt64 >>> ((62 : Int32) &&& 0x3f).toInt64.toUInt64).toInt64)), (.long (z0 ^^^ ((z0.toUInt64 >>> ((31 : Int32) &&& 0x3f).toInt64.toUInt64).toInt64)))])
  refine own_go (fun t k => XS.lxor X1.here hx rfl (hb hby at_15) rfl k) ?_
  show own_WP _ _ _ _ T1 (mkF m 16 #[.val (.long za), .second, .val (.long z0), .second, .unset, .unset] [(.long ((z0 ^^^ ((z0.toUInt64 >>> ((31 : Int32) &&& 0x3f).toInt64.toUInt64).toInt64)) ^^^ ((z0.toUInt64 >>> ((62 : Int32) &&& 0x3f).toInt64.toUInt64).toInt64)))])
  generalize d_z1 : ((z0 ^^^ ((z0.toUInt64 >>> ((31 : Int32) &&& 0x3f).toInt64.toUInt64).toInt64)) ^^^ ((z0.toUInt64 >>> ((62 : Int32) &&& 0x3f).toInt64.toUInt64).toInt64)) = z1
  refine own_go (fun t k => XS.lstore X1.here hx rfl (hb hby at_16) rfl (l' := #[.val (.long za), .second, .val (.long z0), .second, .val (.long z1), .second]) rfl k) ?_
  show own_WP _ _ _ _ T1 (mkF m 18 #[.val (.long za), .second, .val (.long z0), .second, .val (.long z1), .second] [])
  refine own_go (fun t k => XS.lload X1.here hx rfl (hb hby at_18) rfl  k) ?_
  show own_WP _ _ _ _ T1 (mkF m 20 #[.val (.long za), .second, .val (.long z0), .second, .val (.long z1), .second] [(.long z1)])
  refine own_go (fun t k => X1.ldc2Long hx hown (mvT hZ (hw _ (List.mem_of_getElem? (i := 6) rfl))) (g := (mkF m 20 #[.val (.long za), .second, .val (.long z0), .second, .val (.long z1), .second] [(.long z1)])) rfl (hb hby at_20) t k) ?_
  show own_WP _ _ _ _ T1 (mkF m 23 #[.val (.long za), .second, .val (.long z0), .second, .val (.long z1), .second] [(.long (-7723592293110705685 : Int64)), (.long z1)])
  obtain ⟨_, _, ⟨T2, L2, k2, n2⟩, -, X2, ⟨Lc2, hQ2, l2, y2, z2⟩, st2⟩ := Jvm.LawKit.callS X1 hx (y := (⟨"com/example/bijecta/bijecta/hash/KeyHashMixPinLaw", "inverse", "(J)J"⟩ : MethodName)) hown (mvT hZ (hw _ (List.mem_of_getElem? (i := 7) rfl))) (mvT hZ (hw _ (List.mem_of_getElem? (i := 8) rfl))) (mvT hZ (hw _ (List.mem_of_getElem? (i := 9) rfl))) (mvT hZ (hw _ (List.mem_of_getElem? (i := 10) rfl))) (by decide) (backOf (W := 2) (rm2 l Z a0 hw [] (-7723592293110705685 : Int64)  h0 n0 (own_le Z0 K0) ) hZ (hw _ (List.mem_of_getElem? (i := 10) rfl)) (hw _ (List.mem_of_getElem? (i := 9) rfl)) (by decide) (by decide)) (g := (mkF m 23 #[.val (.long za), .second, .val (.long z0), .second, .val (.long z1), .second] [(.long (-7723592293110705685 : Int64)), (.long z1)])) rfl (by rw [hml]; rfl) (argsL := [(.long (-7723592293110705685 : Int64))]) (rest := [(.long z1)]) (lenOf own_pd98999 rfl) rfl (by show 2 * 0 + _ ≤ _; exact Nat.le_of_eq rfl) (hb hby at_23) (fun _ _ => ⟨rfl, eq1, (by decide : 0 + 0 ≤ _), (by decide : 0 + 0 ≤ _)⟩)
  dsimp only [Pt.U, Pt.locs, Pt.cells, Pt.slots] at X2 l2 y2 z2 st2 hQ2
  subst l2 y2 z2
  obtain ⟨rfl, N2q, eq2⟩ := hQ2
  have N2 := Fr.app N1 N2q
  refine own_go st2 ?_
  show own_WP _ _ _ _ T2 (mkF m 26 #[.val (.long za), .second, .val (.long z0), .second, .val (.long z1), .second] [(.long (own_inv (-7723592293110705685 : Int64))), (.long z1)])
  refine own_go (fun t k => XS.lmul X2.here hx rfl (hb hby at_26) rfl k) ?_
  show own_WP _ _ _ _ T2 (mkF m 27 #[.val (.long za), .second, .val (.long z0), .second, .val (.long z1), .second] [(.long (z1 * (own_inv (-7723592293110705685 : Int64))))])
  generalize d_z2 : (z1 * (own_inv (-7723592293110705685 : Int64))) = z2
  refine own_go (fun t k => XS.lstore X2.here hx rfl (hb hby at_27) rfl (l' := #[.val (.long za), .second, .val (.long z0), .second, .val (.long z2), .second]) rfl k) ?_
  show own_WP _ _ _ _ T2 (mkF m 29 #[.val (.long za), .second, .val (.long z0), .second, .val (.long z2), .second] [])
  refine own_go (fun t k => XS.lload X2.here hx rfl (hb hby at_29) rfl  k) ?_
  show own_WP _ _ _ _ T2 (mkF m 31 #[.val (.long za), .second, .val (.long z0), .second, .val (.long z2), .second] [(.long z2)])
  refine own_go (fun t k => XS.lload X2.here hx rfl (hb hby at_31) rfl  k) ?_
  show own_WP _ _ _ _ T2 (mkF m 33 #[.val (.long za), .second, .val (.long z0), .second, .val (.long z2), .second] [(.long z2), (.long z2)])
  refine own_go (fun t k => XS.bipush X2.here hx rfl (hb hby at_33) k) ?_
  show own_WP _ _ _ _ T2 (mkF m 35 #[.val (.long za), .second, .val (.long z0), .second, .val (.long z2), .second] [(.int (27 : Int32)), (.long z2), (.long z2)])
  refine own_go (fun t k => XS.lushr X2.here hx rfl (hb hby at_35) rfl k) ?_
  show own_WP _ _ _ _ T2 (mkF m 36 #[.val (.long za), .second, .val (.long z0), .second, .val (.long z2), .second] [(.long ((z2.toUInt64 >>> ((27 : Int32) &&& 0x3f).toInt64.toUInt64).toInt64)), (.long z2)])
  refine own_go (fun t k => XS.lxor X2.here hx rfl (hb hby at_36) rfl k) ?_
  show own_WP _ _ _ _ T2 (mkF m 37 #[.val (.long za), .second, .val (.long z0), .second, .val (.long z2), .second] [(.long (z2 ^^^ ((z2.toUInt64 >>> ((27 : Int32) &&& 0x3f).toInt64.toUInt64).toInt64)))])
  refine own_go (fun t k => XS.lload X2.here hx rfl (hb hby at_37) rfl  k) ?_
  show own_WP _ _ _ _ T2 (mkF m 39 #[.val (.long za), .second, .val (.long z0), .second, .val (.long z2), .second] [(.long z2), (.long (z2 ^^^ ((z2.toUInt64 >>> ((27 : Int32) &&& 0x3f).toInt64.toUInt64).toInt64)))])
  refine own_go (fun t k => XS.bipush X2.here hx rfl (hb hby at_39) k) ?_
  show own_WP _ _ _ _ T2 (mkF m 41 #[.val (.long za), .second, .val (.long z0), .second, .val (.long z2), .second] [(.int (54 : Int32)), (.long z2), (.long (z2 ^^^ ((z2.toUInt64 >>> ((27 : Int32) &&& 0x3f).toInt64.toUInt64).toInt64)))])
  refine own_go (fun t k => XS.lushr X2.here hx rfl (hb hby at_41) rfl k) ?_
  show own_WP _ _ _ _ T2 (mkF m 42 #[.val (.long za), .second, .val (.long z0), .second, .val (.long z2), .second] [(.long ((z2.toUInt64 >>> ((54 : Int32) &&& 0x3f).toInt64.toUInt64).toInt64)), (.long (z2 ^^^ ((z2.toUInt64 >>> ((27 : Int32) &&& 0x3f).toInt64.toUInt64).toInt64)))])
  refine own_go (fun t k => XS.lxor X2.here hx rfl (hb hby at_42) rfl k) ?_
  show own_WP _ _ _ _ T2 (mkF m 43 #[.val (.long za), .second, .val (.long z0), .second, .val (.long z2), .second] [(.long ((z2 ^^^ ((z2.toUInt64 >>> ((27 : Int32) &&& 0x3f).toInt64.toUInt64).toInt64)) ^^^ ((z2.toUInt64 >>> ((54 : Int32) &&& 0x3f).toInt64.toUInt64).toInt64)))])
  generalize d_z3 : ((z2 ^^^ ((z2.toUInt64 >>> ((27 : Int32) &&& 0x3f).toInt64.toUInt64).toInt64)) ^^^ ((z2.toUInt64 >>> ((54 : Int32) &&& 0x3f).toInt64.toUInt64).toInt64)) = z3
  refine own_go (fun t k => XS.lstore X2.here hx rfl (hb hby at_43) rfl (l' := #[.val (.long za), .second, .val (.long z0), .second, .val (.long z3), .second]) rfl k) ?_
  show own_WP _ _ _ _ T2 (mkF m 45 #[.val (.long za), .second, .val (.long z0), .second, .val (.long z3), .second] [])
  refine own_go (fun t k => XS.lload X2.here hx rfl (hb hby at_45) rfl  k) ?_
  show own_WP _ _ _ _ T2 (mkF m 47 #[.val (.long za), .second, .val (.long z0), .second, .val (.long z3), .second] [(.long z3)])
  refine own_go (fun t k => X2.ldc2Long hx hown (mvT hZ (hw _ (List.mem_of_getElem? (i := 12) rfl))) (g := (mkF m 47 #[.val (.long za), .second, .val (.long z0), .second, .val (.long z3), .second] [(.long z3)])) rfl (hb hby at_47) t k) ?_
  show own_WP _ _ _ _ T2 (mkF m 50 #[.val (.long za), .second, .val (.long z0), .second, .val (.long z3), .second] [(.long (-4658895280553007687 : Int64)), (.long z3)])
  obtain ⟨_, _, ⟨T3, L3, k3, n3⟩, -, X3, ⟨Lc3, hQ3, l3, y3, z3⟩, st3⟩ := Jvm.LawKit.callS X2 hx (y := (⟨"com/example/bijecta/bijecta/hash/KeyHashMixPinLaw", "inverse", "(J)J"⟩ : MethodName)) hown (mvT hZ (hw _ (List.mem_of_getElem? (i := 7) rfl))) (mvT hZ (hw _ (List.mem_of_getElem? (i := 8) rfl))) (mvT hZ (hw _ (List.mem_of_getElem? (i := 9) rfl))) (mvT hZ (hw _ (List.mem_of_getElem? (i := 10) rfl))) (by decide) (backOf (W := 2) (rm2 l Z a0 hw [] (-4658895280553007687 : Int64)  h0 n0 (own_le Z0 K0) ) hZ (hw _ (List.mem_of_getElem? (i := 10) rfl)) (hw _ (List.mem_of_getElem? (i := 9) rfl)) (by decide) (by decide)) (g := (mkF m 50 #[.val (.long za), .second, .val (.long z0), .second, .val (.long z3), .second] [(.long (-4658895280553007687 : Int64)), (.long z3)])) rfl (by rw [hml]; rfl) (argsL := [(.long (-4658895280553007687 : Int64))]) (rest := [(.long z3)]) (lenOf own_pd98999 rfl) rfl (by show 2 * 0 + _ ≤ _; exact Nat.le_of_eq rfl) (hb hby at_50) (fun _ _ => ⟨rfl, eq2, (by decide : 0 + 0 ≤ _), (by decide : 0 + 0 ≤ _)⟩)
  dsimp only [Pt.U, Pt.locs, Pt.cells, Pt.slots] at X3 l3 y3 z3 st3 hQ3
  subst l3 y3 z3
  obtain ⟨rfl, N3q, eq3⟩ := hQ3
  have N3 := Fr.app N2 N3q
  refine own_go st3 ?_
  show own_WP _ _ _ _ T3 (mkF m 53 #[.val (.long za), .second, .val (.long z0), .second, .val (.long z3), .second] [(.long (own_inv (-4658895280553007687 : Int64))), (.long z3)])
  refine own_go (fun t k => XS.lmul X3.here hx rfl (hb hby at_53) rfl k) ?_
  show own_WP _ _ _ _ T3 (mkF m 54 #[.val (.long za), .second, .val (.long z0), .second, .val (.long z3), .second] [(.long (z3 * (own_inv (-4658895280553007687 : Int64))))])
  generalize d_z4 : (z3 * (own_inv (-4658895280553007687 : Int64))) = z4
  refine own_go (fun t k => XS.lstore X3.here hx rfl (hb hby at_54) rfl (l' := #[.val (.long za), .second, .val (.long z0), .second, .val (.long z4), .second]) rfl k) ?_
  show own_WP _ _ _ _ T3 (mkF m 56 #[.val (.long za), .second, .val (.long z0), .second, .val (.long z4), .second] [])
  refine own_go (fun t k => XS.lload X3.here hx rfl (hb hby at_56) rfl  k) ?_
  show own_WP _ _ _ _ T3 (mkF m 58 #[.val (.long za), .second, .val (.long z0), .second, .val (.long z4), .second] [(.long z4)])
  refine own_go (fun t k => XS.lload X3.here hx rfl (hb hby at_58) rfl  k) ?_
  show own_WP _ _ _ _ T3 (mkF m 60 #[.val (.long za), .second, .val (.long z0), .second, .val (.long z4), .second] [(.long z4), (.long z4)])
  refine own_go (fun t k => XS.bipush X3.here hx rfl (hb hby at_60) k) ?_
  show own_WP _ _ _ _ T3 (mkF m 62 #[.val (.long za), .second, .val (.long z0), .second, .val (.long z4), .second] [(.int (30 : Int32)), (.long z4), (.long z4)])
  refine own_go (fun t k => XS.lushr X3.here hx rfl (hb hby at_62) rfl k) ?_
  show own_WP _ _ _ _ T3 (mkF m 63 #[.val (.long za), .second, .val (.long z0), .second, .val (.long z4), .second] [(.long ((z4.toUInt64 >>> ((30 : Int32) &&& 0x3f).toInt64.toUInt64).toInt64)), (.long z4)])
  refine own_go (fun t k => XS.lxor X3.here hx rfl (hb hby at_63) rfl k) ?_
  show own_WP _ _ _ _ T3 (mkF m 64 #[.val (.long za), .second, .val (.long z0), .second, .val (.long z4), .second] [(.long (z4 ^^^ ((z4.toUInt64 >>> ((30 : Int32) &&& 0x3f).toInt64.toUInt64).toInt64)))])
  refine own_go (fun t k => XS.lload X3.here hx rfl (hb hby at_64) rfl  k) ?_
  show own_WP _ _ _ _ T3 (mkF m 66 #[.val (.long za), .second, .val (.long z0), .second, .val (.long z4), .second] [(.long z4), (.long (z4 ^^^ ((z4.toUInt64 >>> ((30 : Int32) &&& 0x3f).toInt64.toUInt64).toInt64)))])
  refine own_go (fun t k => XS.bipush X3.here hx rfl (hb hby at_66) k) ?_
  show own_WP _ _ _ _ T3 (mkF m 68 #[.val (.long za), .second, .val (.long z0), .second, .val (.long z4), .second] [(.int (60 : Int32)), (.long z4), (.long (z4 ^^^ ((z4.toUInt64 >>> ((30 : Int32) &&& 0x3f).toInt64.toUInt64).toInt64)))])
  refine own_go (fun t k => XS.lushr X3.here hx rfl (hb hby at_68) rfl k) ?_
  show own_WP _ _ _ _ T3 (mkF m 69 #[.val (.long za), .second, .val (.long z0), .second, .val (.long z4), .second] [(.long ((z4.toUInt64 >>> ((60 : Int32) &&& 0x3f).toInt64.toUInt64).toInt64)), (.long (z4 ^^^ ((z4.toUInt64 >>> ((30 : Int32) &&& 0x3f).toInt64.toUInt64).toInt64)))])
  refine own_go (fun t k => XS.lxor X3.here hx rfl (hb hby at_69) rfl k) ?_
  show own_WP _ _ _ _ T3 (mkF m 70 #[.val (.long za), .second, .val (.long z0), .second, .val (.long z4), .second] [(.long ((z4 ^^^ ((z4.toUInt64 >>> ((30 : Int32) &&& 0x3f).toInt64.toUInt64).toInt64)) ^^^ ((z4.toUInt64 >>> ((60 : Int32) &&& 0x3f).toInt64.toUInt64).toInt64)))])
  generalize d_z5 : ((z4 ^^^ ((z4.toUInt64 >>> ((30 : Int32) &&& 0x3f).toInt64.toUInt64).toInt64)) ^^^ ((z4.toUInt64 >>> ((60 : Int32) &&& 0x3f).toInt64.toUInt64).toInt64)) = z5
  refine own_go (fun t k => XS.lstore X3.here hx rfl (hb hby at_70) rfl (l' := #[.val (.long za), .second, .val (.long z0), .second, .val (.long z5), .second]) rfl k) ?_
  show own_WP _ _ _ _ T3 (mkF m 72 #[.val (.long za), .second, .val (.long z0), .second, .val (.long z5), .second] [])
  refine own_go (fun t k => XS.lload X3.here hx rfl (hb hby at_72) rfl  k) ?_
  show own_WP _ _ _ _ T3 (mkF m 74 #[.val (.long za), .second, .val (.long z0), .second, .val (.long z5), .second] [(.long z5)])
  refine own_go (fun t k => XS.lloadN X3.here hx rfl (hb hby at_74) rfl  k) ?_
  show own_WP _ _ _ _ T3 (mkF m 75 #[.val (.long za), .second, .val (.long z0), .second, .val (.long z5), .second] [(.long za), (.long z5)])
  refine own_go (fun t k => XS.lcmp X3.here hx rfl (hb hby at_75) rfl k) ?_
  show own_WP _ _ _ _ T3 (mkF m 76 #[.val (.long za), .second, .val (.long z0), .second, .val (.long z5), .second] [(.int (lcmpW z5 za))])
  have hc76 : z5 = za := by
    subst d_z0 d_z1 d_z2 d_z3 d_z4 d_z5
    exact own_back za
  refine own_go (fun t k => XS.ifNo X3.here hx rfl (hb hby at_76) rfl ((if0 _ _).trans (teq ((lw_eq z5 za).mpr hc76)).2) k) ?_
  show own_WP _ _ _ _ T3 (mkF m 79 #[.val (.long za), .second, .val (.long z0), .second, .val (.long z5), .second] [])
  refine own_go (fun t k => XS.iconst X3.here hx rfl (hb hby at_79) k) ?_
  show own_WP _ _ _ _ T3 (mkF m 80 #[.val (.long za), .second, .val (.long z0), .second, .val (.long z5), .second] [(.int (1 : Int32))])
  refine own_go (fun t k => XS.goto X3.here hx rfl (pc0 := 80) (pc' := 84) rfl (hb hby at_80) (by decide) (by decide) k) ?_
  show own_WP _ _ _ _ T3 (mkF m 84 #[.val (.long za), .second, .val (.long z0), .second, .val (.long z5), .second] [(.int (1 : Int32))])
  refine own_retN X3 hx Bd.notSynchronized (t := .boolean) (by simp) Bd.returns (hb hby at_84) (by decide) (by decide) ?_
  rw [eq3]
  exact ⟨rfl, N3⟩
set_option maxRecDepth 65536 in
set_option maxHeartbeats 40000000 in
theorem comes_1 {Post : Tables → Env → Array Value → State → Outcome → State → Prop} (hpost : ∀ tb e args s v u, (limb_1_1.after args s (.returned v) u = true ∧ limb_1_2.after args s (.returned v) u = true ∧ True) → FrameEnd s (.returned v) u (Jvm.fieldLocs frame_1_writes args s ++ Jvm.arrayLocs frame_1_arrays args s ++ Jvm.staticLocs frame_1_statics s) 0 0 → Post tb e args s (.returned v) u) :
    ArmFor flags0 classFile x code maxLocals ret World_1 tables_1 room_1 Calls_1 rest_1 Pre_1 Post := by
  intro l hfl _ _ p e ha hc hk s m args below hf hA hF happ hP
  obtain ⟨hcalls, hrest, hpre⟩ := hP
  obtain ⟨-, -, -, hnamed, -, -, -, hat⟩ := (Spec.applies_iff hf).mp happ
  obtain ⟨hg, hn⟩ := and_e (Cond.before_iff.mp (show (Jvm.Cond.and given_1 narrow_1).before args s = true from hpre))
  obtain ⟨u0, v0⟩ := and_e hg
  obtain ⟨w0, rfl⟩ : ∃ w0 : Value, args = #[w0] := by
    have hs : args.size = 1 := by simpa [Cond.value, given_1] using u0
    obtain ⟨L⟩ := args
    match L, hs with
    | [w0], _ => exact ⟨w0, rfl⟩
  have hw := fun d (hd : d ∈ tables_1) => atoms_spec (ws := Jvm.Cond.code x code maxLocals ret :: tables_1) hat d (List.mem_cons_of_mem _ hd)
  obtain ⟨i0, ei0⟩ := isL_v v0
  obtain rfl : w0 = (.long i0) := Option.some.inj ei0
  obtain ⟨n, o, h1, h2, h3, _, L, rfl, ⟨rfl, N⟩, hq⟩ := rm0 l s _ hw tables_1 i0  s.heap s.heap.size (Nat.le_refl _)  p e ha hc hk s m _ below hf ((Spec.applies_iff_loose hf).mp happ).1 ⟨rfl, State.Warmed39.refl s, rfl⟩ trivial
  refine ⟨n, _, h1, h2, h3, hpost _ _ _ _ _ _ ⟨Cond.after_iff.mpr rfl, Cond.after_iff.mpr (eq_i res_at (Term.int_eval (1)) rfl), trivial⟩ ⟨hq.1, hq.2.1, (hq.2.2.sift fun y hy => Or.inr (N y hy)).mono (by decide) (by decide)⟩⟩
theorem main_1_1 : Claimed_1_1 := comes_1 fun _ _ _ _ _ _ h hF => ⟨h.1, hF⟩
theorem main_1_2 : Claimed_1_2 := comes_1 fun _ _ _ _ _ _ h hF => ⟨h.2.1, hF⟩
end Jvm.Pilot.@@N@@
namespace Jvm.Pilot.@@N@@
open Jvm Jvm.ClassFile Sem Op Lib Jvm.Free Jvm.Stand Jvm.Pilot.@@N@@.Jvm.D
/-! MADE BY PROGRAM (witnessworld.py) out of the Statement's table words and the real class files: 9 classes; the members and pool entries that the words name. The judged class is class 1, her method 2. -/
namespace start1
open Jvm.ClassFile
def u (s : String) : CpInfo := .utf8 (stringToUtf16 s)
/-- a pool by its gaps: so many unusable entries, then the entry; so many at the end -/
def gap : Nat → List CpInfo → List CpInfo
  | 0, r => r
  | n + 1, r => .unusable :: gap n r
def poolList (es : List (Nat × CpInfo)) (last : Nat) : List CpInfo := es.foldr (fun e r => gap e.1 (e.2 :: r)) (gap last [])
def pool (es : List (Nat × CpInfo)) (last : Nat) : Array CpInfo := ⟨poolList es last⟩
def fileOf (pool : Array CpInfo) (this : Nat) (attrs : Array Attribute := #[]) (ms : Array MethodInfo := #[]) (fl : Nat := 33) (sup : Nat := 0) (ifs : Array Nat := #[]) (fds : Array FieldInfo := #[]) : ClassFile where
  minorVersion := 0
  majorVersion := 65
  constantPool := pool
  accessFlags := fl
  thisClass := this
  superClass := sup
  interfaces := ifs
  fields := fds
  methods := ms
  attributes := attrs
def plain (name : String) (sup : Option ClassId) : Class where
  name := name
  kind := .ordinary
  loader := none
  accessFlags := 33
  super := sup
  interfaces := #[]
  cf := none
  fields := #[]
  methods := #[]
  instanceTypes := #[]
  staticTypes := #[]
  resolved := #[]
  callSites := []
  init := .initialized
  statics := none
  mirror := none

def pool0 : Array CpInfo := pool [(5, u "<init>"), (0, u "()V"), (1, .class_ 10), (1, u "java/lang/Object")] 113

def k0m0 : Method := { name := "<init>", desc := "()V", sig := { parameters := [], returnType := none }, accessFlags := 1, code := none }
/-- java/lang/Object -/
def k0 : Class := { plain "java/lang/Object" none with
  accessFlags := 33
  interfaces := #[]
  cf := some (fileOf pool0 8 #[] #[{ accessFlags := 1, nameIndex := 5, descriptorIndex := 6, attributes := #[] }] 33 0 #[] #[])
  fields := #[]
  methods := #[k0m0]
  instanceTypes := #[]
  staticTypes := #[]
  resolved := Array.replicate 124 none
  statics := none }

def pool1 : Array CpInfo := pool [(2, .class_ 4), (1, u "java/lang/Object"), (0, u "<init>"), (0, u "()V"), (0, .long 2), (1, .methodref 10 11), (0, .class_ 12), (0, .nameAndType 13 14), (0, u "com/example/bijecta/bijecta/hash/KeyHash"), (0, u "mix"), (0, u "(J)J"), (0, .long 10723151780598845931), (1, .methodref 18 19), (0, .class_ 20), (0, .nameAndType 21 14), (0, u "com/example/bijecta/bijecta/hash/KeyHashMixPinLaw"), (0, u "inverse"), (0, .long 13787848793156543929), (3, u "law"), (0, u "(J)Z")] 3

def k1m0 : Method := { name := "<init>", desc := "()V", sig := { parameters := [], returnType := none }, accessFlags := 2, code := none }
def k1c1 : Code := { maxStack := 8, maxLocals := 4, code := method_2_code, exceptionTable := #[], attributes := #[] }
def k1m1 : Method := { name := "inverse", desc := "(J)J", sig := { parameters := [.long], returnType := some .long }, accessFlags := 10, code := some k1c1 }
def k1c2 : Code := { maxStack := 5, maxLocals := 6, code := code, exceptionTable := #[], attributes := #[] }
def k1m2 : Method := { name := "law", desc := "(J)Z", sig := { parameters := [.long], returnType := some .boolean }, accessFlags := 9, code := some k1c2 }
/-- com/example/bijecta/bijecta/hash/KeyHashMixPinLaw -/
def k1 : Class := { plain "com/example/bijecta/bijecta/hash/KeyHashMixPinLaw" (some 0) with
  accessFlags := 49
  interfaces := #[]
  cf := some (fileOf pool1 18 #[] #[{ accessFlags := 2, nameIndex := 5, descriptorIndex := 6, attributes := #[] }, { accessFlags := 10, nameIndex := 21, descriptorIndex := 14, attributes := #[] }, { accessFlags := 9, nameIndex := 26, descriptorIndex := 27, attributes := #[] }] 49 2 #[] #[])
  fields := #[]
  methods := #[k1m0, k1m1, k1m2]
  instanceTypes := #[]
  staticTypes := #[]
  resolved := Array.replicate 31 none
  statics := none }

def pool2 : Array CpInfo := pool [(2, .class_ 4), (1, u "java/lang/Object"), (0, u "<init>"), (0, u "()V"), (1, .class_ 10), (1, u "com/example/bijecta/bijecta/hash/KeyHash"), (6, u "LONGS"), (0, u "Ljava/lang/invoke/VarHandle;"), (49, u "mix"), (0, u "(J)J"), (0, .long 13787848793156543929), (1, .long 10723151780598845931), (15, u "GOLDEN"), (0, u "J")] 8

def k2m0 : Method := { name := "<init>", desc := "()V", sig := { parameters := [], returnType := none }, accessFlags := 2, code := none }
def k2c1 : Code := { maxStack := 5, maxLocals := 4, code := prog_8_method_7_code, exceptionTable := #[], attributes := #[] }
def k2m1 : Method := { name := "mix", desc := "(J)J", sig := { parameters := [.long], returnType := some .long }, accessFlags := 9, code := some k2c1 }
/-- com/example/bijecta/bijecta/hash/KeyHash -/
def k2 : Class := { plain "com/example/bijecta/bijecta/hash/KeyHash" (some 0) with
  accessFlags := 49
  interfaces := #[]
  cf := some (fileOf pool2 8 #[] #[{ accessFlags := 2, nameIndex := 5, descriptorIndex := 6, attributes := #[] }, { accessFlags := 9, nameIndex := 68, descriptorIndex := 69, attributes := #[] }] 49 2 #[] #[{ accessFlags := 26, nameIndex := 17, descriptorIndex := 18, attributes := #[] }, { accessFlags := 26, nameIndex := 88, descriptorIndex := 89, attributes := #[] }])
  fields := #[{ name := "LONGS", type := (.object "java/lang/invoke/VarHandle"), accessFlags := 26, slot := 0, constantValue := 0 }, { name := "GOLDEN", type := .long, accessFlags := 26, slot := 1, constantValue := 0 }]
  methods := #[k2m0, k2m1]
  instanceTypes := #[]
  staticTypes := #[(.object "java/lang/invoke/VarHandle"), .long]
  resolved := Array.replicate 98 none
  statics := none }

def pool3 : Array CpInfo := pool [(1, u "java/lang/Cloneable"), (0, .class_ 1), (0, u "java/lang/Object"), (0, .class_ 3)] 3

/-- java/lang/Cloneable -/
def k3 : Class := { plain "java/lang/Cloneable" (some 0) with
  accessFlags := 1537
  interfaces := #[]
  cf := some (fileOf pool3 2 #[] #[] 1537 4 #[] #[])
  fields := #[]
  methods := #[]
  instanceTypes := #[]
  staticTypes := #[]
  resolved := Array.replicate 8 none
  statics := none }

def pool4 : Array CpInfo := pool [(1, u "java/io/Serializable"), (0, .class_ 1), (0, u "java/lang/Object"), (0, .class_ 3)] 3

/-- java/io/Serializable -/
def k4 : Class := { plain "java/io/Serializable" (some 0) with
  accessFlags := 1537
  interfaces := #[]
  cf := some (fileOf pool4 2 #[] #[] 1537 4 #[] #[])
  fields := #[]
  methods := #[]
  instanceTypes := #[]
  staticTypes := #[]
  resolved := Array.replicate 8 none
  statics := none }

/-- the primitive byte -/
def k5 : Class := { plain "byte" none with kind := .primitive 'B', accessFlags := 0x411 }
/-- [B -/
def k6 : Class := { plain "[B" (some 0) with kind := .array 5 .byte, interfaces := #[3, 4], accessFlags := 1041 }

/-- the primitive int -/
def k7 : Class := { plain "int" none with kind := .primitive 'I', accessFlags := 0x411 }
/-- [I -/
def k8 : Class := { plain "[I" (some 0) with kind := .array 7 .int, interfaces := #[3, 4], accessFlags := 1041 }

def heap : Heap := #[]
def classes : Array Class := #[k0, k1, k2, k3, k4, k5, k6, k7, k8]
def interned : List (Array UInt16 × Addr) := []
def slotsUsed : Nat := 0
def theMethod : MethodId := ⟨1, 2⟩
def args0 : Array Value := #[.long 5]
def aboutOver (below : List Frame) : State where
  vm := { classes := classes, interned := interned.toArray }
  heap := heap
  slotsUsed := slotsUsed
  threads := #[{ frames := .invoking theMethod args0 :: below }]
def below0 : List Frame := [.native { method := ⟨0, 0⟩, args := #[] }]
def about1 : State := aboutOver below0
def p0 : Program := .bare "" "" ""
def e0 : Env := launch0.env 0 0 0
theorem w_frames : about1.frames = Frame.invoking theMethod args0 :: below0 := rfl
set_option maxRecDepth 65536 in
theorem w_args : argsFit about1.vm theMethod args0 = true := by decide +kernel
set_option maxRecDepth 65536 in
theorem w_heap : heapFits about1 = true := by decide +kernel
set_option maxRecDepth 65536 in
theorem w_runnable : about1.curStatus? = some .runnable := by decide +kernel
set_option maxRecDepth 65536 in
theorem w_alone : about1.alone = true := by decide +kernel
set_option maxRecDepth 65536 in
theorem w_named : about1.methodNamed? x = some theMethod := by decide +kernel
set_option maxRecDepth 65536 in
theorem w_hears : about1.hears theMethod below0 = true := by decide +kernel
set_option maxRecDepth 65536 in
theorem w_ripe : about1.ripe theMethod args0 below0 = true := by decide +kernel
theorem w_running : about1.status = .running := rfl
set_option maxRecDepth 65536 in
theorem w_room : about1.hasRoom e0.platform room_1 = true :=
  launch0.hasRoom_least _ room_1 (by decide +kernel) (by decide +kernel) (by decide +kernel) (by decide +kernel) (by decide +kernel) (by decide +kernel)
theorem allAtoms_all (ts : List Jvm.Cond) (a : Array Jvm.Value) (st : Jvm.State) : (allAtoms ts).before a st = ts.all (fun c => c.before a st) := by
  induction ts with
  | nil => rfl
  | cons c t ih =>
    show (Jvm.Cond.and c (allAtoms t)).before a st = _
    rw [Jvm.Cond.before_and, ih, List.all_cons]
def words1 : List Jvm.Cond := Jvm.Cond.code x code maxLocals ret :: tables_1
/-- a 'code' word, met by the world's own term for the bytes: nothing is compared byte by byte -/
theorem code_word {y : MethodName} {bytes : ByteArray} {mx : Nat} {rt : Option FieldType} {a : Array Value} {s : State} {m : MethodId} {meth : Method} {c : Code} (h1 : s.methodNamed? y = some m) (h2 : s.vm.method? m = some meth) (h3 : meth.code = some c) (h4 : c.code = bytes)
    (h5 : (c.maxLocals == mx && c.exceptionTable.isEmpty && decide (c.maxStack ≤ mostOperands) && decide (meth.sig.returnType = rt) && !meth.locks && decide (parseMethodDescriptor y.desc = some meth.sig)) = true) : (Jvm.Cond.code y bytes mx rt).before a s = true := by
  simp only [Bool.and_eq_true, beq_iff_eq, Bool.not_eq_true', decide_eq_true_eq] at h5
  obtain ⟨⟨⟨⟨⟨g1, g2⟩, g3⟩, g4⟩, g5⟩, g6⟩ := h5
  simp [Cond.before, Cond.holds, Cond.value, h1, h2, h3, h4, g1, g2, g3, g4, g5, g6]
def isCode : Jvm.Cond → Bool
  | .code _ _ _ _ => true
  | _ => false
theorem all_split {L : List Jvm.Cond} {P : Jvm.Cond → Bool} (h1 : L.all (fun c => isCode c || P c) = true) (h2 : ∀ c ∈ L.filter isCode, P c = true) : L.all P = true := by
  refine List.all_eq_true.mpr fun c hc => ?_
  have h := List.all_eq_true.mp h1 c hc
  rcases Bool.eq_false_or_eq_true (isCode c) with hi | hi
  · exact h2 c (List.mem_filter.mpr ⟨hc, hi⟩)
  · simpa [hi] using h
set_option maxRecDepth 65536 in
theorem w_c0 : (Jvm.Cond.code x code maxLocals ret).before args0 about1 = true := code_word (m := ⟨1, 2⟩) (meth := k1m2) (c := k1c2) (by decide +kernel) rfl rfl rfl (by decide +kernel)
set_option maxRecDepth 65536 in
theorem w_c1 : (Jvm.Cond.code ({ cls := "com/example/bijecta/bijecta/hash/KeyHash", name := "mix", desc := "(J)J" } : Jvm.MethodName) prog_8_method_7_code (4 : Nat) (Option.some Jvm.ClassFile.FieldType.long)).before args0 about1 = true := code_word (m := ⟨2, 1⟩) (meth := k2m1) (c := k2c1) (by decide +kernel) rfl rfl rfl (by decide +kernel)
set_option maxRecDepth 65536 in
theorem w_c2 : (Jvm.Cond.code ({ cls := "com/example/bijecta/bijecta/hash/KeyHashMixPinLaw", name := "inverse", desc := "(J)J" } : Jvm.MethodName) method_2_code (4 : Nat) (Option.some Jvm.ClassFile.FieldType.long)).before args0 about1 = true := code_word (m := ⟨1, 1⟩) (meth := k1m1) (c := k1c1) (by decide +kernel) rfl rfl rfl (by decide +kernel)
def codes1 : List Jvm.Cond := [Jvm.Cond.code x code maxLocals ret, Jvm.Cond.code ({ cls := "com/example/bijecta/bijecta/hash/KeyHash", name := "mix", desc := "(J)J" } : Jvm.MethodName) prog_8_method_7_code (4 : Nat) (Option.some Jvm.ClassFile.FieldType.long), Jvm.Cond.code ({ cls := "com/example/bijecta/bijecta/hash/KeyHashMixPinLaw", name := "inverse", desc := "(J)J" } : Jvm.MethodName) method_2_code (4 : Nat) (Option.some Jvm.ClassFile.FieldType.long)]
set_option maxRecDepth 65536 in
theorem codes_eq : words1.filter isCode = codes1 := rfl
theorem w_codes : ∀ c ∈ words1.filter isCode, c.before args0 about1 = true := by
  rw [codes_eq]
  intro c hc
  simp only [codes1, List.mem_cons, List.not_mem_nil, or_false] at hc
  rcases hc with rfl | rfl | rfl
  · exact w_c0
  · exact w_c1
  · exact w_c2
set_option maxRecDepth 65536 in
theorem w_t1 : words1.all (fun c => isCode c || c.before args0 about1) = true := by decide +kernel
theorem w_tables : (allAtoms (Jvm.Cond.code x code maxLocals ret :: tables_1)).before args0 about1 = true := by
  rw [allAtoms_all]
  show words1.all (fun c => c.before args0 about1) = true
  refine all_split ?_ w_codes
  rw [w_t1]
set_option maxRecDepth 65536 in
theorem w_case : (Jvm.Cond.and given_1 narrow_1).before args0 about1 = true := by decide +kernel
theorem w_applies : (headSpec (Jvm.Cond.code x code maxLocals ret :: tables_1) room_1).applies x e0.platform about1 = true :=
  (Spec.applies_iff w_frames).mpr ⟨w_running, w_runnable, w_alone, w_named, w_hears, w_ripe, w_room, w_tables⟩
theorem atStart : AtStart classFile x code maxLocals ret World_1 tables_1 room_1 Calls_1 rest_1 Pre_1 launch0 p0 e0 about1 theMethod args0 below0 :=
  ⟨lists_1, trivial, launch0.admits_env _ _ _, launch0.least_env, fairChoices_fair.cas, fairChoices_fair.clock, w_frames, w_args, w_heap, w_applies, trivial, trivial, w_case⟩
end start1
theorem witness_1 : WitnessClaimed_1 := ⟨start1.p0, start1.e0, start1.about1, start1.theMethod, start1.args0, start1.below0, start1.atStart⟩
end Jvm.Pilot.@@N@@
