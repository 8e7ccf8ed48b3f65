import JvmDerived
import JvmDerived.Pilot.@@N@@Statement
import JvmDerived.Pilot.@@N@@Code
set_option linter.unusedVariables false
set_option linter.unusedSimpArgs false
@@BLOCK:NumsL.lean.txt@@
namespace Jvm.Pilot.@@N@@
open Jvm Jvm.ClassFile Sem Op Lib Jvm.Free Jvm.Stand Jvm.LawKit Jvm.RoadKit Bundle Jvm.Pilot.@@N@@.Jvm.D
section OwnKit
variable {p : Program} {l : Launch} {e : Env} {R : Room} {s : State} {m : MethodId} {args : Array Value} {below : List Frame} {meth : Method} {c : Code} {T T' : State} {locs : List Loc} {cells slots : Nat} {Z : State} {h : Heap} {a0 : Array Value}
/-- from the state T with the frame g on top the method comes to its end, and what it leaves meets E -/
def own_WP (p : Program) (e : Env) (below : List Frame) (E : Outcome → State → Prop) (T : State) (g : JFrame) : Prop :=
  ∃ s₂ o, Steps p.tables e below (T.setTop g) s₂ ∧ s₂.status = .running ∧ Ended s₂ below o ∧ E o s₂
/-- it returns, and what it leaves meets Q within K cells and N slots -/
def own_E (s : State) (Q : Option Value → Heap → List Loc → Prop) (K N : Nat) (o : Outcome) (t : State) : Prop := ∃ v L, o = .returned v ∧ Q v t.heap L ∧ FrameEnd s o t L K N
variable {Q : Option Value → Heap → List Loc → Prop} {K N : Nat} {g g' : JFrame} {E : Outcome → State → Prop}
theorem own_go (h : ∀ t, Steps p.tables e below (T'.setTop g') t → Steps p.tables e below (T.setTop g) t) (k : own_WP p e below E T' g') : own_WP p e below E T g := by
  obtain ⟨s₂, o, h1, h2⟩ := k
  exact ⟨s₂, o, h s₂ h1, h2⟩
theorem own_tr (h : Steps p.tables e below (T.setTop g) (T'.setTop g')) (k : own_WP p e below E T' g') : own_WP p e below E T g := by
  obtain ⟨s₂, o, h1, h2⟩ := k
  exact ⟨s₂, o, h.trans h1, h2⟩
theorem own_end (X : Stand p l e R s m args below meth c T locs cells slots) (hlk : meth.locks = false) {v : Option Value} (hv : meth.sig.returnType = none → v = none)
    (hs : ∀ fs, (∀ (f : JFrame) (acts : List Action), f.method = m → f.locked = none → f.entered = [] → (doReturn e (T.setTop f) acts v).1 = T.setFrames fs) → Steps p.tables e below (T.setTop g) (T.setFrames fs))
    (hk : cells ≤ K) (hn : slots ≤ N) (hq : Q v T.heap locs) : own_WP p e below (own_E s Q K N) T g := by
  obtain ⟨fs, hr, hrun, hended, hW, hsame⟩ := X.leave hv hlk
  exact ⟨_, _, hs fs hr, hrun, hended, _, _, rfl, hq, ⟨_, rfl⟩, hW, hsame.mono hk hn⟩
theorem own_retV (X : Stand p l e R s m args below meth c T locs cells slots) (hx : p.tables.exec = Jvm.exec) (hlk : meth.locks = false) {pc : Nat} {Ls : Array Slot} (hret : meth.sig.returnType = none) (hd : decode c.code pc = .ok (.return_, 1))
    (hk : cells ≤ K) (hn : slots ≤ N) (hq : Q none T.heap locs) : own_WP p e below (own_E s Q K N) T (mkF m pc Ls []) :=
  own_end X hlk (fun _ => rfl) (fun fs hr => X.returnOut hx hret hd hr) hk hn hq
theorem own_retI (X : Stand p l e R s m args below meth c T locs cells slots) (hx : p.tables.exec = Jvm.exec) (hlk : meth.locks = false) {pc : Nat} {Ls : Array Slot} {z : Int32} (hret : meth.sig.returnType = some .int) (hd : decode c.code pc = .ok (.ireturn, 1))
    (hk : cells ≤ K) (hn : slots ≤ N) (hq : Q (some (.int z)) T.heap locs) : own_WP p e below (own_E s Q K N) T (mkF m pc Ls [.int z]) :=
  own_end X hlk (fun h => by rw [hret] at h; cases h) (fun fs hr => retOut X hx hret rfl (Or.inl ⟨rfl, Or.inl rfl, z, rfl⟩) hd hr) hk hn hq
theorem own_retJ (X : Stand p l e R s m args below meth c T locs cells slots) (hx : p.tables.exec = Jvm.exec) (hlk : meth.locks = false) {pc : Nat} {Ls : Array Slot} {z : Int64} (hret : meth.sig.returnType = some .long) (hd : decode c.code pc = .ok (.lreturn, 1))
    (hk : cells ≤ K) (hn : slots ≤ N) (hq : Q (some (.long z)) T.heap locs) : own_WP p e below (own_E s Q K N) T (mkF m pc Ls [.long z]) :=
  own_end X hlk (fun h => by rw [hret] at h; cases h) (fun fs hr => X.lreturnOut hx hret hd hr) hk hn hq
theorem own_retA (X : Stand p l e R s m args below meth c T locs cells slots) (hx : p.tables.exec = Jvm.exec) (hlk : meth.locks = false) {pc : Nat} {Ls : Array Slot} {w : Value} (hw : w.isRef = true) {t : FieldType} (ht : t.isReference = true) (hret : meth.sig.returnType = some t) (hd : decode c.code pc = .ok (.areturn, 1))
    (hk : cells ≤ K) (hn : slots ≤ N) (hq : Q (some w) T.heap locs) : own_WP p e below (own_E s Q K N) T (mkF m pc Ls [w]) :=
  own_end X hlk (fun h => by rw [hret] at h; cases h) (fun fs hr => X.areturnOut hx hw hret ht hd hr) hk hn hq
theorem own_retN (X : Stand p l e R s m args below meth c T locs cells slots) (hx : p.tables.exec = Jvm.exec) (hlk : meth.locks = false) {pc : Nat} {Ls : Array Slot} {z : Int32} {t : FieldType} (ht : t = .boolean ∨ t = .byte ∨ t = .char ∨ t = .short) (hret : meth.sig.returnType = some t) (hd : decode c.code pc = .ok (.ireturn, 1))
    (hk : cells ≤ K) (hn : slots ≤ N) (hq : Q (some (.int (nar t z))) T.heap locs) : own_WP p e below (own_E s Q K N) T (mkF m pc Ls [.int z]) :=
  own_end X hlk (fun h => by rw [hret] at h; cases h) (fun fs hr => retN X hx hret ht hd hr) hk hn hq
theorem own_len (X : Stand p l e R s m args below meth c T locs cells slots) (hx : p.tables.exec = Jvm.exec) (hZ : Z.Warmed39 s.vm) (eT : T.heap = h) {a : Addr} {k : ClassId} {ty : FieldType} {n : Int32} {vs : List Value} {d : Value} (V : Arv Z h a k ty n vs d)
    {pc : Nat} {Ls : Array Slot} {S : List Value} (hd : decode c.code pc = .ok (.arraylength, 1)) (kk : own_WP p e below E T (mkF m (pc + 1) Ls (.int n :: S))) : own_WP p e below E T (mkF m pc Ls (.ref a :: S)) := by
  obtain ⟨cl, A, q, S1, M, H, G⟩ := V
  refine own_go (fun t k => X.arraylength hx (by rw [eT]; exact A.1) (State.isArrayOf_alike hZ.alike A.2.1) (g := mkF m pc Ls (.ref a :: S)) rfl rfl hd t k) ?_
  rw [len_of S1 M]
  exact kk
theorem own_at {cl : Cell} {n j : Int32} {vs : List Value} {d w : Value} (S1 : cl.slots.size = n.toNatClampNeg) (H : Has cl vs d) (hj : ¬ j < 0 ∧ j < n) (hv : vs.getD j.toNatClampNeg d = w) : cl.slots[j.toNatClampNeg]? = some w :=
  H.at (inb_of S1 hj) hv
theorem own_ldI (X : Stand p l e R s m args below meth c T locs cells slots) (hx : p.tables.exec = Jvm.exec) (hZ : Z.Warmed39 s.vm) (eT : T.heap = h) {a : Addr} {k : ClassId} {n j w : Int32} {vs : List Value} {d : Value} (V : Arv Z h a k .int n vs d) (hj : ¬ j < 0 ∧ j < n) (hv : vs.getD j.toNatClampNeg d = .int w)
    {pc : Nat} {Ls : Array Slot} {S : List Value} (hd : decode c.code pc = .ok (.iaload, 1)) (kk : own_WP p e below E T (mkF m (pc + 1) Ls (.int w :: S))) : own_WP p e below E T (mkF m pc Ls (.int j :: .ref a :: S)) := by
  obtain ⟨cl, A, q, S1, M, H, G⟩ := V
  exact own_go (fun t k => X.iaload hx (j := j) (v := .int w) (by rw [eT]; exact A.1) (State.isArrayOf_alike hZ.alike A.2.1) A.2.2 (inb_of S1 hj) (own_at S1 H hj hv) (g := mkF m pc Ls (.int j :: .ref a :: S)) rfl rfl hd t k) kk
theorem own_ldJ (X : Stand p l e R s m args below meth c T locs cells slots) (hx : p.tables.exec = Jvm.exec) (hZ : Z.Warmed39 s.vm) (eT : T.heap = h) {a : Addr} {k : ClassId} {n j : Int32} {w : Int64} {vs : List Value} {d : Value} (V : Arv Z h a k .long n vs d) (hj : ¬ j < 0 ∧ j < n) (hv : vs.getD j.toNatClampNeg d = .long w)
    {pc : Nat} {Ls : Array Slot} {S : List Value} (hd : decode c.code pc = .ok (.laload, 1)) (kk : own_WP p e below E T (mkF m (pc + 1) Ls (.long w :: S))) : own_WP p e below E T (mkF m pc Ls (.int j :: .ref a :: S)) := by
  obtain ⟨cl, A, q, S1, M, H, G⟩ := V
  exact own_go (fun t k => X.laload hx (j := j) (v := .long w) (by rw [eT]; exact A.1) (State.isArrayOf_alike hZ.alike A.2.1) A.2.2 (inb_of S1 hj) (own_at S1 H hj hv) (g := mkF m pc Ls (.int j :: .ref a :: S)) rfl rfl hd t k) kk
theorem own_ldB (X : Stand p l e R s m args below meth c T locs cells slots) (hx : p.tables.exec = Jvm.exec) (hZ : Z.Warmed39 s.vm) (eT : T.heap = h) {a : Addr} {k : ClassId} {n j w : Int32} {vs : List Value} {d : Value} (V : Arv Z h a k .byte n vs d) (hj : ¬ j < 0 ∧ j < n) (hv : vs.getD j.toNatClampNeg d = .int w)
    {pc : Nat} {Ls : Array Slot} {S : List Value} (hd : decode c.code pc = .ok (.baload, 1)) (kk : own_WP p e below E T (mkF m (pc + 1) Ls (.int w :: S))) : own_WP p e below E T (mkF m pc Ls (.int j :: .ref a :: S)) := by
  obtain ⟨cl, A, q, S1, M, H, G⟩ := V
  exact own_go (fun t k => X.baloadBytes hx (j := j) (v := .int w) (by rw [eT]; exact A.1) (State.isArrayOf_alike hZ.alike A.2.1) A.2.2 (inb_of S1 hj) (own_at S1 H hj hv) (g := mkF m pc Ls (.int j :: .ref a :: S)) rfl rfl hd t k) kk
theorem own_ldR (X : Stand p l e R s m args below meth c T locs cells slots) (hx : p.tables.exec = Jvm.exec) (hZ : Z.Warmed39 s.vm) (eT : T.heap = h) {a : Addr} {k : ClassId} {ty : FieldType} (hty : ty.isReference = true) {n j : Int32} {w : Value} {vs : List Value} {d : Value} (V : Arv Z h a k ty n vs d) (hj : ¬ j < 0 ∧ j < n) (hv : vs.getD j.toNatClampNeg d = w)
    {pc : Nat} {Ls : Array Slot} {S : List Value} (hd : decode c.code pc = .ok (.aaload, 1)) (kk : own_WP p e below E T (mkF m (pc + 1) Ls (w :: S))) : own_WP p e below E T (mkF m pc Ls (.int j :: .ref a :: S)) := by
  obtain ⟨cl, A, q, S1, M, H, G⟩ := V
  exact own_go (fun t k => X.aaload hx (j := j) (v := w) (by rw [eT]; exact A.1) (State.isArrayOf_alike hZ.alike A.2.1) hty A.2.2 (inb_of S1 hj) (own_at S1 H hj hv) (g := mkF m pc Ls (.int j :: .ref a :: S)) rfl rfl hd t k) kk
theorem own_stI (X : Stand p l e R s m args below meth c T locs cells slots) (hx : p.tables.exec = Jvm.exec) (hZ : Z.Warmed39 s.vm) (eT : T.heap = h) {a : Addr} {k : ClassId} {n j x : Int32} {vs : List Value} {d : Value} (V : Arv Z h a k .int n vs d) (hj : ¬ j < 0 ∧ j < n) {i : Nat} (hji : j.toNatClampNeg = i) (hi : i < vs.length)
    {pc : Nat} {Ls : Array Slot} {S : List Value} (hd : decode c.code pc = .ok (.iastore, 1))
    (kk : ∀ T' h', Stand p l e R s m args below meth c T' (locs ++ [⟨a, j.toNatClampNeg⟩]) cells slots → T'.heap = h' → Wr h h' a j.toNatClampNeg (.int x) → Arv Z h' a k .int n (vs.set i (.int x)) d → own_WP p e below E T' (mkF m (pc + 1) Ls S)) : own_WP p e below E T (mkF m pc Ls (.int x :: .int j :: .ref a :: S)) := by
  obtain ⟨cl, A, q, S1, M, H, G⟩ := V
  obtain ⟨T', h', X', e', W', st⟩ := stI X hx hZ eT A (j := j) (inb_of S1 hj) (g := mkF m pc Ls (.int x :: .int j :: .ref a :: S)) rfl rfl hd
  exact own_go st (kk T' h' X' e' W' (Arv.set A q S1 M H G rfl W' i hji hi))
theorem own_stJ (X : Stand p l e R s m args below meth c T locs cells slots) (hx : p.tables.exec = Jvm.exec) (hZ : Z.Warmed39 s.vm) (eT : T.heap = h) {a : Addr} {k : ClassId} {n j : Int32} {x : Int64} {vs : List Value} {d : Value} (V : Arv Z h a k .long n vs d) (hj : ¬ j < 0 ∧ j < n) {i : Nat} (hji : j.toNatClampNeg = i) (hi : i < vs.length)
    {pc : Nat} {Ls : Array Slot} {S : List Value} (hd : decode c.code pc = .ok (.lastore, 1))
    (kk : ∀ T' h', Stand p l e R s m args below meth c T' (locs ++ [⟨a, j.toNatClampNeg⟩]) cells slots → T'.heap = h' → Wr h h' a j.toNatClampNeg (.long x) → Arv Z h' a k .long n (vs.set i (.long x)) d → own_WP p e below E T' (mkF m (pc + 1) Ls S)) : own_WP p e below E T (mkF m pc Ls (.long x :: .int j :: .ref a :: S)) := by
  obtain ⟨cl, A, q, S1, M, H, G⟩ := V
  obtain ⟨T', h', X', e', W', st⟩ := stJ X hx hZ eT A (j := j) (inb_of S1 hj) (g := mkF m pc Ls (.long x :: .int j :: .ref a :: S)) rfl rfl hd
  exact own_go st (kk T' h' X' e' W' (Arv.set A q S1 M H G rfl W' i hji hi))
theorem own_stB (X : Stand p l e R s m args below meth c T locs cells slots) (hx : p.tables.exec = Jvm.exec) (hZ : Z.Warmed39 s.vm) (eT : T.heap = h) {a : Addr} {k : ClassId} {n j x : Int32} {vs : List Value} {d : Value} (V : Arv Z h a k .byte n vs d) (hj : ¬ j < 0 ∧ j < n) {i : Nat} (hji : j.toNatClampNeg = i) (hi : i < vs.length)
    {pc : Nat} {Ls : Array Slot} {S : List Value} (hd : decode c.code pc = .ok (.bastore, 1))
    (kk : ∀ T' h', Stand p l e R s m args below meth c T' (locs ++ [⟨a, j.toNatClampNeg⟩]) cells slots → T'.heap = h' → Wr h h' a j.toNatClampNeg (.int (nar .byte x)) → Arv Z h' a k .byte n (vs.set i (.int (nar .byte x))) d → own_WP p e below E T' (mkF m (pc + 1) Ls S)) : own_WP p e below E T (mkF m pc Ls (.int x :: .int j :: .ref a :: S)) := by
  obtain ⟨cl, A, q, S1, M, H, G⟩ := V
  obtain ⟨T', h', X', e', W', st⟩ := stB X hx hZ eT A (j := j) (inb_of S1 hj) (g := mkF m pc Ls (.int x :: .int j :: .ref a :: S)) rfl rfl hd
  exact own_go st (kk T' h' X' e' W' (Arv.set A q S1 M H G (fits_nar_byte x) W' i hji hi))
theorem own_nm {x a : Addr} (h : x ≠ a) : x ∉ [a] := fun q => h (List.mem_singleton.mp q)
theorem own_nm0 {x : Addr} : x ∉ ([] : List Addr) := List.not_mem_nil
theorem own_nm2 {x a b : Addr} (h : x ≠ a) (h' : x ≠ b) : x ∉ [a, b] := fun q => by
  rcases List.mem_cons.mp q with r | r
  · exact h r
  · exact h' (List.mem_singleton.mp r)
theorem own_le {h0 h : Heap} {n0 : Nat} {ws : List Addr} (Z0 : n0 ≤ h0.size) (K : Keep h0 h ws) : n0 ≤ h.size := Nat.le_trans Z0 K.1
end OwnKit
theorem own_fin (b : Nat) (y : Int32) (h0 : 0 ≤ y.toInt) (h1 : y.toInt < b) : ∃ n : Fin b, y = Int32.ofNat n.1 := by
  have h2 : y.toInt < 2147483648 := y.toInt_lt
  refine ⟨⟨y.toInt.toNat, by omega⟩, ?_⟩
  apply Int32.toInt_inj.mp
  rw [Int32.toInt_ofNat_of_lt (by show y.toInt.toNat < 2 ^ 31; omega)]
  show y.toInt = (y.toInt.toNat : Int)
  omega
def own_let (z : Int32) : Int32 := if z < 97 then (if z < 65 then -1 else if 70 < z then -1 else (26 + z) - 65) else if 122 < z then (if z < 65 then -1 else if 70 < z then -1 else (26 + z) - 65) else z - 97
def own_sym (z : Int32) : Int32 := if z < 26 then (97 + z).toUInt32.toUInt16.toUInt32.toInt32 else ((65 + z) - 26).toUInt32.toUInt16.toUInt32.toInt32
theorem own_inv2 : ∀ n : Fin 32, own_let (own_sym (Int32.ofNat n.1)) = Int32.ofNat n.1 := by decide +kernel
theorem own_inv1s : ∀ n : Fin 123, own_let (Int32.ofNat n.1) = -1 ∨ (¬ own_let (Int32.ofNat n.1) < 0 ∧ ¬ 31 < own_let (Int32.ofNat n.1) ∧ own_sym (own_let (Int32.ofNat n.1)) = Int32.ofNat n.1) := by decide +kernel
theorem own_inv1 (z : Int32) : own_let z = -1 ∨ (¬ own_let z < 0 ∧ ¬ 31 < own_let z ∧ own_sym (own_let z) = z) := by
  have e0 : (0 : Int32).toInt = 0 := rfl
  have e1 : (97 : Int32).toInt = 97 := rfl
  have e2 : (65 : Int32).toInt = 65 := rfl
  have e3 : (122 : Int32).toInt = 122 := rfl
  by_cases h : 0 ≤ z.toInt ∧ z.toInt < 123
  · obtain ⟨n, rfl⟩ := own_fin 123 z h.1 h.2
    exact own_inv1s n
  · left
    by_cases h1 : z < 97
    · have h2 : z < 65 := by rw [Int32.lt_iff_toInt_lt] at h1 ⊢; omega
      simp [own_let, h1, h2]
    · have h2 : (122 : Int32) < z := by rw [Int32.lt_iff_toInt_lt] at h1 ⊢; omega
      have h3 : ¬ z < 65 := by rw [Int32.lt_iff_toInt_lt] at h1 ⊢; omega
      have h4 : (70 : Int32) < z := by
        have e4 : (70 : Int32).toInt = 70 := rfl
        rw [Int32.lt_iff_toInt_lt] at h1 ⊢; omega
      simp [own_let, h1, h2, h3, h4]

theorem own_nc (x : Int32) : nar .char x.toUInt32.toUInt16.toUInt32.toInt32 = x.toUInt32.toUInt16.toUInt32.toInt32 := by
  show x.toUInt32.toUInt16.toUInt32.toInt32.toUInt32.toUInt16.toUInt32.toInt32 = _
  rw [UInt32.toUInt32_toInt32, UInt16.toUInt16_toUInt32]
open Jvm.Kit in
theorem own_inv2x (b : Int32) : own_let (own_sym (b &&& 31)) = b &&& 31 := by
  have e : (b &&& 31).toInt = b.toInt % 2 ^ 5 := i32_mask b 31 (k := 5) (by decide) (by decide)
  obtain ⟨n, q⟩ := own_fin 32 (b &&& 31) (by omega) (by omega)
  rw [q]
  exact own_inv2 n
theorem d1_0 : decode prog_10_method_3_code 0 = .ok (.iload_n 0, 1) := by decide +kernel
theorem d1_1 : decode prog_10_method_3_code 1 = .ok (.bipush 97, 2) := by decide +kernel
theorem d1_3 : decode prog_10_method_3_code 3 = .ok (.if_icmp .lt 14, 3) := by decide +kernel
theorem d1_6 : decode prog_10_method_3_code 6 = .ok (.iload_n 0, 1) := by decide +kernel
theorem d1_7 : decode prog_10_method_3_code 7 = .ok (.bipush 122, 2) := by decide +kernel
theorem d1_9 : decode prog_10_method_3_code 9 = .ok (.if_icmp .gt 8, 3) := by decide +kernel
theorem d1_12 : decode prog_10_method_3_code 12 = .ok (.iload_n 0, 1) := by decide +kernel
theorem d1_13 : decode prog_10_method_3_code 13 = .ok (.bipush 97, 2) := by decide +kernel
theorem d1_15 : decode prog_10_method_3_code 15 = .ok (.isub, 1) := by decide +kernel
theorem d1_16 : decode prog_10_method_3_code 16 = .ok (.ireturn, 1) := by decide +kernel
theorem d1_17 : decode prog_10_method_3_code 17 = .ok (.iload_n 0, 1) := by decide +kernel
theorem d1_18 : decode prog_10_method_3_code 18 = .ok (.bipush 65, 2) := by decide +kernel
theorem d1_20 : decode prog_10_method_3_code 20 = .ok (.if_icmp .lt 17, 3) := by decide +kernel
theorem d1_23 : decode prog_10_method_3_code 23 = .ok (.iload_n 0, 1) := by decide +kernel
theorem d1_24 : decode prog_10_method_3_code 24 = .ok (.bipush 70, 2) := by decide +kernel
theorem d1_26 : decode prog_10_method_3_code 26 = .ok (.if_icmp .gt 11, 3) := by decide +kernel
theorem d1_29 : decode prog_10_method_3_code 29 = .ok (.bipush 26, 2) := by decide +kernel
theorem d1_31 : decode prog_10_method_3_code 31 = .ok (.iload_n 0, 1) := by decide +kernel
theorem d1_32 : decode prog_10_method_3_code 32 = .ok (.iadd, 1) := by decide +kernel
theorem d1_33 : decode prog_10_method_3_code 33 = .ok (.bipush 65, 2) := by decide +kernel
theorem d1_35 : decode prog_10_method_3_code 35 = .ok (.isub, 1) := by decide +kernel
theorem d1_36 : decode prog_10_method_3_code 36 = .ok (.ireturn, 1) := by decide +kernel
theorem d1_37 : decode prog_10_method_3_code 37 = .ok (.iconst (-1), 1) := by decide +kernel
theorem d1_38 : decode prog_10_method_3_code 38 = .ok (.ireturn, 1) := by decide +kernel
theorem own_pn80992 : plainName "sinkward/Label" = true := by first | (simp [plainName, overriddenIn]; done) | decide +kernel
theorem ef_1 (m : MethodId) (zc : Int32) : entryFrame m #[(.int zc)] 1 = mkF m 0 #[.val (.int zc)] [] := by first | (simp [entryFrame, mkF, argsToLocals, Value.category]; done) | rfl
def Q1 (Z : State) (zc : Int32) (h0 : Heap) (n0 : Nat) (v : Option Value) (h : Heap) (L : List Loc) : Prop := v = some (.int (own_let zc)) ∧ Fr n0 L ∧ h = h0
set_option maxRecDepth 65536 in
set_option maxHeartbeats 40000000 in
theorem rm1 (l : Launch) (Z : State) (a0 : Array Value) (hw : ∀ d ∈ tables_1, d.before a0 Z = true) (ws : List Jvm.Cond) (zc : Int32) (h0 : Heap) (n0 : Nat) (Z0 : n0 ≤ h0.size)  :
    MetFree l (⟨"sinkward/Label", "letter", "(C)I"⟩ : MethodName) (head1 (Jvm.Cond.code (⟨"sinkward/Label", "letter", "(C)I"⟩ : MethodName) prog_10_method_3_code 1 (some .int) :: ws) ({ frames := 0, cells := 0, slots := 0, locals := 0 } : Room)) (fun a U => a = #[(.int zc)] ∧ Z.Warmed39 U.vm ∧ U.heap = h0) (fun _ _ _ _ _ => True) (fun _ U o U' => ∃ v L, o = .returned v ∧ Q1 Z zc h0 n0 v U'.heap L ∧ FrameEnd U o U' L ({ frames := 0, cells := 0, slots := 0, locals := 0 } : Room).cells ({ frames := 0, cells := 0, slots := 0, locals := 0 } : Room).slots) := by
  refine MetFree.of_bodySF (plainFor_of_name own_pn80992) hisR ?_
  intro p e s m args below meth c s₁ Bd hml0 hP hK
  obtain ⟨rfl, hZ, hh⟩ := hP
  have hx := Bd.exec
  have hby := Bd.bytes
  have hml : c.maxLocals = 1 := hml0
  have hown : s.vm.findClass "sinkward/Label" = some m.cls := findClass_of_methodNamed Bd.named
  have hnm := (name_of_methodNamed Bd.named Bd.method).1
  have X0 : Stand p l e ({ frames := 0, cells := 0, slots := 0, locals := 0 } : Room) s m #[(.int zc)] below meth c s₁ [] 0 0 := Stand.of_body Bd
  have e0 : s₁.heap = h0 := by rw [← hh, Bd.state]; rfl
  have N0 := Fr.nil n0
  have K0 := Keep.refl h0 ([] : List Addr)
  show own_WP p e below (own_E s (Q1 Z zc h0 n0) 0 0) s₁ (entryFrame m #[(.int zc)] 1)
  rw [ef_1 m zc]
  show own_WP _ _ _ _ s₁ (mkF m 0 #[.val (.int zc)] [])
  refine own_go (fun t k => XS.iloadN X0.here hx rfl (hb hby d1_0) rfl  k) ?_
  show own_WP _ _ _ _ s₁ (mkF m 1 #[.val (.int zc)] [(.int zc)])
  refine own_go (fun t k => XS.bipush X0.here hx rfl (hb hby d1_1) k) ?_
  show own_WP _ _ _ _ s₁ (mkF m 3 #[.val (.int zc)] [(.int (97 : Int32)), (.int zc)])
  by_cases hc3 : zc < (97 : Int32)
  · refine own_go (fun t k => XS.icmpYes X0.here hx rfl (pc0 := 3) (pc' := 17) rfl (hb hby d1_3) rfl (tlt hc3).1 (by decide) (by decide) k) ?_
    show own_WP _ _ _ _ s₁ (mkF m 17 #[.val (.int zc)] [])
    refine own_go (fun t k => XS.iloadN X0.here hx rfl (hb hby d1_17) rfl  k) ?_
    show own_WP _ _ _ _ s₁ (mkF m 18 #[.val (.int zc)] [(.int zc)])
    refine own_go (fun t k => XS.bipush X0.here hx rfl (hb hby d1_18) k) ?_
    show own_WP _ _ _ _ s₁ (mkF m 20 #[.val (.int zc)] [(.int (65 : Int32)), (.int zc)])
    by_cases hc20 : zc < (65 : Int32)
    · refine own_go (fun t k => XS.icmpYes X0.here hx rfl (pc0 := 20) (pc' := 37) rfl (hb hby d1_20) rfl (tlt hc20).1 (by decide) (by decide) k) ?_
      show own_WP _ _ _ _ s₁ (mkF m 37 #[.val (.int zc)] [])
      refine own_go (fun t k => XS.iconst X0.here hx rfl (hb hby d1_37) k) ?_
      show own_WP _ _ _ _ s₁ (mkF m 38 #[.val (.int zc)] [(.int (-1 : Int32))])
      refine own_retI X0 hx Bd.notSynchronized Bd.returns (hb hby d1_38) (by decide) (by decide) ?_
      rw [e0]
      exact ⟨(congrArg (fun z => some (Value.int z)) (show (-1 : Int32) = (own_let zc) from by first | (simp [nar, own_let, hc3, hc20]; done) | (simp only [if_true, if_false, eq_self, ↓reduceIte, own_let, hc3, hc20]; first | done | rfl | decide))), N0, rfl⟩
    · refine own_go (fun t k => XS.icmpNo X0.here hx rfl (hb hby d1_20) rfl (flt hc20).1 k) ?_
      show own_WP _ _ _ _ s₁ (mkF m 23 #[.val (.int zc)] [])
      refine own_go (fun t k => XS.iloadN X0.here hx rfl (hb hby d1_23) rfl  k) ?_
      show own_WP _ _ _ _ s₁ (mkF m 24 #[.val (.int zc)] [(.int zc)])
      refine own_go (fun t k => XS.bipush X0.here hx rfl (hb hby d1_24) k) ?_
      show own_WP _ _ _ _ s₁ (mkF m 26 #[.val (.int zc)] [(.int (70 : Int32)), (.int zc)])
      by_cases hc26 : (70 : Int32) < zc
      · refine own_go (fun t k => XS.icmpYes X0.here hx rfl (pc0 := 26) (pc' := 37) rfl (hb hby d1_26) rfl (tlt hc26).2.2.1 (by decide) (by decide) k) ?_
        show own_WP _ _ _ _ s₁ (mkF m 37 #[.val (.int zc)] [])
        refine own_go (fun t k => XS.iconst X0.here hx rfl (hb hby d1_37) k) ?_
        show own_WP _ _ _ _ s₁ (mkF m 38 #[.val (.int zc)] [(.int (-1 : Int32))])
        refine own_retI X0 hx Bd.notSynchronized Bd.returns (hb hby d1_38) (by decide) (by decide) ?_
        rw [e0]
        exact ⟨(congrArg (fun z => some (Value.int z)) (show (-1 : Int32) = (own_let zc) from by first | (simp [nar, own_let, hc3, hc20, hc26]; done) | (simp only [if_true, if_false, eq_self, ↓reduceIte, own_let, hc3, hc20, hc26]; first | done | rfl | decide))), N0, rfl⟩
      · refine own_go (fun t k => XS.icmpNo X0.here hx rfl (hb hby d1_26) rfl (flt hc26).2.2.1 k) ?_
        show own_WP _ _ _ _ s₁ (mkF m 29 #[.val (.int zc)] [])
        refine own_go (fun t k => XS.bipush X0.here hx rfl (hb hby d1_29) k) ?_
        show own_WP _ _ _ _ s₁ (mkF m 31 #[.val (.int zc)] [(.int (26 : Int32))])
        refine own_go (fun t k => XS.iloadN X0.here hx rfl (hb hby d1_31) rfl  k) ?_
        show own_WP _ _ _ _ s₁ (mkF m 32 #[.val (.int zc)] [(.int zc), (.int (26 : Int32))])
        refine own_go (fun t k => XS.iadd X0.here hx rfl (hb hby d1_32) rfl k) ?_
        show own_WP _ _ _ _ s₁ (mkF m 33 #[.val (.int zc)] [(.int ((26 : Int32) + zc))])
        refine own_go (fun t k => XS.bipush X0.here hx rfl (hb hby d1_33) k) ?_
        show own_WP _ _ _ _ s₁ (mkF m 35 #[.val (.int zc)] [(.int (65 : Int32)), (.int ((26 : Int32) + zc))])
        refine own_go (fun t k => XS.isub X0.here hx rfl (hb hby d1_35) rfl k) ?_
        show own_WP _ _ _ _ s₁ (mkF m 36 #[.val (.int zc)] [(.int (((26 : Int32) + zc) - (65 : Int32)))])
        refine own_retI X0 hx Bd.notSynchronized Bd.returns (hb hby d1_36) (by decide) (by decide) ?_
        rw [e0]
        exact ⟨(congrArg (fun z => some (Value.int z)) (show (((26 : Int32) + zc) - (65 : Int32)) = (own_let zc) from by first | (simp [nar, own_let, hc3, hc20, hc26]; done) | (simp only [if_true, if_false, eq_self, ↓reduceIte, own_let, hc3, hc20, hc26]; first | done | rfl | decide))), N0, rfl⟩
  · refine own_go (fun t k => XS.icmpNo X0.here hx rfl (hb hby d1_3) rfl (flt hc3).1 k) ?_
    show own_WP _ _ _ _ s₁ (mkF m 6 #[.val (.int zc)] [])
    refine own_go (fun t k => XS.iloadN X0.here hx rfl (hb hby d1_6) rfl  k) ?_
    show own_WP _ _ _ _ s₁ (mkF m 7 #[.val (.int zc)] [(.int zc)])
    refine own_go (fun t k => XS.bipush X0.here hx rfl (hb hby d1_7) k) ?_
    show own_WP _ _ _ _ s₁ (mkF m 9 #[.val (.int zc)] [(.int (122 : Int32)), (.int zc)])
    by_cases hc9 : (122 : Int32) < zc
    · refine own_go (fun t k => XS.icmpYes X0.here hx rfl (pc0 := 9) (pc' := 17) rfl (hb hby d1_9) rfl (tlt hc9).2.2.1 (by decide) (by decide) k) ?_
      show own_WP _ _ _ _ s₁ (mkF m 17 #[.val (.int zc)] [])
      refine own_go (fun t k => XS.iloadN X0.here hx rfl (hb hby d1_17) rfl  k) ?_
      show own_WP _ _ _ _ s₁ (mkF m 18 #[.val (.int zc)] [(.int zc)])
      refine own_go (fun t k => XS.bipush X0.here hx rfl (hb hby d1_18) k) ?_
      show own_WP _ _ _ _ s₁ (mkF m 20 #[.val (.int zc)] [(.int (65 : Int32)), (.int zc)])
      by_cases hc20 : zc < (65 : Int32)
      · refine own_go (fun t k => XS.icmpYes X0.here hx rfl (pc0 := 20) (pc' := 37) rfl (hb hby d1_20) rfl (tlt hc20).1 (by decide) (by decide) k) ?_
        show own_WP _ _ _ _ s₁ (mkF m 37 #[.val (.int zc)] [])
        refine own_go (fun t k => XS.iconst X0.here hx rfl (hb hby d1_37) k) ?_
        show own_WP _ _ _ _ s₁ (mkF m 38 #[.val (.int zc)] [(.int (-1 : Int32))])
        refine own_retI X0 hx Bd.notSynchronized Bd.returns (hb hby d1_38) (by decide) (by decide) ?_
        rw [e0]
        exact ⟨(congrArg (fun z => some (Value.int z)) (show (-1 : Int32) = (own_let zc) from by first | (simp [nar, own_let, hc3, hc9, hc20]; done) | (simp only [if_true, if_false, eq_self, ↓reduceIte, own_let, hc3, hc9, hc20]; first | done | rfl | decide))), N0, rfl⟩
      · refine own_go (fun t k => XS.icmpNo X0.here hx rfl (hb hby d1_20) rfl (flt hc20).1 k) ?_
        show own_WP _ _ _ _ s₁ (mkF m 23 #[.val (.int zc)] [])
        refine own_go (fun t k => XS.iloadN X0.here hx rfl (hb hby d1_23) rfl  k) ?_
        show own_WP _ _ _ _ s₁ (mkF m 24 #[.val (.int zc)] [(.int zc)])
        refine own_go (fun t k => XS.bipush X0.here hx rfl (hb hby d1_24) k) ?_
        show own_WP _ _ _ _ s₁ (mkF m 26 #[.val (.int zc)] [(.int (70 : Int32)), (.int zc)])
        by_cases hc26 : (70 : Int32) < zc
        · refine own_go (fun t k => XS.icmpYes X0.here hx rfl (pc0 := 26) (pc' := 37) rfl (hb hby d1_26) rfl (tlt hc26).2.2.1 (by decide) (by decide) k) ?_
          show own_WP _ _ _ _ s₁ (mkF m 37 #[.val (.int zc)] [])
          refine own_go (fun t k => XS.iconst X0.here hx rfl (hb hby d1_37) k) ?_
          show own_WP _ _ _ _ s₁ (mkF m 38 #[.val (.int zc)] [(.int (-1 : Int32))])
          refine own_retI X0 hx Bd.notSynchronized Bd.returns (hb hby d1_38) (by decide) (by decide) ?_
          rw [e0]
          exact ⟨(congrArg (fun z => some (Value.int z)) (show (-1 : Int32) = (own_let zc) from by first | (simp [nar, own_let, hc3, hc9, hc20, hc26]; done) | (simp only [if_true, if_false, eq_self, ↓reduceIte, own_let, hc3, hc9, hc20, hc26]; first | done | rfl | decide))), N0, rfl⟩
        · refine own_go (fun t k => XS.icmpNo X0.here hx rfl (hb hby d1_26) rfl (flt hc26).2.2.1 k) ?_
          show own_WP _ _ _ _ s₁ (mkF m 29 #[.val (.int zc)] [])
          refine own_go (fun t k => XS.bipush X0.here hx rfl (hb hby d1_29) k) ?_
          show own_WP _ _ _ _ s₁ (mkF m 31 #[.val (.int zc)] [(.int (26 : Int32))])
          refine own_go (fun t k => XS.iloadN X0.here hx rfl (hb hby d1_31) rfl  k) ?_
          show own_WP _ _ _ _ s₁ (mkF m 32 #[.val (.int zc)] [(.int zc), (.int (26 : Int32))])
          refine own_go (fun t k => XS.iadd X0.here hx rfl (hb hby d1_32) rfl k) ?_
          show own_WP _ _ _ _ s₁ (mkF m 33 #[.val (.int zc)] [(.int ((26 : Int32) + zc))])
          refine own_go (fun t k => XS.bipush X0.here hx rfl (hb hby d1_33) k) ?_
          show own_WP _ _ _ _ s₁ (mkF m 35 #[.val (.int zc)] [(.int (65 : Int32)), (.int ((26 : Int32) + zc))])
          refine own_go (fun t k => XS.isub X0.here hx rfl (hb hby d1_35) rfl k) ?_
          show own_WP _ _ _ _ s₁ (mkF m 36 #[.val (.int zc)] [(.int (((26 : Int32) + zc) - (65 : Int32)))])
          refine own_retI X0 hx Bd.notSynchronized Bd.returns (hb hby d1_36) (by decide) (by decide) ?_
          rw [e0]
          exact ⟨(congrArg (fun z => some (Value.int z)) (show (((26 : Int32) + zc) - (65 : Int32)) = (own_let zc) from by first | (simp [nar, own_let, hc3, hc9, hc20, hc26]; done) | (simp only [if_true, if_false, eq_self, ↓reduceIte, own_let, hc3, hc9, hc20, hc26]; first | done | rfl | decide))), N0, rfl⟩
    · refine own_go (fun t k => XS.icmpNo X0.here hx rfl (hb hby d1_9) rfl (flt hc9).2.2.1 k) ?_
      show own_WP _ _ _ _ s₁ (mkF m 12 #[.val (.int zc)] [])
      refine own_go (fun t k => XS.iloadN X0.here hx rfl (hb hby d1_12) rfl  k) ?_
      show own_WP _ _ _ _ s₁ (mkF m 13 #[.val (.int zc)] [(.int zc)])
      refine own_go (fun t k => XS.bipush X0.here hx rfl (hb hby d1_13) k) ?_
      show own_WP _ _ _ _ s₁ (mkF m 15 #[.val (.int zc)] [(.int (97 : Int32)), (.int zc)])
      refine own_go (fun t k => XS.isub X0.here hx rfl (hb hby d1_15) rfl k) ?_
      show own_WP _ _ _ _ s₁ (mkF m 16 #[.val (.int zc)] [(.int (zc - (97 : Int32)))])
      refine own_retI X0 hx Bd.notSynchronized Bd.returns (hb hby d1_16) (by decide) (by decide) ?_
      rw [e0]
      exact ⟨(congrArg (fun z => some (Value.int z)) (show (zc - (97 : Int32)) = (own_let zc) from by first | (simp [nar, own_let, hc3, hc9]; done) | (simp only [if_true, if_false, eq_self, ↓reduceIte, own_let, hc3, hc9]; first | done | rfl | decide))), N0, rfl⟩
theorem d2_0 : decode prog_10_method_4_code 0 = .ok (.iload_n 0, 1) := by decide +kernel
theorem d2_1 : decode prog_10_method_4_code 1 = .ok (.bipush 26, 2) := by decide +kernel
theorem d2_3 : decode prog_10_method_4_code 3 = .ok (.if_icmp .ge 10, 3) := by decide +kernel
theorem d2_6 : decode prog_10_method_4_code 6 = .ok (.bipush 97, 2) := by decide +kernel
theorem d2_8 : decode prog_10_method_4_code 8 = .ok (.iload_n 0, 1) := by decide +kernel
theorem d2_9 : decode prog_10_method_4_code 9 = .ok (.iadd, 1) := by decide +kernel
theorem d2_10 : decode prog_10_method_4_code 10 = .ok (.goto 10, 3) := by decide +kernel
theorem d2_13 : decode prog_10_method_4_code 13 = .ok (.bipush 65, 2) := by decide +kernel
theorem d2_15 : decode prog_10_method_4_code 15 = .ok (.iload_n 0, 1) := by decide +kernel
theorem d2_16 : decode prog_10_method_4_code 16 = .ok (.iadd, 1) := by decide +kernel
theorem d2_17 : decode prog_10_method_4_code 17 = .ok (.bipush 26, 2) := by decide +kernel
theorem d2_19 : decode prog_10_method_4_code 19 = .ok (.isub, 1) := by decide +kernel
theorem d2_20 : decode prog_10_method_4_code 20 = .ok (.i2c, 1) := by decide +kernel
theorem d2_21 : decode prog_10_method_4_code 21 = .ok (.ireturn, 1) := by decide +kernel
theorem ef_2 (m : MethodId) (zi : Int32) : entryFrame m #[(.int zi)] 1 = mkF m 0 #[.val (.int zi)] [] := by first | (simp [entryFrame, mkF, argsToLocals, Value.category]; done) | rfl
def Q2 (Z : State) (zi : Int32) (h0 : Heap) (n0 : Nat) (v : Option Value) (h : Heap) (L : List Loc) : Prop := v = some (.int (own_sym zi)) ∧ Fr n0 L ∧ h = h0
set_option maxRecDepth 65536 in
set_option maxHeartbeats 40000000 in
theorem rm2 (l : Launch) (Z : State) (a0 : Array Value) (hw : ∀ d ∈ tables_1, d.before a0 Z = true) (ws : List Jvm.Cond) (zi : Int32) (h0 : Heap) (n0 : Nat) (Z0 : n0 ≤ h0.size)  :
    MetFree l (⟨"sinkward/Label", "symbol", "(I)C"⟩ : MethodName) (head1 (Jvm.Cond.code (⟨"sinkward/Label", "symbol", "(I)C"⟩ : MethodName) prog_10_method_4_code 1 (some .char) :: ws) ({ frames := 0, cells := 0, slots := 0, locals := 0 } : Room)) (fun a U => a = #[(.int zi)] ∧ Z.Warmed39 U.vm ∧ U.heap = h0) (fun _ _ _ _ _ => True) (fun _ U o U' => ∃ v L, o = .returned v ∧ Q2 Z zi h0 n0 v U'.heap L ∧ FrameEnd U o U' L ({ frames := 0, cells := 0, slots := 0, locals := 0 } : Room).cells ({ frames := 0, cells := 0, slots := 0, locals := 0 } : Room).slots) := by
  refine MetFree.of_bodySF (plainFor_of_name own_pn80992) hisR ?_
  intro p e s m args below meth c s₁ Bd hml0 hP hK
  obtain ⟨rfl, hZ, hh⟩ := hP
  have hx := Bd.exec
  have hby := Bd.bytes
  have hml : c.maxLocals = 1 := hml0
  have hown : s.vm.findClass "sinkward/Label" = some m.cls := findClass_of_methodNamed Bd.named
  have hnm := (name_of_methodNamed Bd.named Bd.method).1
  have X0 : Stand p l e ({ frames := 0, cells := 0, slots := 0, locals := 0 } : Room) s m #[(.int zi)] below meth c s₁ [] 0 0 := Stand.of_body Bd
  have e0 : s₁.heap = h0 := by rw [← hh, Bd.state]; rfl
  have N0 := Fr.nil n0
  have K0 := Keep.refl h0 ([] : List Addr)
  show own_WP p e below (own_E s (Q2 Z zi h0 n0) 0 0) s₁ (entryFrame m #[(.int zi)] 1)
  rw [ef_2 m zi]
  show own_WP _ _ _ _ s₁ (mkF m 0 #[.val (.int zi)] [])
  refine own_go (fun t k => XS.iloadN X0.here hx rfl (hb hby d2_0) rfl  k) ?_
  show own_WP _ _ _ _ s₁ (mkF m 1 #[.val (.int zi)] [(.int zi)])
  refine own_go (fun t k => XS.bipush X0.here hx rfl (hb hby d2_1) k) ?_
  show own_WP _ _ _ _ s₁ (mkF m 3 #[.val (.int zi)] [(.int (26 : Int32)), (.int zi)])
  by_cases hc3 : zi < (26 : Int32)
  · refine own_go (fun t k => XS.icmpNo X0.here hx rfl (hb hby d2_3) rfl (tlt hc3).2.1 k) ?_
    show own_WP _ _ _ _ s₁ (mkF m 6 #[.val (.int zi)] [])
    refine own_go (fun t k => XS.bipush X0.here hx rfl (hb hby d2_6) k) ?_
    show own_WP _ _ _ _ s₁ (mkF m 8 #[.val (.int zi)] [(.int (97 : Int32))])
    refine own_go (fun t k => XS.iloadN X0.here hx rfl (hb hby d2_8) rfl  k) ?_
    show own_WP _ _ _ _ s₁ (mkF m 9 #[.val (.int zi)] [(.int zi), (.int (97 : Int32))])
    refine own_go (fun t k => XS.iadd X0.here hx rfl (hb hby d2_9) rfl k) ?_
    show own_WP _ _ _ _ s₁ (mkF m 10 #[.val (.int zi)] [(.int ((97 : Int32) + zi))])
    refine own_go (fun t k => XS.goto X0.here hx rfl (pc0 := 10) (pc' := 20) rfl (hb hby d2_10) (by decide) (by decide) k) ?_
    show own_WP _ _ _ _ s₁ (mkF m 20 #[.val (.int zi)] [(.int ((97 : Int32) + zi))])
    refine own_go (fun t k => XS.i2c X0.here hx rfl (hb hby d2_20) rfl k) ?_
    show own_WP _ _ _ _ s₁ (mkF m 21 #[.val (.int zi)] [(.int (((97 : Int32) + zi).toUInt32.toUInt16.toUInt32.toInt32))])
    refine own_retN X0 hx Bd.notSynchronized (t := .char) (by simp) Bd.returns (hb hby d2_21) (by decide) (by decide) ?_
    rw [e0]
    exact ⟨(congrArg (fun z => some (Value.int z)) (show (nar .char (((97 : Int32) + zi).toUInt32.toUInt16.toUInt32.toInt32)) = (own_sym zi) from by unfold own_sym; rw [if_pos hc3]; exact own_nc _)), N0, rfl⟩
  · refine own_go (fun t k => XS.icmpYes X0.here hx rfl (pc0 := 3) (pc' := 13) rfl (hb hby d2_3) rfl (flt hc3).2.1 (by decide) (by decide) k) ?_
    show own_WP _ _ _ _ s₁ (mkF m 13 #[.val (.int zi)] [])
    refine own_go (fun t k => XS.bipush X0.here hx rfl (hb hby d2_13) k) ?_
    show own_WP _ _ _ _ s₁ (mkF m 15 #[.val (.int zi)] [(.int (65 : Int32))])
    refine own_go (fun t k => XS.iloadN X0.here hx rfl (hb hby d2_15) rfl  k) ?_
    show own_WP _ _ _ _ s₁ (mkF m 16 #[.val (.int zi)] [(.int zi), (.int (65 : Int32))])
    refine own_go (fun t k => XS.iadd X0.here hx rfl (hb hby d2_16) rfl k) ?_
    show own_WP _ _ _ _ s₁ (mkF m 17 #[.val (.int zi)] [(.int ((65 : Int32) + zi))])
    refine own_go (fun t k => XS.bipush X0.here hx rfl (hb hby d2_17) k) ?_
    show own_WP _ _ _ _ s₁ (mkF m 19 #[.val (.int zi)] [(.int (26 : Int32)), (.int ((65 : Int32) + zi))])
    refine own_go (fun t k => XS.isub X0.here hx rfl (hb hby d2_19) rfl k) ?_
    show own_WP _ _ _ _ s₁ (mkF m 20 #[.val (.int zi)] [(.int (((65 : Int32) + zi) - (26 : Int32)))])
    refine own_go (fun t k => XS.i2c X0.here hx rfl (hb hby d2_20) rfl k) ?_
    show own_WP _ _ _ _ s₁ (mkF m 21 #[.val (.int zi)] [(.int ((((65 : Int32) + zi) - (26 : Int32)).toUInt32.toUInt16.toUInt32.toInt32))])
    refine own_retN X0 hx Bd.notSynchronized (t := .char) (by simp) Bd.returns (hb hby d2_21) (by decide) (by decide) ?_
    rw [e0]
    exact ⟨(congrArg (fun z => some (Value.int z)) (show (nar .char ((((65 : Int32) + zi) - (26 : Int32)).toUInt32.toUInt16.toUInt32.toInt32)) = (own_sym zi) from by unfold own_sym; rw [if_neg hc3]; exact own_nc _)), N0, rfl⟩
theorem own_pd78871 : parseMethodDescriptor "(C)I" = some ⟨[.char], some .int⟩ := by decide +kernel
theorem own_pd81831 : parseMethodDescriptor "(I)C" = some ⟨[.int], some .char⟩ := by decide +kernel
theorem own_pn81379 : plainName "sinkward/LabelLetterPinLaw" = true := by first | (simp [plainName, overriddenIn]; done) | decide +kernel
theorem ef_0 (m : MethodId) (za : Int32) (zb : Int32) : entryFrame m #[(.int za), (.int zb)] maxLocals = mkF m 0 #[.val (.int za), .val (.int zb), .unset, .unset, .unset, .unset, .unset, .unset] [] := by first | (simp [entryFrame, mkF, argsToLocals, Value.category, maxLocals]; done) | rfl
def Q0 (Z : State) (za : Int32) (zb : Int32) (h0 : Heap) (n0 : Nat) (v : Option Value) (h : Heap) (L : List Loc) : Prop := v = some (.int 1) ∧ Fr n0 L
set_option maxRecDepth 65536 in
set_option maxHeartbeats 40000000 in
theorem rm0 (l : Launch) (Z : State) (a0 : Array Value) (hw : ∀ d ∈ tables_1, d.before a0 Z = true) (ws : List Jvm.Cond) (za : Int32) (zb : Int32) (h0 : Heap) (n0 : Nat) (Z0 : n0 ≤ h0.size)  :
    MetFree l x (head1 (Jvm.Cond.code x code maxLocals ret :: ws) room_1) (fun a U => a = #[(.int za), (.int zb)] ∧ Z.Warmed39 U.vm ∧ U.heap = h0) (fun _ _ _ _ _ => True) (fun _ U o U' => ∃ v L, o = .returned v ∧ Q0 Z za zb h0 n0 v U'.heap L ∧ FrameEnd U o U' L 0 0) := by
  refine MetFree.of_bodySF (plainFor_of_name own_pn81379) hisR ?_
  intro p e s m args below meth c s₁ Bd hml0 hP hK
  obtain ⟨rfl, hZ, hh⟩ := hP
  have hx := Bd.exec
  have hby := Bd.bytes
  have hml : c.maxLocals = 8 := hml0
  have hown : s.vm.findClass "sinkward/LabelLetterPinLaw" = some m.cls := findClass_of_methodNamed Bd.named
  have hnm := (name_of_methodNamed Bd.named Bd.method).1
  have X0 : Stand p l e room_1 s m #[(.int za), (.int zb)] below meth c s₁ [] 0 0 := Stand.of_body Bd
  have e0 : s₁.heap = h0 := by rw [← hh, Bd.state]; rfl
  have N0 := Fr.nil n0
  have K0 := Keep.refl h0 ([] : List Addr)
  show own_WP p e below (own_E s (Q0 Z za zb h0 n0) 0 0) s₁ (entryFrame m #[(.int za), (.int zb)] maxLocals)
  rw [ef_0 m za zb]
  show own_WP _ _ _ _ s₁ (mkF m 0 #[.val (.int za), .val (.int zb), .unset, .unset, .unset, .unset, .unset, .unset] [])
  refine own_go (fun t k => XS.iloadN X0.here hx rfl (hb hby at_0) rfl  k) ?_
  show own_WP _ _ _ _ s₁ (mkF m 1 #[.val (.int za), .val (.int zb), .unset, .unset, .unset, .unset, .unset, .unset] [(.int za)])
  refine own_go (fun t k => X0.ldcInt hx hown (mvT hZ (hw _ (List.mem_of_getElem? (i := 0) rfl))) (g := (mkF m 1 #[.val (.int za), .val (.int zb), .unset, .unset, .unset, .unset, .unset, .unset] [(.int za)])) rfl (hb hby at_1) t k) ?_
  show own_WP _ _ _ _ s₁ (mkF m 3 #[.val (.int za), .val (.int zb), .unset, .unset, .unset, .unset, .unset, .unset] [(.int (65535 : Int32)), (.int za)])
  refine own_go (fun t k => XS.iand X0.here hx rfl (hb hby at_3) rfl k) ?_
  show own_WP _ _ _ _ s₁ (mkF m 4 #[.val (.int za), .val (.int zb), .unset, .unset, .unset, .unset, .unset, .unset] [(.int (za &&& (65535 : Int32)))])
  refine own_go (fun t k => XS.i2c X0.here hx rfl (hb hby at_4) rfl k) ?_
  show own_WP _ _ _ _ s₁ (mkF m 5 #[.val (.int za), .val (.int zb), .unset, .unset, .unset, .unset, .unset, .unset] [(.int ((za &&& (65535 : Int32)).toUInt32.toUInt16.toUInt32.toInt32))])
  generalize d_zc : ((za &&& (65535 : Int32)).toUInt32.toUInt16.toUInt32.toInt32) = zc
  refine own_go (fun t k => XS.istoreN X0.here hx rfl (hb hby at_5) rfl (l' := #[.val (.int za), .val (.int zb), .val (.int zc), .unset, .unset, .unset, .unset, .unset]) rfl k) ?_
  show own_WP _ _ _ _ s₁ (mkF m 6 #[.val (.int za), .val (.int zb), .val (.int zc), .unset, .unset, .unset, .unset, .unset] [])
  refine own_go (fun t k => XS.iloadN X0.here hx rfl (hb hby at_6) rfl  k) ?_
  show own_WP _ _ _ _ s₁ (mkF m 7 #[.val (.int za), .val (.int zb), .val (.int zc), .unset, .unset, .unset, .unset, .unset] [(.int zc)])
  obtain ⟨_, _, ⟨T1, L1, k1, n1⟩, -, X1, ⟨Lc1, hQ1, l1, y1, z1⟩, st1⟩ := Jvm.LawKit.callS X0 hx (y := (⟨"sinkward/Label", "letter", "(C)I"⟩ : MethodName)) hown (mvT hZ (hw _ (List.mem_of_getElem? (i := 1) rfl))) (mvT hZ (hw _ (List.mem_of_getElem? (i := 2) rfl))) (mvT hZ (hw _ (List.mem_of_getElem? (i := 3) rfl))) (mvT hZ (hw _ (List.mem_of_getElem? (i := 4) rfl))) (by decide) (backOf (W := 0) (rm1 l Z a0 hw [] zc  h0 n0 (own_le Z0 K0) ) hZ (hw _ (List.mem_of_getElem? (i := 4) rfl)) (hw _ (List.mem_of_getElem? (i := 3) rfl)) (by decide) (by decide)) (g := (mkF m 7 #[.val (.int za), .val (.int zb), .val (.int zc), .unset, .unset, .unset, .unset, .unset] [(.int zc)])) rfl (by rw [hml]; rfl) (argsL := [(.int zc)]) (rest := []) (lenOf own_pd78871 rfl) rfl (by show 2 * 0 + _ ≤ _; exact Nat.le_of_eq rfl) (hb hby at_7) (fun _ _ => ⟨rfl, e0, (by decide : 0 + 0 ≤ _), (by decide : 0 + 0 ≤ _)⟩)
  dsimp only [Pt.U, Pt.locs, Pt.cells, Pt.slots] at X1 l1 y1 z1 st1 hQ1
  subst l1 y1 z1
  obtain ⟨rfl, N1q, eq1⟩ := hQ1
  have N1 := Fr.app N0 N1q
  refine own_go st1 ?_
  show own_WP _ _ _ _ T1 (mkF m 10 #[.val (.int za), .val (.int zb), .val (.int zc), .unset, .unset, .unset, .unset, .unset] [(.int (own_let zc))])
  generalize d_zr : (own_let zc) = zr
  refine own_go (fun t k => XS.istoreN X1.here hx rfl (hb hby at_10) rfl (l' := #[.val (.int za), .val (.int zb), .val (.int zc), .val (.int zr), .unset, .unset, .unset, .unset]) rfl k) ?_
  have key := own_inv1 zc
  rw [d_zr] at key
  show own_WP _ _ _ _ T1 (mkF m 11 #[.val (.int za), .val (.int zb), .val (.int zc), .val (.int zr), .unset, .unset, .unset, .unset] [])
  refine own_go (fun t k => XS.iloadN X1.here hx rfl (hb hby at_11) rfl  k) ?_
  show own_WP _ _ _ _ T1 (mkF m 12 #[.val (.int za), .val (.int zb), .val (.int zc), .val (.int zr), .unset, .unset, .unset, .unset] [(.int zr)])
  refine own_go (fun t k => XS.iconst X1.here hx rfl (hb hby at_12) k) ?_
  show own_WP _ _ _ _ T1 (mkF m 13 #[.val (.int za), .val (.int zb), .val (.int zc), .val (.int zr), .unset, .unset, .unset, .unset] [(.int (-1 : Int32)), (.int zr)])
  by_cases hc13 : zr = (-1 : Int32)
  · refine own_go (fun t k => XS.icmpYes X1.here hx rfl (pc0 := 13) (pc' := 34) rfl (hb hby at_13) rfl (teq hc13).1 (by decide) (by decide) k) ?_
    show own_WP _ _ _ _ T1 (mkF m 34 #[.val (.int za), .val (.int zb), .val (.int zc), .val (.int zr), .unset, .unset, .unset, .unset] [])
    refine own_go (fun t k => XS.iconst X1.here hx rfl (hb hby at_34) k) ?_
    show own_WP _ _ _ _ T1 (mkF m 35 #[.val (.int za), .val (.int zb), .val (.int zc), .val (.int zr), .unset, .unset, .unset, .unset] [(.int (1 : Int32))])
    refine own_go (fun t k => XS.goto X1.here hx rfl (pc0 := 35) (pc' := 39) rfl (hb hby at_35) (by decide) (by decide) k) ?_
    show own_WP _ _ _ _ T1 (mkF m 39 #[.val (.int za), .val (.int zb), .val (.int zc), .val (.int zr), .unset, .unset, .unset, .unset] [(.int (1 : Int32))])
    refine own_go (fun t k => XS.istore X1.here hx rfl (hb hby at_39) rfl (l' := #[.val (.int za), .val (.int zb), .val (.int zc), .val (.int zr), .val (.int (1 : Int32)), .unset, .unset, .unset]) rfl k) ?_
    show own_WP _ _ _ _ T1 (mkF m 41 #[.val (.int za), .val (.int zb), .val (.int zc), .val (.int zr), .val (.int (1 : Int32)), .unset, .unset, .unset] [])
    refine own_go (fun t k => XS.iloadN X1.here hx rfl (hb hby at_41) rfl  k) ?_
    show own_WP _ _ _ _ T1 (mkF m 42 #[.val (.int za), .val (.int zb), .val (.int zc), .val (.int zr), .val (.int (1 : Int32)), .unset, .unset, .unset] [(.int zb)])
    refine own_go (fun t k => XS.bipush X1.here hx rfl (hb hby at_42) k) ?_
    show own_WP _ _ _ _ T1 (mkF m 44 #[.val (.int za), .val (.int zb), .val (.int zc), .val (.int zr), .val (.int (1 : Int32)), .unset, .unset, .unset] [(.int (31 : Int32)), (.int zb)])
    refine own_go (fun t k => XS.iand X1.here hx rfl (hb hby at_44) rfl k) ?_
    show own_WP _ _ _ _ T1 (mkF m 45 #[.val (.int za), .val (.int zb), .val (.int zc), .val (.int zr), .val (.int (1 : Int32)), .unset, .unset, .unset] [(.int (zb &&& (31 : Int32)))])
    generalize d_zn : (zb &&& (31 : Int32)) = zn
    refine own_go (fun t k => XS.istore X1.here hx rfl (hb hby at_45) rfl (l' := #[.val (.int za), .val (.int zb), .val (.int zc), .val (.int zr), .val (.int (1 : Int32)), .val (.int zn), .unset, .unset]) rfl k) ?_
    show own_WP _ _ _ _ T1 (mkF m 47 #[.val (.int za), .val (.int zb), .val (.int zc), .val (.int zr), .val (.int (1 : Int32)), .val (.int zn), .unset, .unset] [])
    refine own_go (fun t k => XS.iload X1.here hx rfl (hb hby at_47) rfl  k) ?_
    show own_WP _ _ _ _ T1 (mkF m 49 #[.val (.int za), .val (.int zb), .val (.int zc), .val (.int zr), .val (.int (1 : Int32)), .val (.int zn), .unset, .unset] [(.int zn)])
    obtain ⟨_, _, ⟨T2, L2, k2, n2⟩, -, X2, ⟨Lc2, hQ2, l2, y2, z2⟩, st2⟩ := Jvm.LawKit.callS X1 hx (y := (⟨"sinkward/Label", "symbol", "(I)C"⟩ : MethodName)) hown (mvT hZ (hw _ (List.mem_of_getElem? (i := 5) rfl))) (mvT hZ (hw _ (List.mem_of_getElem? (i := 6) rfl))) (mvT hZ (hw _ (List.mem_of_getElem? (i := 3) rfl))) (mvT hZ (hw _ (List.mem_of_getElem? (i := 7) rfl))) (by decide) (backOf (W := 0) (rm2 l Z a0 hw [] zn  h0 n0 (own_le Z0 K0) ) hZ (hw _ (List.mem_of_getElem? (i := 7) rfl)) (hw _ (List.mem_of_getElem? (i := 3) rfl)) (by decide) (by decide)) (g := (mkF m 49 #[.val (.int za), .val (.int zb), .val (.int zc), .val (.int zr), .val (.int (1 : Int32)), .val (.int zn), .unset, .unset] [(.int zn)])) rfl (by rw [hml]; rfl) (argsL := [(.int zn)]) (rest := []) (lenOf own_pd81831 rfl) rfl (by show 2 * 0 + _ ≤ _; exact Nat.le_of_eq rfl) (hb hby at_49) (fun _ _ => ⟨rfl, eq1, (by decide : 0 + 0 ≤ _), (by decide : 0 + 0 ≤ _)⟩)
    dsimp only [Pt.U, Pt.locs, Pt.cells, Pt.slots] at X2 l2 y2 z2 st2 hQ2
    subst l2 y2 z2
    obtain ⟨rfl, N2q, eq2⟩ := hQ2
    have N2 := Fr.app N1 N2q
    refine own_go st2 ?_
    show own_WP _ _ _ _ T2 (mkF m 52 #[.val (.int za), .val (.int zb), .val (.int zc), .val (.int zr), .val (.int (1 : Int32)), .val (.int zn), .unset, .unset] [(.int (own_sym zn))])
    refine own_go (fun t k => XS.istore X2.here hx rfl (hb hby at_52) rfl (l' := #[.val (.int za), .val (.int zb), .val (.int zc), .val (.int zr), .val (.int (1 : Int32)), .val (.int zn), .val (.int (own_sym zn)), .unset]) rfl k) ?_
    show own_WP _ _ _ _ T2 (mkF m 54 #[.val (.int za), .val (.int zb), .val (.int zc), .val (.int zr), .val (.int (1 : Int32)), .val (.int zn), .val (.int (own_sym zn)), .unset] [])
    refine own_go (fun t k => XS.iload X2.here hx rfl (hb hby at_54) rfl  k) ?_
    show own_WP _ _ _ _ T2 (mkF m 56 #[.val (.int za), .val (.int zb), .val (.int zc), .val (.int zr), .val (.int (1 : Int32)), .val (.int zn), .val (.int (own_sym zn)), .unset] [(.int (own_sym zn))])
    obtain ⟨_, _, ⟨T3, L3, k3, n3⟩, -, X3, ⟨Lc3, hQ3, l3, y3, z3⟩, st3⟩ := Jvm.LawKit.callS X2 hx (y := (⟨"sinkward/Label", "letter", "(C)I"⟩ : MethodName)) hown (mvT hZ (hw _ (List.mem_of_getElem? (i := 1) rfl))) (mvT hZ (hw _ (List.mem_of_getElem? (i := 2) rfl))) (mvT hZ (hw _ (List.mem_of_getElem? (i := 3) rfl))) (mvT hZ (hw _ (List.mem_of_getElem? (i := 4) rfl))) (by decide) (backOf (W := 0) (rm1 l Z a0 hw [] (own_sym zn)  h0 n0 (own_le Z0 K0) ) hZ (hw _ (List.mem_of_getElem? (i := 4) rfl)) (hw _ (List.mem_of_getElem? (i := 3) rfl)) (by decide) (by decide)) (g := (mkF m 56 #[.val (.int za), .val (.int zb), .val (.int zc), .val (.int zr), .val (.int (1 : Int32)), .val (.int zn), .val (.int (own_sym zn)), .unset] [(.int (own_sym zn))])) rfl (by rw [hml]; rfl) (argsL := [(.int (own_sym zn))]) (rest := []) (lenOf own_pd78871 rfl) rfl (by show 2 * 0 + _ ≤ _; exact Nat.le_of_eq rfl) (hb hby at_56) (fun _ _ => ⟨rfl, eq2, (by decide : 0 + 0 ≤ _), (by decide : 0 + 0 ≤ _)⟩)
    dsimp only [Pt.U, Pt.locs, Pt.cells, Pt.slots] at X3 l3 y3 z3 st3 hQ3
    subst l3 y3 z3
    obtain ⟨rfl, N3q, eq3⟩ := hQ3
    have N3 := Fr.app N2 N3q
    refine own_go st3 ?_
    show own_WP _ _ _ _ T3 (mkF m 59 #[.val (.int za), .val (.int zb), .val (.int zc), .val (.int zr), .val (.int (1 : Int32)), .val (.int zn), .val (.int (own_sym zn)), .unset] [(.int (own_let (own_sym zn)))])
    refine own_go (fun t k => XS.iload X3.here hx rfl (hb hby at_59) rfl  k) ?_
    show own_WP _ _ _ _ T3 (mkF m 61 #[.val (.int za), .val (.int zb), .val (.int zc), .val (.int zr), .val (.int (1 : Int32)), .val (.int zn), .val (.int (own_sym zn)), .unset] [(.int zn), (.int (own_let (own_sym zn)))])
    have hc61 : (own_let (own_sym zn)) = zn := by
      subst d_zn
      exact own_inv2x zb
    refine own_go (fun t k => XS.icmpNo X3.here hx rfl (hb hby at_61) rfl (teq hc61).2 k) ?_
    show own_WP _ _ _ _ T3 (mkF m 64 #[.val (.int za), .val (.int zb), .val (.int zc), .val (.int zr), .val (.int (1 : Int32)), .val (.int zn), .val (.int (own_sym zn)), .unset] [])
    refine own_go (fun t k => XS.iconst X3.here hx rfl (hb hby at_64) k) ?_
    show own_WP _ _ _ _ T3 (mkF m 65 #[.val (.int za), .val (.int zb), .val (.int zc), .val (.int zr), .val (.int (1 : Int32)), .val (.int zn), .val (.int (own_sym zn)), .unset] [(.int (1 : Int32))])
    refine own_go (fun t k => XS.goto X3.here hx rfl (pc0 := 65) (pc' := 69) rfl (hb hby at_65) (by decide) (by decide) k) ?_
    show own_WP _ _ _ _ T3 (mkF m 69 #[.val (.int za), .val (.int zb), .val (.int zc), .val (.int zr), .val (.int (1 : Int32)), .val (.int zn), .val (.int (own_sym zn)), .unset] [(.int (1 : Int32))])
    refine own_go (fun t k => XS.istore X3.here hx rfl (hb hby at_69) rfl (l' := #[.val (.int za), .val (.int zb), .val (.int zc), .val (.int zr), .val (.int (1 : Int32)), .val (.int zn), .val (.int (own_sym zn)), .val (.int (1 : Int32))]) rfl k) ?_
    show own_WP _ _ _ _ T3 (mkF m 71 #[.val (.int za), .val (.int zb), .val (.int zc), .val (.int zr), .val (.int (1 : Int32)), .val (.int zn), .val (.int (own_sym zn)), .val (.int (1 : Int32))] [])
    refine own_go (fun t k => XS.iload X3.here hx rfl (hb hby at_71) rfl  k) ?_
    show own_WP _ _ _ _ T3 (mkF m 73 #[.val (.int za), .val (.int zb), .val (.int zc), .val (.int zr), .val (.int (1 : Int32)), .val (.int zn), .val (.int (own_sym zn)), .val (.int (1 : Int32))] [(.int (1 : Int32))])
    have hc73 : ¬ ((1 : Int32) = (0 : Int32)) := by decide
    refine own_go (fun t k => XS.ifNo X3.here hx rfl (hb hby at_73) rfl ((if0 _ _).trans (feq hc73).1) k) ?_
    show own_WP _ _ _ _ T3 (mkF m 76 #[.val (.int za), .val (.int zb), .val (.int zc), .val (.int zr), .val (.int (1 : Int32)), .val (.int zn), .val (.int (own_sym zn)), .val (.int (1 : Int32))] [])
    refine own_go (fun t k => XS.iload X3.here hx rfl (hb hby at_76) rfl  k) ?_
    show own_WP _ _ _ _ T3 (mkF m 78 #[.val (.int za), .val (.int zb), .val (.int zc), .val (.int zr), .val (.int (1 : Int32)), .val (.int zn), .val (.int (own_sym zn)), .val (.int (1 : Int32))] [(.int (1 : Int32))])
    have hc78 : ¬ ((1 : Int32) = (0 : Int32)) := by decide
    refine own_go (fun t k => XS.ifNo X3.here hx rfl (hb hby at_78) rfl ((if0 _ _).trans (feq hc78).1) k) ?_
    show own_WP _ _ _ _ T3 (mkF m 81 #[.val (.int za), .val (.int zb), .val (.int zc), .val (.int zr), .val (.int (1 : Int32)), .val (.int zn), .val (.int (own_sym zn)), .val (.int (1 : Int32))] [])
    refine own_go (fun t k => XS.iconst X3.here hx rfl (hb hby at_81) k) ?_
    show own_WP _ _ _ _ T3 (mkF m 82 #[.val (.int za), .val (.int zb), .val (.int zc), .val (.int zr), .val (.int (1 : Int32)), .val (.int zn), .val (.int (own_sym zn)), .val (.int (1 : Int32))] [(.int (1 : Int32))])
    refine own_go (fun t k => XS.goto X3.here hx rfl (pc0 := 82) (pc' := 86) rfl (hb hby at_82) (by decide) (by decide) k) ?_
    show own_WP _ _ _ _ T3 (mkF m 86 #[.val (.int za), .val (.int zb), .val (.int zc), .val (.int zr), .val (.int (1 : Int32)), .val (.int zn), .val (.int (own_sym zn)), .val (.int (1 : Int32))] [(.int (1 : Int32))])
    refine own_retN X3 hx Bd.notSynchronized (t := .boolean) (by simp) Bd.returns (hb hby at_86) (by decide) (by decide) ?_
    rw [eq3]
    exact ⟨rfl, N3⟩
  · refine own_go (fun t k => XS.icmpNo X1.here hx rfl (hb hby at_13) rfl (feq hc13).1 k) ?_
    show own_WP _ _ _ _ T1 (mkF m 16 #[.val (.int za), .val (.int zb), .val (.int zc), .val (.int zr), .unset, .unset, .unset, .unset] [])
    refine own_go (fun t k => XS.iloadN X1.here hx rfl (hb hby at_16) rfl  k) ?_
    show own_WP _ _ _ _ T1 (mkF m 17 #[.val (.int za), .val (.int zb), .val (.int zc), .val (.int zr), .unset, .unset, .unset, .unset] [(.int zr)])
    have hc17 : ¬ (zr < (0 : Int32)) := by
      exact (key.resolve_left hc13).1
    refine own_go (fun t k => XS.ifNo X1.here hx rfl (hb hby at_17) rfl ((if0 _ _).trans (flt hc17).1) k) ?_
    show own_WP _ _ _ _ T1 (mkF m 20 #[.val (.int za), .val (.int zb), .val (.int zc), .val (.int zr), .unset, .unset, .unset, .unset] [])
    refine own_go (fun t k => XS.iloadN X1.here hx rfl (hb hby at_20) rfl  k) ?_
    show own_WP _ _ _ _ T1 (mkF m 21 #[.val (.int za), .val (.int zb), .val (.int zc), .val (.int zr), .unset, .unset, .unset, .unset] [(.int zr)])
    refine own_go (fun t k => XS.bipush X1.here hx rfl (hb hby at_21) k) ?_
    show own_WP _ _ _ _ T1 (mkF m 23 #[.val (.int za), .val (.int zb), .val (.int zc), .val (.int zr), .unset, .unset, .unset, .unset] [(.int (31 : Int32)), (.int zr)])
    have hc23 : ¬ ((31 : Int32) < zr) := by
      exact (key.resolve_left hc13).2.1
    refine own_go (fun t k => XS.icmpNo X1.here hx rfl (hb hby at_23) rfl (flt hc23).2.2.1 k) ?_
    show own_WP _ _ _ _ T1 (mkF m 26 #[.val (.int za), .val (.int zb), .val (.int zc), .val (.int zr), .unset, .unset, .unset, .unset] [])
    refine own_go (fun t k => XS.iloadN X1.here hx rfl (hb hby at_26) rfl  k) ?_
    show own_WP _ _ _ _ T1 (mkF m 27 #[.val (.int za), .val (.int zb), .val (.int zc), .val (.int zr), .unset, .unset, .unset, .unset] [(.int zr)])
    obtain ⟨_, _, ⟨T4, L4, k4, n4⟩, -, X4, ⟨Lc4, hQ4, l4, y4, z4⟩, st4⟩ := Jvm.LawKit.callS X1 hx (y := (⟨"sinkward/Label", "symbol", "(I)C"⟩ : MethodName)) hown (mvT hZ (hw _ (List.mem_of_getElem? (i := 5) rfl))) (mvT hZ (hw _ (List.mem_of_getElem? (i := 6) rfl))) (mvT hZ (hw _ (List.mem_of_getElem? (i := 3) rfl))) (mvT hZ (hw _ (List.mem_of_getElem? (i := 7) rfl))) (by decide) (backOf (W := 0) (rm2 l Z a0 hw [] zr  h0 n0 (own_le Z0 K0) ) hZ (hw _ (List.mem_of_getElem? (i := 7) rfl)) (hw _ (List.mem_of_getElem? (i := 3) rfl)) (by decide) (by decide)) (g := (mkF m 27 #[.val (.int za), .val (.int zb), .val (.int zc), .val (.int zr), .unset, .unset, .unset, .unset] [(.int zr)])) rfl (by rw [hml]; rfl) (argsL := [(.int zr)]) (rest := []) (lenOf own_pd81831 rfl) rfl (by show 2 * 0 + _ ≤ _; exact Nat.le_of_eq rfl) (hb hby at_27) (fun _ _ => ⟨rfl, eq1, (by decide : 0 + 0 ≤ _), (by decide : 0 + 0 ≤ _)⟩)
    dsimp only [Pt.U, Pt.locs, Pt.cells, Pt.slots] at X4 l4 y4 z4 st4 hQ4
    subst l4 y4 z4
    obtain ⟨rfl, N4q, eq4⟩ := hQ4
    have N4 := Fr.app N1 N4q
    refine own_go st4 ?_
    show own_WP _ _ _ _ T4 (mkF m 30 #[.val (.int za), .val (.int zb), .val (.int zc), .val (.int zr), .unset, .unset, .unset, .unset] [(.int (own_sym zr))])
    refine own_go (fun t k => XS.iloadN X4.here hx rfl (hb hby at_30) rfl  k) ?_
    show own_WP _ _ _ _ T4 (mkF m 31 #[.val (.int za), .val (.int zb), .val (.int zc), .val (.int zr), .unset, .unset, .unset, .unset] [(.int zc), (.int (own_sym zr))])
    have hc31 : (own_sym zr) = zc := by
      exact (key.resolve_left hc13).2.2
    refine own_go (fun t k => XS.icmpNo X4.here hx rfl (hb hby at_31) rfl (teq hc31).2 k) ?_
    show own_WP _ _ _ _ T4 (mkF m 34 #[.val (.int za), .val (.int zb), .val (.int zc), .val (.int zr), .unset, .unset, .unset, .unset] [])
    refine own_go (fun t k => XS.iconst X4.here hx rfl (hb hby at_34) k) ?_
    show own_WP _ _ _ _ T4 (mkF m 35 #[.val (.int za), .val (.int zb), .val (.int zc), .val (.int zr), .unset, .unset, .unset, .unset] [(.int (1 : Int32))])
    refine own_go (fun t k => XS.goto X4.here hx rfl (pc0 := 35) (pc' := 39) rfl (hb hby at_35) (by decide) (by decide) k) ?_
    show own_WP _ _ _ _ T4 (mkF m 39 #[.val (.int za), .val (.int zb), .val (.int zc), .val (.int zr), .unset, .unset, .unset, .unset] [(.int (1 : Int32))])
    refine own_go (fun t k => XS.istore X4.here hx rfl (hb hby at_39) rfl (l' := #[.val (.int za), .val (.int zb), .val (.int zc), .val (.int zr), .val (.int (1 : Int32)), .unset, .unset, .unset]) rfl k) ?_
    show own_WP _ _ _ _ T4 (mkF m 41 #[.val (.int za), .val (.int zb), .val (.int zc), .val (.int zr), .val (.int (1 : Int32)), .unset, .unset, .unset] [])
    refine own_go (fun t k => XS.iloadN X4.here hx rfl (hb hby at_41) rfl  k) ?_
    show own_WP _ _ _ _ T4 (mkF m 42 #[.val (.int za), .val (.int zb), .val (.int zc), .val (.int zr), .val (.int (1 : Int32)), .unset, .unset, .unset] [(.int zb)])
    refine own_go (fun t k => XS.bipush X4.here hx rfl (hb hby at_42) k) ?_
    show own_WP _ _ _ _ T4 (mkF m 44 #[.val (.int za), .val (.int zb), .val (.int zc), .val (.int zr), .val (.int (1 : Int32)), .unset, .unset, .unset] [(.int (31 : Int32)), (.int zb)])
    refine own_go (fun t k => XS.iand X4.here hx rfl (hb hby at_44) rfl k) ?_
    show own_WP _ _ _ _ T4 (mkF m 45 #[.val (.int za), .val (.int zb), .val (.int zc), .val (.int zr), .val (.int (1 : Int32)), .unset, .unset, .unset] [(.int (zb &&& (31 : Int32)))])
    generalize d_zn : (zb &&& (31 : Int32)) = zn
    refine own_go (fun t k => XS.istore X4.here hx rfl (hb hby at_45) rfl (l' := #[.val (.int za), .val (.int zb), .val (.int zc), .val (.int zr), .val (.int (1 : Int32)), .val (.int zn), .unset, .unset]) rfl k) ?_
    show own_WP _ _ _ _ T4 (mkF m 47 #[.val (.int za), .val (.int zb), .val (.int zc), .val (.int zr), .val (.int (1 : Int32)), .val (.int zn), .unset, .unset] [])
    refine own_go (fun t k => XS.iload X4.here hx rfl (hb hby at_47) rfl  k) ?_
    show own_WP _ _ _ _ T4 (mkF m 49 #[.val (.int za), .val (.int zb), .val (.int zc), .val (.int zr), .val (.int (1 : Int32)), .val (.int zn), .unset, .unset] [(.int zn)])
    obtain ⟨_, _, ⟨T5, L5, k5, n5⟩, -, X5, ⟨Lc5, hQ5, l5, y5, z5⟩, st5⟩ := Jvm.LawKit.callS X4 hx (y := (⟨"sinkward/Label", "symbol", "(I)C"⟩ : MethodName)) hown (mvT hZ (hw _ (List.mem_of_getElem? (i := 5) rfl))) (mvT hZ (hw _ (List.mem_of_getElem? (i := 6) rfl))) (mvT hZ (hw _ (List.mem_of_getElem? (i := 3) rfl))) (mvT hZ (hw _ (List.mem_of_getElem? (i := 7) rfl))) (by decide) (backOf (W := 0) (rm2 l Z a0 hw [] zn  h0 n0 (own_le Z0 K0) ) hZ (hw _ (List.mem_of_getElem? (i := 7) rfl)) (hw _ (List.mem_of_getElem? (i := 3) rfl)) (by decide) (by decide)) (g := (mkF m 49 #[.val (.int za), .val (.int zb), .val (.int zc), .val (.int zr), .val (.int (1 : Int32)), .val (.int zn), .unset, .unset] [(.int zn)])) rfl (by rw [hml]; rfl) (argsL := [(.int zn)]) (rest := []) (lenOf own_pd81831 rfl) rfl (by show 2 * 0 + _ ≤ _; exact Nat.le_of_eq rfl) (hb hby at_49) (fun _ _ => ⟨rfl, eq4, (by decide : 0 + 0 ≤ _), (by decide : 0 + 0 ≤ _)⟩)
    dsimp only [Pt.U, Pt.locs, Pt.cells, Pt.slots] at X5 l5 y5 z5 st5 hQ5
    subst l5 y5 z5
    obtain ⟨rfl, N5q, eq5⟩ := hQ5
    have N5 := Fr.app N4 N5q
    refine own_go st5 ?_
    show own_WP _ _ _ _ T5 (mkF m 52 #[.val (.int za), .val (.int zb), .val (.int zc), .val (.int zr), .val (.int (1 : Int32)), .val (.int zn), .unset, .unset] [(.int (own_sym zn))])
    refine own_go (fun t k => XS.istore X5.here hx rfl (hb hby at_52) rfl (l' := #[.val (.int za), .val (.int zb), .val (.int zc), .val (.int zr), .val (.int (1 : Int32)), .val (.int zn), .val (.int (own_sym zn)), .unset]) rfl k) ?_
    show own_WP _ _ _ _ T5 (mkF m 54 #[.val (.int za), .val (.int zb), .val (.int zc), .val (.int zr), .val (.int (1 : Int32)), .val (.int zn), .val (.int (own_sym zn)), .unset] [])
    refine own_go (fun t k => XS.iload X5.here hx rfl (hb hby at_54) rfl  k) ?_
    show own_WP _ _ _ _ T5 (mkF m 56 #[.val (.int za), .val (.int zb), .val (.int zc), .val (.int zr), .val (.int (1 : Int32)), .val (.int zn), .val (.int (own_sym zn)), .unset] [(.int (own_sym zn))])
    obtain ⟨_, _, ⟨T6, L6, k6, n6⟩, -, X6, ⟨Lc6, hQ6, l6, y6, z6⟩, st6⟩ := Jvm.LawKit.callS X5 hx (y := (⟨"sinkward/Label", "letter", "(C)I"⟩ : MethodName)) hown (mvT hZ (hw _ (List.mem_of_getElem? (i := 1) rfl))) (mvT hZ (hw _ (List.mem_of_getElem? (i := 2) rfl))) (mvT hZ (hw _ (List.mem_of_getElem? (i := 3) rfl))) (mvT hZ (hw _ (List.mem_of_getElem? (i := 4) rfl))) (by decide) (backOf (W := 0) (rm1 l Z a0 hw [] (own_sym zn)  h0 n0 (own_le Z0 K0) ) hZ (hw _ (List.mem_of_getElem? (i := 4) rfl)) (hw _ (List.mem_of_getElem? (i := 3) rfl)) (by decide) (by decide)) (g := (mkF m 56 #[.val (.int za), .val (.int zb), .val (.int zc), .val (.int zr), .val (.int (1 : Int32)), .val (.int zn), .val (.int (own_sym zn)), .unset] [(.int (own_sym zn))])) rfl (by rw [hml]; rfl) (argsL := [(.int (own_sym zn))]) (rest := []) (lenOf own_pd78871 rfl) rfl (by show 2 * 0 + _ ≤ _; exact Nat.le_of_eq rfl) (hb hby at_56) (fun _ _ => ⟨rfl, eq5, (by decide : 0 + 0 ≤ _), (by decide : 0 + 0 ≤ _)⟩)
    dsimp only [Pt.U, Pt.locs, Pt.cells, Pt.slots] at X6 l6 y6 z6 st6 hQ6
    subst l6 y6 z6
    obtain ⟨rfl, N6q, eq6⟩ := hQ6
    have N6 := Fr.app N5 N6q
    refine own_go st6 ?_
    show own_WP _ _ _ _ T6 (mkF m 59 #[.val (.int za), .val (.int zb), .val (.int zc), .val (.int zr), .val (.int (1 : Int32)), .val (.int zn), .val (.int (own_sym zn)), .unset] [(.int (own_let (own_sym zn)))])
    refine own_go (fun t k => XS.iload X6.here hx rfl (hb hby at_59) rfl  k) ?_
    show own_WP _ _ _ _ T6 (mkF m 61 #[.val (.int za), .val (.int zb), .val (.int zc), .val (.int zr), .val (.int (1 : Int32)), .val (.int zn), .val (.int (own_sym zn)), .unset] [(.int zn), (.int (own_let (own_sym zn)))])
    have hc61 : (own_let (own_sym zn)) = zn := by
      subst d_zn
      exact own_inv2x zb
    refine own_go (fun t k => XS.icmpNo X6.here hx rfl (hb hby at_61) rfl (teq hc61).2 k) ?_
    show own_WP _ _ _ _ T6 (mkF m 64 #[.val (.int za), .val (.int zb), .val (.int zc), .val (.int zr), .val (.int (1 : Int32)), .val (.int zn), .val (.int (own_sym zn)), .unset] [])
    refine own_go (fun t k => XS.iconst X6.here hx rfl (hb hby at_64) k) ?_
    show own_WP _ _ _ _ T6 (mkF m 65 #[.val (.int za), .val (.int zb), .val (.int zc), .val (.int zr), .val (.int (1 : Int32)), .val (.int zn), .val (.int (own_sym zn)), .unset] [(.int (1 : Int32))])
    refine own_go (fun t k => XS.goto X6.here hx rfl (pc0 := 65) (pc' := 69) rfl (hb hby at_65) (by decide) (by decide) k) ?_
    show own_WP _ _ _ _ T6 (mkF m 69 #[.val (.int za), .val (.int zb), .val (.int zc), .val (.int zr), .val (.int (1 : Int32)), .val (.int zn), .val (.int (own_sym zn)), .unset] [(.int (1 : Int32))])
    refine own_go (fun t k => XS.istore X6.here hx rfl (hb hby at_69) rfl (l' := #[.val (.int za), .val (.int zb), .val (.int zc), .val (.int zr), .val (.int (1 : Int32)), .val (.int zn), .val (.int (own_sym zn)), .val (.int (1 : Int32))]) rfl k) ?_
    show own_WP _ _ _ _ T6 (mkF m 71 #[.val (.int za), .val (.int zb), .val (.int zc), .val (.int zr), .val (.int (1 : Int32)), .val (.int zn), .val (.int (own_sym zn)), .val (.int (1 : Int32))] [])
    refine own_go (fun t k => XS.iload X6.here hx rfl (hb hby at_71) rfl  k) ?_
    show own_WP _ _ _ _ T6 (mkF m 73 #[.val (.int za), .val (.int zb), .val (.int zc), .val (.int zr), .val (.int (1 : Int32)), .val (.int zn), .val (.int (own_sym zn)), .val (.int (1 : Int32))] [(.int (1 : Int32))])
    have hc73 : ¬ ((1 : Int32) = (0 : Int32)) := by decide
    refine own_go (fun t k => XS.ifNo X6.here hx rfl (hb hby at_73) rfl ((if0 _ _).trans (feq hc73).1) k) ?_
    show own_WP _ _ _ _ T6 (mkF m 76 #[.val (.int za), .val (.int zb), .val (.int zc), .val (.int zr), .val (.int (1 : Int32)), .val (.int zn), .val (.int (own_sym zn)), .val (.int (1 : Int32))] [])
    refine own_go (fun t k => XS.iload X6.here hx rfl (hb hby at_76) rfl  k) ?_
    show own_WP _ _ _ _ T6 (mkF m 78 #[.val (.int za), .val (.int zb), .val (.int zc), .val (.int zr), .val (.int (1 : Int32)), .val (.int zn), .val (.int (own_sym zn)), .val (.int (1 : Int32))] [(.int (1 : Int32))])
    have hc78 : ¬ ((1 : Int32) = (0 : Int32)) := by decide
    refine own_go (fun t k => XS.ifNo X6.here hx rfl (hb hby at_78) rfl ((if0 _ _).trans (feq hc78).1) k) ?_
    show own_WP _ _ _ _ T6 (mkF m 81 #[.val (.int za), .val (.int zb), .val (.int zc), .val (.int zr), .val (.int (1 : Int32)), .val (.int zn), .val (.int (own_sym zn)), .val (.int (1 : Int32))] [])
    refine own_go (fun t k => XS.iconst X6.here hx rfl (hb hby at_81) k) ?_
    show own_WP _ _ _ _ T6 (mkF m 82 #[.val (.int za), .val (.int zb), .val (.int zc), .val (.int zr), .val (.int (1 : Int32)), .val (.int zn), .val (.int (own_sym zn)), .val (.int (1 : Int32))] [(.int (1 : Int32))])
    refine own_go (fun t k => XS.goto X6.here hx rfl (pc0 := 82) (pc' := 86) rfl (hb hby at_82) (by decide) (by decide) k) ?_
    show own_WP _ _ _ _ T6 (mkF m 86 #[.val (.int za), .val (.int zb), .val (.int zc), .val (.int zr), .val (.int (1 : Int32)), .val (.int zn), .val (.int (own_sym zn)), .val (.int (1 : Int32))] [(.int (1 : Int32))])
    refine own_retN X6 hx Bd.notSynchronized (t := .boolean) (by simp) Bd.returns (hb hby at_86) (by decide) (by decide) ?_
    rw [eq6]
    exact ⟨rfl, N6⟩
set_option maxRecDepth 65536 in
set_option maxHeartbeats 40000000 in
theorem comes_1 {Post : Tables → Env → Array Value → State → Outcome → State → Prop} (hpost : ∀ tb e args s v u, (limb_1_1.after args s (.returned v) u = true ∧ limb_1_2.after args s (.returned v) u = true ∧ True) → FrameEnd s (.returned v) u (Jvm.fieldLocs frame_1_writes args s ++ Jvm.arrayLocs frame_1_arrays args s ++ Jvm.staticLocs frame_1_statics s) 0 0 → Post tb e args s (.returned v) u) :
    ArmFor flags0 classFile x code maxLocals ret World_1 tables_1 room_1 Calls_1 rest_1 Pre_1 Post := by
  intro l hfl _ _ p e ha hc hk s m args below hf hA hF happ hP
  obtain ⟨hcalls, hrest, hpre⟩ := hP
  obtain ⟨-, -, -, hnamed, -, -, -, hat⟩ := (Spec.applies_iff hf).mp happ
  obtain ⟨hg, hn⟩ := and_e (Cond.before_iff.mp (show (Jvm.Cond.and given_1 narrow_1).before args s = true from hpre))
  obtain ⟨u0, v0⟩ := and_e hg
  obtain ⟨u1, v1⟩ := and_e v0
  obtain ⟨w0, w1, rfl⟩ : ∃ w0 w1 : Value, args = #[w0, w1] := by
    have hs : args.size = 2 := by simpa [Cond.value, given_1] using u0
    obtain ⟨L⟩ := args
    match L, hs with
    | [w0, w1], _ => exact ⟨w0, w1, rfl⟩
  have hw := fun d (hd : d ∈ tables_1) => atoms_spec (ws := Jvm.Cond.code x code maxLocals ret :: tables_1) hat d (List.mem_cons_of_mem _ hd)
  obtain ⟨i0, ei0⟩ := is_v u1
  obtain rfl : w0 = (.int i0) := Option.some.inj ei0
  obtain ⟨i1, ei1⟩ := is_v v1
  obtain rfl : w1 = (.int i1) := Option.some.inj ei1
  obtain ⟨n, o, h1, h2, h3, _, L, rfl, ⟨rfl, N⟩, hq⟩ := rm0 l s _ hw tables_1 i0 i1  s.heap s.heap.size (Nat.le_refl _)  p e ha hc hk s m _ below hf ((Spec.applies_iff_loose hf).mp happ).1 ⟨rfl, State.Warmed39.refl s, rfl⟩ trivial
  refine ⟨n, _, h1, h2, h3, hpost _ _ _ _ _ _ ⟨Cond.after_iff.mpr rfl, Cond.after_iff.mpr (eq_i res_at (Term.int_eval (1)) rfl), trivial⟩ ⟨hq.1, hq.2.1, (hq.2.2.sift fun y hy => Or.inr (N y hy)).mono (by decide) (by decide)⟩⟩
theorem main_1_1 : Claimed_1_1 := comes_1 fun _ _ _ _ _ _ h hF => ⟨h.1, hF⟩
theorem main_1_2 : Claimed_1_2 := comes_1 fun _ _ _ _ _ _ h hF => ⟨h.2.1, hF⟩
end Jvm.Pilot.@@N@@
namespace Jvm.Pilot.@@N@@
open Jvm Jvm.ClassFile Sem Op Lib Jvm.Free Jvm.Stand Jvm.Pilot.@@N@@.Jvm.D
/-! MADE BY PROGRAM (witnessworld.py) out of the Statement's table words and the real class files: 10 classes; the members and pool entries that the words name. The judged class is class 1, her method 1. -/
namespace start1
open Jvm.ClassFile
def u (s : String) : CpInfo := .utf8 (stringToUtf16 s)
/-- a pool by its gaps: so many unusable entries, then the entry; so many at the end -/
def gap : Nat → List CpInfo → List CpInfo
  | 0, r => r
  | n + 1, r => .unusable :: gap n r
def poolList (es : List (Nat × CpInfo)) (last : Nat) : List CpInfo := es.foldr (fun e r => gap e.1 (e.2 :: r)) (gap last [])
def pool (es : List (Nat × CpInfo)) (last : Nat) : Array CpInfo := ⟨poolList es last⟩
def fileOf (pool : Array CpInfo) (this : Nat) (attrs : Array Attribute := #[]) (ms : Array MethodInfo := #[]) (fl : Nat := 33) (sup : Nat := 0) (ifs : Array Nat := #[]) (fds : Array FieldInfo := #[]) : ClassFile where
  minorVersion := 0
  majorVersion := 65
  constantPool := pool
  accessFlags := fl
  thisClass := this
  superClass := sup
  interfaces := ifs
  fields := fds
  methods := ms
  attributes := attrs
def plain (name : String) (sup : Option ClassId) : Class where
  name := name
  kind := .ordinary
  loader := none
  accessFlags := 33
  super := sup
  interfaces := #[]
  cf := none
  fields := #[]
  methods := #[]
  instanceTypes := #[]
  staticTypes := #[]
  resolved := #[]
  callSites := []
  init := .initialized
  statics := none
  mirror := none

def pool0 : Array CpInfo := pool [(5, u "<init>"), (0, u "()V"), (1, .class_ 10), (1, u "java/lang/Object")] 113

def k0m0 : Method := { name := "<init>", desc := "()V", sig := { parameters := [], returnType := none }, accessFlags := 1, code := none }
/-- java/lang/Object -/
def k0 : Class := { plain "java/lang/Object" none with
  accessFlags := 33
  interfaces := #[]
  cf := some (fileOf pool0 8 #[] #[{ accessFlags := 1, nameIndex := 5, descriptorIndex := 6, attributes := #[] }] 33 0 #[] #[])
  fields := #[]
  methods := #[k0m0]
  instanceTypes := #[]
  staticTypes := #[]
  resolved := Array.replicate 124 none
  statics := none }

def pool1 : Array CpInfo := pool [(2, .class_ 4), (1, u "java/lang/Object"), (0, u "<init>"), (0, u "()V"), (0, .integer 65535), (0, .methodref 9 10), (0, .class_ 11), (0, .nameAndType 12 13), (0, u "sinkward/Label"), (0, u "letter"), (0, u "(C)I"), (0, .methodref 9 15), (0, .nameAndType 16 17), (0, u "symbol"), (0, u "(I)C"), (0, .class_ 19), (0, u "sinkward/LabelLetterPinLaw"), (2, u "law"), (0, u "(II)Z")] 3

def k1m0 : Method := { name := "<init>", desc := "()V", sig := { parameters := [], returnType := none }, accessFlags := 1, code := none }
def k1c1 : Code := { maxStack := 2, maxLocals := 8, code := code, exceptionTable := #[], attributes := #[] }
def k1m1 : Method := { name := "law", desc := "(II)Z", sig := { parameters := [.int, .int], returnType := some .boolean }, accessFlags := 9, code := some k1c1 }
/-- sinkward/LabelLetterPinLaw -/
def k1 : Class := { plain "sinkward/LabelLetterPinLaw" (some 0) with
  accessFlags := 49
  interfaces := #[]
  cf := some (fileOf pool1 18 #[] #[{ accessFlags := 1, nameIndex := 5, descriptorIndex := 6, attributes := #[] }, { accessFlags := 9, nameIndex := 22, descriptorIndex := 23, attributes := #[] }] 49 2 #[] #[])
  fields := #[]
  methods := #[k1m0, k1m1]
  instanceTypes := #[]
  staticTypes := #[]
  resolved := Array.replicate 27 none
  statics := none }

def pool2 : Array CpInfo := pool [(2, .class_ 4), (1, u "java/lang/Object"), (0, u "<init>"), (0, u "()V"), (0, .class_ 8), (0, u "java/lang/Record")] 13

def k2m0 : Method := { name := "<init>", desc := "()V", sig := { parameters := [], returnType := none }, accessFlags := 4, code := none }
/-- java/lang/Record -/
def k2 : Class := { plain "java/lang/Record" (some 0) with
  accessFlags := 1057
  interfaces := #[]
  cf := some (fileOf pool2 7 #[] #[{ accessFlags := 4, nameIndex := 5, descriptorIndex := 6, attributes := #[] }] 1057 2 #[] #[])
  fields := #[]
  methods := #[k2m0]
  instanceTypes := #[]
  staticTypes := #[]
  resolved := Array.replicate 22 none
  statics := none }

def pool3 : Array CpInfo := pool [(2, .class_ 4), (1, u "java/lang/Record"), (3, .class_ 10), (1, u "sinkward/Label"), (0, u "positive"), (0, u "I"), (2, u "negative"), (16, u "EMPTY"), (0, u "Lsinkward/Label;"), (7, u "(I)C"), (2, u "letter"), (0, u "(C)I"), (62, u "symbol"), (11, u "EMPTY_SYMBOL"), (0, u "C"), (2, u "NOT"), (1, u "UNKNOWN"), (1, u "NO_LETTER")] 42

def k3c0 : Code := { maxStack := 2, maxLocals := 1, code := prog_10_method_3_code, exceptionTable := #[], attributes := #[] }
def k3m0 : Method := { name := "letter", desc := "(C)I", sig := { parameters := [.char], returnType := some .int }, accessFlags := 8, code := some k3c0 }
def k3c1 : Code := { maxStack := 2, maxLocals := 1, code := prog_10_method_4_code, exceptionTable := #[], attributes := #[] }
def k3m1 : Method := { name := "symbol", desc := "(I)C", sig := { parameters := [.int], returnType := some .char }, accessFlags := 8, code := some k3c1 }
/-- sinkward/Label -/
def k3 : Class := { plain "sinkward/Label" (some 2) with
  accessFlags := 48
  interfaces := #[]
  cf := some (fileOf pool3 8 #[] #[{ accessFlags := 8, nameIndex := 44, descriptorIndex := 45, attributes := #[] }, { accessFlags := 8, nameIndex := 108, descriptorIndex := 41, attributes := #[] }] 48 2 #[] #[{ accessFlags := 18, nameIndex := 11, descriptorIndex := 12, attributes := #[] }, { accessFlags := 18, nameIndex := 15, descriptorIndex := 12, attributes := #[] }, { accessFlags := 24, nameIndex := 32, descriptorIndex := 33, attributes := #[] }, { accessFlags := 24, nameIndex := 120, descriptorIndex := 121, attributes := #[] }, { accessFlags := 24, nameIndex := 124, descriptorIndex := 121, attributes := #[] }, { accessFlags := 24, nameIndex := 126, descriptorIndex := 121, attributes := #[] }, { accessFlags := 24, nameIndex := 128, descriptorIndex := 12, attributes := #[] }])
  fields := #[{ name := "positive", type := .int, accessFlags := 18, slot := 0, constantValue := 0 }, { name := "negative", type := .int, accessFlags := 18, slot := 1, constantValue := 0 }, { name := "EMPTY", type := (.object "sinkward/Label"), accessFlags := 24, slot := 0, constantValue := 0 }, { name := "EMPTY_SYMBOL", type := .char, accessFlags := 24, slot := 1, constantValue := 0 }, { name := "NOT", type := .char, accessFlags := 24, slot := 2, constantValue := 0 }, { name := "UNKNOWN", type := .char, accessFlags := 24, slot := 3, constantValue := 0 }, { name := "NO_LETTER", type := .int, accessFlags := 24, slot := 4, constantValue := 0 }]
  methods := #[k3m0, k3m1]
  instanceTypes := #[.int, .int]
  staticTypes := #[(.object "sinkward/Label"), .char, .char, .char, .int]
  resolved := Array.replicate 171 none
  statics := none }

def pool4 : Array CpInfo := pool [(1, u "java/lang/Cloneable"), (0, .class_ 1), (0, u "java/lang/Object"), (0, .class_ 3)] 3

/-- java/lang/Cloneable -/
def k4 : Class := { plain "java/lang/Cloneable" (some 0) with
  accessFlags := 1537
  interfaces := #[]
  cf := some (fileOf pool4 2 #[] #[] 1537 4 #[] #[])
  fields := #[]
  methods := #[]
  instanceTypes := #[]
  staticTypes := #[]
  resolved := Array.replicate 8 none
  statics := none }

def pool5 : Array CpInfo := pool [(1, u "java/io/Serializable"), (0, .class_ 1), (0, u "java/lang/Object"), (0, .class_ 3)] 3

/-- java/io/Serializable -/
def k5 : Class := { plain "java/io/Serializable" (some 0) with
  accessFlags := 1537
  interfaces := #[]
  cf := some (fileOf pool5 2 #[] #[] 1537 4 #[] #[])
  fields := #[]
  methods := #[]
  instanceTypes := #[]
  staticTypes := #[]
  resolved := Array.replicate 8 none
  statics := none }

/-- the primitive byte -/
def k6 : Class := { plain "byte" none with kind := .primitive 'B', accessFlags := 0x411 }
/-- [B -/
def k7 : Class := { plain "[B" (some 0) with kind := .array 6 .byte, interfaces := #[4, 5], accessFlags := 1041 }

/-- the primitive int -/
def k8 : Class := { plain "int" none with kind := .primitive 'I', accessFlags := 0x411 }
/-- [I -/
def k9 : Class := { plain "[I" (some 0) with kind := .array 8 .int, interfaces := #[4, 5], accessFlags := 1041 }

def heap : Heap := #[]
def classes : Array Class := #[k0, k1, k2, k3, k4, k5, k6, k7, k8, k9]
def interned : List (Array UInt16 × Addr) := []
def slotsUsed : Nat := 0
def theMethod : MethodId := ⟨1, 1⟩
def args0 : Array Value := #[.int 5, .int 9]
def aboutOver (below : List Frame) : State where
  vm := { classes := classes, interned := interned.toArray }
  heap := heap
  slotsUsed := slotsUsed
  threads := #[{ frames := .invoking theMethod args0 :: below }]
def below0 : List Frame := [.native { method := ⟨0, 0⟩, args := #[] }]
def about1 : State := aboutOver below0
def p0 : Program := .bare "" "" ""
def e0 : Env := launch0.env 0 0 0
theorem w_frames : about1.frames = Frame.invoking theMethod args0 :: below0 := rfl
set_option maxRecDepth 65536 in
theorem w_args : argsFit about1.vm theMethod args0 = true := by decide +kernel
set_option maxRecDepth 65536 in
theorem w_heap : heapFits about1 = true := by decide +kernel
set_option maxRecDepth 65536 in
theorem w_runnable : about1.curStatus? = some .runnable := by decide +kernel
set_option maxRecDepth 65536 in
theorem w_alone : about1.alone = true := by decide +kernel
set_option maxRecDepth 65536 in
theorem w_named : about1.methodNamed? x = some theMethod := by decide +kernel
set_option maxRecDepth 65536 in
theorem w_hears : about1.hears theMethod below0 = true := by decide +kernel
set_option maxRecDepth 65536 in
theorem w_ripe : about1.ripe theMethod args0 below0 = true := by decide +kernel
theorem w_running : about1.status = .running := rfl
set_option maxRecDepth 65536 in
theorem w_room : about1.hasRoom e0.platform room_1 = true :=
  launch0.hasRoom_least _ room_1 (by decide +kernel) (by decide +kernel) (by decide +kernel) (by decide +kernel) (by decide +kernel) (by decide +kernel)
theorem allAtoms_all (ts : List Jvm.Cond) (a : Array Jvm.Value) (st : Jvm.State) : (allAtoms ts).before a st = ts.all (fun c => c.before a st) := by
  induction ts with
  | nil => rfl
  | cons c t ih =>
    show (Jvm.Cond.and c (allAtoms t)).before a st = _
    rw [Jvm.Cond.before_and, ih, List.all_cons]
def words1 : List Jvm.Cond := Jvm.Cond.code x code maxLocals ret :: tables_1
/-- a 'code' word, met by the world's own term for the bytes: nothing is compared byte by byte -/
theorem code_word {y : MethodName} {bytes : ByteArray} {mx : Nat} {rt : Option FieldType} {a : Array Value} {s : State} {m : MethodId} {meth : Method} {c : Code} (h1 : s.methodNamed? y = some m) (h2 : s.vm.method? m = some meth) (h3 : meth.code = some c) (h4 : c.code = bytes)
    (h5 : (c.maxLocals == mx && c.exceptionTable.isEmpty && decide (c.maxStack ≤ mostOperands) && decide (meth.sig.returnType = rt) && !meth.locks && decide (parseMethodDescriptor y.desc = some meth.sig)) = true) : (Jvm.Cond.code y bytes mx rt).before a s = true := by
  simp only [Bool.and_eq_true, beq_iff_eq, Bool.not_eq_true', decide_eq_true_eq] at h5
  obtain ⟨⟨⟨⟨⟨g1, g2⟩, g3⟩, g4⟩, g5⟩, g6⟩ := h5
  simp [Cond.before, Cond.holds, Cond.value, h1, h2, h3, h4, g1, g2, g3, g4, g5, g6]
def isCode : Jvm.Cond → Bool
  | .code _ _ _ _ => true
  | _ => false
theorem all_split {L : List Jvm.Cond} {P : Jvm.Cond → Bool} (h1 : L.all (fun c => isCode c || P c) = true) (h2 : ∀ c ∈ L.filter isCode, P c = true) : L.all P = true := by
  refine List.all_eq_true.mpr fun c hc => ?_
  have h := List.all_eq_true.mp h1 c hc
  rcases Bool.eq_false_or_eq_true (isCode c) with hi | hi
  · exact h2 c (List.mem_filter.mpr ⟨hc, hi⟩)
  · simpa [hi] using h
set_option maxRecDepth 65536 in
theorem w_c0 : (Jvm.Cond.code x code maxLocals ret).before args0 about1 = true := code_word (m := ⟨1, 1⟩) (meth := k1m1) (c := k1c1) (by decide +kernel) rfl rfl rfl (by decide +kernel)
set_option maxRecDepth 65536 in
theorem w_c1 : (Jvm.Cond.code ({ cls := "sinkward/Label", name := "letter", desc := "(C)I" } : Jvm.MethodName) prog_10_method_3_code (1 : Nat) (Option.some Jvm.ClassFile.FieldType.int)).before args0 about1 = true := code_word (m := ⟨3, 0⟩) (meth := k3m0) (c := k3c0) (by decide +kernel) rfl rfl rfl (by decide +kernel)
set_option maxRecDepth 65536 in
theorem w_c2 : (Jvm.Cond.code ({ cls := "sinkward/Label", name := "symbol", desc := "(I)C" } : Jvm.MethodName) prog_10_method_4_code (1 : Nat) (Option.some Jvm.ClassFile.FieldType.char)).before args0 about1 = true := code_word (m := ⟨3, 1⟩) (meth := k3m1) (c := k3c1) (by decide +kernel) rfl rfl rfl (by decide +kernel)
def codes1 : List Jvm.Cond := [Jvm.Cond.code x code maxLocals ret, Jvm.Cond.code ({ cls := "sinkward/Label", name := "letter", desc := "(C)I" } : Jvm.MethodName) prog_10_method_3_code (1 : Nat) (Option.some Jvm.ClassFile.FieldType.int), Jvm.Cond.code ({ cls := "sinkward/Label", name := "symbol", desc := "(I)C" } : Jvm.MethodName) prog_10_method_4_code (1 : Nat) (Option.some Jvm.ClassFile.FieldType.char)]
set_option maxRecDepth 65536 in
theorem codes_eq : words1.filter isCode = codes1 := rfl
theorem w_codes : ∀ c ∈ words1.filter isCode, c.before args0 about1 = true := by
  rw [codes_eq]
  intro c hc
  simp only [codes1, List.mem_cons, List.not_mem_nil, or_false] at hc
  rcases hc with rfl | rfl | rfl
  · exact w_c0
  · exact w_c1
  · exact w_c2
set_option maxRecDepth 65536 in
theorem w_t1 : words1.all (fun c => isCode c || c.before args0 about1) = true := by decide +kernel
theorem w_tables : (allAtoms (Jvm.Cond.code x code maxLocals ret :: tables_1)).before args0 about1 = true := by
  rw [allAtoms_all]
  show words1.all (fun c => c.before args0 about1) = true
  refine all_split ?_ w_codes
  rw [w_t1]
set_option maxRecDepth 65536 in
theorem w_case : (Jvm.Cond.and given_1 narrow_1).before args0 about1 = true := by decide +kernel
theorem w_applies : (headSpec (Jvm.Cond.code x code maxLocals ret :: tables_1) room_1).applies x e0.platform about1 = true :=
  (Spec.applies_iff w_frames).mpr ⟨w_running, w_runnable, w_alone, w_named, w_hears, w_ripe, w_room, w_tables⟩
theorem atStart : AtStart classFile x code maxLocals ret World_1 tables_1 room_1 Calls_1 rest_1 Pre_1 launch0 p0 e0 about1 theMethod args0 below0 :=
  ⟨lists_1, trivial, launch0.admits_env _ _ _, launch0.least_env, fairChoices_fair.cas, fairChoices_fair.clock, w_frames, w_args, w_heap, w_applies, trivial, trivial, w_case⟩
end start1
theorem witness_1 : WitnessClaimed_1 := ⟨start1.p0, start1.e0, start1.about1, start1.theMethod, start1.args0, start1.below0, start1.atStart⟩
end Jvm.Pilot.@@N@@
