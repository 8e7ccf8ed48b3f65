import JvmDerived
import JvmDerived.Pilot.@@N@@Statement
import JvmDerived.Pilot.@@N@@Code
set_option linter.unusedVariables false
set_option linter.unusedSimpArgs false
@@BLOCK:NumsL.lean.txt@@
namespace Jvm.Pilot.@@N@@
open Jvm Jvm.ClassFile Sem Op Lib Jvm.Free Jvm.Stand Jvm.LawKit Jvm.RoadKit Bundle Jvm.Pilot.@@N@@.Jvm.D
section OwnKit
variable {p : Program} {l : Launch} {e : Env} {R : Room} {s : State} {m : MethodId} {args : Array Value} {below : List Frame} {meth : Method} {c : Code} {T T' : State} {locs : List Loc} {cells slots : Nat} {Z : State} {h : Heap} {a0 : Array Value}
/-- from the state T with the frame g on top the method comes to its end, and what it leaves meets E -/
def own_WP (p : Program) (e : Env) (below : List Frame) (E : Outcome → State → Prop) (T : State) (g : JFrame) : Prop :=
  ∃ s₂ o, Steps p.tables e below (T.setTop g) s₂ ∧ s₂.status = .running ∧ Ended s₂ below o ∧ E o s₂
/-- it returns, and what it leaves meets Q within K cells and N slots -/
def own_E (s : State) (Q : Option Value → Heap → List Loc → Prop) (K N : Nat) (o : Outcome) (t : State) : Prop := ∃ v L, o = .returned v ∧ Q v t.heap L ∧ FrameEnd s o t L K N
variable {Q : Option Value → Heap → List Loc → Prop} {K N : Nat} {g g' : JFrame} {E : Outcome → State → Prop}
theorem own_go (h : ∀ t, Steps p.tables e below (T'.setTop g') t → Steps p.tables e below (T.setTop g) t) (k : own_WP p e below E T' g') : own_WP p e below E T g := by
  obtain ⟨s₂, o, h1, h2⟩ := k
  exact ⟨s₂, o, h s₂ h1, h2⟩
theorem own_tr (h : Steps p.tables e below (T.setTop g) (T'.setTop g')) (k : own_WP p e below E T' g') : own_WP p e below E T g := by
  obtain ⟨s₂, o, h1, h2⟩ := k
  exact ⟨s₂, o, h.trans h1, h2⟩
theorem own_end (X : Stand p l e R s m args below meth c T locs cells slots) (hlk : meth.locks = false) {v : Option Value} (hv : meth.sig.returnType = none → v = none)
    (hs : ∀ fs, (∀ (f : JFrame) (acts : List Action), f.method = m → f.locked = none → f.entered = [] → (doReturn e (T.setTop f) acts v).1 = T.setFrames fs) → Steps p.tables e below (T.setTop g) (T.setFrames fs))
    (hk : cells ≤ K) (hn : slots ≤ N) (hq : Q v T.heap locs) : own_WP p e below (own_E s Q K N) T g := by
  obtain ⟨fs, hr, hrun, hended, hW, hsame⟩ := X.leave hv hlk
  exact ⟨_, _, hs fs hr, hrun, hended, _, _, rfl, hq, ⟨_, rfl⟩, hW, hsame.mono hk hn⟩
theorem own_retV (X : Stand p l e R s m args below meth c T locs cells slots) (hx : p.tables.exec = Jvm.exec) (hlk : meth.locks = false) {pc : Nat} {Ls : Array Slot} (hret : meth.sig.returnType = none) (hd : decode c.code pc = .ok (.return_, 1))
    (hk : cells ≤ K) (hn : slots ≤ N) (hq : Q none T.heap locs) : own_WP p e below (own_E s Q K N) T (mkF m pc Ls []) :=
  own_end X hlk (fun _ => rfl) (fun fs hr => X.returnOut hx hret hd hr) hk hn hq
theorem own_retI (X : Stand p l e R s m args below meth c T locs cells slots) (hx : p.tables.exec = Jvm.exec) (hlk : meth.locks = false) {pc : Nat} {Ls : Array Slot} {z : Int32} (hret : meth.sig.returnType = some .int) (hd : decode c.code pc = .ok (.ireturn, 1))
    (hk : cells ≤ K) (hn : slots ≤ N) (hq : Q (some (.int z)) T.heap locs) : own_WP p e below (own_E s Q K N) T (mkF m pc Ls [.int z]) :=
  own_end X hlk (fun h => by rw [hret] at h; cases h) (fun fs hr => retOut X hx hret rfl (Or.inl ⟨rfl, Or.inl rfl, z, rfl⟩) hd hr) hk hn hq
theorem own_retJ (X : Stand p l e R s m args below meth c T locs cells slots) (hx : p.tables.exec = Jvm.exec) (hlk : meth.locks = false) {pc : Nat} {Ls : Array Slot} {z : Int64} (hret : meth.sig.returnType = some .long) (hd : decode c.code pc = .ok (.lreturn, 1))
    (hk : cells ≤ K) (hn : slots ≤ N) (hq : Q (some (.long z)) T.heap locs) : own_WP p e below (own_E s Q K N) T (mkF m pc Ls [.long z]) :=
  own_end X hlk (fun h => by rw [hret] at h; cases h) (fun fs hr => X.lreturnOut hx hret hd hr) hk hn hq
theorem own_retA (X : Stand p l e R s m args below meth c T locs cells slots) (hx : p.tables.exec = Jvm.exec) (hlk : meth.locks = false) {pc : Nat} {Ls : Array Slot} {w : Value} (hw : w.isRef = true) {t : FieldType} (ht : t.isReference = true) (hret : meth.sig.returnType = some t) (hd : decode c.code pc = .ok (.areturn, 1))
    (hk : cells ≤ K) (hn : slots ≤ N) (hq : Q (some w) T.heap locs) : own_WP p e below (own_E s Q K N) T (mkF m pc Ls [w]) :=
  own_end X hlk (fun h => by rw [hret] at h; cases h) (fun fs hr => X.areturnOut hx hw hret ht hd hr) hk hn hq
theorem own_retN (X : Stand p l e R s m args below meth c T locs cells slots) (hx : p.tables.exec = Jvm.exec) (hlk : meth.locks = false) {pc : Nat} {Ls : Array Slot} {z : Int32} {t : FieldType} (ht : t = .boolean ∨ t = .byte ∨ t = .char ∨ t = .short) (hret : meth.sig.returnType = some t) (hd : decode c.code pc = .ok (.ireturn, 1))
    (hk : cells ≤ K) (hn : slots ≤ N) (hq : Q (some (.int (nar t z))) T.heap locs) : own_WP p e below (own_E s Q K N) T (mkF m pc Ls [.int z]) :=
  own_end X hlk (fun h => by rw [hret] at h; cases h) (fun fs hr => retN X hx hret ht hd hr) hk hn hq
theorem own_len (X : Stand p l e R s m args below meth c T locs cells slots) (hx : p.tables.exec = Jvm.exec) (hZ : Z.Warmed39 s.vm) (eT : T.heap = h) {a : Addr} {k : ClassId} {ty : FieldType} {n : Int32} {vs : List Value} {d : Value} (V : Arv Z h a k ty n vs d)
    {pc : Nat} {Ls : Array Slot} {S : List Value} (hd : decode c.code pc = .ok (.arraylength, 1)) (kk : own_WP p e below E T (mkF m (pc + 1) Ls (.int n :: S))) : own_WP p e below E T (mkF m pc Ls (.ref a :: S)) := by
  obtain ⟨cl, A, q, S1, M, H, G⟩ := V
  refine own_go (fun t k => X.arraylength hx (by rw [eT]; exact A.1) (State.isArrayOf_alike hZ.alike A.2.1) (g := mkF m pc Ls (.ref a :: S)) rfl rfl hd t k) ?_
  rw [len_of S1 M]
  exact kk
theorem own_at {cl : Cell} {n j : Int32} {vs : List Value} {d w : Value} (S1 : cl.slots.size = n.toNatClampNeg) (H : Has cl vs d) (hj : ¬ j < 0 ∧ j < n) (hv : vs.getD j.toNatClampNeg d = w) : cl.slots[j.toNatClampNeg]? = some w :=
  H.at (inb_of S1 hj) hv
theorem own_ldI (X : Stand p l e R s m args below meth c T locs cells slots) (hx : p.tables.exec = Jvm.exec) (hZ : Z.Warmed39 s.vm) (eT : T.heap = h) {a : Addr} {k : ClassId} {n j w : Int32} {vs : List Value} {d : Value} (V : Arv Z h a k .int n vs d) (hj : ¬ j < 0 ∧ j < n) (hv : vs.getD j.toNatClampNeg d = .int w)
    {pc : Nat} {Ls : Array Slot} {S : List Value} (hd : decode c.code pc = .ok (.iaload, 1)) (kk : own_WP p e below E T (mkF m (pc + 1) Ls (.int w :: S))) : own_WP p e below E T (mkF m pc Ls (.int j :: .ref a :: S)) := by
  obtain ⟨cl, A, q, S1, M, H, G⟩ := V
  exact own_go (fun t k => X.iaload hx (j := j) (v := .int w) (by rw [eT]; exact A.1) (State.isArrayOf_alike hZ.alike A.2.1) A.2.2 (inb_of S1 hj) (own_at S1 H hj hv) (g := mkF m pc Ls (.int j :: .ref a :: S)) rfl rfl hd t k) kk
theorem own_ldJ (X : Stand p l e R s m args below meth c T locs cells slots) (hx : p.tables.exec = Jvm.exec) (hZ : Z.Warmed39 s.vm) (eT : T.heap = h) {a : Addr} {k : ClassId} {n j : Int32} {w : Int64} {vs : List Value} {d : Value} (V : Arv Z h a k .long n vs d) (hj : ¬ j < 0 ∧ j < n) (hv : vs.getD j.toNatClampNeg d = .long w)
    {pc : Nat} {Ls : Array Slot} {S : List Value} (hd : decode c.code pc = .ok (.laload, 1)) (kk : own_WP p e below E T (mkF m (pc + 1) Ls (.long w :: S))) : own_WP p e below E T (mkF m pc Ls (.int j :: .ref a :: S)) := by
  obtain ⟨cl, A, q, S1, M, H, G⟩ := V
  exact own_go (fun t k => X.laload hx (j := j) (v := .long w) (by rw [eT]; exact A.1) (State.isArrayOf_alike hZ.alike A.2.1) A.2.2 (inb_of S1 hj) (own_at S1 H hj hv) (g := mkF m pc Ls (.int j :: .ref a :: S)) rfl rfl hd t k) kk
theorem own_ldB (X : Stand p l e R s m args below meth c T locs cells slots) (hx : p.tables.exec = Jvm.exec) (hZ : Z.Warmed39 s.vm) (eT : T.heap = h) {a : Addr} {k : ClassId} {n j w : Int32} {vs : List Value} {d : Value} (V : Arv Z h a k .byte n vs d) (hj : ¬ j < 0 ∧ j < n) (hv : vs.getD j.toNatClampNeg d = .int w)
    {pc : Nat} {Ls : Array Slot} {S : List Value} (hd : decode c.code pc = .ok (.baload, 1)) (kk : own_WP p e below E T (mkF m (pc + 1) Ls (.int w :: S))) : own_WP p e below E T (mkF m pc Ls (.int j :: .ref a :: S)) := by
  obtain ⟨cl, A, q, S1, M, H, G⟩ := V
  exact own_go (fun t k => X.baloadBytes hx (j := j) (v := .int w) (by rw [eT]; exact A.1) (State.isArrayOf_alike hZ.alike A.2.1) A.2.2 (inb_of S1 hj) (own_at S1 H hj hv) (g := mkF m pc Ls (.int j :: .ref a :: S)) rfl rfl hd t k) kk
theorem own_ldR (X : Stand p l e R s m args below meth c T locs cells slots) (hx : p.tables.exec = Jvm.exec) (hZ : Z.Warmed39 s.vm) (eT : T.heap = h) {a : Addr} {k : ClassId} {ty : FieldType} (hty : ty.isReference = true) {n j : Int32} {w : Value} {vs : List Value} {d : Value} (V : Arv Z h a k ty n vs d) (hj : ¬ j < 0 ∧ j < n) (hv : vs.getD j.toNatClampNeg d = w)
    {pc : Nat} {Ls : Array Slot} {S : List Value} (hd : decode c.code pc = .ok (.aaload, 1)) (kk : own_WP p e below E T (mkF m (pc + 1) Ls (w :: S))) : own_WP p e below E T (mkF m pc Ls (.int j :: .ref a :: S)) := by
  obtain ⟨cl, A, q, S1, M, H, G⟩ := V
  exact own_go (fun t k => X.aaload hx (j := j) (v := w) (by rw [eT]; exact A.1) (State.isArrayOf_alike hZ.alike A.2.1) hty A.2.2 (inb_of S1 hj) (own_at S1 H hj hv) (g := mkF m pc Ls (.int j :: .ref a :: S)) rfl rfl hd t k) kk
theorem own_stI (X : Stand p l e R s m args below meth c T locs cells slots) (hx : p.tables.exec = Jvm.exec) (hZ : Z.Warmed39 s.vm) (eT : T.heap = h) {a : Addr} {k : ClassId} {n j x : Int32} {vs : List Value} {d : Value} (V : Arv Z h a k .int n vs d) (hj : ¬ j < 0 ∧ j < n) {i : Nat} (hji : j.toNatClampNeg = i) (hi : i < vs.length)
    {pc : Nat} {Ls : Array Slot} {S : List Value} (hd : decode c.code pc = .ok (.iastore, 1))
    (kk : ∀ T' h', Stand p l e R s m args below meth c T' (locs ++ [⟨a, j.toNatClampNeg⟩]) cells slots → T'.heap = h' → Wr h h' a j.toNatClampNeg (.int x) → Arv Z h' a k .int n (vs.set i (.int x)) d → own_WP p e below E T' (mkF m (pc + 1) Ls S)) : own_WP p e below E T (mkF m pc Ls (.int x :: .int j :: .ref a :: S)) := by
  obtain ⟨cl, A, q, S1, M, H, G⟩ := V
  obtain ⟨T', h', X', e', W', st⟩ := stI X hx hZ eT A (j := j) (inb_of S1 hj) (g := mkF m pc Ls (.int x :: .int j :: .ref a :: S)) rfl rfl hd
  exact own_go st (kk T' h' X' e' W' (Arv.set A q S1 M H G rfl W' i hji hi))
theorem own_stJ (X : Stand p l e R s m args below meth c T locs cells slots) (hx : p.tables.exec = Jvm.exec) (hZ : Z.Warmed39 s.vm) (eT : T.heap = h) {a : Addr} {k : ClassId} {n j : Int32} {x : Int64} {vs : List Value} {d : Value} (V : Arv Z h a k .long n vs d) (hj : ¬ j < 0 ∧ j < n) {i : Nat} (hji : j.toNatClampNeg = i) (hi : i < vs.length)
    {pc : Nat} {Ls : Array Slot} {S : List Value} (hd : decode c.code pc = .ok (.lastore, 1))
    (kk : ∀ T' h', Stand p l e R s m args below meth c T' (locs ++ [⟨a, j.toNatClampNeg⟩]) cells slots → T'.heap = h' → Wr h h' a j.toNatClampNeg (.long x) → Arv Z h' a k .long n (vs.set i (.long x)) d → own_WP p e below E T' (mkF m (pc + 1) Ls S)) : own_WP p e below E T (mkF m pc Ls (.long x :: .int j :: .ref a :: S)) := by
  obtain ⟨cl, A, q, S1, M, H, G⟩ := V
  obtain ⟨T', h', X', e', W', st⟩ := stJ X hx hZ eT A (j := j) (inb_of S1 hj) (g := mkF m pc Ls (.long x :: .int j :: .ref a :: S)) rfl rfl hd
  exact own_go st (kk T' h' X' e' W' (Arv.set A q S1 M H G rfl W' i hji hi))
theorem own_stB (X : Stand p l e R s m args below meth c T locs cells slots) (hx : p.tables.exec = Jvm.exec) (hZ : Z.Warmed39 s.vm) (eT : T.heap = h) {a : Addr} {k : ClassId} {n j x : Int32} {vs : List Value} {d : Value} (V : Arv Z h a k .byte n vs d) (hj : ¬ j < 0 ∧ j < n) {i : Nat} (hji : j.toNatClampNeg = i) (hi : i < vs.length)
    {pc : Nat} {Ls : Array Slot} {S : List Value} (hd : decode c.code pc = .ok (.bastore, 1))
    (kk : ∀ T' h', Stand p l e R s m args below meth c T' (locs ++ [⟨a, j.toNatClampNeg⟩]) cells slots → T'.heap = h' → Wr h h' a j.toNatClampNeg (.int (nar .byte x)) → Arv Z h' a k .byte n (vs.set i (.int (nar .byte x))) d → own_WP p e below E T' (mkF m (pc + 1) Ls S)) : own_WP p e below E T (mkF m pc Ls (.int x :: .int j :: .ref a :: S)) := by
  obtain ⟨cl, A, q, S1, M, H, G⟩ := V
  obtain ⟨T', h', X', e', W', st⟩ := stB X hx hZ eT A (j := j) (inb_of S1 hj) (g := mkF m pc Ls (.int x :: .int j :: .ref a :: S)) rfl rfl hd
  exact own_go st (kk T' h' X' e' W' (Arv.set A q S1 M H G (fits_nar_byte x) W' i hji hi))
theorem own_nm {x a : Addr} (h : x ≠ a) : x ∉ [a] := fun q => h (List.mem_singleton.mp q)
theorem own_nm0 {x : Addr} : x ∉ ([] : List Addr) := List.not_mem_nil
theorem own_nm2 {x a b : Addr} (h : x ≠ a) (h' : x ≠ b) : x ∉ [a, b] := fun q => by
  rcases List.mem_cons.mp q with r | r
  · exact h r
  · exact h' (List.mem_singleton.mp r)
theorem own_le {h0 h : Heap} {n0 : Nat} {ws : List Addr} (Z0 : n0 ≤ h0.size) (K : Keep h0 h ws) : n0 ≤ h.size := Nat.le_trans Z0 K.1
end OwnKit
def own_vx (f n : Int32) (q : Int64) : Int32 := if q - f.toInt64 < 0 then -1 else if q - f.toInt64 < n.toInt64 then (q - f.toInt64).toInt32 else -1
open Jvm.Kit in
theorem own_subw (q f : Int64) (hf1 : -2147483648 ≤ f.toInt) (hf2 : f.toInt < 2147483648) :
    (q - f).toInt = q.toInt - f.toInt ∨ (q.toInt - f.toInt < -2 ^ 63 ∧ (q - f).toInt = q.toInt - f.toInt + 2 ^ 64) ∨ (2 ^ 63 ≤ q.toInt - f.toInt ∧ (q - f).toInt = q.toInt - f.toInt - 2 ^ 64) := by
  have h1 := q.toInt_lt
  have h2 := q.le_toInt
  rw [Int64.toInt_sub]
  by_cases a : q.toInt - f.toInt < -2 ^ 63
  · right; left
    refine ⟨a, ?_⟩
    have e : (q.toInt - f.toInt).bmod (2 ^ 64) = (q.toInt - f.toInt + (2 ^ 64 : Nat)).bmod (2 ^ 64) := by rw [Int.add_bmod_right]
    rw [e, bmod64 (by omega) (by omega)]; omega
  · by_cases b : 2 ^ 63 ≤ q.toInt - f.toInt
    · right; right
      refine ⟨b, ?_⟩
      have e : (q.toInt - f.toInt).bmod (2 ^ 64) = (q.toInt - f.toInt - (2 ^ 64 : Nat)).bmod (2 ^ 64) := by rw [Int.sub_bmod_right]
      rw [e, bmod64 (by omega) (by omega)]; omega
    · left
      rw [bmod64 (by omega) (by omega)]
open Jvm.Kit in
theorem own_vxe (f n : Int32) (q : Int64) (hn : 0 ≤ n.toInt) : own_vx f n q = if q < f.toInt64 then -1 else if q < f.toInt64 + n.toInt64 then (q - f.toInt64).toInt32 else -1 := by
  have f1 := f.toInt_lt
  have f2 := f.le_toInt
  have n1 := n.toInt_lt
  have q1 := q.toInt_lt
  have q2 := q.le_toInt
  have ef : f.toInt64.toInt = f.toInt := i64_of_i32 f
  have en : n.toInt64.toInt = n.toInt := i64_of_i32 n
  have e0 : (0 : Int64).toInt = 0 := rfl
  have es : (f.toInt64 + n.toInt64).toInt = f.toInt + n.toInt := by rw [i64_add (by omega) (by omega), ef, en]
  have D := own_subw q f.toInt64 (by omega) (by omega)
  unfold own_vx
  generalize hd : q - f.toInt64 = d at *
  by_cases c1 : q < f.toInt64
  · rw [if_pos c1]
    by_cases c2 : d < 0
    · rw [if_pos c2]
    · rw [if_neg c2]
      have c3 : ¬ d < n.toInt64 := by rw [Int64.lt_iff_toInt_lt] at *; omega
      rw [if_neg c3]
  · rw [if_neg c1]
    by_cases c2 : q < f.toInt64 + n.toInt64
    · rw [if_pos c2]
      have c3 : ¬ d < 0 := by rw [Int64.lt_iff_toInt_lt] at *; omega
      have c4 : d < n.toInt64 := by rw [Int64.lt_iff_toInt_lt] at *; omega
      rw [if_neg c3, if_pos c4]
    · rw [if_neg c2]
      by_cases c3 : d < 0
      · rw [if_pos c3]
      · rw [if_neg c3]
        have c4 : ¬ d < n.toInt64 := by rw [Int64.lt_iff_toInt_lt] at *; omega
        rw [if_neg c4]
open Jvm.Kit in
theorem own_vxn (f n i : Int32) (h1 : 0 ≤ i.toInt) (h2 : i.toInt < n.toInt) : own_vx f n (i.toInt64 + f.toInt64) = i := by
  have e : i.toInt64 + f.toInt64 - f.toInt64 = i.toInt64 := Int64.add_sub_cancel _ _
  have ei : i.toInt64.toInt = i.toInt := i64_of_i32 i
  have en : n.toInt64.toInt = n.toInt := i64_of_i32 n
  have e0 : (0 : Int64).toInt = 0 := rfl
  unfold own_vx
  rw [e, if_neg (by rw [Int64.lt_iff_toInt_lt]; omega), if_pos (by rw [Int64.lt_iff_toInt_lt]; omega)]
  exact Int32.toInt32_toInt64 i
open Jvm.Kit in
theorem own_pick (a n : Int32) (h : (0 : Int32) < n) : 0 ≤ ((a &&& 2147483647) % n).toInt ∧ ((a &&& 2147483647) % n).toInt < n.toInt := by
  have e1 : (a &&& 2147483647).toInt = a.toInt % 2 ^ 31 := i32_mask a 2147483647 (k := 31) (by decide) (by decide)
  rw [i32_rem_nonneg (by omega)]
  rw [Int32.lt_iff_toInt_lt] at h
  have e0 : (0 : Int32).toInt = 0 := rfl
  exact ⟨Int.emod_nonneg _ (by omega), Int.emod_lt_of_pos _ (by omega)⟩
theorem d1_0 : decode prog_25_method_1_code 0 = .ok (.aload_n 0, 1) := by decide +kernel
theorem d1_1 : decode prog_25_method_1_code 1 = .ok (.invokespecial 3, 3) := by decide +kernel
theorem d1_4 : decode prog_25_method_1_code 4 = .ok (.aload_n 0, 1) := by decide +kernel
theorem d1_5 : decode prog_25_method_1_code 5 = .ok (.iload_n 1, 1) := by decide +kernel
theorem d1_6 : decode prog_25_method_1_code 6 = .ok (.putfield 9, 3) := by decide +kernel
theorem d1_9 : decode prog_25_method_1_code 9 = .ok (.aload_n 0, 1) := by decide +kernel
theorem d1_10 : decode prog_25_method_1_code 10 = .ok (.aload_n 2, 1) := by decide +kernel
theorem d1_11 : decode prog_25_method_1_code 11 = .ok (.putfield 15, 3) := by decide +kernel
theorem d1_14 : decode prog_25_method_1_code 14 = .ok (.aload_n 0, 1) := by decide +kernel
theorem d1_15 : decode prog_25_method_1_code 15 = .ok (.aload_n 3, 1) := by decide +kernel
theorem d1_16 : decode prog_25_method_1_code 16 = .ok (.putfield 19, 3) := by decide +kernel
theorem d1_19 : decode prog_25_method_1_code 19 = .ok (.aload_n 0, 1) := by decide +kernel
theorem d1_20 : decode prog_25_method_1_code 20 = .ok (.aload 4, 2) := by decide +kernel
theorem d1_22 : decode prog_25_method_1_code 22 = .ok (.putfield 22, 3) := by decide +kernel
theorem d1_25 : decode prog_25_method_1_code 25 = .ok (.aload_n 0, 1) := by decide +kernel
theorem d1_26 : decode prog_25_method_1_code 26 = .ok (.iload 5, 2) := by decide +kernel
theorem d1_28 : decode prog_25_method_1_code 28 = .ok (.putfield 26, 3) := by decide +kernel
theorem d1_31 : decode prog_25_method_1_code 31 = .ok (.aload_n 0, 1) := by decide +kernel
theorem d1_32 : decode prog_25_method_1_code 32 = .ok (.iload 6, 2) := by decide +kernel
theorem d1_34 : decode prog_25_method_1_code 34 = .ok (.putfield 29, 3) := by decide +kernel
theorem d1_37 : decode prog_25_method_1_code 37 = .ok (.return_, 1) := by decide +kernel
theorem own_pn50586 : plainName "branchwork/Graph" = true := by first | (simp [plainName, overriddenIn]; done) | decide +kernel
theorem ef_1 (m : MethodId) (zo : Addr) (zn : Int32) (zt : Addr) (zh : Addr) (zq : Addr) (zs : Int32) (zf : Int32) : entryFrame m #[(.ref zo), (.int zn), (.ref zt), (.ref zh), (.ref zq), (.int zs), (.int zf)] 7 = mkF m 0 #[.val (.ref zo), .val (.int zn), .val (.ref zt), .val (.ref zh), .val (.ref zq), .val (.int zs), .val (.int zf)] [] := by first | (simp [entryFrame, mkF, argsToLocals, Value.category]; done) | rfl
def Q1 (Z : State) (zo : Addr) (zn : Int32) (zt : Addr) (zh : Addr) (zq : Addr) (zs : Int32) (zf : Int32) (u0 : Value) (u1 : Value) (u2 : Value) (u3 : Value) (u4 : Value) (u5 : Value) (h0 : Heap) (n0 : Nat) (v : Option Value) (h : Heap) (L : List Loc) : Prop := v = none ∧ Fr n0 L ∧ Keep h0 h [zo] ∧ Exa Z h zo "branchwork/Graph" ∧ Fld Z h zo "branchwork/Graph" "vertexCount" "I" (.int zn) ∧ Fld Z h zo "branchwork/Graph" "firstNumber" "I" (.int zf)
set_option maxRecDepth 65536 in
set_option maxHeartbeats 40000000 in
theorem rm1 (l : Launch) (Z : State) (a0 : Array Value) (hw : ∀ d ∈ tables_1, d.before a0 Z = true) (ws : List Jvm.Cond) (zo : Addr) (zn : Int32) (zt : Addr) (zh : Addr) (zq : Addr) (zs : Int32) (zf : Int32) (u0 : Value) (u1 : Value) (u2 : Value) (u3 : Value) (u4 : Value) (u5 : Value) (h0 : Heap) (n0 : Nat) (Z0 : n0 ≤ h0.size) (P0 : Exa Z h0 zo "branchwork/Graph") (P1 : Fld Z h0 zo "branchwork/Graph" "vertexCount" "I" u0) (P2 : Fld Z h0 zo "branchwork/Graph" "tails" "[I" u1) (P3 : Fld Z h0 zo "branchwork/Graph" "heads" "[I" u2) (P4 : Fld Z h0 zo "branchwork/Graph" "weights" "[J" u3) (P5 : Fld Z h0 zo "branchwork/Graph" "scale" "I" u4) (P6 : Fld Z h0 zo "branchwork/Graph" "firstNumber" "I" u5) (g_zo : n0 ≤ zo) :
    MetFree l (⟨"branchwork/Graph", "<init>", "(I[I[I[JII)V"⟩ : MethodName) (head1 (Jvm.Cond.code (⟨"branchwork/Graph", "<init>", "(I[I[I[JII)V"⟩ : MethodName) prog_25_method_1_code 7 none :: ws) ({ frames := 1, cells := 0, slots := 0, locals := 12 } : Room)) (fun a U => a = #[(.ref zo), (.int zn), (.ref zt), (.ref zh), (.ref zq), (.int zs), (.int zf)] ∧ Z.Warmed39 U.vm ∧ U.heap = h0) (fun _ _ _ _ _ => True) (fun _ U o U' => ∃ v L, o = .returned v ∧ Q1 Z zo zn zt zh zq zs zf u0 u1 u2 u3 u4 u5 h0 n0 v U'.heap L ∧ FrameEnd U o U' L ({ frames := 1, cells := 0, slots := 0, locals := 12 } : Room).cells ({ frames := 1, cells := 0, slots := 0, locals := 12 } : Room).slots) := by
  refine MetFree.of_bodySF (plainFor_of_name own_pn50586) hisR ?_
  intro p e s m args below meth c s₁ Bd hml0 hP hK
  obtain ⟨rfl, hZ, hh⟩ := hP
  have hx := Bd.exec
  have hby := Bd.bytes
  have hml : c.maxLocals = 7 := hml0
  have hown : s.vm.findClass "branchwork/Graph" = some m.cls := findClass_of_methodNamed Bd.named
  have hnm := (name_of_methodNamed Bd.named Bd.method).1
  have X0 : Stand p l e ({ frames := 1, cells := 0, slots := 0, locals := 12 } : Room) s m #[(.ref zo), (.int zn), (.ref zt), (.ref zh), (.ref zq), (.int zs), (.int zf)] below meth c s₁ [] 0 0 := Stand.of_body Bd
  have e0 : s₁.heap = h0 := by rw [← hh, Bd.state]; rfl
  have N0 := Fr.nil n0
  have K0 := Keep.refl h0 [zo]
  show own_WP p e below (own_E s (Q1 Z zo zn zt zh zq zs zf u0 u1 u2 u3 u4 u5 h0 n0) 0 0) s₁ (entryFrame m #[(.ref zo), (.int zn), (.ref zt), (.ref zh), (.ref zq), (.int zs), (.int zf)] 7)
  rw [ef_1 m zo zn zt zh zq zs zf]
  show own_WP _ _ _ _ s₁ (mkF m 0 #[.val (.ref zo), .val (.int zn), .val (.ref zt), .val (.ref zh), .val (.ref zq), .val (.int zs), .val (.int zf)] [])
  refine own_go (fun t k => XS.aloadN X0.here hx rfl (hb hby d1_0) rfl rfl  k) ?_
  show own_WP _ _ _ _ s₁ (mkF m 1 #[.val (.ref zo), .val (.int zn), .val (.ref zt), .val (.ref zh), .val (.ref zq), .val (.int zs), .val (.int zf)] [(.ref zo)])
  obtain ⟨T1, X1, e1, st1⟩ := initO X0 hx hZ hown (hw _ (List.mem_of_getElem? (i := 9) rfl)) (hw _ (List.mem_of_getElem? (i := 10) rfl)) (hw _ (List.mem_of_getElem? (i := 11) rfl)) e0 (g := (mkF m 1 #[.val (.ref zo), .val (.int zn), .val (.ref zt), .val (.ref zh), .val (.ref zq), .val (.int zs), .val (.int zf)] [(.ref zo)])) rfl (by rw [hml]; rfl) rfl (hb hby d1_1) (by decide) (W := 0) (by show 2 * 0 + _ ≤ _; exact Nat.le_of_eq rfl) (by decide)
  refine own_go st1 ?_
  show own_WP _ _ _ _ T1 (mkF m 4 #[.val (.ref zo), .val (.int zn), .val (.ref zt), .val (.ref zh), .val (.ref zq), .val (.int zs), .val (.int zf)] [])
  refine own_go (fun t k => XS.aloadN X1.here hx rfl (hb hby d1_4) rfl rfl  k) ?_
  show own_WP _ _ _ _ T1 (mkF m 5 #[.val (.ref zo), .val (.int zn), .val (.ref zt), .val (.ref zh), .val (.ref zq), .val (.int zs), .val (.int zf)] [(.ref zo)])
  refine own_go (fun t k => XS.iloadN X1.here hx rfl (hb hby d1_5) rfl  k) ?_
  show own_WP _ _ _ _ T1 (mkF m 6 #[.val (.ref zo), .val (.int zn), .val (.ref zt), .val (.ref zh), .val (.ref zq), .val (.int zs), .val (.int zf)] [(.int zn), (.ref zo)])
  obtain ⟨T2, h2, X2, e2, W2, st2⟩ := putF X1 hx hZ hown (host := "") (Or.inl (hw _ (List.mem_of_getElem? (i := 12) rfl))) Via.refl e1 P1 P0 (Or.inr ⟨(hw _ (List.mem_of_getElem? (i := 13) rfl)), rfl, hnm⟩) (hw _ (List.mem_of_getElem? (i := 2) rfl)) (ty := .int) (by decide) rfl rfl (g := (mkF m 6 #[.val (.ref zo), .val (.int zn), .val (.ref zt), .val (.ref zh), .val (.ref zq), .val (.int zs), .val (.int zf)] [(.int zn), (.ref zo)])) rfl rfl (hb hby d1_6)
  refine own_go st2 ?_
  have f3 : Fld Z h2 zo "branchwork/Graph" "vertexCount" "I" (.int zn) := P1.same W2
  have f4 : Exa Z h2 zo "branchwork/Graph" := P0.wr W2
  have f6 : Fld Z h2 zo "branchwork/Graph" "tails" "[I" u1 := P2.other W2 (Or.inr (slot_ne (Or.inr (hw _ (List.mem_of_getElem? (i := 15) rfl))) (Or.inr (hw _ (List.mem_of_getElem? (i := 13) rfl))) (by decide) (t := (.array .int)) (t' := .int) (by decide) (by decide)))
  have f7 : Fld Z h2 zo "branchwork/Graph" "heads" "[I" u2 := P3.other W2 (Or.inr (slot_ne (Or.inr (hw _ (List.mem_of_getElem? (i := 17) rfl))) (Or.inr (hw _ (List.mem_of_getElem? (i := 13) rfl))) (by decide) (t := (.array .int)) (t' := .int) (by decide) (by decide)))
  have f8 : Fld Z h2 zo "branchwork/Graph" "weights" "[J" u3 := P4.other W2 (Or.inr (slot_ne (Or.inr (hw _ (List.mem_of_getElem? (i := 19) rfl))) (Or.inr (hw _ (List.mem_of_getElem? (i := 13) rfl))) (by decide) (t := (.array .long)) (t' := .int) (by decide) (by decide)))
  have f9 : Fld Z h2 zo "branchwork/Graph" "scale" "I" u4 := P5.other W2 (Or.inr (slot_ne (Or.inr (hw _ (List.mem_of_getElem? (i := 21) rfl))) (Or.inr (hw _ (List.mem_of_getElem? (i := 13) rfl))) (by decide) (t := .int) (t' := .int) (by decide) (by decide)))
  have f10 : Fld Z h2 zo "branchwork/Graph" "firstNumber" "I" u5 := P6.other W2 (Or.inr (slot_ne (Or.inr (hw _ (List.mem_of_getElem? (i := 23) rfl))) (Or.inr (hw _ (List.mem_of_getElem? (i := 13) rfl))) (by decide) (t := .int) (t' := .int) (by decide) (by decide)))
  have K11 : Keep h0 h2 [zo] := K0.wr W2 (Or.inl (List.mem_of_getElem? (i := 0) rfl))
  have N12 := Fr.snoc X2 N0 g_zo
  show own_WP _ _ _ _ T2 (mkF m 9 #[.val (.ref zo), .val (.int zn), .val (.ref zt), .val (.ref zh), .val (.ref zq), .val (.int zs), .val (.int zf)] [])
  refine own_go (fun t k => XS.aloadN X2.here hx rfl (hb hby d1_9) rfl rfl  k) ?_
  show own_WP _ _ _ _ T2 (mkF m 10 #[.val (.ref zo), .val (.int zn), .val (.ref zt), .val (.ref zh), .val (.ref zq), .val (.int zs), .val (.int zf)] [(.ref zo)])
  refine own_go (fun t k => XS.aloadN X2.here hx rfl (hb hby d1_10) rfl rfl  k) ?_
  show own_WP _ _ _ _ T2 (mkF m 11 #[.val (.ref zo), .val (.int zn), .val (.ref zt), .val (.ref zh), .val (.ref zq), .val (.int zs), .val (.int zf)] [(.ref zt), (.ref zo)])
  obtain ⟨T13, h13, X13, e13, W13, st13⟩ := putF X2 hx hZ hown (host := "") (Or.inl (hw _ (List.mem_of_getElem? (i := 14) rfl))) Via.refl e2 f6 f4 (Or.inr ⟨(hw _ (List.mem_of_getElem? (i := 15) rfl)), rfl, hnm⟩) (hw _ (List.mem_of_getElem? (i := 2) rfl)) (ty := (.array .int)) (by decide) rfl rfl (g := (mkF m 11 #[.val (.ref zo), .val (.int zn), .val (.ref zt), .val (.ref zh), .val (.ref zq), .val (.int zs), .val (.int zf)] [(.ref zt), (.ref zo)])) rfl rfl (hb hby d1_11)
  refine own_go st13 ?_
  have f14 : Fld Z h13 zo "branchwork/Graph" "tails" "[I" (.ref zt) := f6.same W13
  have f15 : Exa Z h13 zo "branchwork/Graph" := f4.wr W13
  have f17 : Fld Z h13 zo "branchwork/Graph" "heads" "[I" u2 := f7.other W13 (Or.inr (slot_ne (Or.inr (hw _ (List.mem_of_getElem? (i := 17) rfl))) (Or.inr (hw _ (List.mem_of_getElem? (i := 15) rfl))) (by decide) (t := (.array .int)) (t' := (.array .int)) (by decide) (by decide)))
  have f18 : Fld Z h13 zo "branchwork/Graph" "weights" "[J" u3 := f8.other W13 (Or.inr (slot_ne (Or.inr (hw _ (List.mem_of_getElem? (i := 19) rfl))) (Or.inr (hw _ (List.mem_of_getElem? (i := 15) rfl))) (by decide) (t := (.array .long)) (t' := (.array .int)) (by decide) (by decide)))
  have f19 : Fld Z h13 zo "branchwork/Graph" "scale" "I" u4 := f9.other W13 (Or.inr (slot_ne (Or.inr (hw _ (List.mem_of_getElem? (i := 21) rfl))) (Or.inr (hw _ (List.mem_of_getElem? (i := 15) rfl))) (by decide) (t := .int) (t' := (.array .int)) (by decide) (by decide)))
  have f20 : Fld Z h13 zo "branchwork/Graph" "firstNumber" "I" u5 := f10.other W13 (Or.inr (slot_ne (Or.inr (hw _ (List.mem_of_getElem? (i := 23) rfl))) (Or.inr (hw _ (List.mem_of_getElem? (i := 15) rfl))) (by decide) (t := .int) (t' := (.array .int)) (by decide) (by decide)))
  have f21 : Fld Z h13 zo "branchwork/Graph" "vertexCount" "I" (.int zn) := f3.other W13 (Or.inr (slot_ne (Or.inr (hw _ (List.mem_of_getElem? (i := 13) rfl))) (Or.inr (hw _ (List.mem_of_getElem? (i := 15) rfl))) (by decide) (t := .int) (t' := (.array .int)) (by decide) (by decide)))
  have K22 : Keep h0 h13 [zo] := K11.wr W13 (Or.inl (List.mem_of_getElem? (i := 0) rfl))
  have N23 := Fr.snoc X13 N12 g_zo
  show own_WP _ _ _ _ T13 (mkF m 14 #[.val (.ref zo), .val (.int zn), .val (.ref zt), .val (.ref zh), .val (.ref zq), .val (.int zs), .val (.int zf)] [])
  refine own_go (fun t k => XS.aloadN X13.here hx rfl (hb hby d1_14) rfl rfl  k) ?_
  show own_WP _ _ _ _ T13 (mkF m 15 #[.val (.ref zo), .val (.int zn), .val (.ref zt), .val (.ref zh), .val (.ref zq), .val (.int zs), .val (.int zf)] [(.ref zo)])
  refine own_go (fun t k => XS.aloadN X13.here hx rfl (hb hby d1_15) rfl rfl  k) ?_
  show own_WP _ _ _ _ T13 (mkF m 16 #[.val (.ref zo), .val (.int zn), .val (.ref zt), .val (.ref zh), .val (.ref zq), .val (.int zs), .val (.int zf)] [(.ref zh), (.ref zo)])
  obtain ⟨T24, h24, X24, e24, W24, st24⟩ := putF X13 hx hZ hown (host := "") (Or.inl (hw _ (List.mem_of_getElem? (i := 16) rfl))) Via.refl e13 f17 f15 (Or.inr ⟨(hw _ (List.mem_of_getElem? (i := 17) rfl)), rfl, hnm⟩) (hw _ (List.mem_of_getElem? (i := 2) rfl)) (ty := (.array .int)) (by decide) rfl rfl (g := (mkF m 16 #[.val (.ref zo), .val (.int zn), .val (.ref zt), .val (.ref zh), .val (.ref zq), .val (.int zs), .val (.int zf)] [(.ref zh), (.ref zo)])) rfl rfl (hb hby d1_16)
  refine own_go st24 ?_
  have f25 : Fld Z h24 zo "branchwork/Graph" "heads" "[I" (.ref zh) := f17.same W24
  have f26 : Exa Z h24 zo "branchwork/Graph" := f15.wr W24
  have f28 : Fld Z h24 zo "branchwork/Graph" "weights" "[J" u3 := f18.other W24 (Or.inr (slot_ne (Or.inr (hw _ (List.mem_of_getElem? (i := 19) rfl))) (Or.inr (hw _ (List.mem_of_getElem? (i := 17) rfl))) (by decide) (t := (.array .long)) (t' := (.array .int)) (by decide) (by decide)))
  have f29 : Fld Z h24 zo "branchwork/Graph" "scale" "I" u4 := f19.other W24 (Or.inr (slot_ne (Or.inr (hw _ (List.mem_of_getElem? (i := 21) rfl))) (Or.inr (hw _ (List.mem_of_getElem? (i := 17) rfl))) (by decide) (t := .int) (t' := (.array .int)) (by decide) (by decide)))
  have f30 : Fld Z h24 zo "branchwork/Graph" "firstNumber" "I" u5 := f20.other W24 (Or.inr (slot_ne (Or.inr (hw _ (List.mem_of_getElem? (i := 23) rfl))) (Or.inr (hw _ (List.mem_of_getElem? (i := 17) rfl))) (by decide) (t := .int) (t' := (.array .int)) (by decide) (by decide)))
  have f31 : Fld Z h24 zo "branchwork/Graph" "vertexCount" "I" (.int zn) := f21.other W24 (Or.inr (slot_ne (Or.inr (hw _ (List.mem_of_getElem? (i := 13) rfl))) (Or.inr (hw _ (List.mem_of_getElem? (i := 17) rfl))) (by decide) (t := .int) (t' := (.array .int)) (by decide) (by decide)))
  have f32 : Fld Z h24 zo "branchwork/Graph" "tails" "[I" (.ref zt) := f14.other W24 (Or.inr (slot_ne (Or.inr (hw _ (List.mem_of_getElem? (i := 15) rfl))) (Or.inr (hw _ (List.mem_of_getElem? (i := 17) rfl))) (by decide) (t := (.array .int)) (t' := (.array .int)) (by decide) (by decide)))
  have K33 : Keep h0 h24 [zo] := K22.wr W24 (Or.inl (List.mem_of_getElem? (i := 0) rfl))
  have N34 := Fr.snoc X24 N23 g_zo
  show own_WP _ _ _ _ T24 (mkF m 19 #[.val (.ref zo), .val (.int zn), .val (.ref zt), .val (.ref zh), .val (.ref zq), .val (.int zs), .val (.int zf)] [])
  refine own_go (fun t k => XS.aloadN X24.here hx rfl (hb hby d1_19) rfl rfl  k) ?_
  show own_WP _ _ _ _ T24 (mkF m 20 #[.val (.ref zo), .val (.int zn), .val (.ref zt), .val (.ref zh), .val (.ref zq), .val (.int zs), .val (.int zf)] [(.ref zo)])
  refine own_go (fun t k => XS.aload X24.here hx rfl (hb hby d1_20) rfl rfl  k) ?_
  show own_WP _ _ _ _ T24 (mkF m 22 #[.val (.ref zo), .val (.int zn), .val (.ref zt), .val (.ref zh), .val (.ref zq), .val (.int zs), .val (.int zf)] [(.ref zq), (.ref zo)])
  obtain ⟨T35, h35, X35, e35, W35, st35⟩ := putF X24 hx hZ hown (host := "") (Or.inl (hw _ (List.mem_of_getElem? (i := 18) rfl))) Via.refl e24 f28 f26 (Or.inr ⟨(hw _ (List.mem_of_getElem? (i := 19) rfl)), rfl, hnm⟩) (hw _ (List.mem_of_getElem? (i := 2) rfl)) (ty := (.array .long)) (by decide) rfl rfl (g := (mkF m 22 #[.val (.ref zo), .val (.int zn), .val (.ref zt), .val (.ref zh), .val (.ref zq), .val (.int zs), .val (.int zf)] [(.ref zq), (.ref zo)])) rfl rfl (hb hby d1_22)
  refine own_go st35 ?_
  have f36 : Fld Z h35 zo "branchwork/Graph" "weights" "[J" (.ref zq) := f28.same W35
  have f37 : Exa Z h35 zo "branchwork/Graph" := f26.wr W35
  have f39 : Fld Z h35 zo "branchwork/Graph" "scale" "I" u4 := f29.other W35 (Or.inr (slot_ne (Or.inr (hw _ (List.mem_of_getElem? (i := 21) rfl))) (Or.inr (hw _ (List.mem_of_getElem? (i := 19) rfl))) (by decide) (t := .int) (t' := (.array .long)) (by decide) (by decide)))
  have f40 : Fld Z h35 zo "branchwork/Graph" "firstNumber" "I" u5 := f30.other W35 (Or.inr (slot_ne (Or.inr (hw _ (List.mem_of_getElem? (i := 23) rfl))) (Or.inr (hw _ (List.mem_of_getElem? (i := 19) rfl))) (by decide) (t := .int) (t' := (.array .long)) (by decide) (by decide)))
  have f41 : Fld Z h35 zo "branchwork/Graph" "vertexCount" "I" (.int zn) := f31.other W35 (Or.inr (slot_ne (Or.inr (hw _ (List.mem_of_getElem? (i := 13) rfl))) (Or.inr (hw _ (List.mem_of_getElem? (i := 19) rfl))) (by decide) (t := .int) (t' := (.array .long)) (by decide) (by decide)))
  have f42 : Fld Z h35 zo "branchwork/Graph" "tails" "[I" (.ref zt) := f32.other W35 (Or.inr (slot_ne (Or.inr (hw _ (List.mem_of_getElem? (i := 15) rfl))) (Or.inr (hw _ (List.mem_of_getElem? (i := 19) rfl))) (by decide) (t := (.array .int)) (t' := (.array .long)) (by decide) (by decide)))
  have f43 : Fld Z h35 zo "branchwork/Graph" "heads" "[I" (.ref zh) := f25.other W35 (Or.inr (slot_ne (Or.inr (hw _ (List.mem_of_getElem? (i := 17) rfl))) (Or.inr (hw _ (List.mem_of_getElem? (i := 19) rfl))) (by decide) (t := (.array .int)) (t' := (.array .long)) (by decide) (by decide)))
  have K44 : Keep h0 h35 [zo] := K33.wr W35 (Or.inl (List.mem_of_getElem? (i := 0) rfl))
  have N45 := Fr.snoc X35 N34 g_zo
  show own_WP _ _ _ _ T35 (mkF m 25 #[.val (.ref zo), .val (.int zn), .val (.ref zt), .val (.ref zh), .val (.ref zq), .val (.int zs), .val (.int zf)] [])
  refine own_go (fun t k => XS.aloadN X35.here hx rfl (hb hby d1_25) rfl rfl  k) ?_
  show own_WP _ _ _ _ T35 (mkF m 26 #[.val (.ref zo), .val (.int zn), .val (.ref zt), .val (.ref zh), .val (.ref zq), .val (.int zs), .val (.int zf)] [(.ref zo)])
  refine own_go (fun t k => XS.iload X35.here hx rfl (hb hby d1_26) rfl  k) ?_
  show own_WP _ _ _ _ T35 (mkF m 28 #[.val (.ref zo), .val (.int zn), .val (.ref zt), .val (.ref zh), .val (.ref zq), .val (.int zs), .val (.int zf)] [(.int zs), (.ref zo)])
  obtain ⟨T46, h46, X46, e46, W46, st46⟩ := putF X35 hx hZ hown (host := "") (Or.inl (hw _ (List.mem_of_getElem? (i := 20) rfl))) Via.refl e35 f39 f37 (Or.inr ⟨(hw _ (List.mem_of_getElem? (i := 21) rfl)), rfl, hnm⟩) (hw _ (List.mem_of_getElem? (i := 2) rfl)) (ty := .int) (by decide) rfl rfl (g := (mkF m 28 #[.val (.ref zo), .val (.int zn), .val (.ref zt), .val (.ref zh), .val (.ref zq), .val (.int zs), .val (.int zf)] [(.int zs), (.ref zo)])) rfl rfl (hb hby d1_28)
  refine own_go st46 ?_
  have f47 : Fld Z h46 zo "branchwork/Graph" "scale" "I" (.int zs) := f39.same W46
  have f48 : Exa Z h46 zo "branchwork/Graph" := f37.wr W46
  have f50 : Fld Z h46 zo "branchwork/Graph" "firstNumber" "I" u5 := f40.other W46 (Or.inr (slot_ne (Or.inr (hw _ (List.mem_of_getElem? (i := 23) rfl))) (Or.inr (hw _ (List.mem_of_getElem? (i := 21) rfl))) (by decide) (t := .int) (t' := .int) (by decide) (by decide)))
  have f51 : Fld Z h46 zo "branchwork/Graph" "vertexCount" "I" (.int zn) := f41.other W46 (Or.inr (slot_ne (Or.inr (hw _ (List.mem_of_getElem? (i := 13) rfl))) (Or.inr (hw _ (List.mem_of_getElem? (i := 21) rfl))) (by decide) (t := .int) (t' := .int) (by decide) (by decide)))
  have f52 : Fld Z h46 zo "branchwork/Graph" "tails" "[I" (.ref zt) := f42.other W46 (Or.inr (slot_ne (Or.inr (hw _ (List.mem_of_getElem? (i := 15) rfl))) (Or.inr (hw _ (List.mem_of_getElem? (i := 21) rfl))) (by decide) (t := (.array .int)) (t' := .int) (by decide) (by decide)))
  have f53 : Fld Z h46 zo "branchwork/Graph" "heads" "[I" (.ref zh) := f43.other W46 (Or.inr (slot_ne (Or.inr (hw _ (List.mem_of_getElem? (i := 17) rfl))) (Or.inr (hw _ (List.mem_of_getElem? (i := 21) rfl))) (by decide) (t := (.array .int)) (t' := .int) (by decide) (by decide)))
  have f54 : Fld Z h46 zo "branchwork/Graph" "weights" "[J" (.ref zq) := f36.other W46 (Or.inr (slot_ne (Or.inr (hw _ (List.mem_of_getElem? (i := 19) rfl))) (Or.inr (hw _ (List.mem_of_getElem? (i := 21) rfl))) (by decide) (t := (.array .long)) (t' := .int) (by decide) (by decide)))
  have K55 : Keep h0 h46 [zo] := K44.wr W46 (Or.inl (List.mem_of_getElem? (i := 0) rfl))
  have N56 := Fr.snoc X46 N45 g_zo
  show own_WP _ _ _ _ T46 (mkF m 31 #[.val (.ref zo), .val (.int zn), .val (.ref zt), .val (.ref zh), .val (.ref zq), .val (.int zs), .val (.int zf)] [])
  refine own_go (fun t k => XS.aloadN X46.here hx rfl (hb hby d1_31) rfl rfl  k) ?_
  show own_WP _ _ _ _ T46 (mkF m 32 #[.val (.ref zo), .val (.int zn), .val (.ref zt), .val (.ref zh), .val (.ref zq), .val (.int zs), .val (.int zf)] [(.ref zo)])
  refine own_go (fun t k => XS.iload X46.here hx rfl (hb hby d1_32) rfl  k) ?_
  show own_WP _ _ _ _ T46 (mkF m 34 #[.val (.ref zo), .val (.int zn), .val (.ref zt), .val (.ref zh), .val (.ref zq), .val (.int zs), .val (.int zf)] [(.int zf), (.ref zo)])
  obtain ⟨T57, h57, X57, e57, W57, st57⟩ := putF X46 hx hZ hown (host := "") (Or.inl (hw _ (List.mem_of_getElem? (i := 22) rfl))) Via.refl e46 f50 f48 (Or.inr ⟨(hw _ (List.mem_of_getElem? (i := 23) rfl)), rfl, hnm⟩) (hw _ (List.mem_of_getElem? (i := 2) rfl)) (ty := .int) (by decide) rfl rfl (g := (mkF m 34 #[.val (.ref zo), .val (.int zn), .val (.ref zt), .val (.ref zh), .val (.ref zq), .val (.int zs), .val (.int zf)] [(.int zf), (.ref zo)])) rfl rfl (hb hby d1_34)
  refine own_go st57 ?_
  have f58 : Fld Z h57 zo "branchwork/Graph" "firstNumber" "I" (.int zf) := f50.same W57
  have f59 : Exa Z h57 zo "branchwork/Graph" := f48.wr W57
  have f61 : Fld Z h57 zo "branchwork/Graph" "vertexCount" "I" (.int zn) := f51.other W57 (Or.inr (slot_ne (Or.inr (hw _ (List.mem_of_getElem? (i := 13) rfl))) (Or.inr (hw _ (List.mem_of_getElem? (i := 23) rfl))) (by decide) (t := .int) (t' := .int) (by decide) (by decide)))
  have f62 : Fld Z h57 zo "branchwork/Graph" "tails" "[I" (.ref zt) := f52.other W57 (Or.inr (slot_ne (Or.inr (hw _ (List.mem_of_getElem? (i := 15) rfl))) (Or.inr (hw _ (List.mem_of_getElem? (i := 23) rfl))) (by decide) (t := (.array .int)) (t' := .int) (by decide) (by decide)))
  have f63 : Fld Z h57 zo "branchwork/Graph" "heads" "[I" (.ref zh) := f53.other W57 (Or.inr (slot_ne (Or.inr (hw _ (List.mem_of_getElem? (i := 17) rfl))) (Or.inr (hw _ (List.mem_of_getElem? (i := 23) rfl))) (by decide) (t := (.array .int)) (t' := .int) (by decide) (by decide)))
  have f64 : Fld Z h57 zo "branchwork/Graph" "weights" "[J" (.ref zq) := f54.other W57 (Or.inr (slot_ne (Or.inr (hw _ (List.mem_of_getElem? (i := 19) rfl))) (Or.inr (hw _ (List.mem_of_getElem? (i := 23) rfl))) (by decide) (t := (.array .long)) (t' := .int) (by decide) (by decide)))
  have f65 : Fld Z h57 zo "branchwork/Graph" "scale" "I" (.int zs) := f47.other W57 (Or.inr (slot_ne (Or.inr (hw _ (List.mem_of_getElem? (i := 21) rfl))) (Or.inr (hw _ (List.mem_of_getElem? (i := 23) rfl))) (by decide) (t := .int) (t' := .int) (by decide) (by decide)))
  have K66 : Keep h0 h57 [zo] := K55.wr W57 (Or.inl (List.mem_of_getElem? (i := 0) rfl))
  have N67 := Fr.snoc X57 N56 g_zo
  show own_WP _ _ _ _ T57 (mkF m 37 #[.val (.ref zo), .val (.int zn), .val (.ref zt), .val (.ref zh), .val (.ref zq), .val (.int zs), .val (.int zf)] [])
  refine own_retV X57 hx Bd.notSynchronized Bd.returns (hb hby d1_37) (by decide) (by decide) ?_
  rw [e57]
  exact ⟨rfl, N67, K66, f59, f61, f58⟩
theorem d3_0 : decode prog_25_method_19_code 0 = .ok (.lload_n 1, 1) := by decide +kernel
theorem d3_1 : decode prog_25_method_19_code 1 = .ok (.aload_n 0, 1) := by decide +kernel
theorem d3_2 : decode prog_25_method_19_code 2 = .ok (.getfield 29, 3) := by decide +kernel
theorem d3_5 : decode prog_25_method_19_code 5 = .ok (.i2l, 1) := by decide +kernel
theorem d3_6 : decode prog_25_method_19_code 6 = .ok (.lsub, 1) := by decide +kernel
theorem d3_7 : decode prog_25_method_19_code 7 = .ok (.lstore_n 3, 1) := by decide +kernel
theorem d3_8 : decode prog_25_method_19_code 8 = .ok (.lload_n 3, 1) := by decide +kernel
theorem d3_9 : decode prog_25_method_19_code 9 = .ok (.lconst 0, 1) := by decide +kernel
theorem d3_10 : decode prog_25_method_19_code 10 = .ok (.lcmp, 1) := by decide +kernel
theorem d3_11 : decode prog_25_method_19_code 11 = .ok (.ifCond .lt 18, 3) := by decide +kernel
theorem d3_14 : decode prog_25_method_19_code 14 = .ok (.lload_n 3, 1) := by decide +kernel
theorem d3_15 : decode prog_25_method_19_code 15 = .ok (.aload_n 0, 1) := by decide +kernel
theorem d3_16 : decode prog_25_method_19_code 16 = .ok (.getfield 9, 3) := by decide +kernel
theorem d3_19 : decode prog_25_method_19_code 19 = .ok (.i2l, 1) := by decide +kernel
theorem d3_20 : decode prog_25_method_19_code 20 = .ok (.lcmp, 1) := by decide +kernel
theorem d3_21 : decode prog_25_method_19_code 21 = .ok (.ifCond .ge 8, 3) := by decide +kernel
theorem d3_24 : decode prog_25_method_19_code 24 = .ok (.lload_n 3, 1) := by decide +kernel
theorem d3_25 : decode prog_25_method_19_code 25 = .ok (.l2i, 1) := by decide +kernel
theorem d3_26 : decode prog_25_method_19_code 26 = .ok (.goto 4, 3) := by decide +kernel
theorem d3_29 : decode prog_25_method_19_code 29 = .ok (.iconst (-1), 1) := by decide +kernel
theorem d3_30 : decode prog_25_method_19_code 30 = .ok (.ireturn, 1) := by decide +kernel
theorem ef_3 (m : MethodId) (zo : Addr) (zq : Int64) : entryFrame m #[(.ref zo), (.long zq)] 5 = mkF m 0 #[.val (.ref zo), .val (.long zq), .second, .unset, .unset] [] := by first | (simp [entryFrame, mkF, argsToLocals, Value.category]; done) | rfl
def Q3 (Z : State) (zo : Addr) (zq : Int64) (zn : Int32) (zf : Int32) (h0 : Heap) (n0 : Nat) (v : Option Value) (h : Heap) (L : List Loc) : Prop := v = some (.int (own_vx zf zn zq)) ∧ Fr n0 L ∧ h = h0
set_option maxRecDepth 65536 in
set_option maxHeartbeats 40000000 in
theorem rm3 (l : Launch) (Z : State) (a0 : Array Value) (hw : ∀ d ∈ tables_1, d.before a0 Z = true) (ws : List Jvm.Cond) (zo : Addr) (zq : Int64) (zn : Int32) (zf : Int32) (h0 : Heap) (n0 : Nat) (Z0 : n0 ≤ h0.size) (P0 : Fld Z h0 zo "branchwork/Graph" "vertexCount" "I" (.int zn)) (P1 : Fld Z h0 zo "branchwork/Graph" "firstNumber" "I" (.int zf)) :
    MetFree l (⟨"branchwork/Graph", "vertex", "(J)I"⟩ : MethodName) (head1 (Jvm.Cond.code (⟨"branchwork/Graph", "vertex", "(J)I"⟩ : MethodName) prog_25_method_19_code 5 (some .int) :: ws) ({ frames := 0, cells := 0, slots := 0, locals := 0 } : Room)) (fun a U => a = #[(.ref zo), (.long zq)] ∧ Z.Warmed39 U.vm ∧ U.heap = h0) (fun _ _ _ _ _ => True) (fun _ U o U' => ∃ v L, o = .returned v ∧ Q3 Z zo zq zn zf h0 n0 v U'.heap L ∧ FrameEnd U o U' L ({ frames := 0, cells := 0, slots := 0, locals := 0 } : Room).cells ({ frames := 0, cells := 0, slots := 0, locals := 0 } : Room).slots) := by
  refine MetFree.of_bodySF (plainFor_of_name own_pn50586) hisR ?_
  intro p e s m args below meth c s₁ Bd hml0 hP hK
  obtain ⟨rfl, hZ, hh⟩ := hP
  have hx := Bd.exec
  have hby := Bd.bytes
  have hml : c.maxLocals = 5 := hml0
  have hown : s.vm.findClass "branchwork/Graph" = some m.cls := findClass_of_methodNamed Bd.named
  have hnm := (name_of_methodNamed Bd.named Bd.method).1
  have X0 : Stand p l e ({ frames := 0, cells := 0, slots := 0, locals := 0 } : Room) s m #[(.ref zo), (.long zq)] below meth c s₁ [] 0 0 := Stand.of_body Bd
  have e0 : s₁.heap = h0 := by rw [← hh, Bd.state]; rfl
  have N0 := Fr.nil n0
  have K0 := Keep.refl h0 ([] : List Addr)
  show own_WP p e below (own_E s (Q3 Z zo zq zn zf h0 n0) 0 0) s₁ (entryFrame m #[(.ref zo), (.long zq)] 5)
  rw [ef_3 m zo zq]
  show own_WP _ _ _ _ s₁ (mkF m 0 #[.val (.ref zo), .val (.long zq), .second, .unset, .unset] [])
  refine own_go (fun t k => XS.lloadN X0.here hx rfl (hb hby d3_0) rfl  k) ?_
  show own_WP _ _ _ _ s₁ (mkF m 1 #[.val (.ref zo), .val (.long zq), .second, .unset, .unset] [(.long zq)])
  refine own_go (fun t k => XS.aloadN X0.here hx rfl (hb hby d3_1) rfl rfl  k) ?_
  show own_WP _ _ _ _ s₁ (mkF m 2 #[.val (.ref zo), .val (.long zq), .second, .unset, .unset] [(.ref zo), (.long zq)])
  obtain ⟨T1, X1, e1, st1⟩ := getF X0 hx hZ hown (host := "") (Or.inl (hw _ (List.mem_of_getElem? (i := 22) rfl))) Via.refl e0 P1 (g := (mkF m 2 #[.val (.ref zo), .val (.long zq), .second, .unset, .unset] [(.ref zo), (.long zq)])) rfl rfl (hb hby d3_2)
  refine own_go st1 ?_
  show own_WP _ _ _ _ T1 (mkF m 5 #[.val (.ref zo), .val (.long zq), .second, .unset, .unset] [(.int zf), (.long zq)])
  refine own_go (fun t k => XS.i2l X1.here hx rfl (hb hby d3_5) rfl k) ?_
  show own_WP _ _ _ _ T1 (mkF m 6 #[.val (.ref zo), .val (.long zq), .second, .unset, .unset] [(.long (zf.toInt64)), (.long zq)])
  refine own_go (fun t k => XS.lsub X1.here hx rfl (hb hby d3_6) rfl k) ?_
  show own_WP _ _ _ _ T1 (mkF m 7 #[.val (.ref zo), .val (.long zq), .second, .unset, .unset] [(.long (zq - (zf.toInt64)))])
  refine own_go (fun t k => XS.lstoreN X1.here hx rfl (hb hby d3_7) rfl (l' := #[.val (.ref zo), .val (.long zq), .second, .val (.long (zq - (zf.toInt64))), .second]) rfl k) ?_
  show own_WP _ _ _ _ T1 (mkF m 8 #[.val (.ref zo), .val (.long zq), .second, .val (.long (zq - (zf.toInt64))), .second] [])
  refine own_go (fun t k => XS.lloadN X1.here hx rfl (hb hby d3_8) rfl  k) ?_
  show own_WP _ _ _ _ T1 (mkF m 9 #[.val (.ref zo), .val (.long zq), .second, .val (.long (zq - (zf.toInt64))), .second] [(.long (zq - (zf.toInt64)))])
  refine own_go (fun t k => XS.lconst X1.here hx rfl (hb hby d3_9) k) ?_
  show own_WP _ _ _ _ T1 (mkF m 10 #[.val (.ref zo), .val (.long zq), .second, .val (.long (zq - (zf.toInt64))), .second] [(.long (0 : Int64)), (.long (zq - (zf.toInt64)))])
  refine own_go (fun t k => XS.lcmp X1.here hx rfl (hb hby d3_10) rfl k) ?_
  show own_WP _ _ _ _ T1 (mkF m 11 #[.val (.ref zo), .val (.long zq), .second, .val (.long (zq - (zf.toInt64))), .second] [(.int (lcmpW (zq - (zf.toInt64)) (0 : Int64)))])
  by_cases hc11 : (zq - (zf.toInt64)) < (0 : Int64)
  · refine own_go (fun t k => XS.ifYes X1.here hx rfl (pc0 := 11) (pc' := 29) rfl (hb hby d3_11) rfl ((if0 _ _).trans (tlt ((lw_lt (zq - (zf.toInt64)) (0 : Int64)).mpr hc11)).1) (by decide) (by decide) k) ?_
    show own_WP _ _ _ _ T1 (mkF m 29 #[.val (.ref zo), .val (.long zq), .second, .val (.long (zq - (zf.toInt64))), .second] [])
    refine own_go (fun t k => XS.iconst X1.here hx rfl (hb hby d3_29) k) ?_
    show own_WP _ _ _ _ T1 (mkF m 30 #[.val (.ref zo), .val (.long zq), .second, .val (.long (zq - (zf.toInt64))), .second] [(.int (-1 : Int32))])
    refine own_retI X1 hx Bd.notSynchronized Bd.returns (hb hby d3_30) (by decide) (by decide) ?_
    rw [e1]
    exact ⟨(congrArg (fun z => some (Value.int z)) (show (-1 : Int32) = (own_vx zf zn zq) from by first | (simp [nar, own_vx, hc11]; done) | (simp only [if_true, if_false, eq_self, ↓reduceIte, own_vx, hc11]; first | done | rfl | decide))), N0, rfl⟩
  · refine own_go (fun t k => XS.ifNo X1.here hx rfl (hb hby d3_11) rfl ((if0 _ _).trans (flt (fun z => hc11 ((lw_lt (zq - (zf.toInt64)) (0 : Int64)).mp z))).1) k) ?_
    show own_WP _ _ _ _ T1 (mkF m 14 #[.val (.ref zo), .val (.long zq), .second, .val (.long (zq - (zf.toInt64))), .second] [])
    refine own_go (fun t k => XS.lloadN X1.here hx rfl (hb hby d3_14) rfl  k) ?_
    show own_WP _ _ _ _ T1 (mkF m 15 #[.val (.ref zo), .val (.long zq), .second, .val (.long (zq - (zf.toInt64))), .second] [(.long (zq - (zf.toInt64)))])
    refine own_go (fun t k => XS.aloadN X1.here hx rfl (hb hby d3_15) rfl rfl  k) ?_
    show own_WP _ _ _ _ T1 (mkF m 16 #[.val (.ref zo), .val (.long zq), .second, .val (.long (zq - (zf.toInt64))), .second] [(.ref zo), (.long (zq - (zf.toInt64)))])
    obtain ⟨T2, X2, e2, st2⟩ := getF X1 hx hZ hown (host := "") (Or.inl (hw _ (List.mem_of_getElem? (i := 12) rfl))) Via.refl e1 P0 (g := (mkF m 16 #[.val (.ref zo), .val (.long zq), .second, .val (.long (zq - (zf.toInt64))), .second] [(.ref zo), (.long (zq - (zf.toInt64)))])) rfl rfl (hb hby d3_16)
    refine own_go st2 ?_
    show own_WP _ _ _ _ T2 (mkF m 19 #[.val (.ref zo), .val (.long zq), .second, .val (.long (zq - (zf.toInt64))), .second] [(.int zn), (.long (zq - (zf.toInt64)))])
    refine own_go (fun t k => XS.i2l X2.here hx rfl (hb hby d3_19) rfl k) ?_
    show own_WP _ _ _ _ T2 (mkF m 20 #[.val (.ref zo), .val (.long zq), .second, .val (.long (zq - (zf.toInt64))), .second] [(.long (zn.toInt64)), (.long (zq - (zf.toInt64)))])
    refine own_go (fun t k => XS.lcmp X2.here hx rfl (hb hby d3_20) rfl k) ?_
    show own_WP _ _ _ _ T2 (mkF m 21 #[.val (.ref zo), .val (.long zq), .second, .val (.long (zq - (zf.toInt64))), .second] [(.int (lcmpW (zq - (zf.toInt64)) (zn.toInt64)))])
    by_cases hc21 : (zq - (zf.toInt64)) < (zn.toInt64)
    · refine own_go (fun t k => XS.ifNo X2.here hx rfl (hb hby d3_21) rfl ((if0 _ _).trans (tlt ((lw_lt (zq - (zf.toInt64)) (zn.toInt64)).mpr hc21)).2.1) k) ?_
      show own_WP _ _ _ _ T2 (mkF m 24 #[.val (.ref zo), .val (.long zq), .second, .val (.long (zq - (zf.toInt64))), .second] [])
      refine own_go (fun t k => XS.lloadN X2.here hx rfl (hb hby d3_24) rfl  k) ?_
      show own_WP _ _ _ _ T2 (mkF m 25 #[.val (.ref zo), .val (.long zq), .second, .val (.long (zq - (zf.toInt64))), .second] [(.long (zq - (zf.toInt64)))])
      refine own_go (fun t k => XS.l2i X2.here hx rfl (hb hby d3_25) rfl k) ?_
      show own_WP _ _ _ _ T2 (mkF m 26 #[.val (.ref zo), .val (.long zq), .second, .val (.long (zq - (zf.toInt64))), .second] [(.int ((zq - (zf.toInt64)).toInt32))])
      refine own_go (fun t k => XS.goto X2.here hx rfl (pc0 := 26) (pc' := 30) rfl (hb hby d3_26) (by decide) (by decide) k) ?_
      show own_WP _ _ _ _ T2 (mkF m 30 #[.val (.ref zo), .val (.long zq), .second, .val (.long (zq - (zf.toInt64))), .second] [(.int ((zq - (zf.toInt64)).toInt32))])
      refine own_retI X2 hx Bd.notSynchronized Bd.returns (hb hby d3_30) (by decide) (by decide) ?_
      rw [e2]
      exact ⟨(congrArg (fun z => some (Value.int z)) (show ((zq - (zf.toInt64)).toInt32) = (own_vx zf zn zq) from by first | (simp [nar, own_vx, hc11, hc21]; done) | (simp only [if_true, if_false, eq_self, ↓reduceIte, own_vx, hc11, hc21]; first | done | rfl | decide))), N0, rfl⟩
    · refine own_go (fun t k => XS.ifYes X2.here hx rfl (pc0 := 21) (pc' := 29) rfl (hb hby d3_21) rfl ((if0 _ _).trans (flt (fun z => hc21 ((lw_lt (zq - (zf.toInt64)) (zn.toInt64)).mp z))).2.1) (by decide) (by decide) k) ?_
      show own_WP _ _ _ _ T2 (mkF m 29 #[.val (.ref zo), .val (.long zq), .second, .val (.long (zq - (zf.toInt64))), .second] [])
      refine own_go (fun t k => XS.iconst X2.here hx rfl (hb hby d3_29) k) ?_
      show own_WP _ _ _ _ T2 (mkF m 30 #[.val (.ref zo), .val (.long zq), .second, .val (.long (zq - (zf.toInt64))), .second] [(.int (-1 : Int32))])
      refine own_retI X2 hx Bd.notSynchronized Bd.returns (hb hby d3_30) (by decide) (by decide) ?_
      rw [e2]
      exact ⟨(congrArg (fun z => some (Value.int z)) (show (-1 : Int32) = (own_vx zf zn zq) from by first | (simp [nar, own_vx, hc11, hc21]; done) | (simp only [if_true, if_false, eq_self, ↓reduceIte, own_vx, hc11, hc21]; first | done | rfl | decide))), N0, rfl⟩
theorem d4_0 : decode prog_25_method_18_code 0 = .ok (.iload_n 1, 1) := by decide +kernel
theorem d4_1 : decode prog_25_method_18_code 1 = .ok (.i2l, 1) := by decide +kernel
theorem d4_2 : decode prog_25_method_18_code 2 = .ok (.aload_n 0, 1) := by decide +kernel
theorem d4_3 : decode prog_25_method_18_code 3 = .ok (.getfield 29, 3) := by decide +kernel
theorem d4_6 : decode prog_25_method_18_code 6 = .ok (.i2l, 1) := by decide +kernel
theorem d4_7 : decode prog_25_method_18_code 7 = .ok (.ladd, 1) := by decide +kernel
theorem d4_8 : decode prog_25_method_18_code 8 = .ok (.lreturn, 1) := by decide +kernel
theorem ef_4 (m : MethodId) (zo : Addr) (zi : Int32) : entryFrame m #[(.ref zo), (.int zi)] 2 = mkF m 0 #[.val (.ref zo), .val (.int zi)] [] := by first | (simp [entryFrame, mkF, argsToLocals, Value.category]; done) | rfl
def Q4 (Z : State) (zo : Addr) (zi : Int32) (zf : Int32) (h0 : Heap) (n0 : Nat) (v : Option Value) (h : Heap) (L : List Loc) : Prop := v = some (.long ((zi.toInt64) + (zf.toInt64))) ∧ Fr n0 L ∧ h = h0
set_option maxRecDepth 65536 in
set_option maxHeartbeats 40000000 in
theorem rm4 (l : Launch) (Z : State) (a0 : Array Value) (hw : ∀ d ∈ tables_1, d.before a0 Z = true) (ws : List Jvm.Cond) (zo : Addr) (zi : Int32) (zf : Int32) (h0 : Heap) (n0 : Nat) (Z0 : n0 ≤ h0.size) (P0 : Fld Z h0 zo "branchwork/Graph" "firstNumber" "I" (.int zf)) :
    MetFree l (⟨"branchwork/Graph", "number", "(I)J"⟩ : MethodName) (head1 (Jvm.Cond.code (⟨"branchwork/Graph", "number", "(I)J"⟩ : MethodName) prog_25_method_18_code 2 (some .long) :: ws) ({ frames := 0, cells := 0, slots := 0, locals := 0 } : Room)) (fun a U => a = #[(.ref zo), (.int zi)] ∧ Z.Warmed39 U.vm ∧ U.heap = h0) (fun _ _ _ _ _ => True) (fun _ U o U' => ∃ v L, o = .returned v ∧ Q4 Z zo zi zf h0 n0 v U'.heap L ∧ FrameEnd U o U' L ({ frames := 0, cells := 0, slots := 0, locals := 0 } : Room).cells ({ frames := 0, cells := 0, slots := 0, locals := 0 } : Room).slots) := by
  refine MetFree.of_bodySF (plainFor_of_name own_pn50586) hisR ?_
  intro p e s m args below meth c s₁ Bd hml0 hP hK
  obtain ⟨rfl, hZ, hh⟩ := hP
  have hx := Bd.exec
  have hby := Bd.bytes
  have hml : c.maxLocals = 2 := hml0
  have hown : s.vm.findClass "branchwork/Graph" = some m.cls := findClass_of_methodNamed Bd.named
  have hnm := (name_of_methodNamed Bd.named Bd.method).1
  have X0 : Stand p l e ({ frames := 0, cells := 0, slots := 0, locals := 0 } : Room) s m #[(.ref zo), (.int zi)] below meth c s₁ [] 0 0 := Stand.of_body Bd
  have e0 : s₁.heap = h0 := by rw [← hh, Bd.state]; rfl
  have N0 := Fr.nil n0
  have K0 := Keep.refl h0 ([] : List Addr)
  show own_WP p e below (own_E s (Q4 Z zo zi zf h0 n0) 0 0) s₁ (entryFrame m #[(.ref zo), (.int zi)] 2)
  rw [ef_4 m zo zi]
  show own_WP _ _ _ _ s₁ (mkF m 0 #[.val (.ref zo), .val (.int zi)] [])
  refine own_go (fun t k => XS.iloadN X0.here hx rfl (hb hby d4_0) rfl  k) ?_
  show own_WP _ _ _ _ s₁ (mkF m 1 #[.val (.ref zo), .val (.int zi)] [(.int zi)])
  refine own_go (fun t k => XS.i2l X0.here hx rfl (hb hby d4_1) rfl k) ?_
  show own_WP _ _ _ _ s₁ (mkF m 2 #[.val (.ref zo), .val (.int zi)] [(.long (zi.toInt64))])
  refine own_go (fun t k => XS.aloadN X0.here hx rfl (hb hby d4_2) rfl rfl  k) ?_
  show own_WP _ _ _ _ s₁ (mkF m 3 #[.val (.ref zo), .val (.int zi)] [(.ref zo), (.long (zi.toInt64))])
  obtain ⟨T1, X1, e1, st1⟩ := getF X0 hx hZ hown (host := "") (Or.inl (hw _ (List.mem_of_getElem? (i := 22) rfl))) Via.refl e0 P0 (g := (mkF m 3 #[.val (.ref zo), .val (.int zi)] [(.ref zo), (.long (zi.toInt64))])) rfl rfl (hb hby d4_3)
  refine own_go st1 ?_
  show own_WP _ _ _ _ T1 (mkF m 6 #[.val (.ref zo), .val (.int zi)] [(.int zf), (.long (zi.toInt64))])
  refine own_go (fun t k => XS.i2l X1.here hx rfl (hb hby d4_6) rfl k) ?_
  show own_WP _ _ _ _ T1 (mkF m 7 #[.val (.ref zo), .val (.int zi)] [(.long (zf.toInt64)), (.long (zi.toInt64))])
  refine own_go (fun t k => XS.ladd X1.here hx rfl (hb hby d4_7) rfl k) ?_
  show own_WP _ _ _ _ T1 (mkF m 8 #[.val (.ref zo), .val (.int zi)] [(.long ((zi.toInt64) + (zf.toInt64)))])
  refine own_retJ X1 hx Bd.notSynchronized Bd.returns (hb hby d4_8) (by decide) (by decide) ?_
  rw [e1]
  exact ⟨rfl, N0, rfl⟩
theorem own_pd40205 : parseMethodDescriptor "(I[I[I[JII)V" = some ⟨[.int, (.array .int), (.array .int), (.array .long), .int, .int], none⟩ := by decide +kernel
theorem own_pd98998 : parseMethodDescriptor "(J)I" = some ⟨[.long], some .int⟩ := by decide +kernel
theorem own_pd81838 : parseMethodDescriptor "(I)J" = some ⟨[.int], some .long⟩ := by decide +kernel
theorem own_pn7931 : plainName "branchwork/GraphVertexPinLaw" = true := by first | (simp [plainName, overriddenIn]; done) | decide +kernel
theorem ef_0 (m : MethodId) (zc : Int32) (zf : Int32) (zr : Int64) (zd : Int32) (zl : Int32) (zp : Int32) : entryFrame m #[(.int zc), (.int zf), (.long zr), (.int zd), (.int zl), (.int zp)] maxLocals = mkF m 0 #[.val (.int zc), .val (.int zf), .val (.long zr), .second, .val (.int zd), .val (.int zl), .val (.int zp), .unset, .unset, .unset, .unset, .unset, .unset, .unset, .unset, .unset, .unset, .unset, .unset, .unset] [] := by first | (simp [entryFrame, mkF, argsToLocals, Value.category, maxLocals]; done) | rfl
def Q0 (Z : State) (zc : Int32) (zf : Int32) (zr : Int64) (zd : Int32) (zl : Int32) (zp : Int32) (h0 : Heap) (n0 : Nat) (v : Option Value) (h : Heap) (L : List Loc) : Prop := v = some (.int 1) ∧ Fr n0 L
set_option maxRecDepth 65536 in
set_option maxHeartbeats 40000000 in
theorem rm0 (l : Launch) (Z : State) (a0 : Array Value) (hw : ∀ d ∈ tables_1, d.before a0 Z = true) (ws : List Jvm.Cond) (zc : Int32) (zf : Int32) (zr : Int64) (zd : Int32) (zl : Int32) (zp : Int32) (h0 : Heap) (n0 : Nat) (Z0 : n0 ≤ h0.size)  :
    MetFree l x (head1 (Jvm.Cond.code x code maxLocals ret :: ws) room_1) (fun a U => a = #[(.int zc), (.int zf), (.long zr), (.int zd), (.int zl), (.int zp)] ∧ Z.Warmed39 U.vm ∧ U.heap = h0) (fun _ _ _ _ _ => True) (fun _ U o U' => ∃ v L, o = .returned v ∧ Q0 Z zc zf zr zd zl zp h0 n0 v U'.heap L ∧ FrameEnd U o U' L 4 6) := by
  refine MetFree.of_bodySF (plainFor_of_name own_pn7931) hisR ?_
  intro p e s m args below meth c s₁ Bd hml0 hP hK
  obtain ⟨rfl, hZ, hh⟩ := hP
  have hx := Bd.exec
  have hby := Bd.bytes
  have hml : c.maxLocals = 20 := hml0
  have hown : s.vm.findClass "branchwork/GraphVertexPinLaw" = some m.cls := findClass_of_methodNamed Bd.named
  have hnm := (name_of_methodNamed Bd.named Bd.method).1
  have X0 : Stand p l e room_1 s m #[(.int zc), (.int zf), (.long zr), (.int zd), (.int zl), (.int zp)] below meth c s₁ [] 0 0 := Stand.of_body Bd
  have e0 : s₁.heap = h0 := by rw [← hh, Bd.state]; rfl
  have N0 := Fr.nil n0
  have K0 := Keep.refl h0 ([] : List Addr)
  show own_WP p e below (own_E s (Q0 Z zc zf zr zd zl zp h0 n0) 4 6) s₁ (entryFrame m #[(.int zc), (.int zf), (.long zr), (.int zd), (.int zl), (.int zp)] maxLocals)
  rw [ef_0 m zc zf zr zd zl zp]
  show own_WP _ _ _ _ s₁ (mkF m 0 #[.val (.int zc), .val (.int zf), .val (.long zr), .second, .val (.int zd), .val (.int zl), .val (.int zp), .unset, .unset, .unset, .unset, .unset, .unset, .unset, .unset, .unset, .unset, .unset, .unset, .unset] [])
  refine own_go (fun t k => XS.iloadN X0.here hx rfl (hb hby at_0) rfl  k) ?_
  show own_WP _ _ _ _ s₁ (mkF m 1 #[.val (.int zc), .val (.int zf), .val (.long zr), .second, .val (.int zd), .val (.int zl), .val (.int zp), .unset, .unset, .unset, .unset, .unset, .unset, .unset, .unset, .unset, .unset, .unset, .unset, .unset] [(.int zc)])
  refine own_go (fun t k => X0.ldcInt hx hown (mvT hZ (hw _ (List.mem_of_getElem? (i := 0) rfl))) (g := (mkF m 1 #[.val (.int zc), .val (.int zf), .val (.long zr), .second, .val (.int zd), .val (.int zl), .val (.int zp), .unset, .unset, .unset, .unset, .unset, .unset, .unset, .unset, .unset, .unset, .unset, .unset, .unset] [(.int zc)])) rfl (hb hby at_1) t k) ?_
  show own_WP _ _ _ _ s₁ (mkF m 3 #[.val (.int zc), .val (.int zf), .val (.long zr), .second, .val (.int zd), .val (.int zl), .val (.int zp), .unset, .unset, .unset, .unset, .unset, .unset, .unset, .unset, .unset, .unset, .unset, .unset, .unset] [(.int (2147483647 : Int32)), (.int zc)])
  refine own_go (fun t k => XS.iand X0.here hx rfl (hb hby at_3) rfl k) ?_
  show own_WP _ _ _ _ s₁ (mkF m 4 #[.val (.int zc), .val (.int zf), .val (.long zr), .second, .val (.int zd), .val (.int zl), .val (.int zp), .unset, .unset, .unset, .unset, .unset, .unset, .unset, .unset, .unset, .unset, .unset, .unset, .unset] [(.int (zc &&& (2147483647 : Int32)))])
  generalize d_zn : (zc &&& (2147483647 : Int32)) = zn
  refine own_go (fun t k => XS.istore X0.here hx rfl (hb hby at_4) rfl (l' := #[.val (.int zc), .val (.int zf), .val (.long zr), .second, .val (.int zd), .val (.int zl), .val (.int zp), .val (.int zn), .unset, .unset, .unset, .unset, .unset, .unset, .unset, .unset, .unset, .unset, .unset, .unset]) rfl k) ?_
  have hn1 : 0 ≤ zn.toInt := by rw [← d_zn, Jvm.Kit.i32_mask zc 2147483647 (k := 31) (by decide) (by decide)]; omega
  show own_WP _ _ _ _ s₁ (mkF m 6 #[.val (.int zc), .val (.int zf), .val (.long zr), .second, .val (.int zd), .val (.int zl), .val (.int zp), .val (.int zn), .unset, .unset, .unset, .unset, .unset, .unset, .unset, .unset, .unset, .unset, .unset, .unset] [])
  obtain ⟨T1, h1, X1, e1, E1, A1, D1, -, st1⟩ := newO X0 hx hZ hown (hw _ (List.mem_of_getElem? (i := 1) rfl)) (hw _ (List.mem_of_getElem? (i := 2) rfl)) (hw _ (List.mem_of_getElem? (i := 3) rfl)) e0 (g := (mkF m 6 #[.val (.int zc), .val (.int zf), .val (.long zr), .second, .val (.int zd), .val (.int zl), .val (.int zp), .val (.int zn), .unset, .unset, .unset, .unset, .unset, .unset, .unset, .unset, .unset, .unset, .unset, .unset] [])) rfl (hb hby at_6) (by decide) (by decide)
  obtain ⟨zo, q1⟩ : ∃ z, z = h0.size := ⟨_, rfl⟩
  rw [← q1] at A1 D1 st1
  refine own_go st1 ?_
  have g_zo : n0 ≤ zo := Nat.le_trans (own_le Z0 K0) (Nat.le_of_eq q1.symm)
  have sz_zo : h0.size ≤ zo := Nat.le_trans K0.1 (Nat.le_of_eq q1.symm)
  have K2 : Keep h0 h1 [] := K0.ext E1
  have f3 : Fld Z h1 zo "branchwork/Graph" "vertexCount" "I" (.int (0 : Int32)) := D1 (Or.inr (hw _ (List.mem_of_getElem? (i := 13) rfl))) (ty := .int) (by decide)
  have f4 : Fld Z h1 zo "branchwork/Graph" "tails" "[I" .null := D1 (Or.inr (hw _ (List.mem_of_getElem? (i := 15) rfl))) (ty := (.array .int)) (by decide)
  have f5 : Fld Z h1 zo "branchwork/Graph" "heads" "[I" .null := D1 (Or.inr (hw _ (List.mem_of_getElem? (i := 17) rfl))) (ty := (.array .int)) (by decide)
  have f6 : Fld Z h1 zo "branchwork/Graph" "weights" "[J" .null := D1 (Or.inr (hw _ (List.mem_of_getElem? (i := 19) rfl))) (ty := (.array .long)) (by decide)
  have f7 : Fld Z h1 zo "branchwork/Graph" "scale" "I" (.int (0 : Int32)) := D1 (Or.inr (hw _ (List.mem_of_getElem? (i := 21) rfl))) (ty := .int) (by decide)
  have f8 : Fld Z h1 zo "branchwork/Graph" "firstNumber" "I" (.int (0 : Int32)) := D1 (Or.inr (hw _ (List.mem_of_getElem? (i := 23) rfl))) (ty := .int) (by decide)
  show own_WP _ _ _ _ T1 (mkF m 9 #[.val (.int zc), .val (.int zf), .val (.long zr), .second, .val (.int zd), .val (.int zl), .val (.int zp), .val (.int zn), .unset, .unset, .unset, .unset, .unset, .unset, .unset, .unset, .unset, .unset, .unset, .unset] [(.ref zo)])
  refine own_go (fun t k => XS.dup X1.here hx rfl (hb hby at_9) rfl rfl k) ?_
  show own_WP _ _ _ _ T1 (mkF m 10 #[.val (.int zc), .val (.int zf), .val (.long zr), .second, .val (.int zd), .val (.int zl), .val (.int zp), .val (.int zn), .unset, .unset, .unset, .unset, .unset, .unset, .unset, .unset, .unset, .unset, .unset, .unset] [(.ref zo), (.ref zo)])
  refine own_go (fun t k => XS.iload X1.here hx rfl (hb hby at_10) rfl  k) ?_
  show own_WP _ _ _ _ T1 (mkF m 12 #[.val (.int zc), .val (.int zf), .val (.long zr), .second, .val (.int zd), .val (.int zl), .val (.int zp), .val (.int zn), .unset, .unset, .unset, .unset, .unset, .unset, .unset, .unset, .unset, .unset, .unset, .unset] [(.int zn), (.ref zo), (.ref zo)])
  refine own_go (fun t k => XS.iconst X1.here hx rfl (hb hby at_12) k) ?_
  show own_WP _ _ _ _ T1 (mkF m 13 #[.val (.int zc), .val (.int zf), .val (.long zr), .second, .val (.int zd), .val (.int zl), .val (.int zp), .val (.int zn), .unset, .unset, .unset, .unset, .unset, .unset, .unset, .unset, .unset, .unset, .unset, .unset] [(.int (0 : Int32)), (.int zn), (.ref zo), (.ref zo)])
  obtain ⟨T9, h9, k9, X9, e9, E9, A9, G9, st9⟩ := newPE X1 hx hZ (hw _ (List.mem_of_getElem? (i := 4) rfl)) e1 (g := (mkF m 13 #[.val (.int zc), .val (.int zf), .val (.long zr), .second, .val (.int zd), .val (.int zl), .val (.int zp), .val (.int zn), .unset, .unset, .unset, .unset, .unset, .unset, .unset, .unset, .unset, .unset, .unset, .unset] [(.int (0 : Int32)), (.int zn), (.ref zo), (.ref zo)])) rfl (hb hby at_13) rfl (by decide) (cap := 0) (by decide) (by decide) (by decide) (by decide) (ad := "[I") rfl
  obtain ⟨zA, q9⟩ : ∃ z, z = h1.size := ⟨_, rfl⟩
  rw [← q9] at A9 G9 st9
  refine own_go st9 ?_
  have g_zA : n0 ≤ zA := Nat.le_trans (own_le Z0 K2) (Nat.le_of_eq q9.symm)
  have sz_zA : h0.size ≤ zA := Nat.le_trans K2.1 (Nat.le_of_eq q9.symm)
  have ne_zo_zA : zo ≠ zA := Nat.ne_of_lt (Nat.lt_of_lt_of_le A1.lt (Nat.le_of_eq q9.symm))
  have f10 : Exa Z h9 zo "branchwork/Graph" := A1.ext E9
  have f11 : Fld Z h9 zo "branchwork/Graph" "vertexCount" "I" (.int (0 : Int32)) := f3.ext E9
  have f12 : Fld Z h9 zo "branchwork/Graph" "tails" "[I" .null := f4.ext E9
  have f13 : Fld Z h9 zo "branchwork/Graph" "heads" "[I" .null := f5.ext E9
  have f14 : Fld Z h9 zo "branchwork/Graph" "weights" "[J" .null := f6.ext E9
  have f15 : Fld Z h9 zo "branchwork/Graph" "scale" "I" (.int (0 : Int32)) := f7.ext E9
  have f16 : Fld Z h9 zo "branchwork/Graph" "firstNumber" "I" (.int (0 : Int32)) := f8.ext E9
  have K17 : Keep h0 h9 [] := K2.ext E9
  have f18 : Arv Z h9 zA k9 .int (0 : Int32) [] (.int (0 : Int32)) := (Arv.new A9 (by decide)).pad (pad_rep [] (.int (0 : Int32)) 0)
  show own_WP _ _ _ _ T9 (mkF m 15 #[.val (.int zc), .val (.int zf), .val (.long zr), .second, .val (.int zd), .val (.int zl), .val (.int zp), .val (.int zn), .unset, .unset, .unset, .unset, .unset, .unset, .unset, .unset, .unset, .unset, .unset, .unset] [(.ref zA), (.int zn), (.ref zo), (.ref zo)])
  refine own_go (fun t k => XS.iconst X9.here hx rfl (hb hby at_15) k) ?_
  show own_WP _ _ _ _ T9 (mkF m 16 #[.val (.int zc), .val (.int zf), .val (.long zr), .second, .val (.int zd), .val (.int zl), .val (.int zp), .val (.int zn), .unset, .unset, .unset, .unset, .unset, .unset, .unset, .unset, .unset, .unset, .unset, .unset] [(.int (0 : Int32)), (.ref zA), (.int zn), (.ref zo), (.ref zo)])
  obtain ⟨T19, h19, k19, X19, e19, E19, A19, G19, st19⟩ := newPE X9 hx hZ (hw _ (List.mem_of_getElem? (i := 4) rfl)) e9 (g := (mkF m 16 #[.val (.int zc), .val (.int zf), .val (.long zr), .second, .val (.int zd), .val (.int zl), .val (.int zp), .val (.int zn), .unset, .unset, .unset, .unset, .unset, .unset, .unset, .unset, .unset, .unset, .unset, .unset] [(.int (0 : Int32)), (.ref zA), (.int zn), (.ref zo), (.ref zo)])) rfl (hb hby at_16) rfl (by decide) (cap := 0) (by decide) (by decide) (by decide) (by decide) (ad := "[I") rfl
  obtain ⟨zB, q19⟩ : ∃ z, z = h9.size := ⟨_, rfl⟩
  rw [← q19] at A19 G19 st19
  refine own_go st19 ?_
  have g_zB : n0 ≤ zB := Nat.le_trans (own_le Z0 K17) (Nat.le_of_eq q19.symm)
  have sz_zB : h0.size ≤ zB := Nat.le_trans K17.1 (Nat.le_of_eq q19.symm)
  have ne_zo_zB : zo ≠ zB := Nat.ne_of_lt (Nat.lt_of_lt_of_le f10.lt (Nat.le_of_eq q19.symm))
  have ne_zA_zB : zA ≠ zB := Nat.ne_of_lt (Nat.lt_of_lt_of_le f18.lt (Nat.le_of_eq q19.symm))
  have f20 : Exa Z h19 zo "branchwork/Graph" := f10.ext E19
  have f21 : Fld Z h19 zo "branchwork/Graph" "vertexCount" "I" (.int (0 : Int32)) := f11.ext E19
  have f22 : Fld Z h19 zo "branchwork/Graph" "tails" "[I" .null := f12.ext E19
  have f23 : Fld Z h19 zo "branchwork/Graph" "heads" "[I" .null := f13.ext E19
  have f24 : Fld Z h19 zo "branchwork/Graph" "weights" "[J" .null := f14.ext E19
  have f25 : Fld Z h19 zo "branchwork/Graph" "scale" "I" (.int (0 : Int32)) := f15.ext E19
  have f26 : Fld Z h19 zo "branchwork/Graph" "firstNumber" "I" (.int (0 : Int32)) := f16.ext E19
  have f27 : Arv Z h19 zA k9 .int (0 : Int32) [] (.int (0 : Int32)) := f18.ext E19
  have K28 : Keep h0 h19 [] := K17.ext E19
  have f29 : Arv Z h19 zB k19 .int (0 : Int32) [] (.int (0 : Int32)) := (Arv.new A19 (by decide)).pad (pad_rep [] (.int (0 : Int32)) 0)
  show own_WP _ _ _ _ T19 (mkF m 18 #[.val (.int zc), .val (.int zf), .val (.long zr), .second, .val (.int zd), .val (.int zl), .val (.int zp), .val (.int zn), .unset, .unset, .unset, .unset, .unset, .unset, .unset, .unset, .unset, .unset, .unset, .unset] [(.ref zB), (.ref zA), (.int zn), (.ref zo), (.ref zo)])
  refine own_go (fun t k => XS.iconst X19.here hx rfl (hb hby at_18) k) ?_
  show own_WP _ _ _ _ T19 (mkF m 19 #[.val (.int zc), .val (.int zf), .val (.long zr), .second, .val (.int zd), .val (.int zl), .val (.int zp), .val (.int zn), .unset, .unset, .unset, .unset, .unset, .unset, .unset, .unset, .unset, .unset, .unset, .unset] [(.int (0 : Int32)), (.ref zB), (.ref zA), (.int zn), (.ref zo), (.ref zo)])
  obtain ⟨T30, h30, k30, X30, e30, E30, A30, G30, st30⟩ := newPE X19 hx hZ (hw _ (List.mem_of_getElem? (i := 5) rfl)) e19 (g := (mkF m 19 #[.val (.int zc), .val (.int zf), .val (.long zr), .second, .val (.int zd), .val (.int zl), .val (.int zp), .val (.int zn), .unset, .unset, .unset, .unset, .unset, .unset, .unset, .unset, .unset, .unset, .unset, .unset] [(.int (0 : Int32)), (.ref zB), (.ref zA), (.int zn), (.ref zo), (.ref zo)])) rfl (hb hby at_19) rfl (by decide) (cap := 0) (by decide) (by decide) (by decide) (by decide) (ad := "[J") rfl
  obtain ⟨zC, q30⟩ : ∃ z, z = h19.size := ⟨_, rfl⟩
  rw [← q30] at A30 G30 st30
  refine own_go st30 ?_
  have g_zC : n0 ≤ zC := Nat.le_trans (own_le Z0 K28) (Nat.le_of_eq q30.symm)
  have sz_zC : h0.size ≤ zC := Nat.le_trans K28.1 (Nat.le_of_eq q30.symm)
  have ne_zo_zC : zo ≠ zC := Nat.ne_of_lt (Nat.lt_of_lt_of_le f20.lt (Nat.le_of_eq q30.symm))
  have ne_zA_zC : zA ≠ zC := Nat.ne_of_lt (Nat.lt_of_lt_of_le f27.lt (Nat.le_of_eq q30.symm))
  have ne_zB_zC : zB ≠ zC := Nat.ne_of_lt (Nat.lt_of_lt_of_le f29.lt (Nat.le_of_eq q30.symm))
  have f31 : Exa Z h30 zo "branchwork/Graph" := f20.ext E30
  have f32 : Fld Z h30 zo "branchwork/Graph" "vertexCount" "I" (.int (0 : Int32)) := f21.ext E30
  have f33 : Fld Z h30 zo "branchwork/Graph" "tails" "[I" .null := f22.ext E30
  have f34 : Fld Z h30 zo "branchwork/Graph" "heads" "[I" .null := f23.ext E30
  have f35 : Fld Z h30 zo "branchwork/Graph" "weights" "[J" .null := f24.ext E30
  have f36 : Fld Z h30 zo "branchwork/Graph" "scale" "I" (.int (0 : Int32)) := f25.ext E30
  have f37 : Fld Z h30 zo "branchwork/Graph" "firstNumber" "I" (.int (0 : Int32)) := f26.ext E30
  have f38 : Arv Z h30 zA k9 .int (0 : Int32) [] (.int (0 : Int32)) := f27.ext E30
  have f39 : Arv Z h30 zB k19 .int (0 : Int32) [] (.int (0 : Int32)) := f29.ext E30
  have K40 : Keep h0 h30 [] := K28.ext E30
  have f41 : Arv Z h30 zC k30 .long (0 : Int32) [] (.long (0 : Int64)) := (Arv.new A30 (by decide)).pad (pad_rep [] (.long (0 : Int64)) 0)
  show own_WP _ _ _ _ T30 (mkF m 21 #[.val (.int zc), .val (.int zf), .val (.long zr), .second, .val (.int zd), .val (.int zl), .val (.int zp), .val (.int zn), .unset, .unset, .unset, .unset, .unset, .unset, .unset, .unset, .unset, .unset, .unset, .unset] [(.ref zC), (.ref zB), (.ref zA), (.int zn), (.ref zo), (.ref zo)])
  refine own_go (fun t k => XS.iconst X30.here hx rfl (hb hby at_21) k) ?_
  show own_WP _ _ _ _ T30 (mkF m 22 #[.val (.int zc), .val (.int zf), .val (.long zr), .second, .val (.int zd), .val (.int zl), .val (.int zp), .val (.int zn), .unset, .unset, .unset, .unset, .unset, .unset, .unset, .unset, .unset, .unset, .unset, .unset] [(.int (0 : Int32)), (.ref zC), (.ref zB), (.ref zA), (.int zn), (.ref zo), (.ref zo)])
  refine own_go (fun t k => XS.iloadN X30.here hx rfl (hb hby at_22) rfl  k) ?_
  show own_WP _ _ _ _ T30 (mkF m 23 #[.val (.int zc), .val (.int zf), .val (.long zr), .second, .val (.int zd), .val (.int zl), .val (.int zp), .val (.int zn), .unset, .unset, .unset, .unset, .unset, .unset, .unset, .unset, .unset, .unset, .unset, .unset] [(.int zf), (.int (0 : Int32)), (.ref zC), (.ref zB), (.ref zA), (.int zn), (.ref zo), (.ref zo)])
  obtain ⟨_, _, ⟨T42, L42, k42, n42⟩, -, X42, ⟨Lc42, hQ42, l42, y42, z42⟩, st42⟩ := X30.specialBack hx (y := (⟨"branchwork/Graph", "<init>", "(I[I[I[JII)V"⟩ : MethodName)) rfl hown (mvT hZ (hw _ (List.mem_of_getElem? (i := 6) rfl))) (mvT hZ (hw _ (List.mem_of_getElem? (i := 7) rfl))) (mvT hZ (hw _ (List.mem_of_getElem? (i := 8) rfl))) (by decide) (backOf (W := 1) (rm1 l Z a0 hw [] zo zn zA zB zC (0 : Int32) zf (.int (0 : Int32)) .null .null .null (.int (0 : Int32)) (.int (0 : Int32)) h30 n0 (own_le Z0 K40) f31 f32 f33 f34 f35 f36 f37 g_zo) hZ (hw _ (List.mem_of_getElem? (i := 8) rfl)) (hw _ (List.mem_of_getElem? (i := 3) rfl)) (by decide) (by decide)) (g := (mkF m 23 #[.val (.int zc), .val (.int zf), .val (.long zr), .second, .val (.int zd), .val (.int zl), .val (.int zp), .val (.int zn), .unset, .unset, .unset, .unset, .unset, .unset, .unset, .unset, .unset, .unset, .unset, .unset] [(.int zf), (.int (0 : Int32)), (.ref zC), (.ref zB), (.ref zA), (.int zn), (.ref zo), (.ref zo)])) rfl (by rw [hml]; rfl) (Steps.refl _) (a := zo) (argsL := [(.int zn), (.ref zA), (.ref zB), (.ref zC), (.int (0 : Int32)), (.int zf)]) (rest := [(.ref zo)]) (lenOf own_pd40205 rfl) rfl (by show 2 * 0 + _ ≤ _; exact Nat.le_of_eq rfl) (hb hby at_23) (fun _ _ => ⟨rfl, e30, (by decide : 4 + 0 ≤ _), (by decide : 6 + 0 ≤ _)⟩)
  dsimp only [Pt.U, Pt.locs, Pt.cells, Pt.slots] at X42 l42 y42 z42 st42 hQ42
  subst l42 y42 z42
  obtain ⟨rfl, N42q, Kc42, f43, f44, f45⟩ := hQ42
  have N42 := Fr.app N0 N42q
  refine own_tr st42 ?_
  have f46 : Exa Z T42.heap zo "branchwork/Graph" := f31.keep Kc42
  have f53 : Arv Z T42.heap zA k9 .int (0 : Int32) [] (.int (0 : Int32)) := f38.keep Kc42 (own_nm (Ne.symm ne_zo_zA))
  have f54 : Arv Z T42.heap zB k19 .int (0 : Int32) [] (.int (0 : Int32)) := f39.keep Kc42 (own_nm (Ne.symm ne_zo_zB))
  have f55 : Arv Z T42.heap zC k30 .long (0 : Int32) [] (.long (0 : Int64)) := f41.keep Kc42 (own_nm (Ne.symm ne_zo_zC))
  have K56 : Keep h0 T42.heap [] := K40.trans Kc42 (fun x hx => by cases List.mem_singleton.mp hx; exact Or.inr sz_zo)
  show own_WP _ _ _ _ T42 (mkF m 26 #[.val (.int zc), .val (.int zf), .val (.long zr), .second, .val (.int zd), .val (.int zl), .val (.int zp), .val (.int zn), .unset, .unset, .unset, .unset, .unset, .unset, .unset, .unset, .unset, .unset, .unset, .unset] [(.ref zo)])
  refine own_go (fun t k => XS.astore X42.here hx rfl (hb hby at_26) rfl rfl (l' := #[.val (.int zc), .val (.int zf), .val (.long zr), .second, .val (.int zd), .val (.int zl), .val (.int zp), .val (.int zn), .val (.ref zo), .unset, .unset, .unset, .unset, .unset, .unset, .unset, .unset, .unset, .unset, .unset]) rfl k) ?_
  show own_WP _ _ _ _ T42 (mkF m 28 #[.val (.int zc), .val (.int zf), .val (.long zr), .second, .val (.int zd), .val (.int zl), .val (.int zp), .val (.int zn), .val (.ref zo), .unset, .unset, .unset, .unset, .unset, .unset, .unset, .unset, .unset, .unset, .unset] [])
  refine own_go (fun t k => XS.iload X42.here hx rfl (hb hby at_28) rfl  k) ?_
  show own_WP _ _ _ _ T42 (mkF m 30 #[.val (.int zc), .val (.int zf), .val (.long zr), .second, .val (.int zd), .val (.int zl), .val (.int zp), .val (.int zn), .val (.ref zo), .unset, .unset, .unset, .unset, .unset, .unset, .unset, .unset, .unset, .unset, .unset] [(.int zl)])
  refine own_go (fun t k => XS.iconst X42.here hx rfl (hb hby at_30) k) ?_
  show own_WP _ _ _ _ T42 (mkF m 31 #[.val (.int zc), .val (.int zf), .val (.long zr), .second, .val (.int zd), .val (.int zl), .val (.int zp), .val (.int zn), .val (.ref zo), .unset, .unset, .unset, .unset, .unset, .unset, .unset, .unset, .unset, .unset, .unset] [(.int (3 : Int32)), (.int zl)])
  refine own_go (fun t k => XS.iand X42.here hx rfl (hb hby at_31) rfl k) ?_
  show own_WP _ _ _ _ T42 (mkF m 32 #[.val (.int zc), .val (.int zf), .val (.long zr), .second, .val (.int zd), .val (.int zl), .val (.int zp), .val (.int zn), .val (.ref zo), .unset, .unset, .unset, .unset, .unset, .unset, .unset, .unset, .unset, .unset, .unset] [(.int (zl &&& (3 : Int32)))])
  generalize d_zs : (zl &&& (3 : Int32)) = zs
  refine own_go (fun t k => XS.istore X42.here hx rfl (hb hby at_32) rfl (l' := #[.val (.int zc), .val (.int zf), .val (.long zr), .second, .val (.int zd), .val (.int zl), .val (.int zp), .val (.int zn), .val (.ref zo), .val (.int zs), .unset, .unset, .unset, .unset, .unset, .unset, .unset, .unset, .unset, .unset]) rfl k) ?_
  have J95 : ∀ (zq : Int64) (T57 : State) (h57 : Heap) (L57 : List Loc), Stand p l e room_1 s m #[(.int zc), (.int zf), (.long zr), (.int zd), (.int zl), (.int zp)] below meth c T57 L57 4 6 → T57.heap = h57 → Fr n0 L57 → Keep h0 h57 [] → Exa Z h57 zo "branchwork/Graph" → Arv Z h57 zA k9 .int (0 : Int32) [] (.int (0 : Int32)) → Arv Z h57 zB k19 .int (0 : Int32) [] (.int (0 : Int32)) → Arv Z h57 zC k30 .long (0 : Int32) [] (.long (0 : Int64)) → Fld Z h57 zo "branchwork/Graph" "vertexCount" "I" (.int zn) → Fld Z h57 zo "branchwork/Graph" "firstNumber" "I" (.int zf) → own_WP p e below (own_E s (Q0 Z zc zf zr zd zl zp h0 n0) 4 6) T57 (mkF m 95 #[.val (.int zc), .val (.int zf), .val (.long zr), .second, .val (.int zd), .val (.int zl), .val (.int zp), .val (.int zn), .val (.ref zo), .val (.int zs), .val (.long zq), .second, .unset, .unset, .unset, .unset, .unset, .unset, .unset, .unset] []) := by
    intro zq T57 h57 L57 X57 e57 N57 K57j f58 f59 f60 f61 f62 f63
    show own_WP _ _ _ _ T57 (mkF m 95 #[.val (.int zc), .val (.int zf), .val (.long zr), .second, .val (.int zd), .val (.int zl), .val (.int zp), .val (.int zn), .val (.ref zo), .val (.int zs), .val (.long zq), .second, .unset, .unset, .unset, .unset, .unset, .unset, .unset, .unset] [])
    refine own_go (fun t k => XS.aload X57.here hx rfl (hb hby at_95) rfl rfl  k) ?_
    show own_WP _ _ _ _ T57 (mkF m 97 #[.val (.int zc), .val (.int zf), .val (.long zr), .second, .val (.int zd), .val (.int zl), .val (.int zp), .val (.int zn), .val (.ref zo), .val (.int zs), .val (.long zq), .second, .unset, .unset, .unset, .unset, .unset, .unset, .unset, .unset] [(.ref zo)])
    refine own_go (fun t k => XS.lload X57.here hx rfl (hb hby at_97) rfl  k) ?_
    show own_WP _ _ _ _ T57 (mkF m 99 #[.val (.int zc), .val (.int zf), .val (.long zr), .second, .val (.int zd), .val (.int zl), .val (.int zp), .val (.int zn), .val (.ref zo), .val (.int zs), .val (.long zq), .second, .unset, .unset, .unset, .unset, .unset, .unset, .unset, .unset] [(.long zq), (.ref zo)])
    obtain ⟨cq64, kq64, q64a, q64b, q64c⟩ := isOf hZ e57 f58
    obtain ⟨_, _, ⟨T64, L64, k64, n64⟩, -, X64, ⟨Lc64, hQ64, l64, y64, z64⟩, st64⟩ := X57.virtualBack hx (y := (⟨"branchwork/Graph", "vertex", "(J)I"⟩ : MethodName)) (z := (⟨"branchwork/Graph", "vertex", "(J)I"⟩ : MethodName)) hown (mvT hZ (hw _ (List.mem_of_getElem? (i := 24) rfl))) (mvT hZ (hw _ (List.mem_of_getElem? (i := 25) rfl))) (notFace_of_selects (args := #[]) (mvT hZ (hw _ (List.mem_of_getElem? (i := 27) rfl)))) (mvT hZ (hw _ (List.mem_of_getElem? (i := 27) rfl))) (mvT hZ (hw _ (List.mem_of_getElem? (i := 26) rfl))) (by decide) (backOf (W := 0) (rm3 l Z a0 hw [] zo zq zn zf h57 n0 (own_le Z0 K57j) f62 f63) hZ (hw _ (List.mem_of_getElem? (i := 28) rfl)) (hw _ (List.mem_of_getElem? (i := 3) rfl)) (by decide) (by decide)) q64a q64c (g := (mkF m 99 #[.val (.int zc), .val (.int zf), .val (.long zr), .second, .val (.int zd), .val (.int zl), .val (.int zp), .val (.int zn), .val (.ref zo), .val (.int zs), .val (.long zq), .second, .unset, .unset, .unset, .unset, .unset, .unset, .unset, .unset] [(.long zq), (.ref zo)])) rfl (by rw [hml]; rfl) (Steps.refl _) (argsL := [(.long zq)]) (rest := []) (lenOf own_pd98998 rfl) rfl (by show 2 * 0 + _ ≤ _; exact Nat.le_of_eq rfl) (hb hby at_99) (fun _ _ => ⟨rfl, e57, (by decide : 4 + 0 ≤ _), (by decide : 6 + 0 ≤ _)⟩)
    dsimp only [Pt.U, Pt.locs, Pt.cells, Pt.slots] at X64 l64 y64 z64 st64 hQ64
    subst l64 y64 z64
    obtain ⟨rfl, N64q, eq64⟩ := hQ64
    have N64 := Fr.app N57 N64q
    refine own_tr st64 ?_
    show own_WP _ _ _ _ T64 (mkF m 102 #[.val (.int zc), .val (.int zf), .val (.long zr), .second, .val (.int zd), .val (.int zl), .val (.int zp), .val (.int zn), .val (.ref zo), .val (.int zs), .val (.long zq), .second, .unset, .unset, .unset, .unset, .unset, .unset, .unset, .unset] [(.int (own_vx zf zn zq))])
    refine own_go (fun t k => XS.istore X64.here hx rfl (hb hby at_102) rfl (l' := #[.val (.int zc), .val (.int zf), .val (.long zr), .second, .val (.int zd), .val (.int zl), .val (.int zp), .val (.int zn), .val (.ref zo), .val (.int zs), .val (.long zq), .second, .val (.int (own_vx zf zn zq)), .unset, .unset, .unset, .unset, .unset, .unset, .unset]) rfl k) ?_
    show own_WP _ _ _ _ T64 (mkF m 104 #[.val (.int zc), .val (.int zf), .val (.long zr), .second, .val (.int zd), .val (.int zl), .val (.int zp), .val (.int zn), .val (.ref zo), .val (.int zs), .val (.long zq), .second, .val (.int (own_vx zf zn zq)), .unset, .unset, .unset, .unset, .unset, .unset, .unset] [])
    refine own_go (fun t k => XS.iloadN X64.here hx rfl (hb hby at_104) rfl  k) ?_
    show own_WP _ _ _ _ T64 (mkF m 105 #[.val (.int zc), .val (.int zf), .val (.long zr), .second, .val (.int zd), .val (.int zl), .val (.int zp), .val (.int zn), .val (.ref zo), .val (.int zs), .val (.long zq), .second, .val (.int (own_vx zf zn zq)), .unset, .unset, .unset, .unset, .unset, .unset, .unset] [(.int zf)])
    refine own_go (fun t k => XS.i2l X64.here hx rfl (hb hby at_105) rfl k) ?_
    show own_WP _ _ _ _ T64 (mkF m 106 #[.val (.int zc), .val (.int zf), .val (.long zr), .second, .val (.int zd), .val (.int zl), .val (.int zp), .val (.int zn), .val (.ref zo), .val (.int zs), .val (.long zq), .second, .val (.int (own_vx zf zn zq)), .unset, .unset, .unset, .unset, .unset, .unset, .unset] [(.long (zf.toInt64))])
    refine own_go (fun t k => XS.lstore X64.here hx rfl (hb hby at_106) rfl (l' := #[.val (.int zc), .val (.int zf), .val (.long zr), .second, .val (.int zd), .val (.int zl), .val (.int zp), .val (.int zn), .val (.ref zo), .val (.int zs), .val (.long zq), .second, .val (.int (own_vx zf zn zq)), .val (.long (zf.toInt64)), .second, .unset, .unset, .unset, .unset, .unset]) rfl k) ?_
    show own_WP _ _ _ _ T64 (mkF m 108 #[.val (.int zc), .val (.int zf), .val (.long zr), .second, .val (.int zd), .val (.int zl), .val (.int zp), .val (.int zn), .val (.ref zo), .val (.int zs), .val (.long zq), .second, .val (.int (own_vx zf zn zq)), .val (.long (zf.toInt64)), .second, .unset, .unset, .unset, .unset, .unset] [])
    refine own_go (fun t k => XS.lload X64.here hx rfl (hb hby at_108) rfl  k) ?_
    show own_WP _ _ _ _ T64 (mkF m 110 #[.val (.int zc), .val (.int zf), .val (.long zr), .second, .val (.int zd), .val (.int zl), .val (.int zp), .val (.int zn), .val (.ref zo), .val (.int zs), .val (.long zq), .second, .val (.int (own_vx zf zn zq)), .val (.long (zf.toInt64)), .second, .unset, .unset, .unset, .unset, .unset] [(.long (zf.toInt64))])
    refine own_go (fun t k => XS.iload X64.here hx rfl (hb hby at_110) rfl  k) ?_
    show own_WP _ _ _ _ T64 (mkF m 112 #[.val (.int zc), .val (.int zf), .val (.long zr), .second, .val (.int zd), .val (.int zl), .val (.int zp), .val (.int zn), .val (.ref zo), .val (.int zs), .val (.long zq), .second, .val (.int (own_vx zf zn zq)), .val (.long (zf.toInt64)), .second, .unset, .unset, .unset, .unset, .unset] [(.int zn), (.long (zf.toInt64))])
    refine own_go (fun t k => XS.i2l X64.here hx rfl (hb hby at_112) rfl k) ?_
    show own_WP _ _ _ _ T64 (mkF m 113 #[.val (.int zc), .val (.int zf), .val (.long zr), .second, .val (.int zd), .val (.int zl), .val (.int zp), .val (.int zn), .val (.ref zo), .val (.int zs), .val (.long zq), .second, .val (.int (own_vx zf zn zq)), .val (.long (zf.toInt64)), .second, .unset, .unset, .unset, .unset, .unset] [(.long (zn.toInt64)), (.long (zf.toInt64))])
    refine own_go (fun t k => XS.ladd X64.here hx rfl (hb hby at_113) rfl k) ?_
    show own_WP _ _ _ _ T64 (mkF m 114 #[.val (.int zc), .val (.int zf), .val (.long zr), .second, .val (.int zd), .val (.int zl), .val (.int zp), .val (.int zn), .val (.ref zo), .val (.int zs), .val (.long zq), .second, .val (.int (own_vx zf zn zq)), .val (.long (zf.toInt64)), .second, .unset, .unset, .unset, .unset, .unset] [(.long ((zf.toInt64) + (zn.toInt64)))])
    refine own_go (fun t k => XS.lstore X64.here hx rfl (hb hby at_114) rfl (l' := #[.val (.int zc), .val (.int zf), .val (.long zr), .second, .val (.int zd), .val (.int zl), .val (.int zp), .val (.int zn), .val (.ref zo), .val (.int zs), .val (.long zq), .second, .val (.int (own_vx zf zn zq)), .val (.long (zf.toInt64)), .second, .val (.long ((zf.toInt64) + (zn.toInt64))), .second, .unset, .unset, .unset]) rfl k) ?_
    show own_WP _ _ _ _ T64 (mkF m 116 #[.val (.int zc), .val (.int zf), .val (.long zr), .second, .val (.int zd), .val (.int zl), .val (.int zp), .val (.int zn), .val (.ref zo), .val (.int zs), .val (.long zq), .second, .val (.int (own_vx zf zn zq)), .val (.long (zf.toInt64)), .second, .val (.long ((zf.toInt64) + (zn.toInt64))), .second, .unset, .unset, .unset] [])
    refine own_go (fun t k => XS.lload X64.here hx rfl (hb hby at_116) rfl  k) ?_
    show own_WP _ _ _ _ T64 (mkF m 118 #[.val (.int zc), .val (.int zf), .val (.long zr), .second, .val (.int zd), .val (.int zl), .val (.int zp), .val (.int zn), .val (.ref zo), .val (.int zs), .val (.long zq), .second, .val (.int (own_vx zf zn zq)), .val (.long (zf.toInt64)), .second, .val (.long ((zf.toInt64) + (zn.toInt64))), .second, .unset, .unset, .unset] [(.long zq)])
    refine own_go (fun t k => XS.lload X64.here hx rfl (hb hby at_118) rfl  k) ?_
    show own_WP _ _ _ _ T64 (mkF m 120 #[.val (.int zc), .val (.int zf), .val (.long zr), .second, .val (.int zd), .val (.int zl), .val (.int zp), .val (.int zn), .val (.ref zo), .val (.int zs), .val (.long zq), .second, .val (.int (own_vx zf zn zq)), .val (.long (zf.toInt64)), .second, .val (.long ((zf.toInt64) + (zn.toInt64))), .second, .unset, .unset, .unset] [(.long (zf.toInt64)), (.long zq)])
    refine own_go (fun t k => XS.lcmp X64.here hx rfl (hb hby at_120) rfl k) ?_
    show own_WP _ _ _ _ T64 (mkF m 121 #[.val (.int zc), .val (.int zf), .val (.long zr), .second, .val (.int zd), .val (.int zl), .val (.int zp), .val (.int zn), .val (.ref zo), .val (.int zs), .val (.long zq), .second, .val (.int (own_vx zf zn zq)), .val (.long (zf.toInt64)), .second, .val (.long ((zf.toInt64) + (zn.toInt64))), .second, .unset, .unset, .unset] [(.int (lcmpW zq (zf.toInt64)))])
    by_cases hc121 : zq < (zf.toInt64)
    · refine own_go (fun t k => XS.ifYes X64.here hx rfl (pc0 := 121) (pc' := 141) rfl (hb hby at_121) rfl ((if0 _ _).trans (tlt ((lw_lt zq (zf.toInt64)).mpr hc121)).1) (by decide) (by decide) k) ?_
      show own_WP _ _ _ _ T64 (mkF m 141 #[.val (.int zc), .val (.int zf), .val (.long zr), .second, .val (.int zd), .val (.int zl), .val (.int zp), .val (.int zn), .val (.ref zo), .val (.int zs), .val (.long zq), .second, .val (.int (own_vx zf zn zq)), .val (.long (zf.toInt64)), .second, .val (.long ((zf.toInt64) + (zn.toInt64))), .second, .unset, .unset, .unset] [])
      refine own_go (fun t k => XS.iconst X64.here hx rfl (hb hby at_141) k) ?_
      show own_WP _ _ _ _ T64 (mkF m 142 #[.val (.int zc), .val (.int zf), .val (.long zr), .second, .val (.int zd), .val (.int zl), .val (.int zp), .val (.int zn), .val (.ref zo), .val (.int zs), .val (.long zq), .second, .val (.int (own_vx zf zn zq)), .val (.long (zf.toInt64)), .second, .val (.long ((zf.toInt64) + (zn.toInt64))), .second, .unset, .unset, .unset] [(.int (-1 : Int32))])
      refine own_go (fun t k => XS.istore X64.here hx rfl (hb hby at_142) rfl (l' := #[.val (.int zc), .val (.int zf), .val (.long zr), .second, .val (.int zd), .val (.int zl), .val (.int zp), .val (.int zn), .val (.ref zo), .val (.int zs), .val (.long zq), .second, .val (.int (own_vx zf zn zq)), .val (.long (zf.toInt64)), .second, .val (.long ((zf.toInt64) + (zn.toInt64))), .second, .val (.int (-1 : Int32)), .unset, .unset]) rfl k) ?_
      show own_WP _ _ _ _ T64 (mkF m 144 #[.val (.int zc), .val (.int zf), .val (.long zr), .second, .val (.int zd), .val (.int zl), .val (.int zp), .val (.int zn), .val (.ref zo), .val (.int zs), .val (.long zq), .second, .val (.int (own_vx zf zn zq)), .val (.long (zf.toInt64)), .second, .val (.long ((zf.toInt64) + (zn.toInt64))), .second, .val (.int (-1 : Int32)), .unset, .unset] [])
      refine own_go (fun t k => XS.iload X64.here hx rfl (hb hby at_144) rfl  k) ?_
      show own_WP _ _ _ _ T64 (mkF m 146 #[.val (.int zc), .val (.int zf), .val (.long zr), .second, .val (.int zd), .val (.int zl), .val (.int zp), .val (.int zn), .val (.ref zo), .val (.int zs), .val (.long zq), .second, .val (.int (own_vx zf zn zq)), .val (.long (zf.toInt64)), .second, .val (.long ((zf.toInt64) + (zn.toInt64))), .second, .val (.int (-1 : Int32)), .unset, .unset] [(.int (own_vx zf zn zq))])
      refine own_go (fun t k => XS.iload X64.here hx rfl (hb hby at_146) rfl  k) ?_
      show own_WP _ _ _ _ T64 (mkF m 148 #[.val (.int zc), .val (.int zf), .val (.long zr), .second, .val (.int zd), .val (.int zl), .val (.int zp), .val (.int zn), .val (.ref zo), .val (.int zs), .val (.long zq), .second, .val (.int (own_vx zf zn zq)), .val (.long (zf.toInt64)), .second, .val (.long ((zf.toInt64) + (zn.toInt64))), .second, .val (.int (-1 : Int32)), .unset, .unset] [(.int (-1 : Int32)), (.int (own_vx zf zn zq))])
      have hc148 : (own_vx zf zn zq) = (-1 : Int32) := by
        rw [own_vxe zf zn zq hn1]; simp [hc121]
      refine own_go (fun t k => XS.icmpNo X64.here hx rfl (hb hby at_148) rfl (teq hc148).2 k) ?_
      show own_WP _ _ _ _ T64 (mkF m 151 #[.val (.int zc), .val (.int zf), .val (.long zr), .second, .val (.int zd), .val (.int zl), .val (.int zp), .val (.int zn), .val (.ref zo), .val (.int zs), .val (.long zq), .second, .val (.int (own_vx zf zn zq)), .val (.long (zf.toInt64)), .second, .val (.long ((zf.toInt64) + (zn.toInt64))), .second, .val (.int (-1 : Int32)), .unset, .unset] [])
      refine own_go (fun t k => XS.iconst X64.here hx rfl (hb hby at_151) k) ?_
      show own_WP _ _ _ _ T64 (mkF m 152 #[.val (.int zc), .val (.int zf), .val (.long zr), .second, .val (.int zd), .val (.int zl), .val (.int zp), .val (.int zn), .val (.ref zo), .val (.int zs), .val (.long zq), .second, .val (.int (own_vx zf zn zq)), .val (.long (zf.toInt64)), .second, .val (.long ((zf.toInt64) + (zn.toInt64))), .second, .val (.int (-1 : Int32)), .unset, .unset] [(.int (1 : Int32))])
      refine own_go (fun t k => XS.goto X64.here hx rfl (pc0 := 152) (pc' := 156) rfl (hb hby at_152) (by decide) (by decide) k) ?_
      show own_WP _ _ _ _ T64 (mkF m 156 #[.val (.int zc), .val (.int zf), .val (.long zr), .second, .val (.int zd), .val (.int zl), .val (.int zp), .val (.int zn), .val (.ref zo), .val (.int zs), .val (.long zq), .second, .val (.int (own_vx zf zn zq)), .val (.long (zf.toInt64)), .second, .val (.long ((zf.toInt64) + (zn.toInt64))), .second, .val (.int (-1 : Int32)), .unset, .unset] [(.int (1 : Int32))])
      refine own_go (fun t k => XS.istore X64.here hx rfl (hb hby at_156) rfl (l' := #[.val (.int zc), .val (.int zf), .val (.long zr), .second, .val (.int zd), .val (.int zl), .val (.int zp), .val (.int zn), .val (.ref zo), .val (.int zs), .val (.long zq), .second, .val (.int (own_vx zf zn zq)), .val (.long (zf.toInt64)), .second, .val (.long ((zf.toInt64) + (zn.toInt64))), .second, .val (.int (-1 : Int32)), .val (.int (1 : Int32)), .unset]) rfl k) ?_
      show own_WP _ _ _ _ T64 (mkF m 158 #[.val (.int zc), .val (.int zf), .val (.long zr), .second, .val (.int zd), .val (.int zl), .val (.int zp), .val (.int zn), .val (.ref zo), .val (.int zs), .val (.long zq), .second, .val (.int (own_vx zf zn zq)), .val (.long (zf.toInt64)), .second, .val (.long ((zf.toInt64) + (zn.toInt64))), .second, .val (.int (-1 : Int32)), .val (.int (1 : Int32)), .unset] [])
      refine own_go (fun t k => XS.iload X64.here hx rfl (hb hby at_158) rfl  k) ?_
      show own_WP _ _ _ _ T64 (mkF m 160 #[.val (.int zc), .val (.int zf), .val (.long zr), .second, .val (.int zd), .val (.int zl), .val (.int zp), .val (.int zn), .val (.ref zo), .val (.int zs), .val (.long zq), .second, .val (.int (own_vx zf zn zq)), .val (.long (zf.toInt64)), .second, .val (.long ((zf.toInt64) + (zn.toInt64))), .second, .val (.int (-1 : Int32)), .val (.int (1 : Int32)), .unset] [(.int zn)])
      by_cases hc160 : (0 : Int32) < zn
      · refine own_go (fun t k => XS.ifNo X64.here hx rfl (hb hby at_160) rfl ((if0 _ _).trans (tlt hc160).2.2.2) k) ?_
        show own_WP _ _ _ _ T64 (mkF m 163 #[.val (.int zc), .val (.int zf), .val (.long zr), .second, .val (.int zd), .val (.int zl), .val (.int zp), .val (.int zn), .val (.ref zo), .val (.int zs), .val (.long zq), .second, .val (.int (own_vx zf zn zq)), .val (.long (zf.toInt64)), .second, .val (.long ((zf.toInt64) + (zn.toInt64))), .second, .val (.int (-1 : Int32)), .val (.int (1 : Int32)), .unset] [])
        refine own_go (fun t k => XS.iload X64.here hx rfl (hb hby at_163) rfl  k) ?_
        show own_WP _ _ _ _ T64 (mkF m 165 #[.val (.int zc), .val (.int zf), .val (.long zr), .second, .val (.int zd), .val (.int zl), .val (.int zp), .val (.int zn), .val (.ref zo), .val (.int zs), .val (.long zq), .second, .val (.int (own_vx zf zn zq)), .val (.long (zf.toInt64)), .second, .val (.long ((zf.toInt64) + (zn.toInt64))), .second, .val (.int (-1 : Int32)), .val (.int (1 : Int32)), .unset] [(.int zp)])
        refine own_go (fun t k => X64.ldcInt hx hown (mvT hZ (hw _ (List.mem_of_getElem? (i := 0) rfl))) (g := (mkF m 165 #[.val (.int zc), .val (.int zf), .val (.long zr), .second, .val (.int zd), .val (.int zl), .val (.int zp), .val (.int zn), .val (.ref zo), .val (.int zs), .val (.long zq), .second, .val (.int (own_vx zf zn zq)), .val (.long (zf.toInt64)), .second, .val (.long ((zf.toInt64) + (zn.toInt64))), .second, .val (.int (-1 : Int32)), .val (.int (1 : Int32)), .unset] [(.int zp)])) rfl (hb hby at_165) t k) ?_
        show own_WP _ _ _ _ T64 (mkF m 167 #[.val (.int zc), .val (.int zf), .val (.long zr), .second, .val (.int zd), .val (.int zl), .val (.int zp), .val (.int zn), .val (.ref zo), .val (.int zs), .val (.long zq), .second, .val (.int (own_vx zf zn zq)), .val (.long (zf.toInt64)), .second, .val (.long ((zf.toInt64) + (zn.toInt64))), .second, .val (.int (-1 : Int32)), .val (.int (1 : Int32)), .unset] [(.int (2147483647 : Int32)), (.int zp)])
        refine own_go (fun t k => XS.iand X64.here hx rfl (hb hby at_167) rfl k) ?_
        show own_WP _ _ _ _ T64 (mkF m 168 #[.val (.int zc), .val (.int zf), .val (.long zr), .second, .val (.int zd), .val (.int zl), .val (.int zp), .val (.int zn), .val (.ref zo), .val (.int zs), .val (.long zq), .second, .val (.int (own_vx zf zn zq)), .val (.long (zf.toInt64)), .second, .val (.long ((zf.toInt64) + (zn.toInt64))), .second, .val (.int (-1 : Int32)), .val (.int (1 : Int32)), .unset] [(.int (zp &&& (2147483647 : Int32)))])
        refine own_go (fun t k => XS.iload X64.here hx rfl (hb hby at_168) rfl  k) ?_
        show own_WP _ _ _ _ T64 (mkF m 170 #[.val (.int zc), .val (.int zf), .val (.long zr), .second, .val (.int zd), .val (.int zl), .val (.int zp), .val (.int zn), .val (.ref zo), .val (.int zs), .val (.long zq), .second, .val (.int (own_vx zf zn zq)), .val (.long (zf.toInt64)), .second, .val (.long ((zf.toInt64) + (zn.toInt64))), .second, .val (.int (-1 : Int32)), .val (.int (1 : Int32)), .unset] [(.int zn), (.int (zp &&& (2147483647 : Int32)))])
        have hnz170 : zn ≠ 0 := by intro z; rw [z] at hc160; exact absurd hc160 (by decide)
        refine own_go (fun t k => iremM X64 hx rfl (hb hby at_170) rfl hnz170 k) ?_
        show own_WP _ _ _ _ T64 (mkF m 171 #[.val (.int zc), .val (.int zf), .val (.long zr), .second, .val (.int zd), .val (.int zl), .val (.int zp), .val (.int zn), .val (.ref zo), .val (.int zs), .val (.long zq), .second, .val (.int (own_vx zf zn zq)), .val (.long (zf.toInt64)), .second, .val (.long ((zf.toInt64) + (zn.toInt64))), .second, .val (.int (-1 : Int32)), .val (.int (1 : Int32)), .unset] [(.int ((zp &&& (2147483647 : Int32)) % zn))])
        generalize d_zv : ((zp &&& (2147483647 : Int32)) % zn) = zv
        refine own_go (fun t k => XS.istore X64.here hx rfl (hb hby at_171) rfl (l' := #[.val (.int zc), .val (.int zf), .val (.long zr), .second, .val (.int zd), .val (.int zl), .val (.int zp), .val (.int zn), .val (.ref zo), .val (.int zs), .val (.long zq), .second, .val (.int (own_vx zf zn zq)), .val (.long (zf.toInt64)), .second, .val (.long ((zf.toInt64) + (zn.toInt64))), .second, .val (.int (-1 : Int32)), .val (.int (1 : Int32)), .val (.int zv)]) rfl k) ?_
        show own_WP _ _ _ _ T64 (mkF m 173 #[.val (.int zc), .val (.int zf), .val (.long zr), .second, .val (.int zd), .val (.int zl), .val (.int zp), .val (.int zn), .val (.ref zo), .val (.int zs), .val (.long zq), .second, .val (.int (own_vx zf zn zq)), .val (.long (zf.toInt64)), .second, .val (.long ((zf.toInt64) + (zn.toInt64))), .second, .val (.int (-1 : Int32)), .val (.int (1 : Int32)), .val (.int zv)] [])
        refine own_go (fun t k => XS.iload X64.here hx rfl (hb hby at_173) rfl  k) ?_
        show own_WP _ _ _ _ T64 (mkF m 175 #[.val (.int zc), .val (.int zf), .val (.long zr), .second, .val (.int zd), .val (.int zl), .val (.int zp), .val (.int zn), .val (.ref zo), .val (.int zs), .val (.long zq), .second, .val (.int (own_vx zf zn zq)), .val (.long (zf.toInt64)), .second, .val (.long ((zf.toInt64) + (zn.toInt64))), .second, .val (.int (-1 : Int32)), .val (.int (1 : Int32)), .val (.int zv)] [(.int (1 : Int32))])
        have hc175 : ¬ ((1 : Int32) = (0 : Int32)) := by decide
        refine own_go (fun t k => XS.ifNo X64.here hx rfl (hb hby at_175) rfl ((if0 _ _).trans (feq hc175).1) k) ?_
        show own_WP _ _ _ _ T64 (mkF m 178 #[.val (.int zc), .val (.int zf), .val (.long zr), .second, .val (.int zd), .val (.int zl), .val (.int zp), .val (.int zn), .val (.ref zo), .val (.int zs), .val (.long zq), .second, .val (.int (own_vx zf zn zq)), .val (.long (zf.toInt64)), .second, .val (.long ((zf.toInt64) + (zn.toInt64))), .second, .val (.int (-1 : Int32)), .val (.int (1 : Int32)), .val (.int zv)] [])
        refine own_go (fun t k => XS.aload X64.here hx rfl (hb hby at_178) rfl rfl  k) ?_
        show own_WP _ _ _ _ T64 (mkF m 180 #[.val (.int zc), .val (.int zf), .val (.long zr), .second, .val (.int zd), .val (.int zl), .val (.int zp), .val (.int zn), .val (.ref zo), .val (.int zs), .val (.long zq), .second, .val (.int (own_vx zf zn zq)), .val (.long (zf.toInt64)), .second, .val (.long ((zf.toInt64) + (zn.toInt64))), .second, .val (.int (-1 : Int32)), .val (.int (1 : Int32)), .val (.int zv)] [(.ref zo)])
        refine own_go (fun t k => XS.aload X64.here hx rfl (hb hby at_180) rfl rfl  k) ?_
        show own_WP _ _ _ _ T64 (mkF m 182 #[.val (.int zc), .val (.int zf), .val (.long zr), .second, .val (.int zd), .val (.int zl), .val (.int zp), .val (.int zn), .val (.ref zo), .val (.int zs), .val (.long zq), .second, .val (.int (own_vx zf zn zq)), .val (.long (zf.toInt64)), .second, .val (.long ((zf.toInt64) + (zn.toInt64))), .second, .val (.int (-1 : Int32)), .val (.int (1 : Int32)), .val (.int zv)] [(.ref zo), (.ref zo)])
        refine own_go (fun t k => XS.iload X64.here hx rfl (hb hby at_182) rfl  k) ?_
        show own_WP _ _ _ _ T64 (mkF m 184 #[.val (.int zc), .val (.int zf), .val (.long zr), .second, .val (.int zd), .val (.int zl), .val (.int zp), .val (.int zn), .val (.ref zo), .val (.int zs), .val (.long zq), .second, .val (.int (own_vx zf zn zq)), .val (.long (zf.toInt64)), .second, .val (.long ((zf.toInt64) + (zn.toInt64))), .second, .val (.int (-1 : Int32)), .val (.int (1 : Int32)), .val (.int zv)] [(.int zv), (.ref zo), (.ref zo)])
        obtain ⟨cq65, kq65, q65a, q65b, q65c⟩ := isOf hZ eq64 f58
        obtain ⟨_, _, ⟨T65, L65, k65, n65⟩, -, X65, ⟨Lc65, hQ65, l65, y65, z65⟩, st65⟩ := X64.virtualBack hx (y := (⟨"branchwork/Graph", "number", "(I)J"⟩ : MethodName)) (z := (⟨"branchwork/Graph", "number", "(I)J"⟩ : MethodName)) hown (mvT hZ (hw _ (List.mem_of_getElem? (i := 29) rfl))) (mvT hZ (hw _ (List.mem_of_getElem? (i := 30) rfl))) (notFace_of_selects (args := #[]) (mvT hZ (hw _ (List.mem_of_getElem? (i := 32) rfl)))) (mvT hZ (hw _ (List.mem_of_getElem? (i := 32) rfl))) (mvT hZ (hw _ (List.mem_of_getElem? (i := 31) rfl))) (by decide) (backOf (W := 1) (rm4 l Z a0 hw [] zo zv zf h57 n0 (own_le Z0 K57j) f63) hZ (hw _ (List.mem_of_getElem? (i := 33) rfl)) (hw _ (List.mem_of_getElem? (i := 3) rfl)) (by decide) (by decide)) q65a q65c (g := (mkF m 184 #[.val (.int zc), .val (.int zf), .val (.long zr), .second, .val (.int zd), .val (.int zl), .val (.int zp), .val (.int zn), .val (.ref zo), .val (.int zs), .val (.long zq), .second, .val (.int (own_vx zf zn zq)), .val (.long (zf.toInt64)), .second, .val (.long ((zf.toInt64) + (zn.toInt64))), .second, .val (.int (-1 : Int32)), .val (.int (1 : Int32)), .val (.int zv)] [(.int zv), (.ref zo), (.ref zo)])) rfl (by rw [hml]; rfl) (Steps.refl _) (argsL := [(.int zv)]) (rest := [(.ref zo)]) (lenOf own_pd81838 rfl) rfl (by show 2 * 0 + _ ≤ _; exact Nat.le_of_eq rfl) (hb hby at_184) (fun _ _ => ⟨rfl, eq64, (by decide : 4 + 0 ≤ _), (by decide : 6 + 0 ≤ _)⟩)
        dsimp only [Pt.U, Pt.locs, Pt.cells, Pt.slots] at X65 l65 y65 z65 st65 hQ65
        subst l65 y65 z65
        obtain ⟨rfl, N65q, eq65⟩ := hQ65
        have N65 := Fr.app N64 N65q
        refine own_tr st65 ?_
        show own_WP _ _ _ _ T65 (mkF m 187 #[.val (.int zc), .val (.int zf), .val (.long zr), .second, .val (.int zd), .val (.int zl), .val (.int zp), .val (.int zn), .val (.ref zo), .val (.int zs), .val (.long zq), .second, .val (.int (own_vx zf zn zq)), .val (.long (zf.toInt64)), .second, .val (.long ((zf.toInt64) + (zn.toInt64))), .second, .val (.int (-1 : Int32)), .val (.int (1 : Int32)), .val (.int zv)] [(.long ((zv.toInt64) + (zf.toInt64))), (.ref zo)])
        obtain ⟨cq66, kq66, q66a, q66b, q66c⟩ := isOf hZ eq65 f58
        obtain ⟨_, _, ⟨T66, L66, k66, n66⟩, -, X66, ⟨Lc66, hQ66, l66, y66, z66⟩, st66⟩ := X65.virtualBack hx (y := (⟨"branchwork/Graph", "vertex", "(J)I"⟩ : MethodName)) (z := (⟨"branchwork/Graph", "vertex", "(J)I"⟩ : MethodName)) hown (mvT hZ (hw _ (List.mem_of_getElem? (i := 24) rfl))) (mvT hZ (hw _ (List.mem_of_getElem? (i := 25) rfl))) (notFace_of_selects (args := #[]) (mvT hZ (hw _ (List.mem_of_getElem? (i := 27) rfl)))) (mvT hZ (hw _ (List.mem_of_getElem? (i := 27) rfl))) (mvT hZ (hw _ (List.mem_of_getElem? (i := 26) rfl))) (by decide) (backOf (W := 0) (rm3 l Z a0 hw [] zo ((zv.toInt64) + (zf.toInt64)) zn zf h57 n0 (own_le Z0 K57j) f62 f63) hZ (hw _ (List.mem_of_getElem? (i := 28) rfl)) (hw _ (List.mem_of_getElem? (i := 3) rfl)) (by decide) (by decide)) q66a q66c (g := (mkF m 187 #[.val (.int zc), .val (.int zf), .val (.long zr), .second, .val (.int zd), .val (.int zl), .val (.int zp), .val (.int zn), .val (.ref zo), .val (.int zs), .val (.long zq), .second, .val (.int (own_vx zf zn zq)), .val (.long (zf.toInt64)), .second, .val (.long ((zf.toInt64) + (zn.toInt64))), .second, .val (.int (-1 : Int32)), .val (.int (1 : Int32)), .val (.int zv)] [(.long ((zv.toInt64) + (zf.toInt64))), (.ref zo)])) rfl (by rw [hml]; rfl) (Steps.refl _) (argsL := [(.long ((zv.toInt64) + (zf.toInt64)))]) (rest := []) (lenOf own_pd98998 rfl) rfl (by show 2 * 0 + _ ≤ _; exact Nat.le_of_eq rfl) (hb hby at_187) (fun _ _ => ⟨rfl, eq65, (by decide : 4 + 0 ≤ _), (by decide : 6 + 0 ≤ _)⟩)
        dsimp only [Pt.U, Pt.locs, Pt.cells, Pt.slots] at X66 l66 y66 z66 st66 hQ66
        subst l66 y66 z66
        obtain ⟨rfl, N66q, eq66⟩ := hQ66
        have N66 := Fr.app N65 N66q
        refine own_tr st66 ?_
        show own_WP _ _ _ _ T66 (mkF m 190 #[.val (.int zc), .val (.int zf), .val (.long zr), .second, .val (.int zd), .val (.int zl), .val (.int zp), .val (.int zn), .val (.ref zo), .val (.int zs), .val (.long zq), .second, .val (.int (own_vx zf zn zq)), .val (.long (zf.toInt64)), .second, .val (.long ((zf.toInt64) + (zn.toInt64))), .second, .val (.int (-1 : Int32)), .val (.int (1 : Int32)), .val (.int zv)] [(.int (own_vx zf zn ((zv.toInt64) + (zf.toInt64))))])
        refine own_go (fun t k => XS.iload X66.here hx rfl (hb hby at_190) rfl  k) ?_
        show own_WP _ _ _ _ T66 (mkF m 192 #[.val (.int zc), .val (.int zf), .val (.long zr), .second, .val (.int zd), .val (.int zl), .val (.int zp), .val (.int zn), .val (.ref zo), .val (.int zs), .val (.long zq), .second, .val (.int (own_vx zf zn zq)), .val (.long (zf.toInt64)), .second, .val (.long ((zf.toInt64) + (zn.toInt64))), .second, .val (.int (-1 : Int32)), .val (.int (1 : Int32)), .val (.int zv)] [(.int zv), (.int (own_vx zf zn ((zv.toInt64) + (zf.toInt64))))])
        have hc192 : (own_vx zf zn ((zv.toInt64) + (zf.toInt64))) = zv := by
          have q := own_pick zp zn hc160
          rw [d_zv] at q
          exact own_vxn zf zn zv q.1 q.2
        refine own_go (fun t k => XS.icmpNo X66.here hx rfl (hb hby at_192) rfl (teq hc192).2 k) ?_
        show own_WP _ _ _ _ T66 (mkF m 195 #[.val (.int zc), .val (.int zf), .val (.long zr), .second, .val (.int zd), .val (.int zl), .val (.int zp), .val (.int zn), .val (.ref zo), .val (.int zs), .val (.long zq), .second, .val (.int (own_vx zf zn zq)), .val (.long (zf.toInt64)), .second, .val (.long ((zf.toInt64) + (zn.toInt64))), .second, .val (.int (-1 : Int32)), .val (.int (1 : Int32)), .val (.int zv)] [])
        refine own_go (fun t k => XS.iconst X66.here hx rfl (hb hby at_195) k) ?_
        show own_WP _ _ _ _ T66 (mkF m 196 #[.val (.int zc), .val (.int zf), .val (.long zr), .second, .val (.int zd), .val (.int zl), .val (.int zp), .val (.int zn), .val (.ref zo), .val (.int zs), .val (.long zq), .second, .val (.int (own_vx zf zn zq)), .val (.long (zf.toInt64)), .second, .val (.long ((zf.toInt64) + (zn.toInt64))), .second, .val (.int (-1 : Int32)), .val (.int (1 : Int32)), .val (.int zv)] [(.int (1 : Int32))])
        refine own_go (fun t k => XS.goto X66.here hx rfl (pc0 := 196) (pc' := 200) rfl (hb hby at_196) (by decide) (by decide) k) ?_
        show own_WP _ _ _ _ T66 (mkF m 200 #[.val (.int zc), .val (.int zf), .val (.long zr), .second, .val (.int zd), .val (.int zl), .val (.int zp), .val (.int zn), .val (.ref zo), .val (.int zs), .val (.long zq), .second, .val (.int (own_vx zf zn zq)), .val (.long (zf.toInt64)), .second, .val (.long ((zf.toInt64) + (zn.toInt64))), .second, .val (.int (-1 : Int32)), .val (.int (1 : Int32)), .val (.int zv)] [(.int (1 : Int32))])
        refine own_go (fun t k => XS.istore X66.here hx rfl (hb hby at_200) rfl (l' := #[.val (.int zc), .val (.int zf), .val (.long zr), .second, .val (.int zd), .val (.int zl), .val (.int zp), .val (.int zn), .val (.ref zo), .val (.int zs), .val (.long zq), .second, .val (.int (own_vx zf zn zq)), .val (.long (zf.toInt64)), .second, .val (.long ((zf.toInt64) + (zn.toInt64))), .second, .val (.int (-1 : Int32)), .val (.int (1 : Int32)), .val (.int zv)]) rfl k) ?_
        show own_WP _ _ _ _ T66 (mkF m 202 #[.val (.int zc), .val (.int zf), .val (.long zr), .second, .val (.int zd), .val (.int zl), .val (.int zp), .val (.int zn), .val (.ref zo), .val (.int zs), .val (.long zq), .second, .val (.int (own_vx zf zn zq)), .val (.long (zf.toInt64)), .second, .val (.long ((zf.toInt64) + (zn.toInt64))), .second, .val (.int (-1 : Int32)), .val (.int (1 : Int32)), .val (.int zv)] [])
        refine own_go (fun t k => XS.iload X66.here hx rfl (hb hby at_202) rfl  k) ?_
        show own_WP _ _ _ _ T66 (mkF m 204 #[.val (.int zc), .val (.int zf), .val (.long zr), .second, .val (.int zd), .val (.int zl), .val (.int zp), .val (.int zn), .val (.ref zo), .val (.int zs), .val (.long zq), .second, .val (.int (own_vx zf zn zq)), .val (.long (zf.toInt64)), .second, .val (.long ((zf.toInt64) + (zn.toInt64))), .second, .val (.int (-1 : Int32)), .val (.int (1 : Int32)), .val (.int zv)] [(.int (1 : Int32))])
        refine own_retN X66 hx Bd.notSynchronized (t := .boolean) (by simp) Bd.returns (hb hby at_204) (by decide) (by decide) ?_
        rw [eq66]
        exact ⟨rfl, N66⟩
      · refine own_go (fun t k => XS.ifYes X64.here hx rfl (pc0 := 160) (pc' := 202) rfl (hb hby at_160) rfl ((if0 _ _).trans (flt hc160).2.2.2) (by decide) (by decide) k) ?_
        show own_WP _ _ _ _ T64 (mkF m 202 #[.val (.int zc), .val (.int zf), .val (.long zr), .second, .val (.int zd), .val (.int zl), .val (.int zp), .val (.int zn), .val (.ref zo), .val (.int zs), .val (.long zq), .second, .val (.int (own_vx zf zn zq)), .val (.long (zf.toInt64)), .second, .val (.long ((zf.toInt64) + (zn.toInt64))), .second, .val (.int (-1 : Int32)), .val (.int (1 : Int32)), .unset] [])
        refine own_go (fun t k => XS.iload X64.here hx rfl (hb hby at_202) rfl  k) ?_
        show own_WP _ _ _ _ T64 (mkF m 204 #[.val (.int zc), .val (.int zf), .val (.long zr), .second, .val (.int zd), .val (.int zl), .val (.int zp), .val (.int zn), .val (.ref zo), .val (.int zs), .val (.long zq), .second, .val (.int (own_vx zf zn zq)), .val (.long (zf.toInt64)), .second, .val (.long ((zf.toInt64) + (zn.toInt64))), .second, .val (.int (-1 : Int32)), .val (.int (1 : Int32)), .unset] [(.int (1 : Int32))])
        refine own_retN X64 hx Bd.notSynchronized (t := .boolean) (by simp) Bd.returns (hb hby at_204) (by decide) (by decide) ?_
        rw [eq64]
        exact ⟨rfl, N64⟩
    · refine own_go (fun t k => XS.ifNo X64.here hx rfl (hb hby at_121) rfl ((if0 _ _).trans (flt (fun z => hc121 ((lw_lt zq (zf.toInt64)).mp z))).1) k) ?_
      show own_WP _ _ _ _ T64 (mkF m 124 #[.val (.int zc), .val (.int zf), .val (.long zr), .second, .val (.int zd), .val (.int zl), .val (.int zp), .val (.int zn), .val (.ref zo), .val (.int zs), .val (.long zq), .second, .val (.int (own_vx zf zn zq)), .val (.long (zf.toInt64)), .second, .val (.long ((zf.toInt64) + (zn.toInt64))), .second, .unset, .unset, .unset] [])
      refine own_go (fun t k => XS.lload X64.here hx rfl (hb hby at_124) rfl  k) ?_
      show own_WP _ _ _ _ T64 (mkF m 126 #[.val (.int zc), .val (.int zf), .val (.long zr), .second, .val (.int zd), .val (.int zl), .val (.int zp), .val (.int zn), .val (.ref zo), .val (.int zs), .val (.long zq), .second, .val (.int (own_vx zf zn zq)), .val (.long (zf.toInt64)), .second, .val (.long ((zf.toInt64) + (zn.toInt64))), .second, .unset, .unset, .unset] [(.long zq)])
      refine own_go (fun t k => XS.lload X64.here hx rfl (hb hby at_126) rfl  k) ?_
      show own_WP _ _ _ _ T64 (mkF m 128 #[.val (.int zc), .val (.int zf), .val (.long zr), .second, .val (.int zd), .val (.int zl), .val (.int zp), .val (.int zn), .val (.ref zo), .val (.int zs), .val (.long zq), .second, .val (.int (own_vx zf zn zq)), .val (.long (zf.toInt64)), .second, .val (.long ((zf.toInt64) + (zn.toInt64))), .second, .unset, .unset, .unset] [(.long ((zf.toInt64) + (zn.toInt64))), (.long zq)])
      refine own_go (fun t k => XS.lcmp X64.here hx rfl (hb hby at_128) rfl k) ?_
      show own_WP _ _ _ _ T64 (mkF m 129 #[.val (.int zc), .val (.int zf), .val (.long zr), .second, .val (.int zd), .val (.int zl), .val (.int zp), .val (.int zn), .val (.ref zo), .val (.int zs), .val (.long zq), .second, .val (.int (own_vx zf zn zq)), .val (.long (zf.toInt64)), .second, .val (.long ((zf.toInt64) + (zn.toInt64))), .second, .unset, .unset, .unset] [(.int (lcmpW zq ((zf.toInt64) + (zn.toInt64))))])
      by_cases hc129 : zq < ((zf.toInt64) + (zn.toInt64))
      · refine own_go (fun t k => XS.ifNo X64.here hx rfl (hb hby at_129) rfl ((if0 _ _).trans (tlt ((lw_lt zq ((zf.toInt64) + (zn.toInt64))).mpr hc129)).2.1) k) ?_
        show own_WP _ _ _ _ T64 (mkF m 132 #[.val (.int zc), .val (.int zf), .val (.long zr), .second, .val (.int zd), .val (.int zl), .val (.int zp), .val (.int zn), .val (.ref zo), .val (.int zs), .val (.long zq), .second, .val (.int (own_vx zf zn zq)), .val (.long (zf.toInt64)), .second, .val (.long ((zf.toInt64) + (zn.toInt64))), .second, .unset, .unset, .unset] [])
        refine own_go (fun t k => XS.lload X64.here hx rfl (hb hby at_132) rfl  k) ?_
        show own_WP _ _ _ _ T64 (mkF m 134 #[.val (.int zc), .val (.int zf), .val (.long zr), .second, .val (.int zd), .val (.int zl), .val (.int zp), .val (.int zn), .val (.ref zo), .val (.int zs), .val (.long zq), .second, .val (.int (own_vx zf zn zq)), .val (.long (zf.toInt64)), .second, .val (.long ((zf.toInt64) + (zn.toInt64))), .second, .unset, .unset, .unset] [(.long zq)])
        refine own_go (fun t k => XS.lload X64.here hx rfl (hb hby at_134) rfl  k) ?_
        show own_WP _ _ _ _ T64 (mkF m 136 #[.val (.int zc), .val (.int zf), .val (.long zr), .second, .val (.int zd), .val (.int zl), .val (.int zp), .val (.int zn), .val (.ref zo), .val (.int zs), .val (.long zq), .second, .val (.int (own_vx zf zn zq)), .val (.long (zf.toInt64)), .second, .val (.long ((zf.toInt64) + (zn.toInt64))), .second, .unset, .unset, .unset] [(.long (zf.toInt64)), (.long zq)])
        refine own_go (fun t k => XS.lsub X64.here hx rfl (hb hby at_136) rfl k) ?_
        show own_WP _ _ _ _ T64 (mkF m 137 #[.val (.int zc), .val (.int zf), .val (.long zr), .second, .val (.int zd), .val (.int zl), .val (.int zp), .val (.int zn), .val (.ref zo), .val (.int zs), .val (.long zq), .second, .val (.int (own_vx zf zn zq)), .val (.long (zf.toInt64)), .second, .val (.long ((zf.toInt64) + (zn.toInt64))), .second, .unset, .unset, .unset] [(.long (zq - (zf.toInt64)))])
        refine own_go (fun t k => XS.l2i X64.here hx rfl (hb hby at_137) rfl k) ?_
        show own_WP _ _ _ _ T64 (mkF m 138 #[.val (.int zc), .val (.int zf), .val (.long zr), .second, .val (.int zd), .val (.int zl), .val (.int zp), .val (.int zn), .val (.ref zo), .val (.int zs), .val (.long zq), .second, .val (.int (own_vx zf zn zq)), .val (.long (zf.toInt64)), .second, .val (.long ((zf.toInt64) + (zn.toInt64))), .second, .unset, .unset, .unset] [(.int ((zq - (zf.toInt64)).toInt32))])
        refine own_go (fun t k => XS.goto X64.here hx rfl (pc0 := 138) (pc' := 142) rfl (hb hby at_138) (by decide) (by decide) k) ?_
        show own_WP _ _ _ _ T64 (mkF m 142 #[.val (.int zc), .val (.int zf), .val (.long zr), .second, .val (.int zd), .val (.int zl), .val (.int zp), .val (.int zn), .val (.ref zo), .val (.int zs), .val (.long zq), .second, .val (.int (own_vx zf zn zq)), .val (.long (zf.toInt64)), .second, .val (.long ((zf.toInt64) + (zn.toInt64))), .second, .unset, .unset, .unset] [(.int ((zq - (zf.toInt64)).toInt32))])
        refine own_go (fun t k => XS.istore X64.here hx rfl (hb hby at_142) rfl (l' := #[.val (.int zc), .val (.int zf), .val (.long zr), .second, .val (.int zd), .val (.int zl), .val (.int zp), .val (.int zn), .val (.ref zo), .val (.int zs), .val (.long zq), .second, .val (.int (own_vx zf zn zq)), .val (.long (zf.toInt64)), .second, .val (.long ((zf.toInt64) + (zn.toInt64))), .second, .val (.int ((zq - (zf.toInt64)).toInt32)), .unset, .unset]) rfl k) ?_
        show own_WP _ _ _ _ T64 (mkF m 144 #[.val (.int zc), .val (.int zf), .val (.long zr), .second, .val (.int zd), .val (.int zl), .val (.int zp), .val (.int zn), .val (.ref zo), .val (.int zs), .val (.long zq), .second, .val (.int (own_vx zf zn zq)), .val (.long (zf.toInt64)), .second, .val (.long ((zf.toInt64) + (zn.toInt64))), .second, .val (.int ((zq - (zf.toInt64)).toInt32)), .unset, .unset] [])
        refine own_go (fun t k => XS.iload X64.here hx rfl (hb hby at_144) rfl  k) ?_
        show own_WP _ _ _ _ T64 (mkF m 146 #[.val (.int zc), .val (.int zf), .val (.long zr), .second, .val (.int zd), .val (.int zl), .val (.int zp), .val (.int zn), .val (.ref zo), .val (.int zs), .val (.long zq), .second, .val (.int (own_vx zf zn zq)), .val (.long (zf.toInt64)), .second, .val (.long ((zf.toInt64) + (zn.toInt64))), .second, .val (.int ((zq - (zf.toInt64)).toInt32)), .unset, .unset] [(.int (own_vx zf zn zq))])
        refine own_go (fun t k => XS.iload X64.here hx rfl (hb hby at_146) rfl  k) ?_
        show own_WP _ _ _ _ T64 (mkF m 148 #[.val (.int zc), .val (.int zf), .val (.long zr), .second, .val (.int zd), .val (.int zl), .val (.int zp), .val (.int zn), .val (.ref zo), .val (.int zs), .val (.long zq), .second, .val (.int (own_vx zf zn zq)), .val (.long (zf.toInt64)), .second, .val (.long ((zf.toInt64) + (zn.toInt64))), .second, .val (.int ((zq - (zf.toInt64)).toInt32)), .unset, .unset] [(.int ((zq - (zf.toInt64)).toInt32)), (.int (own_vx zf zn zq))])
        have hc148 : (own_vx zf zn zq) = ((zq - (zf.toInt64)).toInt32) := by
          rw [own_vxe zf zn zq hn1]; simp [hc121, hc129]
        refine own_go (fun t k => XS.icmpNo X64.here hx rfl (hb hby at_148) rfl (teq hc148).2 k) ?_
        show own_WP _ _ _ _ T64 (mkF m 151 #[.val (.int zc), .val (.int zf), .val (.long zr), .second, .val (.int zd), .val (.int zl), .val (.int zp), .val (.int zn), .val (.ref zo), .val (.int zs), .val (.long zq), .second, .val (.int (own_vx zf zn zq)), .val (.long (zf.toInt64)), .second, .val (.long ((zf.toInt64) + (zn.toInt64))), .second, .val (.int ((zq - (zf.toInt64)).toInt32)), .unset, .unset] [])
        refine own_go (fun t k => XS.iconst X64.here hx rfl (hb hby at_151) k) ?_
        show own_WP _ _ _ _ T64 (mkF m 152 #[.val (.int zc), .val (.int zf), .val (.long zr), .second, .val (.int zd), .val (.int zl), .val (.int zp), .val (.int zn), .val (.ref zo), .val (.int zs), .val (.long zq), .second, .val (.int (own_vx zf zn zq)), .val (.long (zf.toInt64)), .second, .val (.long ((zf.toInt64) + (zn.toInt64))), .second, .val (.int ((zq - (zf.toInt64)).toInt32)), .unset, .unset] [(.int (1 : Int32))])
        refine own_go (fun t k => XS.goto X64.here hx rfl (pc0 := 152) (pc' := 156) rfl (hb hby at_152) (by decide) (by decide) k) ?_
        show own_WP _ _ _ _ T64 (mkF m 156 #[.val (.int zc), .val (.int zf), .val (.long zr), .second, .val (.int zd), .val (.int zl), .val (.int zp), .val (.int zn), .val (.ref zo), .val (.int zs), .val (.long zq), .second, .val (.int (own_vx zf zn zq)), .val (.long (zf.toInt64)), .second, .val (.long ((zf.toInt64) + (zn.toInt64))), .second, .val (.int ((zq - (zf.toInt64)).toInt32)), .unset, .unset] [(.int (1 : Int32))])
        refine own_go (fun t k => XS.istore X64.here hx rfl (hb hby at_156) rfl (l' := #[.val (.int zc), .val (.int zf), .val (.long zr), .second, .val (.int zd), .val (.int zl), .val (.int zp), .val (.int zn), .val (.ref zo), .val (.int zs), .val (.long zq), .second, .val (.int (own_vx zf zn zq)), .val (.long (zf.toInt64)), .second, .val (.long ((zf.toInt64) + (zn.toInt64))), .second, .val (.int ((zq - (zf.toInt64)).toInt32)), .val (.int (1 : Int32)), .unset]) rfl k) ?_
        show own_WP _ _ _ _ T64 (mkF m 158 #[.val (.int zc), .val (.int zf), .val (.long zr), .second, .val (.int zd), .val (.int zl), .val (.int zp), .val (.int zn), .val (.ref zo), .val (.int zs), .val (.long zq), .second, .val (.int (own_vx zf zn zq)), .val (.long (zf.toInt64)), .second, .val (.long ((zf.toInt64) + (zn.toInt64))), .second, .val (.int ((zq - (zf.toInt64)).toInt32)), .val (.int (1 : Int32)), .unset] [])
        refine own_go (fun t k => XS.iload X64.here hx rfl (hb hby at_158) rfl  k) ?_
        show own_WP _ _ _ _ T64 (mkF m 160 #[.val (.int zc), .val (.int zf), .val (.long zr), .second, .val (.int zd), .val (.int zl), .val (.int zp), .val (.int zn), .val (.ref zo), .val (.int zs), .val (.long zq), .second, .val (.int (own_vx zf zn zq)), .val (.long (zf.toInt64)), .second, .val (.long ((zf.toInt64) + (zn.toInt64))), .second, .val (.int ((zq - (zf.toInt64)).toInt32)), .val (.int (1 : Int32)), .unset] [(.int zn)])
        by_cases hc160 : (0 : Int32) < zn
        · refine own_go (fun t k => XS.ifNo X64.here hx rfl (hb hby at_160) rfl ((if0 _ _).trans (tlt hc160).2.2.2) k) ?_
          show own_WP _ _ _ _ T64 (mkF m 163 #[.val (.int zc), .val (.int zf), .val (.long zr), .second, .val (.int zd), .val (.int zl), .val (.int zp), .val (.int zn), .val (.ref zo), .val (.int zs), .val (.long zq), .second, .val (.int (own_vx zf zn zq)), .val (.long (zf.toInt64)), .second, .val (.long ((zf.toInt64) + (zn.toInt64))), .second, .val (.int ((zq - (zf.toInt64)).toInt32)), .val (.int (1 : Int32)), .unset] [])
          refine own_go (fun t k => XS.iload X64.here hx rfl (hb hby at_163) rfl  k) ?_
          show own_WP _ _ _ _ T64 (mkF m 165 #[.val (.int zc), .val (.int zf), .val (.long zr), .second, .val (.int zd), .val (.int zl), .val (.int zp), .val (.int zn), .val (.ref zo), .val (.int zs), .val (.long zq), .second, .val (.int (own_vx zf zn zq)), .val (.long (zf.toInt64)), .second, .val (.long ((zf.toInt64) + (zn.toInt64))), .second, .val (.int ((zq - (zf.toInt64)).toInt32)), .val (.int (1 : Int32)), .unset] [(.int zp)])
          refine own_go (fun t k => X64.ldcInt hx hown (mvT hZ (hw _ (List.mem_of_getElem? (i := 0) rfl))) (g := (mkF m 165 #[.val (.int zc), .val (.int zf), .val (.long zr), .second, .val (.int zd), .val (.int zl), .val (.int zp), .val (.int zn), .val (.ref zo), .val (.int zs), .val (.long zq), .second, .val (.int (own_vx zf zn zq)), .val (.long (zf.toInt64)), .second, .val (.long ((zf.toInt64) + (zn.toInt64))), .second, .val (.int ((zq - (zf.toInt64)).toInt32)), .val (.int (1 : Int32)), .unset] [(.int zp)])) rfl (hb hby at_165) t k) ?_
          show own_WP _ _ _ _ T64 (mkF m 167 #[.val (.int zc), .val (.int zf), .val (.long zr), .second, .val (.int zd), .val (.int zl), .val (.int zp), .val (.int zn), .val (.ref zo), .val (.int zs), .val (.long zq), .second, .val (.int (own_vx zf zn zq)), .val (.long (zf.toInt64)), .second, .val (.long ((zf.toInt64) + (zn.toInt64))), .second, .val (.int ((zq - (zf.toInt64)).toInt32)), .val (.int (1 : Int32)), .unset] [(.int (2147483647 : Int32)), (.int zp)])
          refine own_go (fun t k => XS.iand X64.here hx rfl (hb hby at_167) rfl k) ?_
          show own_WP _ _ _ _ T64 (mkF m 168 #[.val (.int zc), .val (.int zf), .val (.long zr), .second, .val (.int zd), .val (.int zl), .val (.int zp), .val (.int zn), .val (.ref zo), .val (.int zs), .val (.long zq), .second, .val (.int (own_vx zf zn zq)), .val (.long (zf.toInt64)), .second, .val (.long ((zf.toInt64) + (zn.toInt64))), .second, .val (.int ((zq - (zf.toInt64)).toInt32)), .val (.int (1 : Int32)), .unset] [(.int (zp &&& (2147483647 : Int32)))])
          refine own_go (fun t k => XS.iload X64.here hx rfl (hb hby at_168) rfl  k) ?_
          show own_WP _ _ _ _ T64 (mkF m 170 #[.val (.int zc), .val (.int zf), .val (.long zr), .second, .val (.int zd), .val (.int zl), .val (.int zp), .val (.int zn), .val (.ref zo), .val (.int zs), .val (.long zq), .second, .val (.int (own_vx zf zn zq)), .val (.long (zf.toInt64)), .second, .val (.long ((zf.toInt64) + (zn.toInt64))), .second, .val (.int ((zq - (zf.toInt64)).toInt32)), .val (.int (1 : Int32)), .unset] [(.int zn), (.int (zp &&& (2147483647 : Int32)))])
          have hnz170 : zn ≠ 0 := by intro z; rw [z] at hc160; exact absurd hc160 (by decide)
          refine own_go (fun t k => iremM X64 hx rfl (hb hby at_170) rfl hnz170 k) ?_
          show own_WP _ _ _ _ T64 (mkF m 171 #[.val (.int zc), .val (.int zf), .val (.long zr), .second, .val (.int zd), .val (.int zl), .val (.int zp), .val (.int zn), .val (.ref zo), .val (.int zs), .val (.long zq), .second, .val (.int (own_vx zf zn zq)), .val (.long (zf.toInt64)), .second, .val (.long ((zf.toInt64) + (zn.toInt64))), .second, .val (.int ((zq - (zf.toInt64)).toInt32)), .val (.int (1 : Int32)), .unset] [(.int ((zp &&& (2147483647 : Int32)) % zn))])
          generalize d_zv : ((zp &&& (2147483647 : Int32)) % zn) = zv
          refine own_go (fun t k => XS.istore X64.here hx rfl (hb hby at_171) rfl (l' := #[.val (.int zc), .val (.int zf), .val (.long zr), .second, .val (.int zd), .val (.int zl), .val (.int zp), .val (.int zn), .val (.ref zo), .val (.int zs), .val (.long zq), .second, .val (.int (own_vx zf zn zq)), .val (.long (zf.toInt64)), .second, .val (.long ((zf.toInt64) + (zn.toInt64))), .second, .val (.int ((zq - (zf.toInt64)).toInt32)), .val (.int (1 : Int32)), .val (.int zv)]) rfl k) ?_
          show own_WP _ _ _ _ T64 (mkF m 173 #[.val (.int zc), .val (.int zf), .val (.long zr), .second, .val (.int zd), .val (.int zl), .val (.int zp), .val (.int zn), .val (.ref zo), .val (.int zs), .val (.long zq), .second, .val (.int (own_vx zf zn zq)), .val (.long (zf.toInt64)), .second, .val (.long ((zf.toInt64) + (zn.toInt64))), .second, .val (.int ((zq - (zf.toInt64)).toInt32)), .val (.int (1 : Int32)), .val (.int zv)] [])
          refine own_go (fun t k => XS.iload X64.here hx rfl (hb hby at_173) rfl  k) ?_
          show own_WP _ _ _ _ T64 (mkF m 175 #[.val (.int zc), .val (.int zf), .val (.long zr), .second, .val (.int zd), .val (.int zl), .val (.int zp), .val (.int zn), .val (.ref zo), .val (.int zs), .val (.long zq), .second, .val (.int (own_vx zf zn zq)), .val (.long (zf.toInt64)), .second, .val (.long ((zf.toInt64) + (zn.toInt64))), .second, .val (.int ((zq - (zf.toInt64)).toInt32)), .val (.int (1 : Int32)), .val (.int zv)] [(.int (1 : Int32))])
          have hc175 : ¬ ((1 : Int32) = (0 : Int32)) := by decide
          refine own_go (fun t k => XS.ifNo X64.here hx rfl (hb hby at_175) rfl ((if0 _ _).trans (feq hc175).1) k) ?_
          show own_WP _ _ _ _ T64 (mkF m 178 #[.val (.int zc), .val (.int zf), .val (.long zr), .second, .val (.int zd), .val (.int zl), .val (.int zp), .val (.int zn), .val (.ref zo), .val (.int zs), .val (.long zq), .second, .val (.int (own_vx zf zn zq)), .val (.long (zf.toInt64)), .second, .val (.long ((zf.toInt64) + (zn.toInt64))), .second, .val (.int ((zq - (zf.toInt64)).toInt32)), .val (.int (1 : Int32)), .val (.int zv)] [])
          refine own_go (fun t k => XS.aload X64.here hx rfl (hb hby at_178) rfl rfl  k) ?_
          show own_WP _ _ _ _ T64 (mkF m 180 #[.val (.int zc), .val (.int zf), .val (.long zr), .second, .val (.int zd), .val (.int zl), .val (.int zp), .val (.int zn), .val (.ref zo), .val (.int zs), .val (.long zq), .second, .val (.int (own_vx zf zn zq)), .val (.long (zf.toInt64)), .second, .val (.long ((zf.toInt64) + (zn.toInt64))), .second, .val (.int ((zq - (zf.toInt64)).toInt32)), .val (.int (1 : Int32)), .val (.int zv)] [(.ref zo)])
          refine own_go (fun t k => XS.aload X64.here hx rfl (hb hby at_180) rfl rfl  k) ?_
          show own_WP _ _ _ _ T64 (mkF m 182 #[.val (.int zc), .val (.int zf), .val (.long zr), .second, .val (.int zd), .val (.int zl), .val (.int zp), .val (.int zn), .val (.ref zo), .val (.int zs), .val (.long zq), .second, .val (.int (own_vx zf zn zq)), .val (.long (zf.toInt64)), .second, .val (.long ((zf.toInt64) + (zn.toInt64))), .second, .val (.int ((zq - (zf.toInt64)).toInt32)), .val (.int (1 : Int32)), .val (.int zv)] [(.ref zo), (.ref zo)])
          refine own_go (fun t k => XS.iload X64.here hx rfl (hb hby at_182) rfl  k) ?_
          show own_WP _ _ _ _ T64 (mkF m 184 #[.val (.int zc), .val (.int zf), .val (.long zr), .second, .val (.int zd), .val (.int zl), .val (.int zp), .val (.int zn), .val (.ref zo), .val (.int zs), .val (.long zq), .second, .val (.int (own_vx zf zn zq)), .val (.long (zf.toInt64)), .second, .val (.long ((zf.toInt64) + (zn.toInt64))), .second, .val (.int ((zq - (zf.toInt64)).toInt32)), .val (.int (1 : Int32)), .val (.int zv)] [(.int zv), (.ref zo), (.ref zo)])
          obtain ⟨cq67, kq67, q67a, q67b, q67c⟩ := isOf hZ eq64 f58
          obtain ⟨_, _, ⟨T67, L67, k67, n67⟩, -, X67, ⟨Lc67, hQ67, l67, y67, z67⟩, st67⟩ := X64.virtualBack hx (y := (⟨"branchwork/Graph", "number", "(I)J"⟩ : MethodName)) (z := (⟨"branchwork/Graph", "number", "(I)J"⟩ : MethodName)) hown (mvT hZ (hw _ (List.mem_of_getElem? (i := 29) rfl))) (mvT hZ (hw _ (List.mem_of_getElem? (i := 30) rfl))) (notFace_of_selects (args := #[]) (mvT hZ (hw _ (List.mem_of_getElem? (i := 32) rfl)))) (mvT hZ (hw _ (List.mem_of_getElem? (i := 32) rfl))) (mvT hZ (hw _ (List.mem_of_getElem? (i := 31) rfl))) (by decide) (backOf (W := 1) (rm4 l Z a0 hw [] zo zv zf h57 n0 (own_le Z0 K57j) f63) hZ (hw _ (List.mem_of_getElem? (i := 33) rfl)) (hw _ (List.mem_of_getElem? (i := 3) rfl)) (by decide) (by decide)) q67a q67c (g := (mkF m 184 #[.val (.int zc), .val (.int zf), .val (.long zr), .second, .val (.int zd), .val (.int zl), .val (.int zp), .val (.int zn), .val (.ref zo), .val (.int zs), .val (.long zq), .second, .val (.int (own_vx zf zn zq)), .val (.long (zf.toInt64)), .second, .val (.long ((zf.toInt64) + (zn.toInt64))), .second, .val (.int ((zq - (zf.toInt64)).toInt32)), .val (.int (1 : Int32)), .val (.int zv)] [(.int zv), (.ref zo), (.ref zo)])) rfl (by rw [hml]; rfl) (Steps.refl _) (argsL := [(.int zv)]) (rest := [(.ref zo)]) (lenOf own_pd81838 rfl) rfl (by show 2 * 0 + _ ≤ _; exact Nat.le_of_eq rfl) (hb hby at_184) (fun _ _ => ⟨rfl, eq64, (by decide : 4 + 0 ≤ _), (by decide : 6 + 0 ≤ _)⟩)
          dsimp only [Pt.U, Pt.locs, Pt.cells, Pt.slots] at X67 l67 y67 z67 st67 hQ67
          subst l67 y67 z67
          obtain ⟨rfl, N67q, eq67⟩ := hQ67
          have N67 := Fr.app N64 N67q
          refine own_tr st67 ?_
          show own_WP _ _ _ _ T67 (mkF m 187 #[.val (.int zc), .val (.int zf), .val (.long zr), .second, .val (.int zd), .val (.int zl), .val (.int zp), .val (.int zn), .val (.ref zo), .val (.int zs), .val (.long zq), .second, .val (.int (own_vx zf zn zq)), .val (.long (zf.toInt64)), .second, .val (.long ((zf.toInt64) + (zn.toInt64))), .second, .val (.int ((zq - (zf.toInt64)).toInt32)), .val (.int (1 : Int32)), .val (.int zv)] [(.long ((zv.toInt64) + (zf.toInt64))), (.ref zo)])
          obtain ⟨cq68, kq68, q68a, q68b, q68c⟩ := isOf hZ eq67 f58
          obtain ⟨_, _, ⟨T68, L68, k68, n68⟩, -, X68, ⟨Lc68, hQ68, l68, y68, z68⟩, st68⟩ := X67.virtualBack hx (y := (⟨"branchwork/Graph", "vertex", "(J)I"⟩ : MethodName)) (z := (⟨"branchwork/Graph", "vertex", "(J)I"⟩ : MethodName)) hown (mvT hZ (hw _ (List.mem_of_getElem? (i := 24) rfl))) (mvT hZ (hw _ (List.mem_of_getElem? (i := 25) rfl))) (notFace_of_selects (args := #[]) (mvT hZ (hw _ (List.mem_of_getElem? (i := 27) rfl)))) (mvT hZ (hw _ (List.mem_of_getElem? (i := 27) rfl))) (mvT hZ (hw _ (List.mem_of_getElem? (i := 26) rfl))) (by decide) (backOf (W := 0) (rm3 l Z a0 hw [] zo ((zv.toInt64) + (zf.toInt64)) zn zf h57 n0 (own_le Z0 K57j) f62 f63) hZ (hw _ (List.mem_of_getElem? (i := 28) rfl)) (hw _ (List.mem_of_getElem? (i := 3) rfl)) (by decide) (by decide)) q68a q68c (g := (mkF m 187 #[.val (.int zc), .val (.int zf), .val (.long zr), .second, .val (.int zd), .val (.int zl), .val (.int zp), .val (.int zn), .val (.ref zo), .val (.int zs), .val (.long zq), .second, .val (.int (own_vx zf zn zq)), .val (.long (zf.toInt64)), .second, .val (.long ((zf.toInt64) + (zn.toInt64))), .second, .val (.int ((zq - (zf.toInt64)).toInt32)), .val (.int (1 : Int32)), .val (.int zv)] [(.long ((zv.toInt64) + (zf.toInt64))), (.ref zo)])) rfl (by rw [hml]; rfl) (Steps.refl _) (argsL := [(.long ((zv.toInt64) + (zf.toInt64)))]) (rest := []) (lenOf own_pd98998 rfl) rfl (by show 2 * 0 + _ ≤ _; exact Nat.le_of_eq rfl) (hb hby at_187) (fun _ _ => ⟨rfl, eq67, (by decide : 4 + 0 ≤ _), (by decide : 6 + 0 ≤ _)⟩)
          dsimp only [Pt.U, Pt.locs, Pt.cells, Pt.slots] at X68 l68 y68 z68 st68 hQ68
          subst l68 y68 z68
          obtain ⟨rfl, N68q, eq68⟩ := hQ68
          have N68 := Fr.app N67 N68q
          refine own_tr st68 ?_
          show own_WP _ _ _ _ T68 (mkF m 190 #[.val (.int zc), .val (.int zf), .val (.long zr), .second, .val (.int zd), .val (.int zl), .val (.int zp), .val (.int zn), .val (.ref zo), .val (.int zs), .val (.long zq), .second, .val (.int (own_vx zf zn zq)), .val (.long (zf.toInt64)), .second, .val (.long ((zf.toInt64) + (zn.toInt64))), .second, .val (.int ((zq - (zf.toInt64)).toInt32)), .val (.int (1 : Int32)), .val (.int zv)] [(.int (own_vx zf zn ((zv.toInt64) + (zf.toInt64))))])
          refine own_go (fun t k => XS.iload X68.here hx rfl (hb hby at_190) rfl  k) ?_
          show own_WP _ _ _ _ T68 (mkF m 192 #[.val (.int zc), .val (.int zf), .val (.long zr), .second, .val (.int zd), .val (.int zl), .val (.int zp), .val (.int zn), .val (.ref zo), .val (.int zs), .val (.long zq), .second, .val (.int (own_vx zf zn zq)), .val (.long (zf.toInt64)), .second, .val (.long ((zf.toInt64) + (zn.toInt64))), .second, .val (.int ((zq - (zf.toInt64)).toInt32)), .val (.int (1 : Int32)), .val (.int zv)] [(.int zv), (.int (own_vx zf zn ((zv.toInt64) + (zf.toInt64))))])
          have hc192 : (own_vx zf zn ((zv.toInt64) + (zf.toInt64))) = zv := by
            have q := own_pick zp zn hc160
            rw [d_zv] at q
            exact own_vxn zf zn zv q.1 q.2
          refine own_go (fun t k => XS.icmpNo X68.here hx rfl (hb hby at_192) rfl (teq hc192).2 k) ?_
          show own_WP _ _ _ _ T68 (mkF m 195 #[.val (.int zc), .val (.int zf), .val (.long zr), .second, .val (.int zd), .val (.int zl), .val (.int zp), .val (.int zn), .val (.ref zo), .val (.int zs), .val (.long zq), .second, .val (.int (own_vx zf zn zq)), .val (.long (zf.toInt64)), .second, .val (.long ((zf.toInt64) + (zn.toInt64))), .second, .val (.int ((zq - (zf.toInt64)).toInt32)), .val (.int (1 : Int32)), .val (.int zv)] [])
          refine own_go (fun t k => XS.iconst X68.here hx rfl (hb hby at_195) k) ?_
          show own_WP _ _ _ _ T68 (mkF m 196 #[.val (.int zc), .val (.int zf), .val (.long zr), .second, .val (.int zd), .val (.int zl), .val (.int zp), .val (.int zn), .val (.ref zo), .val (.int zs), .val (.long zq), .second, .val (.int (own_vx zf zn zq)), .val (.long (zf.toInt64)), .second, .val (.long ((zf.toInt64) + (zn.toInt64))), .second, .val (.int ((zq - (zf.toInt64)).toInt32)), .val (.int (1 : Int32)), .val (.int zv)] [(.int (1 : Int32))])
          refine own_go (fun t k => XS.goto X68.here hx rfl (pc0 := 196) (pc' := 200) rfl (hb hby at_196) (by decide) (by decide) k) ?_
          show own_WP _ _ _ _ T68 (mkF m 200 #[.val (.int zc), .val (.int zf), .val (.long zr), .second, .val (.int zd), .val (.int zl), .val (.int zp), .val (.int zn), .val (.ref zo), .val (.int zs), .val (.long zq), .second, .val (.int (own_vx zf zn zq)), .val (.long (zf.toInt64)), .second, .val (.long ((zf.toInt64) + (zn.toInt64))), .second, .val (.int ((zq - (zf.toInt64)).toInt32)), .val (.int (1 : Int32)), .val (.int zv)] [(.int (1 : Int32))])
          refine own_go (fun t k => XS.istore X68.here hx rfl (hb hby at_200) rfl (l' := #[.val (.int zc), .val (.int zf), .val (.long zr), .second, .val (.int zd), .val (.int zl), .val (.int zp), .val (.int zn), .val (.ref zo), .val (.int zs), .val (.long zq), .second, .val (.int (own_vx zf zn zq)), .val (.long (zf.toInt64)), .second, .val (.long ((zf.toInt64) + (zn.toInt64))), .second, .val (.int ((zq - (zf.toInt64)).toInt32)), .val (.int (1 : Int32)), .val (.int zv)]) rfl k) ?_
          show own_WP _ _ _ _ T68 (mkF m 202 #[.val (.int zc), .val (.int zf), .val (.long zr), .second, .val (.int zd), .val (.int zl), .val (.int zp), .val (.int zn), .val (.ref zo), .val (.int zs), .val (.long zq), .second, .val (.int (own_vx zf zn zq)), .val (.long (zf.toInt64)), .second, .val (.long ((zf.toInt64) + (zn.toInt64))), .second, .val (.int ((zq - (zf.toInt64)).toInt32)), .val (.int (1 : Int32)), .val (.int zv)] [])
          refine own_go (fun t k => XS.iload X68.here hx rfl (hb hby at_202) rfl  k) ?_
          show own_WP _ _ _ _ T68 (mkF m 204 #[.val (.int zc), .val (.int zf), .val (.long zr), .second, .val (.int zd), .val (.int zl), .val (.int zp), .val (.int zn), .val (.ref zo), .val (.int zs), .val (.long zq), .second, .val (.int (own_vx zf zn zq)), .val (.long (zf.toInt64)), .second, .val (.long ((zf.toInt64) + (zn.toInt64))), .second, .val (.int ((zq - (zf.toInt64)).toInt32)), .val (.int (1 : Int32)), .val (.int zv)] [(.int (1 : Int32))])
          refine own_retN X68 hx Bd.notSynchronized (t := .boolean) (by simp) Bd.returns (hb hby at_204) (by decide) (by decide) ?_
          rw [eq68]
          exact ⟨rfl, N68⟩
        · refine own_go (fun t k => XS.ifYes X64.here hx rfl (pc0 := 160) (pc' := 202) rfl (hb hby at_160) rfl ((if0 _ _).trans (flt hc160).2.2.2) (by decide) (by decide) k) ?_
          show own_WP _ _ _ _ T64 (mkF m 202 #[.val (.int zc), .val (.int zf), .val (.long zr), .second, .val (.int zd), .val (.int zl), .val (.int zp), .val (.int zn), .val (.ref zo), .val (.int zs), .val (.long zq), .second, .val (.int (own_vx zf zn zq)), .val (.long (zf.toInt64)), .second, .val (.long ((zf.toInt64) + (zn.toInt64))), .second, .val (.int ((zq - (zf.toInt64)).toInt32)), .val (.int (1 : Int32)), .unset] [])
          refine own_go (fun t k => XS.iload X64.here hx rfl (hb hby at_202) rfl  k) ?_
          show own_WP _ _ _ _ T64 (mkF m 204 #[.val (.int zc), .val (.int zf), .val (.long zr), .second, .val (.int zd), .val (.int zl), .val (.int zp), .val (.int zn), .val (.ref zo), .val (.int zs), .val (.long zq), .second, .val (.int (own_vx zf zn zq)), .val (.long (zf.toInt64)), .second, .val (.long ((zf.toInt64) + (zn.toInt64))), .second, .val (.int ((zq - (zf.toInt64)).toInt32)), .val (.int (1 : Int32)), .unset] [(.int (1 : Int32))])
          refine own_retN X64 hx Bd.notSynchronized (t := .boolean) (by simp) Bd.returns (hb hby at_204) (by decide) (by decide) ?_
          rw [eq64]
          exact ⟨rfl, N64⟩
      · refine own_go (fun t k => XS.ifYes X64.here hx rfl (pc0 := 129) (pc' := 141) rfl (hb hby at_129) rfl ((if0 _ _).trans (flt (fun z => hc129 ((lw_lt zq ((zf.toInt64) + (zn.toInt64))).mp z))).2.1) (by decide) (by decide) k) ?_
        show own_WP _ _ _ _ T64 (mkF m 141 #[.val (.int zc), .val (.int zf), .val (.long zr), .second, .val (.int zd), .val (.int zl), .val (.int zp), .val (.int zn), .val (.ref zo), .val (.int zs), .val (.long zq), .second, .val (.int (own_vx zf zn zq)), .val (.long (zf.toInt64)), .second, .val (.long ((zf.toInt64) + (zn.toInt64))), .second, .unset, .unset, .unset] [])
        refine own_go (fun t k => XS.iconst X64.here hx rfl (hb hby at_141) k) ?_
        show own_WP _ _ _ _ T64 (mkF m 142 #[.val (.int zc), .val (.int zf), .val (.long zr), .second, .val (.int zd), .val (.int zl), .val (.int zp), .val (.int zn), .val (.ref zo), .val (.int zs), .val (.long zq), .second, .val (.int (own_vx zf zn zq)), .val (.long (zf.toInt64)), .second, .val (.long ((zf.toInt64) + (zn.toInt64))), .second, .unset, .unset, .unset] [(.int (-1 : Int32))])
        refine own_go (fun t k => XS.istore X64.here hx rfl (hb hby at_142) rfl (l' := #[.val (.int zc), .val (.int zf), .val (.long zr), .second, .val (.int zd), .val (.int zl), .val (.int zp), .val (.int zn), .val (.ref zo), .val (.int zs), .val (.long zq), .second, .val (.int (own_vx zf zn zq)), .val (.long (zf.toInt64)), .second, .val (.long ((zf.toInt64) + (zn.toInt64))), .second, .val (.int (-1 : Int32)), .unset, .unset]) rfl k) ?_
        show own_WP _ _ _ _ T64 (mkF m 144 #[.val (.int zc), .val (.int zf), .val (.long zr), .second, .val (.int zd), .val (.int zl), .val (.int zp), .val (.int zn), .val (.ref zo), .val (.int zs), .val (.long zq), .second, .val (.int (own_vx zf zn zq)), .val (.long (zf.toInt64)), .second, .val (.long ((zf.toInt64) + (zn.toInt64))), .second, .val (.int (-1 : Int32)), .unset, .unset] [])
        refine own_go (fun t k => XS.iload X64.here hx rfl (hb hby at_144) rfl  k) ?_
        show own_WP _ _ _ _ T64 (mkF m 146 #[.val (.int zc), .val (.int zf), .val (.long zr), .second, .val (.int zd), .val (.int zl), .val (.int zp), .val (.int zn), .val (.ref zo), .val (.int zs), .val (.long zq), .second, .val (.int (own_vx zf zn zq)), .val (.long (zf.toInt64)), .second, .val (.long ((zf.toInt64) + (zn.toInt64))), .second, .val (.int (-1 : Int32)), .unset, .unset] [(.int (own_vx zf zn zq))])
        refine own_go (fun t k => XS.iload X64.here hx rfl (hb hby at_146) rfl  k) ?_
        show own_WP _ _ _ _ T64 (mkF m 148 #[.val (.int zc), .val (.int zf), .val (.long zr), .second, .val (.int zd), .val (.int zl), .val (.int zp), .val (.int zn), .val (.ref zo), .val (.int zs), .val (.long zq), .second, .val (.int (own_vx zf zn zq)), .val (.long (zf.toInt64)), .second, .val (.long ((zf.toInt64) + (zn.toInt64))), .second, .val (.int (-1 : Int32)), .unset, .unset] [(.int (-1 : Int32)), (.int (own_vx zf zn zq))])
        have hc148 : (own_vx zf zn zq) = (-1 : Int32) := by
          rw [own_vxe zf zn zq hn1]; simp [hc121, hc129]
        refine own_go (fun t k => XS.icmpNo X64.here hx rfl (hb hby at_148) rfl (teq hc148).2 k) ?_
        show own_WP _ _ _ _ T64 (mkF m 151 #[.val (.int zc), .val (.int zf), .val (.long zr), .second, .val (.int zd), .val (.int zl), .val (.int zp), .val (.int zn), .val (.ref zo), .val (.int zs), .val (.long zq), .second, .val (.int (own_vx zf zn zq)), .val (.long (zf.toInt64)), .second, .val (.long ((zf.toInt64) + (zn.toInt64))), .second, .val (.int (-1 : Int32)), .unset, .unset] [])
        refine own_go (fun t k => XS.iconst X64.here hx rfl (hb hby at_151) k) ?_
        show own_WP _ _ _ _ T64 (mkF m 152 #[.val (.int zc), .val (.int zf), .val (.long zr), .second, .val (.int zd), .val (.int zl), .val (.int zp), .val (.int zn), .val (.ref zo), .val (.int zs), .val (.long zq), .second, .val (.int (own_vx zf zn zq)), .val (.long (zf.toInt64)), .second, .val (.long ((zf.toInt64) + (zn.toInt64))), .second, .val (.int (-1 : Int32)), .unset, .unset] [(.int (1 : Int32))])
        refine own_go (fun t k => XS.goto X64.here hx rfl (pc0 := 152) (pc' := 156) rfl (hb hby at_152) (by decide) (by decide) k) ?_
        show own_WP _ _ _ _ T64 (mkF m 156 #[.val (.int zc), .val (.int zf), .val (.long zr), .second, .val (.int zd), .val (.int zl), .val (.int zp), .val (.int zn), .val (.ref zo), .val (.int zs), .val (.long zq), .second, .val (.int (own_vx zf zn zq)), .val (.long (zf.toInt64)), .second, .val (.long ((zf.toInt64) + (zn.toInt64))), .second, .val (.int (-1 : Int32)), .unset, .unset] [(.int (1 : Int32))])
        refine own_go (fun t k => XS.istore X64.here hx rfl (hb hby at_156) rfl (l' := #[.val (.int zc), .val (.int zf), .val (.long zr), .second, .val (.int zd), .val (.int zl), .val (.int zp), .val (.int zn), .val (.ref zo), .val (.int zs), .val (.long zq), .second, .val (.int (own_vx zf zn zq)), .val (.long (zf.toInt64)), .second, .val (.long ((zf.toInt64) + (zn.toInt64))), .second, .val (.int (-1 : Int32)), .val (.int (1 : Int32)), .unset]) rfl k) ?_
        show own_WP _ _ _ _ T64 (mkF m 158 #[.val (.int zc), .val (.int zf), .val (.long zr), .second, .val (.int zd), .val (.int zl), .val (.int zp), .val (.int zn), .val (.ref zo), .val (.int zs), .val (.long zq), .second, .val (.int (own_vx zf zn zq)), .val (.long (zf.toInt64)), .second, .val (.long ((zf.toInt64) + (zn.toInt64))), .second, .val (.int (-1 : Int32)), .val (.int (1 : Int32)), .unset] [])
        refine own_go (fun t k => XS.iload X64.here hx rfl (hb hby at_158) rfl  k) ?_
        show own_WP _ _ _ _ T64 (mkF m 160 #[.val (.int zc), .val (.int zf), .val (.long zr), .second, .val (.int zd), .val (.int zl), .val (.int zp), .val (.int zn), .val (.ref zo), .val (.int zs), .val (.long zq), .second, .val (.int (own_vx zf zn zq)), .val (.long (zf.toInt64)), .second, .val (.long ((zf.toInt64) + (zn.toInt64))), .second, .val (.int (-1 : Int32)), .val (.int (1 : Int32)), .unset] [(.int zn)])
        by_cases hc160 : (0 : Int32) < zn
        · refine own_go (fun t k => XS.ifNo X64.here hx rfl (hb hby at_160) rfl ((if0 _ _).trans (tlt hc160).2.2.2) k) ?_
          show own_WP _ _ _ _ T64 (mkF m 163 #[.val (.int zc), .val (.int zf), .val (.long zr), .second, .val (.int zd), .val (.int zl), .val (.int zp), .val (.int zn), .val (.ref zo), .val (.int zs), .val (.long zq), .second, .val (.int (own_vx zf zn zq)), .val (.long (zf.toInt64)), .second, .val (.long ((zf.toInt64) + (zn.toInt64))), .second, .val (.int (-1 : Int32)), .val (.int (1 : Int32)), .unset] [])
          refine own_go (fun t k => XS.iload X64.here hx rfl (hb hby at_163) rfl  k) ?_
          show own_WP _ _ _ _ T64 (mkF m 165 #[.val (.int zc), .val (.int zf), .val (.long zr), .second, .val (.int zd), .val (.int zl), .val (.int zp), .val (.int zn), .val (.ref zo), .val (.int zs), .val (.long zq), .second, .val (.int (own_vx zf zn zq)), .val (.long (zf.toInt64)), .second, .val (.long ((zf.toInt64) + (zn.toInt64))), .second, .val (.int (-1 : Int32)), .val (.int (1 : Int32)), .unset] [(.int zp)])
          refine own_go (fun t k => X64.ldcInt hx hown (mvT hZ (hw _ (List.mem_of_getElem? (i := 0) rfl))) (g := (mkF m 165 #[.val (.int zc), .val (.int zf), .val (.long zr), .second, .val (.int zd), .val (.int zl), .val (.int zp), .val (.int zn), .val (.ref zo), .val (.int zs), .val (.long zq), .second, .val (.int (own_vx zf zn zq)), .val (.long (zf.toInt64)), .second, .val (.long ((zf.toInt64) + (zn.toInt64))), .second, .val (.int (-1 : Int32)), .val (.int (1 : Int32)), .unset] [(.int zp)])) rfl (hb hby at_165) t k) ?_
          show own_WP _ _ _ _ T64 (mkF m 167 #[.val (.int zc), .val (.int zf), .val (.long zr), .second, .val (.int zd), .val (.int zl), .val (.int zp), .val (.int zn), .val (.ref zo), .val (.int zs), .val (.long zq), .second, .val (.int (own_vx zf zn zq)), .val (.long (zf.toInt64)), .second, .val (.long ((zf.toInt64) + (zn.toInt64))), .second, .val (.int (-1 : Int32)), .val (.int (1 : Int32)), .unset] [(.int (2147483647 : Int32)), (.int zp)])
          refine own_go (fun t k => XS.iand X64.here hx rfl (hb hby at_167) rfl k) ?_
          show own_WP _ _ _ _ T64 (mkF m 168 #[.val (.int zc), .val (.int zf), .val (.long zr), .second, .val (.int zd), .val (.int zl), .val (.int zp), .val (.int zn), .val (.ref zo), .val (.int zs), .val (.long zq), .second, .val (.int (own_vx zf zn zq)), .val (.long (zf.toInt64)), .second, .val (.long ((zf.toInt64) + (zn.toInt64))), .second, .val (.int (-1 : Int32)), .val (.int (1 : Int32)), .unset] [(.int (zp &&& (2147483647 : Int32)))])
          refine own_go (fun t k => XS.iload X64.here hx rfl (hb hby at_168) rfl  k) ?_
          show own_WP _ _ _ _ T64 (mkF m 170 #[.val (.int zc), .val (.int zf), .val (.long zr), .second, .val (.int zd), .val (.int zl), .val (.int zp), .val (.int zn), .val (.ref zo), .val (.int zs), .val (.long zq), .second, .val (.int (own_vx zf zn zq)), .val (.long (zf.toInt64)), .second, .val (.long ((zf.toInt64) + (zn.toInt64))), .second, .val (.int (-1 : Int32)), .val (.int (1 : Int32)), .unset] [(.int zn), (.int (zp &&& (2147483647 : Int32)))])
          have hnz170 : zn ≠ 0 := by intro z; rw [z] at hc160; exact absurd hc160 (by decide)
          refine own_go (fun t k => iremM X64 hx rfl (hb hby at_170) rfl hnz170 k) ?_
          show own_WP _ _ _ _ T64 (mkF m 171 #[.val (.int zc), .val (.int zf), .val (.long zr), .second, .val (.int zd), .val (.int zl), .val (.int zp), .val (.int zn), .val (.ref zo), .val (.int zs), .val (.long zq), .second, .val (.int (own_vx zf zn zq)), .val (.long (zf.toInt64)), .second, .val (.long ((zf.toInt64) + (zn.toInt64))), .second, .val (.int (-1 : Int32)), .val (.int (1 : Int32)), .unset] [(.int ((zp &&& (2147483647 : Int32)) % zn))])
          generalize d_zv : ((zp &&& (2147483647 : Int32)) % zn) = zv
          refine own_go (fun t k => XS.istore X64.here hx rfl (hb hby at_171) rfl (l' := #[.val (.int zc), .val (.int zf), .val (.long zr), .second, .val (.int zd), .val (.int zl), .val (.int zp), .val (.int zn), .val (.ref zo), .val (.int zs), .val (.long zq), .second, .val (.int (own_vx zf zn zq)), .val (.long (zf.toInt64)), .second, .val (.long ((zf.toInt64) + (zn.toInt64))), .second, .val (.int (-1 : Int32)), .val (.int (1 : Int32)), .val (.int zv)]) rfl k) ?_
          show own_WP _ _ _ _ T64 (mkF m 173 #[.val (.int zc), .val (.int zf), .val (.long zr), .second, .val (.int zd), .val (.int zl), .val (.int zp), .val (.int zn), .val (.ref zo), .val (.int zs), .val (.long zq), .second, .val (.int (own_vx zf zn zq)), .val (.long (zf.toInt64)), .second, .val (.long ((zf.toInt64) + (zn.toInt64))), .second, .val (.int (-1 : Int32)), .val (.int (1 : Int32)), .val (.int zv)] [])
          refine own_go (fun t k => XS.iload X64.here hx rfl (hb hby at_173) rfl  k) ?_
          show own_WP _ _ _ _ T64 (mkF m 175 #[.val (.int zc), .val (.int zf), .val (.long zr), .second, .val (.int zd), .val (.int zl), .val (.int zp), .val (.int zn), .val (.ref zo), .val (.int zs), .val (.long zq), .second, .val (.int (own_vx zf zn zq)), .val (.long (zf.toInt64)), .second, .val (.long ((zf.toInt64) + (zn.toInt64))), .second, .val (.int (-1 : Int32)), .val (.int (1 : Int32)), .val (.int zv)] [(.int (1 : Int32))])
          have hc175 : ¬ ((1 : Int32) = (0 : Int32)) := by decide
          refine own_go (fun t k => XS.ifNo X64.here hx rfl (hb hby at_175) rfl ((if0 _ _).trans (feq hc175).1) k) ?_
          show own_WP _ _ _ _ T64 (mkF m 178 #[.val (.int zc), .val (.int zf), .val (.long zr), .second, .val (.int zd), .val (.int zl), .val (.int zp), .val (.int zn), .val (.ref zo), .val (.int zs), .val (.long zq), .second, .val (.int (own_vx zf zn zq)), .val (.long (zf.toInt64)), .second, .val (.long ((zf.toInt64) + (zn.toInt64))), .second, .val (.int (-1 : Int32)), .val (.int (1 : Int32)), .val (.int zv)] [])
          refine own_go (fun t k => XS.aload X64.here hx rfl (hb hby at_178) rfl rfl  k) ?_
          show own_WP _ _ _ _ T64 (mkF m 180 #[.val (.int zc), .val (.int zf), .val (.long zr), .second, .val (.int zd), .val (.int zl), .val (.int zp), .val (.int zn), .val (.ref zo), .val (.int zs), .val (.long zq), .second, .val (.int (own_vx zf zn zq)), .val (.long (zf.toInt64)), .second, .val (.long ((zf.toInt64) + (zn.toInt64))), .second, .val (.int (-1 : Int32)), .val (.int (1 : Int32)), .val (.int zv)] [(.ref zo)])
          refine own_go (fun t k => XS.aload X64.here hx rfl (hb hby at_180) rfl rfl  k) ?_
          show own_WP _ _ _ _ T64 (mkF m 182 #[.val (.int zc), .val (.int zf), .val (.long zr), .second, .val (.int zd), .val (.int zl), .val (.int zp), .val (.int zn), .val (.ref zo), .val (.int zs), .val (.long zq), .second, .val (.int (own_vx zf zn zq)), .val (.long (zf.toInt64)), .second, .val (.long ((zf.toInt64) + (zn.toInt64))), .second, .val (.int (-1 : Int32)), .val (.int (1 : Int32)), .val (.int zv)] [(.ref zo), (.ref zo)])
          refine own_go (fun t k => XS.iload X64.here hx rfl (hb hby at_182) rfl  k) ?_
          show own_WP _ _ _ _ T64 (mkF m 184 #[.val (.int zc), .val (.int zf), .val (.long zr), .second, .val (.int zd), .val (.int zl), .val (.int zp), .val (.int zn), .val (.ref zo), .val (.int zs), .val (.long zq), .second, .val (.int (own_vx zf zn zq)), .val (.long (zf.toInt64)), .second, .val (.long ((zf.toInt64) + (zn.toInt64))), .second, .val (.int (-1 : Int32)), .val (.int (1 : Int32)), .val (.int zv)] [(.int zv), (.ref zo), (.ref zo)])
          obtain ⟨cq69, kq69, q69a, q69b, q69c⟩ := isOf hZ eq64 f58
          obtain ⟨_, _, ⟨T69, L69, k69, n69⟩, -, X69, ⟨Lc69, hQ69, l69, y69, z69⟩, st69⟩ := X64.virtualBack hx (y := (⟨"branchwork/Graph", "number", "(I)J"⟩ : MethodName)) (z := (⟨"branchwork/Graph", "number", "(I)J"⟩ : MethodName)) hown (mvT hZ (hw _ (List.mem_of_getElem? (i := 29) rfl))) (mvT hZ (hw _ (List.mem_of_getElem? (i := 30) rfl))) (notFace_of_selects (args := #[]) (mvT hZ (hw _ (List.mem_of_getElem? (i := 32) rfl)))) (mvT hZ (hw _ (List.mem_of_getElem? (i := 32) rfl))) (mvT hZ (hw _ (List.mem_of_getElem? (i := 31) rfl))) (by decide) (backOf (W := 1) (rm4 l Z a0 hw [] zo zv zf h57 n0 (own_le Z0 K57j) f63) hZ (hw _ (List.mem_of_getElem? (i := 33) rfl)) (hw _ (List.mem_of_getElem? (i := 3) rfl)) (by decide) (by decide)) q69a q69c (g := (mkF m 184 #[.val (.int zc), .val (.int zf), .val (.long zr), .second, .val (.int zd), .val (.int zl), .val (.int zp), .val (.int zn), .val (.ref zo), .val (.int zs), .val (.long zq), .second, .val (.int (own_vx zf zn zq)), .val (.long (zf.toInt64)), .second, .val (.long ((zf.toInt64) + (zn.toInt64))), .second, .val (.int (-1 : Int32)), .val (.int (1 : Int32)), .val (.int zv)] [(.int zv), (.ref zo), (.ref zo)])) rfl (by rw [hml]; rfl) (Steps.refl _) (argsL := [(.int zv)]) (rest := [(.ref zo)]) (lenOf own_pd81838 rfl) rfl (by show 2 * 0 + _ ≤ _; exact Nat.le_of_eq rfl) (hb hby at_184) (fun _ _ => ⟨rfl, eq64, (by decide : 4 + 0 ≤ _), (by decide : 6 + 0 ≤ _)⟩)
          dsimp only [Pt.U, Pt.locs, Pt.cells, Pt.slots] at X69 l69 y69 z69 st69 hQ69
          subst l69 y69 z69
          obtain ⟨rfl, N69q, eq69⟩ := hQ69
          have N69 := Fr.app N64 N69q
          refine own_tr st69 ?_
          show own_WP _ _ _ _ T69 (mkF m 187 #[.val (.int zc), .val (.int zf), .val (.long zr), .second, .val (.int zd), .val (.int zl), .val (.int zp), .val (.int zn), .val (.ref zo), .val (.int zs), .val (.long zq), .second, .val (.int (own_vx zf zn zq)), .val (.long (zf.toInt64)), .second, .val (.long ((zf.toInt64) + (zn.toInt64))), .second, .val (.int (-1 : Int32)), .val (.int (1 : Int32)), .val (.int zv)] [(.long ((zv.toInt64) + (zf.toInt64))), (.ref zo)])
          obtain ⟨cq70, kq70, q70a, q70b, q70c⟩ := isOf hZ eq69 f58
          obtain ⟨_, _, ⟨T70, L70, k70, n70⟩, -, X70, ⟨Lc70, hQ70, l70, y70, z70⟩, st70⟩ := X69.virtualBack hx (y := (⟨"branchwork/Graph", "vertex", "(J)I"⟩ : MethodName)) (z := (⟨"branchwork/Graph", "vertex", "(J)I"⟩ : MethodName)) hown (mvT hZ (hw _ (List.mem_of_getElem? (i := 24) rfl))) (mvT hZ (hw _ (List.mem_of_getElem? (i := 25) rfl))) (notFace_of_selects (args := #[]) (mvT hZ (hw _ (List.mem_of_getElem? (i := 27) rfl)))) (mvT hZ (hw _ (List.mem_of_getElem? (i := 27) rfl))) (mvT hZ (hw _ (List.mem_of_getElem? (i := 26) rfl))) (by decide) (backOf (W := 0) (rm3 l Z a0 hw [] zo ((zv.toInt64) + (zf.toInt64)) zn zf h57 n0 (own_le Z0 K57j) f62 f63) hZ (hw _ (List.mem_of_getElem? (i := 28) rfl)) (hw _ (List.mem_of_getElem? (i := 3) rfl)) (by decide) (by decide)) q70a q70c (g := (mkF m 187 #[.val (.int zc), .val (.int zf), .val (.long zr), .second, .val (.int zd), .val (.int zl), .val (.int zp), .val (.int zn), .val (.ref zo), .val (.int zs), .val (.long zq), .second, .val (.int (own_vx zf zn zq)), .val (.long (zf.toInt64)), .second, .val (.long ((zf.toInt64) + (zn.toInt64))), .second, .val (.int (-1 : Int32)), .val (.int (1 : Int32)), .val (.int zv)] [(.long ((zv.toInt64) + (zf.toInt64))), (.ref zo)])) rfl (by rw [hml]; rfl) (Steps.refl _) (argsL := [(.long ((zv.toInt64) + (zf.toInt64)))]) (rest := []) (lenOf own_pd98998 rfl) rfl (by show 2 * 0 + _ ≤ _; exact Nat.le_of_eq rfl) (hb hby at_187) (fun _ _ => ⟨rfl, eq69, (by decide : 4 + 0 ≤ _), (by decide : 6 + 0 ≤ _)⟩)
          dsimp only [Pt.U, Pt.locs, Pt.cells, Pt.slots] at X70 l70 y70 z70 st70 hQ70
          subst l70 y70 z70
          obtain ⟨rfl, N70q, eq70⟩ := hQ70
          have N70 := Fr.app N69 N70q
          refine own_tr st70 ?_
          show own_WP _ _ _ _ T70 (mkF m 190 #[.val (.int zc), .val (.int zf), .val (.long zr), .second, .val (.int zd), .val (.int zl), .val (.int zp), .val (.int zn), .val (.ref zo), .val (.int zs), .val (.long zq), .second, .val (.int (own_vx zf zn zq)), .val (.long (zf.toInt64)), .second, .val (.long ((zf.toInt64) + (zn.toInt64))), .second, .val (.int (-1 : Int32)), .val (.int (1 : Int32)), .val (.int zv)] [(.int (own_vx zf zn ((zv.toInt64) + (zf.toInt64))))])
          refine own_go (fun t k => XS.iload X70.here hx rfl (hb hby at_190) rfl  k) ?_
          show own_WP _ _ _ _ T70 (mkF m 192 #[.val (.int zc), .val (.int zf), .val (.long zr), .second, .val (.int zd), .val (.int zl), .val (.int zp), .val (.int zn), .val (.ref zo), .val (.int zs), .val (.long zq), .second, .val (.int (own_vx zf zn zq)), .val (.long (zf.toInt64)), .second, .val (.long ((zf.toInt64) + (zn.toInt64))), .second, .val (.int (-1 : Int32)), .val (.int (1 : Int32)), .val (.int zv)] [(.int zv), (.int (own_vx zf zn ((zv.toInt64) + (zf.toInt64))))])
          have hc192 : (own_vx zf zn ((zv.toInt64) + (zf.toInt64))) = zv := by
            have q := own_pick zp zn hc160
            rw [d_zv] at q
            exact own_vxn zf zn zv q.1 q.2
          refine own_go (fun t k => XS.icmpNo X70.here hx rfl (hb hby at_192) rfl (teq hc192).2 k) ?_
          show own_WP _ _ _ _ T70 (mkF m 195 #[.val (.int zc), .val (.int zf), .val (.long zr), .second, .val (.int zd), .val (.int zl), .val (.int zp), .val (.int zn), .val (.ref zo), .val (.int zs), .val (.long zq), .second, .val (.int (own_vx zf zn zq)), .val (.long (zf.toInt64)), .second, .val (.long ((zf.toInt64) + (zn.toInt64))), .second, .val (.int (-1 : Int32)), .val (.int (1 : Int32)), .val (.int zv)] [])
          refine own_go (fun t k => XS.iconst X70.here hx rfl (hb hby at_195) k) ?_
          show own_WP _ _ _ _ T70 (mkF m 196 #[.val (.int zc), .val (.int zf), .val (.long zr), .second, .val (.int zd), .val (.int zl), .val (.int zp), .val (.int zn), .val (.ref zo), .val (.int zs), .val (.long zq), .second, .val (.int (own_vx zf zn zq)), .val (.long (zf.toInt64)), .second, .val (.long ((zf.toInt64) + (zn.toInt64))), .second, .val (.int (-1 : Int32)), .val (.int (1 : Int32)), .val (.int zv)] [(.int (1 : Int32))])
          refine own_go (fun t k => XS.goto X70.here hx rfl (pc0 := 196) (pc' := 200) rfl (hb hby at_196) (by decide) (by decide) k) ?_
          show own_WP _ _ _ _ T70 (mkF m 200 #[.val (.int zc), .val (.int zf), .val (.long zr), .second, .val (.int zd), .val (.int zl), .val (.int zp), .val (.int zn), .val (.ref zo), .val (.int zs), .val (.long zq), .second, .val (.int (own_vx zf zn zq)), .val (.long (zf.toInt64)), .second, .val (.long ((zf.toInt64) + (zn.toInt64))), .second, .val (.int (-1 : Int32)), .val (.int (1 : Int32)), .val (.int zv)] [(.int (1 : Int32))])
          refine own_go (fun t k => XS.istore X70.here hx rfl (hb hby at_200) rfl (l' := #[.val (.int zc), .val (.int zf), .val (.long zr), .second, .val (.int zd), .val (.int zl), .val (.int zp), .val (.int zn), .val (.ref zo), .val (.int zs), .val (.long zq), .second, .val (.int (own_vx zf zn zq)), .val (.long (zf.toInt64)), .second, .val (.long ((zf.toInt64) + (zn.toInt64))), .second, .val (.int (-1 : Int32)), .val (.int (1 : Int32)), .val (.int zv)]) rfl k) ?_
          show own_WP _ _ _ _ T70 (mkF m 202 #[.val (.int zc), .val (.int zf), .val (.long zr), .second, .val (.int zd), .val (.int zl), .val (.int zp), .val (.int zn), .val (.ref zo), .val (.int zs), .val (.long zq), .second, .val (.int (own_vx zf zn zq)), .val (.long (zf.toInt64)), .second, .val (.long ((zf.toInt64) + (zn.toInt64))), .second, .val (.int (-1 : Int32)), .val (.int (1 : Int32)), .val (.int zv)] [])
          refine own_go (fun t k => XS.iload X70.here hx rfl (hb hby at_202) rfl  k) ?_
          show own_WP _ _ _ _ T70 (mkF m 204 #[.val (.int zc), .val (.int zf), .val (.long zr), .second, .val (.int zd), .val (.int zl), .val (.int zp), .val (.int zn), .val (.ref zo), .val (.int zs), .val (.long zq), .second, .val (.int (own_vx zf zn zq)), .val (.long (zf.toInt64)), .second, .val (.long ((zf.toInt64) + (zn.toInt64))), .second, .val (.int (-1 : Int32)), .val (.int (1 : Int32)), .val (.int zv)] [(.int (1 : Int32))])
          refine own_retN X70 hx Bd.notSynchronized (t := .boolean) (by simp) Bd.returns (hb hby at_204) (by decide) (by decide) ?_
          rw [eq70]
          exact ⟨rfl, N70⟩
        · refine own_go (fun t k => XS.ifYes X64.here hx rfl (pc0 := 160) (pc' := 202) rfl (hb hby at_160) rfl ((if0 _ _).trans (flt hc160).2.2.2) (by decide) (by decide) k) ?_
          show own_WP _ _ _ _ T64 (mkF m 202 #[.val (.int zc), .val (.int zf), .val (.long zr), .second, .val (.int zd), .val (.int zl), .val (.int zp), .val (.int zn), .val (.ref zo), .val (.int zs), .val (.long zq), .second, .val (.int (own_vx zf zn zq)), .val (.long (zf.toInt64)), .second, .val (.long ((zf.toInt64) + (zn.toInt64))), .second, .val (.int (-1 : Int32)), .val (.int (1 : Int32)), .unset] [])
          refine own_go (fun t k => XS.iload X64.here hx rfl (hb hby at_202) rfl  k) ?_
          show own_WP _ _ _ _ T64 (mkF m 204 #[.val (.int zc), .val (.int zf), .val (.long zr), .second, .val (.int zd), .val (.int zl), .val (.int zp), .val (.int zn), .val (.ref zo), .val (.int zs), .val (.long zq), .second, .val (.int (own_vx zf zn zq)), .val (.long (zf.toInt64)), .second, .val (.long ((zf.toInt64) + (zn.toInt64))), .second, .val (.int (-1 : Int32)), .val (.int (1 : Int32)), .unset] [(.int (1 : Int32))])
          refine own_retN X64 hx Bd.notSynchronized (t := .boolean) (by simp) Bd.returns (hb hby at_204) (by decide) (by decide) ?_
          rw [eq64]
          exact ⟨rfl, N64⟩
  show own_WP _ _ _ _ T42 (mkF m 34 #[.val (.int zc), .val (.int zf), .val (.long zr), .second, .val (.int zd), .val (.int zl), .val (.int zp), .val (.int zn), .val (.ref zo), .val (.int zs), .unset, .unset, .unset, .unset, .unset, .unset, .unset, .unset, .unset, .unset] [])
  refine own_go (fun t k => XS.iload X42.here hx rfl (hb hby at_34) rfl  k) ?_
  show own_WP _ _ _ _ T42 (mkF m 36 #[.val (.int zc), .val (.int zf), .val (.long zr), .second, .val (.int zd), .val (.int zl), .val (.int zp), .val (.int zn), .val (.ref zo), .val (.int zs), .unset, .unset, .unset, .unset, .unset, .unset, .unset, .unset, .unset, .unset] [(.int zs)])
  by_cases hc36 : zs = (0 : Int32)
  · refine own_go (fun t k => XS.ifNo X42.here hx rfl (hb hby at_36) rfl ((if0 _ _).trans (teq hc36).2) k) ?_
    show own_WP _ _ _ _ T42 (mkF m 39 #[.val (.int zc), .val (.int zf), .val (.long zr), .second, .val (.int zd), .val (.int zl), .val (.int zp), .val (.int zn), .val (.ref zo), .val (.int zs), .unset, .unset, .unset, .unset, .unset, .unset, .unset, .unset, .unset, .unset] [])
    refine own_go (fun t k => XS.lloadN X42.here hx rfl (hb hby at_39) rfl  k) ?_
    show own_WP _ _ _ _ T42 (mkF m 40 #[.val (.int zc), .val (.int zf), .val (.long zr), .second, .val (.int zd), .val (.int zl), .val (.int zp), .val (.int zn), .val (.ref zo), .val (.int zs), .unset, .unset, .unset, .unset, .unset, .unset, .unset, .unset, .unset, .unset] [(.long zr)])
    refine own_go (fun t k => XS.lstore X42.here hx rfl (hb hby at_40) rfl (l' := #[.val (.int zc), .val (.int zf), .val (.long zr), .second, .val (.int zd), .val (.int zl), .val (.int zp), .val (.int zn), .val (.ref zo), .val (.int zs), .val (.long zr), .second, .unset, .unset, .unset, .unset, .unset, .unset, .unset, .unset]) rfl k) ?_
    show own_WP _ _ _ _ T42 (mkF m 42 #[.val (.int zc), .val (.int zf), .val (.long zr), .second, .val (.int zd), .val (.int zl), .val (.int zp), .val (.int zn), .val (.ref zo), .val (.int zs), .val (.long zr), .second, .unset, .unset, .unset, .unset, .unset, .unset, .unset, .unset] [])
    refine own_go (fun t k => XS.goto X42.here hx rfl (pc0 := 42) (pc' := 95) rfl (hb hby at_42) (by decide) (by decide) k) ?_
    show own_WP _ _ _ _ T42 (mkF m 95 #[.val (.int zc), .val (.int zf), .val (.long zr), .second, .val (.int zd), .val (.int zl), .val (.int zp), .val (.int zn), .val (.ref zo), .val (.int zs), .val (.long zr), .second, .unset, .unset, .unset, .unset, .unset, .unset, .unset, .unset] [])
    exact J95 zr _ _ _ X42 rfl N42 K56 f43 f53 f54 f55 f44 f45 
  · refine own_go (fun t k => XS.ifYes X42.here hx rfl (pc0 := 36) (pc' := 45) rfl (hb hby at_36) rfl ((if0 _ _).trans (feq hc36).2) (by decide) (by decide) k) ?_
    show own_WP _ _ _ _ T42 (mkF m 45 #[.val (.int zc), .val (.int zf), .val (.long zr), .second, .val (.int zd), .val (.int zl), .val (.int zp), .val (.int zn), .val (.ref zo), .val (.int zs), .unset, .unset, .unset, .unset, .unset, .unset, .unset, .unset, .unset, .unset] [])
    refine own_go (fun t k => XS.iload X42.here hx rfl (hb hby at_45) rfl  k) ?_
    show own_WP _ _ _ _ T42 (mkF m 47 #[.val (.int zc), .val (.int zf), .val (.long zr), .second, .val (.int zd), .val (.int zl), .val (.int zp), .val (.int zn), .val (.ref zo), .val (.int zs), .unset, .unset, .unset, .unset, .unset, .unset, .unset, .unset, .unset, .unset] [(.int zs)])
    refine own_go (fun t k => XS.iconst X42.here hx rfl (hb hby at_47) k) ?_
    show own_WP _ _ _ _ T42 (mkF m 48 #[.val (.int zc), .val (.int zf), .val (.long zr), .second, .val (.int zd), .val (.int zl), .val (.int zp), .val (.int zn), .val (.ref zo), .val (.int zs), .unset, .unset, .unset, .unset, .unset, .unset, .unset, .unset, .unset, .unset] [(.int (1 : Int32)), (.int zs)])
    by_cases hc48 : zs = (1 : Int32)
    · refine own_go (fun t k => XS.icmpNo X42.here hx rfl (hb hby at_48) rfl (teq hc48).2 k) ?_
      show own_WP _ _ _ _ T42 (mkF m 51 #[.val (.int zc), .val (.int zf), .val (.long zr), .second, .val (.int zd), .val (.int zl), .val (.int zp), .val (.int zn), .val (.ref zo), .val (.int zs), .unset, .unset, .unset, .unset, .unset, .unset, .unset, .unset, .unset, .unset] [])
      refine own_go (fun t k => XS.iloadN X42.here hx rfl (hb hby at_51) rfl  k) ?_
      show own_WP _ _ _ _ T42 (mkF m 52 #[.val (.int zc), .val (.int zf), .val (.long zr), .second, .val (.int zd), .val (.int zl), .val (.int zp), .val (.int zn), .val (.ref zo), .val (.int zs), .unset, .unset, .unset, .unset, .unset, .unset, .unset, .unset, .unset, .unset] [(.int zf)])
      refine own_go (fun t k => XS.i2l X42.here hx rfl (hb hby at_52) rfl k) ?_
      show own_WP _ _ _ _ T42 (mkF m 53 #[.val (.int zc), .val (.int zf), .val (.long zr), .second, .val (.int zd), .val (.int zl), .val (.int zp), .val (.int zn), .val (.ref zo), .val (.int zs), .unset, .unset, .unset, .unset, .unset, .unset, .unset, .unset, .unset, .unset] [(.long (zf.toInt64))])
      refine own_go (fun t k => XS.iload X42.here hx rfl (hb hby at_53) rfl  k) ?_
      show own_WP _ _ _ _ T42 (mkF m 55 #[.val (.int zc), .val (.int zf), .val (.long zr), .second, .val (.int zd), .val (.int zl), .val (.int zp), .val (.int zn), .val (.ref zo), .val (.int zs), .unset, .unset, .unset, .unset, .unset, .unset, .unset, .unset, .unset, .unset] [(.int zd), (.long (zf.toInt64))])
      refine own_go (fun t k => XS.iconst X42.here hx rfl (hb hby at_55) k) ?_
      show own_WP _ _ _ _ T42 (mkF m 56 #[.val (.int zc), .val (.int zf), .val (.long zr), .second, .val (.int zd), .val (.int zl), .val (.int zp), .val (.int zn), .val (.ref zo), .val (.int zs), .unset, .unset, .unset, .unset, .unset, .unset, .unset, .unset, .unset, .unset] [(.int (4 : Int32)), (.int zd), (.long (zf.toInt64))])
      have hnz56 : (4 : Int32) ≠ 0 := by decide
      refine own_go (fun t k => iremM X42 hx rfl (hb hby at_56) rfl hnz56 k) ?_
      show own_WP _ _ _ _ T42 (mkF m 57 #[.val (.int zc), .val (.int zf), .val (.long zr), .second, .val (.int zd), .val (.int zl), .val (.int zp), .val (.int zn), .val (.ref zo), .val (.int zs), .unset, .unset, .unset, .unset, .unset, .unset, .unset, .unset, .unset, .unset] [(.int (zd % (4 : Int32))), (.long (zf.toInt64))])
      refine own_go (fun t k => XS.i2l X42.here hx rfl (hb hby at_57) rfl k) ?_
      show own_WP _ _ _ _ T42 (mkF m 58 #[.val (.int zc), .val (.int zf), .val (.long zr), .second, .val (.int zd), .val (.int zl), .val (.int zp), .val (.int zn), .val (.ref zo), .val (.int zs), .unset, .unset, .unset, .unset, .unset, .unset, .unset, .unset, .unset, .unset] [(.long ((zd % (4 : Int32)).toInt64)), (.long (zf.toInt64))])
      refine own_go (fun t k => XS.ladd X42.here hx rfl (hb hby at_58) rfl k) ?_
      show own_WP _ _ _ _ T42 (mkF m 59 #[.val (.int zc), .val (.int zf), .val (.long zr), .second, .val (.int zd), .val (.int zl), .val (.int zp), .val (.int zn), .val (.ref zo), .val (.int zs), .unset, .unset, .unset, .unset, .unset, .unset, .unset, .unset, .unset, .unset] [(.long ((zf.toInt64) + ((zd % (4 : Int32)).toInt64)))])
      refine own_go (fun t k => XS.lstore X42.here hx rfl (hb hby at_59) rfl (l' := #[.val (.int zc), .val (.int zf), .val (.long zr), .second, .val (.int zd), .val (.int zl), .val (.int zp), .val (.int zn), .val (.ref zo), .val (.int zs), .val (.long ((zf.toInt64) + ((zd % (4 : Int32)).toInt64))), .second, .unset, .unset, .unset, .unset, .unset, .unset, .unset, .unset]) rfl k) ?_
      show own_WP _ _ _ _ T42 (mkF m 61 #[.val (.int zc), .val (.int zf), .val (.long zr), .second, .val (.int zd), .val (.int zl), .val (.int zp), .val (.int zn), .val (.ref zo), .val (.int zs), .val (.long ((zf.toInt64) + ((zd % (4 : Int32)).toInt64))), .second, .unset, .unset, .unset, .unset, .unset, .unset, .unset, .unset] [])
      refine own_go (fun t k => XS.goto X42.here hx rfl (pc0 := 61) (pc' := 95) rfl (hb hby at_61) (by decide) (by decide) k) ?_
      show own_WP _ _ _ _ T42 (mkF m 95 #[.val (.int zc), .val (.int zf), .val (.long zr), .second, .val (.int zd), .val (.int zl), .val (.int zp), .val (.int zn), .val (.ref zo), .val (.int zs), .val (.long ((zf.toInt64) + ((zd % (4 : Int32)).toInt64))), .second, .unset, .unset, .unset, .unset, .unset, .unset, .unset, .unset] [])
      exact J95 (((zf.toInt64) + ((zd % (4 : Int32)).toInt64))) _ _ _ X42 rfl N42 K56 f43 f53 f54 f55 f44 f45 
    · refine own_go (fun t k => XS.icmpYes X42.here hx rfl (pc0 := 48) (pc' := 64) rfl (hb hby at_48) rfl (feq hc48).2 (by decide) (by decide) k) ?_
      show own_WP _ _ _ _ T42 (mkF m 64 #[.val (.int zc), .val (.int zf), .val (.long zr), .second, .val (.int zd), .val (.int zl), .val (.int zp), .val (.int zn), .val (.ref zo), .val (.int zs), .unset, .unset, .unset, .unset, .unset, .unset, .unset, .unset, .unset, .unset] [])
      refine own_go (fun t k => XS.iload X42.here hx rfl (hb hby at_64) rfl  k) ?_
      show own_WP _ _ _ _ T42 (mkF m 66 #[.val (.int zc), .val (.int zf), .val (.long zr), .second, .val (.int zd), .val (.int zl), .val (.int zp), .val (.int zn), .val (.ref zo), .val (.int zs), .unset, .unset, .unset, .unset, .unset, .unset, .unset, .unset, .unset, .unset] [(.int zs)])
      refine own_go (fun t k => XS.iconst X42.here hx rfl (hb hby at_66) k) ?_
      show own_WP _ _ _ _ T42 (mkF m 67 #[.val (.int zc), .val (.int zf), .val (.long zr), .second, .val (.int zd), .val (.int zl), .val (.int zp), .val (.int zn), .val (.ref zo), .val (.int zs), .unset, .unset, .unset, .unset, .unset, .unset, .unset, .unset, .unset, .unset] [(.int (2 : Int32)), (.int zs)])
      by_cases hc67 : zs = (2 : Int32)
      · refine own_go (fun t k => XS.icmpNo X42.here hx rfl (hb hby at_67) rfl (teq hc67).2 k) ?_
        show own_WP _ _ _ _ T42 (mkF m 70 #[.val (.int zc), .val (.int zf), .val (.long zr), .second, .val (.int zd), .val (.int zl), .val (.int zp), .val (.int zn), .val (.ref zo), .val (.int zs), .unset, .unset, .unset, .unset, .unset, .unset, .unset, .unset, .unset, .unset] [])
        refine own_go (fun t k => XS.iloadN X42.here hx rfl (hb hby at_70) rfl  k) ?_
        show own_WP _ _ _ _ T42 (mkF m 71 #[.val (.int zc), .val (.int zf), .val (.long zr), .second, .val (.int zd), .val (.int zl), .val (.int zp), .val (.int zn), .val (.ref zo), .val (.int zs), .unset, .unset, .unset, .unset, .unset, .unset, .unset, .unset, .unset, .unset] [(.int zf)])
        refine own_go (fun t k => XS.i2l X42.here hx rfl (hb hby at_71) rfl k) ?_
        show own_WP _ _ _ _ T42 (mkF m 72 #[.val (.int zc), .val (.int zf), .val (.long zr), .second, .val (.int zd), .val (.int zl), .val (.int zp), .val (.int zn), .val (.ref zo), .val (.int zs), .unset, .unset, .unset, .unset, .unset, .unset, .unset, .unset, .unset, .unset] [(.long (zf.toInt64))])
        refine own_go (fun t k => XS.iload X42.here hx rfl (hb hby at_72) rfl  k) ?_
        show own_WP _ _ _ _ T42 (mkF m 74 #[.val (.int zc), .val (.int zf), .val (.long zr), .second, .val (.int zd), .val (.int zl), .val (.int zp), .val (.int zn), .val (.ref zo), .val (.int zs), .unset, .unset, .unset, .unset, .unset, .unset, .unset, .unset, .unset, .unset] [(.int zn), (.long (zf.toInt64))])
        refine own_go (fun t k => XS.i2l X42.here hx rfl (hb hby at_74) rfl k) ?_
        show own_WP _ _ _ _ T42 (mkF m 75 #[.val (.int zc), .val (.int zf), .val (.long zr), .second, .val (.int zd), .val (.int zl), .val (.int zp), .val (.int zn), .val (.ref zo), .val (.int zs), .unset, .unset, .unset, .unset, .unset, .unset, .unset, .unset, .unset, .unset] [(.long (zn.toInt64)), (.long (zf.toInt64))])
        refine own_go (fun t k => XS.ladd X42.here hx rfl (hb hby at_75) rfl k) ?_
        show own_WP _ _ _ _ T42 (mkF m 76 #[.val (.int zc), .val (.int zf), .val (.long zr), .second, .val (.int zd), .val (.int zl), .val (.int zp), .val (.int zn), .val (.ref zo), .val (.int zs), .unset, .unset, .unset, .unset, .unset, .unset, .unset, .unset, .unset, .unset] [(.long ((zf.toInt64) + (zn.toInt64)))])
        refine own_go (fun t k => XS.iload X42.here hx rfl (hb hby at_76) rfl  k) ?_
        show own_WP _ _ _ _ T42 (mkF m 78 #[.val (.int zc), .val (.int zf), .val (.long zr), .second, .val (.int zd), .val (.int zl), .val (.int zp), .val (.int zn), .val (.ref zo), .val (.int zs), .unset, .unset, .unset, .unset, .unset, .unset, .unset, .unset, .unset, .unset] [(.int zd), (.long ((zf.toInt64) + (zn.toInt64)))])
        refine own_go (fun t k => XS.iconst X42.here hx rfl (hb hby at_78) k) ?_
        show own_WP _ _ _ _ T42 (mkF m 79 #[.val (.int zc), .val (.int zf), .val (.long zr), .second, .val (.int zd), .val (.int zl), .val (.int zp), .val (.int zn), .val (.ref zo), .val (.int zs), .unset, .unset, .unset, .unset, .unset, .unset, .unset, .unset, .unset, .unset] [(.int (4 : Int32)), (.int zd), (.long ((zf.toInt64) + (zn.toInt64)))])
        have hnz79 : (4 : Int32) ≠ 0 := by decide
        refine own_go (fun t k => iremM X42 hx rfl (hb hby at_79) rfl hnz79 k) ?_
        show own_WP _ _ _ _ T42 (mkF m 80 #[.val (.int zc), .val (.int zf), .val (.long zr), .second, .val (.int zd), .val (.int zl), .val (.int zp), .val (.int zn), .val (.ref zo), .val (.int zs), .unset, .unset, .unset, .unset, .unset, .unset, .unset, .unset, .unset, .unset] [(.int (zd % (4 : Int32))), (.long ((zf.toInt64) + (zn.toInt64)))])
        refine own_go (fun t k => XS.i2l X42.here hx rfl (hb hby at_80) rfl k) ?_
        show own_WP _ _ _ _ T42 (mkF m 81 #[.val (.int zc), .val (.int zf), .val (.long zr), .second, .val (.int zd), .val (.int zl), .val (.int zp), .val (.int zn), .val (.ref zo), .val (.int zs), .unset, .unset, .unset, .unset, .unset, .unset, .unset, .unset, .unset, .unset] [(.long ((zd % (4 : Int32)).toInt64)), (.long ((zf.toInt64) + (zn.toInt64)))])
        refine own_go (fun t k => XS.ladd X42.here hx rfl (hb hby at_81) rfl k) ?_
        show own_WP _ _ _ _ T42 (mkF m 82 #[.val (.int zc), .val (.int zf), .val (.long zr), .second, .val (.int zd), .val (.int zl), .val (.int zp), .val (.int zn), .val (.ref zo), .val (.int zs), .unset, .unset, .unset, .unset, .unset, .unset, .unset, .unset, .unset, .unset] [(.long (((zf.toInt64) + (zn.toInt64)) + ((zd % (4 : Int32)).toInt64)))])
        refine own_go (fun t k => XS.lstore X42.here hx rfl (hb hby at_82) rfl (l' := #[.val (.int zc), .val (.int zf), .val (.long zr), .second, .val (.int zd), .val (.int zl), .val (.int zp), .val (.int zn), .val (.ref zo), .val (.int zs), .val (.long (((zf.toInt64) + (zn.toInt64)) + ((zd % (4 : Int32)).toInt64))), .second, .unset, .unset, .unset, .unset, .unset, .unset, .unset, .unset]) rfl k) ?_
        show own_WP _ _ _ _ T42 (mkF m 84 #[.val (.int zc), .val (.int zf), .val (.long zr), .second, .val (.int zd), .val (.int zl), .val (.int zp), .val (.int zn), .val (.ref zo), .val (.int zs), .val (.long (((zf.toInt64) + (zn.toInt64)) + ((zd % (4 : Int32)).toInt64))), .second, .unset, .unset, .unset, .unset, .unset, .unset, .unset, .unset] [])
        refine own_go (fun t k => XS.goto X42.here hx rfl (pc0 := 84) (pc' := 95) rfl (hb hby at_84) (by decide) (by decide) k) ?_
        show own_WP _ _ _ _ T42 (mkF m 95 #[.val (.int zc), .val (.int zf), .val (.long zr), .second, .val (.int zd), .val (.int zl), .val (.int zp), .val (.int zn), .val (.ref zo), .val (.int zs), .val (.long (((zf.toInt64) + (zn.toInt64)) + ((zd % (4 : Int32)).toInt64))), .second, .unset, .unset, .unset, .unset, .unset, .unset, .unset, .unset] [])
        exact J95 ((((zf.toInt64) + (zn.toInt64)) + ((zd % (4 : Int32)).toInt64))) _ _ _ X42 rfl N42 K56 f43 f53 f54 f55 f44 f45 
      · refine own_go (fun t k => XS.icmpYes X42.here hx rfl (pc0 := 67) (pc' := 87) rfl (hb hby at_67) rfl (feq hc67).2 (by decide) (by decide) k) ?_
        show own_WP _ _ _ _ T42 (mkF m 87 #[.val (.int zc), .val (.int zf), .val (.long zr), .second, .val (.int zd), .val (.int zl), .val (.int zp), .val (.int zn), .val (.ref zo), .val (.int zs), .unset, .unset, .unset, .unset, .unset, .unset, .unset, .unset, .unset, .unset] [])
        refine own_go (fun t k => XS.iloadN X42.here hx rfl (hb hby at_87) rfl  k) ?_
        show own_WP _ _ _ _ T42 (mkF m 88 #[.val (.int zc), .val (.int zf), .val (.long zr), .second, .val (.int zd), .val (.int zl), .val (.int zp), .val (.int zn), .val (.ref zo), .val (.int zs), .unset, .unset, .unset, .unset, .unset, .unset, .unset, .unset, .unset, .unset] [(.int zf)])
        refine own_go (fun t k => XS.i2l X42.here hx rfl (hb hby at_88) rfl k) ?_
        show own_WP _ _ _ _ T42 (mkF m 89 #[.val (.int zc), .val (.int zf), .val (.long zr), .second, .val (.int zd), .val (.int zl), .val (.int zp), .val (.int zn), .val (.ref zo), .val (.int zs), .unset, .unset, .unset, .unset, .unset, .unset, .unset, .unset, .unset, .unset] [(.long (zf.toInt64))])
        refine own_go (fun t k => XS.iload X42.here hx rfl (hb hby at_89) rfl  k) ?_
        show own_WP _ _ _ _ T42 (mkF m 91 #[.val (.int zc), .val (.int zf), .val (.long zr), .second, .val (.int zd), .val (.int zl), .val (.int zp), .val (.int zn), .val (.ref zo), .val (.int zs), .unset, .unset, .unset, .unset, .unset, .unset, .unset, .unset, .unset, .unset] [(.int zd), (.long (zf.toInt64))])
        refine own_go (fun t k => XS.i2l X42.here hx rfl (hb hby at_91) rfl k) ?_
        show own_WP _ _ _ _ T42 (mkF m 92 #[.val (.int zc), .val (.int zf), .val (.long zr), .second, .val (.int zd), .val (.int zl), .val (.int zp), .val (.int zn), .val (.ref zo), .val (.int zs), .unset, .unset, .unset, .unset, .unset, .unset, .unset, .unset, .unset, .unset] [(.long (zd.toInt64)), (.long (zf.toInt64))])
        refine own_go (fun t k => XS.ladd X42.here hx rfl (hb hby at_92) rfl k) ?_
        show own_WP _ _ _ _ T42 (mkF m 93 #[.val (.int zc), .val (.int zf), .val (.long zr), .second, .val (.int zd), .val (.int zl), .val (.int zp), .val (.int zn), .val (.ref zo), .val (.int zs), .unset, .unset, .unset, .unset, .unset, .unset, .unset, .unset, .unset, .unset] [(.long ((zf.toInt64) + (zd.toInt64)))])
        refine own_go (fun t k => XS.lstore X42.here hx rfl (hb hby at_93) rfl (l' := #[.val (.int zc), .val (.int zf), .val (.long zr), .second, .val (.int zd), .val (.int zl), .val (.int zp), .val (.int zn), .val (.ref zo), .val (.int zs), .val (.long ((zf.toInt64) + (zd.toInt64))), .second, .unset, .unset, .unset, .unset, .unset, .unset, .unset, .unset]) rfl k) ?_
        show own_WP _ _ _ _ T42 (mkF m 95 #[.val (.int zc), .val (.int zf), .val (.long zr), .second, .val (.int zd), .val (.int zl), .val (.int zp), .val (.int zn), .val (.ref zo), .val (.int zs), .val (.long ((zf.toInt64) + (zd.toInt64))), .second, .unset, .unset, .unset, .unset, .unset, .unset, .unset, .unset] [])
        exact J95 (((zf.toInt64) + (zd.toInt64))) _ _ _ X42 rfl N42 K56 f43 f53 f54 f55 f44 f45 
set_option maxRecDepth 65536 in
set_option maxHeartbeats 40000000 in
theorem comes_1 {Post : Tables → Env → Array Value → State → Outcome → State → Prop} (hpost : ∀ tb e args s v u, (limb_1_1.after args s (.returned v) u = true ∧ limb_1_2.after args s (.returned v) u = true ∧ True) → FrameEnd s (.returned v) u (Jvm.fieldLocs frame_1_writes args s ++ Jvm.arrayLocs frame_1_arrays args s ++ Jvm.staticLocs frame_1_statics s) 16 128 → Post tb e args s (.returned v) u) :
    ArmFor flags0 classFile x code maxLocals ret World_1 tables_1 room_1 Calls_1 rest_1 Pre_1 Post := by
  intro l hfl _ _ p e ha hc hk s m args below hf hA hF happ hP
  obtain ⟨hcalls, hrest, hpre⟩ := hP
  obtain ⟨-, -, -, hnamed, -, -, -, hat⟩ := (Spec.applies_iff hf).mp happ
  obtain ⟨hg, hn⟩ := and_e (Cond.before_iff.mp (show (Jvm.Cond.and given_1 narrow_1).before args s = true from hpre))
  obtain ⟨u0, v0⟩ := and_e hg
  obtain ⟨u1, v1⟩ := and_e v0
  obtain ⟨u2, v2⟩ := and_e v1
  obtain ⟨u3, v3⟩ := and_e v2
  obtain ⟨u4, v4⟩ := and_e v3
  obtain ⟨u5, v5⟩ := and_e v4
  obtain ⟨w0, w1, w2, w3, w4, w5, rfl⟩ : ∃ w0 w1 w2 w3 w4 w5 : Value, args = #[w0, w1, w2, w3, w4, w5] := by
    have hs : args.size = 6 := by simpa [Cond.value, given_1] using u0
    obtain ⟨L⟩ := args
    match L, hs with
    | [w0, w1, w2, w3, w4, w5], _ => exact ⟨w0, w1, w2, w3, w4, w5, rfl⟩
  have hw := fun d (hd : d ∈ tables_1) => atoms_spec (ws := Jvm.Cond.code x code maxLocals ret :: tables_1) hat d (List.mem_cons_of_mem _ hd)
  obtain ⟨i0, ei0⟩ := is_v u1
  obtain rfl : w0 = (.int i0) := Option.some.inj ei0
  obtain ⟨i1, ei1⟩ := is_v u2
  obtain rfl : w1 = (.int i1) := Option.some.inj ei1
  obtain ⟨i2, ei2⟩ := isL_v u3
  obtain rfl : w2 = (.long i2) := Option.some.inj ei2
  obtain ⟨i3, ei3⟩ := is_v u4
  obtain rfl : w3 = (.int i3) := Option.some.inj ei3
  obtain ⟨i4, ei4⟩ := is_v u5
  obtain rfl : w4 = (.int i4) := Option.some.inj ei4
  obtain ⟨i5, ei5⟩ := is_v v5
  obtain rfl : w5 = (.int i5) := Option.some.inj ei5
  obtain ⟨n, o, h1, h2, h3, _, L, rfl, ⟨rfl, N⟩, hq⟩ := rm0 l s _ hw tables_1 i0 i1 i2 i3 i4 i5  s.heap s.heap.size (Nat.le_refl _)  p e ha hc hk s m _ below hf ((Spec.applies_iff_loose hf).mp happ).1 ⟨rfl, State.Warmed39.refl s, rfl⟩ trivial
  refine ⟨n, _, h1, h2, h3, hpost _ _ _ _ _ _ ⟨Cond.after_iff.mpr rfl, Cond.after_iff.mpr (eq_i res_at (Term.int_eval (1)) rfl), trivial⟩ ⟨hq.1, hq.2.1, (hq.2.2.sift fun y hy => Or.inr (N y hy)).mono (by decide) (by decide)⟩⟩
theorem main_1_1 : Claimed_1_1 := comes_1 fun _ _ _ _ _ _ h hF => ⟨h.1, hF⟩
theorem main_1_2 : Claimed_1_2 := comes_1 fun _ _ _ _ _ _ h hF => ⟨h.2.1, hF⟩
end Jvm.Pilot.@@N@@
namespace Jvm.Pilot.@@N@@
open Jvm Jvm.ClassFile Sem Op Lib Jvm.Free Jvm.Stand Jvm.Pilot.@@N@@.Jvm.D
/-! MADE BY PROGRAM (witnessworld.py) out of the Statement's table words and the real class files: 11 classes; the members and pool entries that the words name. The judged class is class 1, her method 1. -/
namespace start1
open Jvm.ClassFile
def u (s : String) : CpInfo := .utf8 (stringToUtf16 s)
/-- a pool by its gaps: so many unusable entries, then the entry; so many at the end -/
def gap : Nat → List CpInfo → List CpInfo
  | 0, r => r
  | n + 1, r => .unusable :: gap n r
def poolList (es : List (Nat × CpInfo)) (last : Nat) : List CpInfo := es.foldr (fun e r => gap e.1 (e.2 :: r)) (gap last [])
def pool (es : List (Nat × CpInfo)) (last : Nat) : Array CpInfo := ⟨poolList es last⟩
def fileOf (pool : Array CpInfo) (this : Nat) (attrs : Array Attribute := #[]) (ms : Array MethodInfo := #[]) (fl : Nat := 33) (sup : Nat := 0) (ifs : Array Nat := #[]) (fds : Array FieldInfo := #[]) : ClassFile where
  minorVersion := 0
  majorVersion := 65
  constantPool := pool
  accessFlags := fl
  thisClass := this
  superClass := sup
  interfaces := ifs
  fields := fds
  methods := ms
  attributes := attrs
def plain (name : String) (sup : Option ClassId) : Class where
  name := name
  kind := .ordinary
  loader := none
  accessFlags := 33
  super := sup
  interfaces := #[]
  cf := none
  fields := #[]
  methods := #[]
  instanceTypes := #[]
  staticTypes := #[]
  resolved := #[]
  callSites := []
  init := .initialized
  statics := none
  mirror := none

def pool0 : Array CpInfo := pool [(5, u "<init>"), (0, u "()V"), (1, .class_ 10), (1, u "java/lang/Object")] 113

def k0c0 : Code := { maxStack := 0, maxLocals := 1, code := object_method_1_code, exceptionTable := #[], attributes := #[] }
def k0m0 : Method := { name := "<init>", desc := "()V", sig := { parameters := [], returnType := none }, accessFlags := 1, code := some k0c0 }
/-- java/lang/Object -/
def k0 : Class := { plain "java/lang/Object" none with
  accessFlags := 33
  interfaces := #[]
  cf := some (fileOf pool0 8 #[] #[{ accessFlags := 1, nameIndex := 5, descriptorIndex := 6, attributes := #[] }] 33 0 #[] #[])
  fields := #[]
  methods := #[k0m0]
  instanceTypes := #[]
  staticTypes := #[]
  resolved := Array.replicate 124 none
  statics := none }

def pool1 : Array CpInfo := pool [(2, .class_ 4), (1, u "java/lang/Object"), (0, u "<init>"), (0, u "()V"), (0, .integer 2147483647), (0, .class_ 9), (0, u "branchwork/Graph"), (0, .methodref 8 11), (0, .nameAndType 5 12), (0, u "(I[I[I[JII)V"), (0, .methodref 8 14), (0, .nameAndType 15 16), (0, u "vertex"), (0, u "(J)I"), (0, .methodref 8 18), (0, .nameAndType 19 20), (0, u "number"), (0, u "(I)J"), (0, .class_ 22), (0, u "branchwork/GraphVertexPinLaw"), (2, u "law"), (0, u "(IIJIII)Z")] 3

def k1m0 : Method := { name := "<init>", desc := "()V", sig := { parameters := [], returnType := none }, accessFlags := 2, code := none }
def k1c1 : Code := { maxStack := 8, maxLocals := 20, code := code, exceptionTable := #[], attributes := #[] }
def k1m1 : Method := { name := "law", desc := "(IIJIII)Z", sig := { parameters := [.int, .int, .long, .int, .int, .int], returnType := some .boolean }, accessFlags := 9, code := some k1c1 }
/-- branchwork/GraphVertexPinLaw -/
def k1 : Class := { plain "branchwork/GraphVertexPinLaw" (some 0) with
  accessFlags := 49
  interfaces := #[]
  cf := some (fileOf pool1 21 #[] #[{ accessFlags := 2, nameIndex := 5, descriptorIndex := 6, attributes := #[] }, { accessFlags := 9, nameIndex := 25, descriptorIndex := 26, attributes := #[] }] 49 2 #[] #[])
  fields := #[]
  methods := #[k1m0, k1m1]
  instanceTypes := #[]
  staticTypes := #[]
  resolved := Array.replicate 30 none
  statics := none }

def pool2 : Array CpInfo := pool [(3, .methodref 4 5), (0, .class_ 6), (0, .nameAndType 7 8), (0, u "java/lang/Object"), (0, u "<init>"), (0, u "()V"), (0, .fieldref 10 11), (0, .class_ 12), (0, .nameAndType 13 14), (0, u "branchwork/Graph"), (0, u "vertexCount"), (0, u "I"), (0, .fieldref 10 16), (0, .nameAndType 17 18), (0, u "tails"), (0, u "[I"), (0, .fieldref 10 20), (0, .nameAndType 21 18), (0, u "heads"), (0, .fieldref 10 23), (0, .nameAndType 24 25), (0, u "weights"), (0, u "[J"), (0, .fieldref 10 27), (0, .nameAndType 28 14), (0, u "scale"), (0, .fieldref 10 30), (0, .nameAndType 31 14), (0, u "firstNumber"), (2, u "(I[I[I[JII)V"), (121, u "MAX_ARCS"), (13, u "(I)J"), (4, u "number"), (0, u "vertex"), (0, u "(J)I")] 23

def k2c0 : Code := { maxStack := 2, maxLocals := 7, code := prog_25_method_1_code, exceptionTable := #[], attributes := #[] }
def k2m0 : Method := { name := "<init>", desc := "(I[I[I[JII)V", sig := { parameters := [.int, (.array .int), (.array .int), (.array .long), .int, .int], returnType := none }, accessFlags := 0, code := some k2c0 }
def k2c1 : Code := { maxStack := 4, maxLocals := 2, code := prog_25_method_18_code, exceptionTable := #[], attributes := #[] }
def k2m1 : Method := { name := "number", desc := "(I)J", sig := { parameters := [.int], returnType := some .long }, accessFlags := 1, code := some k2c1 }
def k2c2 : Code := { maxStack := 4, maxLocals := 5, code := prog_25_method_19_code, exceptionTable := #[], attributes := #[] }
def k2m2 : Method := { name := "vertex", desc := "(J)I", sig := { parameters := [.long], returnType := some .int }, accessFlags := 1, code := some k2c2 }
/-- branchwork/Graph -/
def k2 : Class := { plain "branchwork/Graph" (some 0) with
  accessFlags := 49
  interfaces := #[]
  cf := some (fileOf pool2 10 #[] #[{ accessFlags := 0, nameIndex := 7, descriptorIndex := 34, attributes := #[] }, { accessFlags := 1, nameIndex := 175, descriptorIndex := 170, attributes := #[] }, { accessFlags := 1, nameIndex := 176, descriptorIndex := 177, attributes := #[] }] 49 4 #[] #[{ accessFlags := 24, nameIndex := 156, descriptorIndex := 14, attributes := #[] }, { accessFlags := 18, nameIndex := 13, descriptorIndex := 14, attributes := #[] }, { accessFlags := 18, nameIndex := 17, descriptorIndex := 18, attributes := #[] }, { accessFlags := 18, nameIndex := 21, descriptorIndex := 18, attributes := #[] }, { accessFlags := 18, nameIndex := 24, descriptorIndex := 25, attributes := #[] }, { accessFlags := 18, nameIndex := 28, descriptorIndex := 14, attributes := #[] }, { accessFlags := 18, nameIndex := 31, descriptorIndex := 14, attributes := #[] }])
  fields := #[{ name := "MAX_ARCS", type := .int, accessFlags := 24, slot := 0, constantValue := 0 }, { name := "vertexCount", type := .int, accessFlags := 18, slot := 0, constantValue := 0 }, { name := "tails", type := (.array .int), accessFlags := 18, slot := 1, constantValue := 0 }, { name := "heads", type := (.array .int), accessFlags := 18, slot := 2, constantValue := 0 }, { name := "weights", type := (.array .long), accessFlags := 18, slot := 3, constantValue := 0 }, { name := "scale", type := .int, accessFlags := 18, slot := 4, constantValue := 0 }, { name := "firstNumber", type := .int, accessFlags := 18, slot := 5, constantValue := 0 }]
  methods := #[k2m0, k2m1, k2m2]
  instanceTypes := #[.int, (.array .int), (.array .int), (.array .long), .int, .int]
  staticTypes := #[.int]
  resolved := Array.replicate 201 none
  statics := none }

def pool3 : Array CpInfo := pool [(1, u "java/lang/Cloneable"), (0, .class_ 1), (0, u "java/lang/Object"), (0, .class_ 3)] 3

/-- java/lang/Cloneable -/
def k3 : Class := { plain "java/lang/Cloneable" (some 0) with
  accessFlags := 1537
  interfaces := #[]
  cf := some (fileOf pool3 2 #[] #[] 1537 4 #[] #[])
  fields := #[]
  methods := #[]
  instanceTypes := #[]
  staticTypes := #[]
  resolved := Array.replicate 8 none
  statics := none }

def pool4 : Array CpInfo := pool [(1, u "java/io/Serializable"), (0, .class_ 1), (0, u "java/lang/Object"), (0, .class_ 3)] 3

/-- java/io/Serializable -/
def k4 : Class := { plain "java/io/Serializable" (some 0) with
  accessFlags := 1537
  interfaces := #[]
  cf := some (fileOf pool4 2 #[] #[] 1537 4 #[] #[])
  fields := #[]
  methods := #[]
  instanceTypes := #[]
  staticTypes := #[]
  resolved := Array.replicate 8 none
  statics := none }

/-- the primitive byte -/
def k5 : Class := { plain "byte" none with kind := .primitive 'B', accessFlags := 0x411 }
/-- [B -/
def k6 : Class := { plain "[B" (some 0) with kind := .array 5 .byte, interfaces := #[3, 4], accessFlags := 1041 }

/-- the primitive int -/
def k7 : Class := { plain "int" none with kind := .primitive 'I', accessFlags := 0x411 }
/-- [I -/
def k8 : Class := { plain "[I" (some 0) with kind := .array 7 .int, interfaces := #[3, 4], accessFlags := 1041 }

/-- the primitive long -/
def k9 : Class := { plain "long" none with kind := .primitive 'J', accessFlags := 0x411 }
/-- [J -/
def k10 : Class := { plain "[J" (some 0) with kind := .array 9 .long, interfaces := #[3, 4], accessFlags := 1041 }

def heap : Heap := #[]
def classes : Array Class := #[k0, k1, k2, k3, k4, k5, k6, k7, k8, k9, k10]
def interned : List (Array UInt16 × Addr) := []
def slotsUsed : Nat := 0
def theMethod : MethodId := ⟨1, 1⟩
def args0 : Array Value := #[.int 5, .int 4, .long 3, .int 3, .int 2, .int 1]
def aboutOver (below : List Frame) : State where
  vm := { classes := classes, interned := interned.toArray }
  heap := heap
  slotsUsed := slotsUsed
  threads := #[{ frames := .invoking theMethod args0 :: below }]
def below0 : List Frame := [.native { method := ⟨0, 0⟩, args := #[] }]
def about1 : State := aboutOver below0
def p0 : Program := .bare "" "" ""
def e0 : Env := launch0.env 0 0 0
theorem w_frames : about1.frames = Frame.invoking theMethod args0 :: below0 := rfl
set_option maxRecDepth 65536 in
theorem w_args : argsFit about1.vm theMethod args0 = true := by decide +kernel
set_option maxRecDepth 65536 in
theorem w_heap : heapFits about1 = true := by decide +kernel
set_option maxRecDepth 65536 in
theorem w_runnable : about1.curStatus? = some .runnable := by decide +kernel
set_option maxRecDepth 65536 in
theorem w_alone : about1.alone = true := by decide +kernel
set_option maxRecDepth 65536 in
theorem w_named : about1.methodNamed? x = some theMethod := by decide +kernel
set_option maxRecDepth 65536 in
theorem w_hears : about1.hears theMethod below0 = true := by decide +kernel
set_option maxRecDepth 65536 in
theorem w_ripe : about1.ripe theMethod args0 below0 = true := by decide +kernel
theorem w_running : about1.status = .running := rfl
set_option maxRecDepth 65536 in
theorem w_room : about1.hasRoom e0.platform room_1 = true :=
  launch0.hasRoom_least _ room_1 (by decide +kernel) (by decide +kernel) (by decide +kernel) (by decide +kernel) (by decide +kernel) (by decide +kernel)
theorem allAtoms_all (ts : List Jvm.Cond) (a : Array Jvm.Value) (st : Jvm.State) : (allAtoms ts).before a st = ts.all (fun c => c.before a st) := by
  induction ts with
  | nil => rfl
  | cons c t ih =>
    show (Jvm.Cond.and c (allAtoms t)).before a st = _
    rw [Jvm.Cond.before_and, ih, List.all_cons]
def words1 : List Jvm.Cond := Jvm.Cond.code x code maxLocals ret :: tables_1
/-- a 'code' word, met by the world's own term for the bytes: nothing is compared byte by byte -/
theorem code_word {y : MethodName} {bytes : ByteArray} {mx : Nat} {rt : Option FieldType} {a : Array Value} {s : State} {m : MethodId} {meth : Method} {c : Code} (h1 : s.methodNamed? y = some m) (h2 : s.vm.method? m = some meth) (h3 : meth.code = some c) (h4 : c.code = bytes)
    (h5 : (c.maxLocals == mx && c.exceptionTable.isEmpty && decide (c.maxStack ≤ mostOperands) && decide (meth.sig.returnType = rt) && !meth.locks && decide (parseMethodDescriptor y.desc = some meth.sig)) = true) : (Jvm.Cond.code y bytes mx rt).before a s = true := by
  simp only [Bool.and_eq_true, beq_iff_eq, Bool.not_eq_true', decide_eq_true_eq] at h5
  obtain ⟨⟨⟨⟨⟨g1, g2⟩, g3⟩, g4⟩, g5⟩, g6⟩ := h5
  simp [Cond.before, Cond.holds, Cond.value, h1, h2, h3, h4, g1, g2, g3, g4, g5, g6]
def isCode : Jvm.Cond → Bool
  | .code _ _ _ _ => true
  | _ => false
theorem all_split {L : List Jvm.Cond} {P : Jvm.Cond → Bool} (h1 : L.all (fun c => isCode c || P c) = true) (h2 : ∀ c ∈ L.filter isCode, P c = true) : L.all P = true := by
  refine List.all_eq_true.mpr fun c hc => ?_
  have h := List.all_eq_true.mp h1 c hc
  rcases Bool.eq_false_or_eq_true (isCode c) with hi | hi
  · exact h2 c (List.mem_filter.mpr ⟨hc, hi⟩)
  · simpa [hi] using h
set_option maxRecDepth 65536 in
theorem w_c0 : (Jvm.Cond.code x code maxLocals ret).before args0 about1 = true := code_word (m := ⟨1, 1⟩) (meth := k1m1) (c := k1c1) (by decide +kernel) rfl rfl rfl (by decide +kernel)
set_option maxRecDepth 65536 in
theorem w_c1 : (Jvm.Cond.code ({ cls := "branchwork/Graph", name := "<init>", desc := "(I[I[I[JII)V" } : Jvm.MethodName) prog_25_method_1_code (7 : Nat) (Option.none : Option Jvm.ClassFile.FieldType)).before args0 about1 = true := code_word (m := ⟨2, 0⟩) (meth := k2m0) (c := k2c0) (by decide +kernel) rfl rfl rfl (by decide +kernel)
set_option maxRecDepth 65536 in
theorem w_c2 : (Jvm.Cond.code ({ cls := "java/lang/Object", name := "<init>", desc := "()V" } : Jvm.MethodName) object_method_1_code (1 : Nat) (Option.none : Option Jvm.ClassFile.FieldType)).before args0 about1 = true := code_word (m := ⟨0, 0⟩) (meth := k0m0) (c := k0c0) (by decide +kernel) rfl rfl rfl (by decide +kernel)
set_option maxRecDepth 65536 in
theorem w_c3 : (Jvm.Cond.code ({ cls := "branchwork/Graph", name := "vertex", desc := "(J)I" } : Jvm.MethodName) prog_25_method_19_code (5 : Nat) (Option.some Jvm.ClassFile.FieldType.int)).before args0 about1 = true := code_word (m := ⟨2, 2⟩) (meth := k2m2) (c := k2c2) (by decide +kernel) rfl rfl rfl (by decide +kernel)
set_option maxRecDepth 65536 in
theorem w_c4 : (Jvm.Cond.code ({ cls := "branchwork/Graph", name := "number", desc := "(I)J" } : Jvm.MethodName) prog_25_method_18_code (2 : Nat) (Option.some Jvm.ClassFile.FieldType.long)).before args0 about1 = true := code_word (m := ⟨2, 1⟩) (meth := k2m1) (c := k2c1) (by decide +kernel) rfl rfl rfl (by decide +kernel)
def codes1 : List Jvm.Cond := [Jvm.Cond.code x code maxLocals ret, Jvm.Cond.code ({ cls := "branchwork/Graph", name := "<init>", desc := "(I[I[I[JII)V" } : Jvm.MethodName) prog_25_method_1_code (7 : Nat) (Option.none : Option Jvm.ClassFile.FieldType), Jvm.Cond.code ({ cls := "java/lang/Object", name := "<init>", desc := "()V" } : Jvm.MethodName) object_method_1_code (1 : Nat) (Option.none : Option Jvm.ClassFile.FieldType), Jvm.Cond.code ({ cls := "branchwork/Graph", name := "vertex", desc := "(J)I" } : Jvm.MethodName) prog_25_method_19_code (5 : Nat) (Option.some Jvm.ClassFile.FieldType.int), Jvm.Cond.code ({ cls := "branchwork/Graph", name := "number", desc := "(I)J" } : Jvm.MethodName) prog_25_method_18_code (2 : Nat) (Option.some Jvm.ClassFile.FieldType.long)]
set_option maxRecDepth 65536 in
theorem codes_eq : words1.filter isCode = codes1 := rfl
theorem w_codes : ∀ c ∈ words1.filter isCode, c.before args0 about1 = true := by
  rw [codes_eq]
  intro c hc
  simp only [codes1, List.mem_cons, List.not_mem_nil, or_false] at hc
  rcases hc with rfl | rfl | rfl | rfl | rfl
  · exact w_c0
  · exact w_c1
  · exact w_c2
  · exact w_c3
  · exact w_c4
set_option maxRecDepth 65536 in
theorem w_t1 : (words1.take 24).all (fun c => isCode c || c.before args0 about1) = true := by decide +kernel
set_option maxRecDepth 65536 in
theorem w_t2 : (words1.drop 24).all (fun c => isCode c || c.before args0 about1) = true := by decide +kernel
theorem w_tables : (allAtoms (Jvm.Cond.code x code maxLocals ret :: tables_1)).before args0 about1 = true := by
  rw [allAtoms_all]
  show words1.all (fun c => c.before args0 about1) = true
  refine all_split ?_ w_codes
  rw [← List.take_append_drop 24 words1, List.all_append, w_t1, w_t2]
  rfl
set_option maxRecDepth 65536 in
theorem w_case : (Jvm.Cond.and given_1 narrow_1).before args0 about1 = true := by decide +kernel
theorem w_applies : (headSpec (Jvm.Cond.code x code maxLocals ret :: tables_1) room_1).applies x e0.platform about1 = true :=
  (Spec.applies_iff w_frames).mpr ⟨w_running, w_runnable, w_alone, w_named, w_hears, w_ripe, w_room, w_tables⟩
theorem atStart : AtStart classFile x code maxLocals ret World_1 tables_1 room_1 Calls_1 rest_1 Pre_1 launch0 p0 e0 about1 theMethod args0 below0 :=
  ⟨lists_1, trivial, launch0.admits_env _ _ _, launch0.least_env, fairChoices_fair.cas, fairChoices_fair.clock, w_frames, w_args, w_heap, w_applies, trivial, trivial, w_case⟩
end start1
theorem witness_1 : WitnessClaimed_1 := ⟨start1.p0, start1.e0, start1.about1, start1.theMethod, start1.args0, start1.below0, start1.atStart⟩
end Jvm.Pilot.@@N@@
