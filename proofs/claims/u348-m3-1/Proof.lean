import JvmDerived
import JvmDerived.Pilot.@@N@@Statement
import JvmDerived.Pilot.@@N@@Code
set_option linter.unusedVariables false
set_option linter.unusedSimpArgs false
@@BLOCK:NumsL.lean.txt@@
namespace Jvm.Pilot.@@N@@
open Jvm Jvm.ClassFile Sem Op Lib Jvm.Free Jvm.Stand Jvm.LawKit Jvm.RoadKit Bundle Jvm.Pilot.@@N@@.Jvm.D
section OwnKit
variable {p : Program} {l : Launch} {e : Env} {R : Room} {s : State} {m : MethodId} {args : Array Value} {below : List Frame} {meth : Method} {c : Code} {T T' : State} {locs : List Loc} {cells slots : Nat} {Z : State} {h : Heap} {a0 : Array Value}
/-- from the state T with the frame g on top the method comes to its end, and what it leaves meets E -/
def own_WP (p : Program) (e : Env) (below : List Frame) (E : Outcome → State → Prop) (T : State) (g : JFrame) : Prop :=
  ∃ s₂ o, Steps p.tables e below (T.setTop g) s₂ ∧ s₂.status = .running ∧ Ended s₂ below o ∧ E o s₂
/-- it returns, and what it leaves meets Q within K cells and N slots -/
def own_E (s : State) (Q : Option Value → Heap → List Loc → Prop) (K N : Nat) (o : Outcome) (t : State) : Prop := ∃ v L, o = .returned v ∧ Q v t.heap L ∧ FrameEnd s o t L K N
variable {Q : Option Value → Heap → List Loc → Prop} {K N : Nat} {g g' : JFrame} {E : Outcome → State → Prop}
theorem own_go (h : ∀ t, Steps p.tables e below (T'.setTop g') t → Steps p.tables e below (T.setTop g) t) (k : own_WP p e below E T' g') : own_WP p e below E T g := by
  obtain ⟨s₂, o, h1, h2⟩ := k
  exact ⟨s₂, o, h s₂ h1, h2⟩
theorem own_tr (h : Steps p.tables e below (T.setTop g) (T'.setTop g')) (k : own_WP p e below E T' g') : own_WP p e below E T g := by
  obtain ⟨s₂, o, h1, h2⟩ := k
  exact ⟨s₂, o, h.trans h1, h2⟩
theorem own_end (X : Stand p l e R s m args below meth c T locs cells slots) (hlk : meth.locks = false) {v : Option Value} (hv : meth.sig.returnType = none → v = none)
    (hs : ∀ fs, (∀ (f : JFrame) (acts : List Action), f.method = m → f.locked = none → f.entered = [] → (doReturn e (T.setTop f) acts v).1 = T.setFrames fs) → Steps p.tables e below (T.setTop g) (T.setFrames fs))
    (hk : cells ≤ K) (hn : slots ≤ N) (hq : Q v T.heap locs) : own_WP p e below (own_E s Q K N) T g := by
  obtain ⟨fs, hr, hrun, hended, hW, hsame⟩ := X.leave hv hlk
  exact ⟨_, _, hs fs hr, hrun, hended, _, _, rfl, hq, ⟨_, rfl⟩, hW, hsame.mono hk hn⟩
theorem own_retV (X : Stand p l e R s m args below meth c T locs cells slots) (hx : p.tables.exec = Jvm.exec) (hlk : meth.locks = false) {pc : Nat} {Ls : Array Slot} (hret : meth.sig.returnType = none) (hd : decode c.code pc = .ok (.return_, 1))
    (hk : cells ≤ K) (hn : slots ≤ N) (hq : Q none T.heap locs) : own_WP p e below (own_E s Q K N) T (mkF m pc Ls []) :=
  own_end X hlk (fun _ => rfl) (fun fs hr => X.returnOut hx hret hd hr) hk hn hq
theorem own_retI (X : Stand p l e R s m args below meth c T locs cells slots) (hx : p.tables.exec = Jvm.exec) (hlk : meth.locks = false) {pc : Nat} {Ls : Array Slot} {z : Int32} (hret : meth.sig.returnType = some .int) (hd : decode c.code pc = .ok (.ireturn, 1))
    (hk : cells ≤ K) (hn : slots ≤ N) (hq : Q (some (.int z)) T.heap locs) : own_WP p e below (own_E s Q K N) T (mkF m pc Ls [.int z]) :=
  own_end X hlk (fun h => by rw [hret] at h; cases h) (fun fs hr => retOut X hx hret rfl (Or.inl ⟨rfl, Or.inl rfl, z, rfl⟩) hd hr) hk hn hq
theorem own_retJ (X : Stand p l e R s m args below meth c T locs cells slots) (hx : p.tables.exec = Jvm.exec) (hlk : meth.locks = false) {pc : Nat} {Ls : Array Slot} {z : Int64} (hret : meth.sig.returnType = some .long) (hd : decode c.code pc = .ok (.lreturn, 1))
    (hk : cells ≤ K) (hn : slots ≤ N) (hq : Q (some (.long z)) T.heap locs) : own_WP p e below (own_E s Q K N) T (mkF m pc Ls [.long z]) :=
  own_end X hlk (fun h => by rw [hret] at h; cases h) (fun fs hr => X.lreturnOut hx hret hd hr) hk hn hq
theorem own_retA (X : Stand p l e R s m args below meth c T locs cells slots) (hx : p.tables.exec = Jvm.exec) (hlk : meth.locks = false) {pc : Nat} {Ls : Array Slot} {w : Value} (hw : w.isRef = true) {t : FieldType} (ht : t.isReference = true) (hret : meth.sig.returnType = some t) (hd : decode c.code pc = .ok (.areturn, 1))
    (hk : cells ≤ K) (hn : slots ≤ N) (hq : Q (some w) T.heap locs) : own_WP p e below (own_E s Q K N) T (mkF m pc Ls [w]) :=
  own_end X hlk (fun h => by rw [hret] at h; cases h) (fun fs hr => X.areturnOut hx hw hret ht hd hr) hk hn hq
theorem own_retN (X : Stand p l e R s m args below meth c T locs cells slots) (hx : p.tables.exec = Jvm.exec) (hlk : meth.locks = false) {pc : Nat} {Ls : Array Slot} {z : Int32} {t : FieldType} (ht : t = .boolean ∨ t = .byte ∨ t = .char ∨ t = .short) (hret : meth.sig.returnType = some t) (hd : decode c.code pc = .ok (.ireturn, 1))
    (hk : cells ≤ K) (hn : slots ≤ N) (hq : Q (some (.int (nar t z))) T.heap locs) : own_WP p e below (own_E s Q K N) T (mkF m pc Ls [.int z]) :=
  own_end X hlk (fun h => by rw [hret] at h; cases h) (fun fs hr => retN X hx hret ht hd hr) hk hn hq
theorem own_len (X : Stand p l e R s m args below meth c T locs cells slots) (hx : p.tables.exec = Jvm.exec) (hZ : Z.Warmed39 s.vm) (eT : T.heap = h) {a : Addr} {k : ClassId} {ty : FieldType} {n : Int32} {vs : List Value} {d : Value} (V : Arv Z h a k ty n vs d)
    {pc : Nat} {Ls : Array Slot} {S : List Value} (hd : decode c.code pc = .ok (.arraylength, 1)) (kk : own_WP p e below E T (mkF m (pc + 1) Ls (.int n :: S))) : own_WP p e below E T (mkF m pc Ls (.ref a :: S)) := by
  obtain ⟨cl, A, q, S1, M, H, G⟩ := V
  refine own_go (fun t k => X.arraylength hx (by rw [eT]; exact A.1) (State.isArrayOf_alike hZ.alike A.2.1) (g := mkF m pc Ls (.ref a :: S)) rfl rfl hd t k) ?_
  rw [len_of S1 M]
  exact kk
theorem own_at {cl : Cell} {n j : Int32} {vs : List Value} {d w : Value} (S1 : cl.slots.size = n.toNatClampNeg) (H : Has cl vs d) (hj : ¬ j < 0 ∧ j < n) (hv : vs.getD j.toNatClampNeg d = w) : cl.slots[j.toNatClampNeg]? = some w :=
  H.at (inb_of S1 hj) hv
theorem own_ldI (X : Stand p l e R s m args below meth c T locs cells slots) (hx : p.tables.exec = Jvm.exec) (hZ : Z.Warmed39 s.vm) (eT : T.heap = h) {a : Addr} {k : ClassId} {n j w : Int32} {vs : List Value} {d : Value} (V : Arv Z h a k .int n vs d) (hj : ¬ j < 0 ∧ j < n) (hv : vs.getD j.toNatClampNeg d = .int w)
    {pc : Nat} {Ls : Array Slot} {S : List Value} (hd : decode c.code pc = .ok (.iaload, 1)) (kk : own_WP p e below E T (mkF m (pc + 1) Ls (.int w :: S))) : own_WP p e below E T (mkF m pc Ls (.int j :: .ref a :: S)) := by
  obtain ⟨cl, A, q, S1, M, H, G⟩ := V
  exact own_go (fun t k => X.iaload hx (j := j) (v := .int w) (by rw [eT]; exact A.1) (State.isArrayOf_alike hZ.alike A.2.1) A.2.2 (inb_of S1 hj) (own_at S1 H hj hv) (g := mkF m pc Ls (.int j :: .ref a :: S)) rfl rfl hd t k) kk
theorem own_ldJ (X : Stand p l e R s m args below meth c T locs cells slots) (hx : p.tables.exec = Jvm.exec) (hZ : Z.Warmed39 s.vm) (eT : T.heap = h) {a : Addr} {k : ClassId} {n j : Int32} {w : Int64} {vs : List Value} {d : Value} (V : Arv Z h a k .long n vs d) (hj : ¬ j < 0 ∧ j < n) (hv : vs.getD j.toNatClampNeg d = .long w)
    {pc : Nat} {Ls : Array Slot} {S : List Value} (hd : decode c.code pc = .ok (.laload, 1)) (kk : own_WP p e below E T (mkF m (pc + 1) Ls (.long w :: S))) : own_WP p e below E T (mkF m pc Ls (.int j :: .ref a :: S)) := by
  obtain ⟨cl, A, q, S1, M, H, G⟩ := V
  exact own_go (fun t k => X.laload hx (j := j) (v := .long w) (by rw [eT]; exact A.1) (State.isArrayOf_alike hZ.alike A.2.1) A.2.2 (inb_of S1 hj) (own_at S1 H hj hv) (g := mkF m pc Ls (.int j :: .ref a :: S)) rfl rfl hd t k) kk
theorem own_ldB (X : Stand p l e R s m args below meth c T locs cells slots) (hx : p.tables.exec = Jvm.exec) (hZ : Z.Warmed39 s.vm) (eT : T.heap = h) {a : Addr} {k : ClassId} {n j w : Int32} {vs : List Value} {d : Value} (V : Arv Z h a k .byte n vs d) (hj : ¬ j < 0 ∧ j < n) (hv : vs.getD j.toNatClampNeg d = .int w)
    {pc : Nat} {Ls : Array Slot} {S : List Value} (hd : decode c.code pc = .ok (.baload, 1)) (kk : own_WP p e below E T (mkF m (pc + 1) Ls (.int w :: S))) : own_WP p e below E T (mkF m pc Ls (.int j :: .ref a :: S)) := by
  obtain ⟨cl, A, q, S1, M, H, G⟩ := V
  exact own_go (fun t k => X.baloadBytes hx (j := j) (v := .int w) (by rw [eT]; exact A.1) (State.isArrayOf_alike hZ.alike A.2.1) A.2.2 (inb_of S1 hj) (own_at S1 H hj hv) (g := mkF m pc Ls (.int j :: .ref a :: S)) rfl rfl hd t k) kk
theorem own_ldR (X : Stand p l e R s m args below meth c T locs cells slots) (hx : p.tables.exec = Jvm.exec) (hZ : Z.Warmed39 s.vm) (eT : T.heap = h) {a : Addr} {k : ClassId} {ty : FieldType} (hty : ty.isReference = true) {n j : Int32} {w : Value} {vs : List Value} {d : Value} (V : Arv Z h a k ty n vs d) (hj : ¬ j < 0 ∧ j < n) (hv : vs.getD j.toNatClampNeg d = w)
    {pc : Nat} {Ls : Array Slot} {S : List Value} (hd : decode c.code pc = .ok (.aaload, 1)) (kk : own_WP p e below E T (mkF m (pc + 1) Ls (w :: S))) : own_WP p e below E T (mkF m pc Ls (.int j :: .ref a :: S)) := by
  obtain ⟨cl, A, q, S1, M, H, G⟩ := V
  exact own_go (fun t k => X.aaload hx (j := j) (v := w) (by rw [eT]; exact A.1) (State.isArrayOf_alike hZ.alike A.2.1) hty A.2.2 (inb_of S1 hj) (own_at S1 H hj hv) (g := mkF m pc Ls (.int j :: .ref a :: S)) rfl rfl hd t k) kk
theorem own_stI (X : Stand p l e R s m args below meth c T locs cells slots) (hx : p.tables.exec = Jvm.exec) (hZ : Z.Warmed39 s.vm) (eT : T.heap = h) {a : Addr} {k : ClassId} {n j x : Int32} {vs : List Value} {d : Value} (V : Arv Z h a k .int n vs d) (hj : ¬ j < 0 ∧ j < n) {i : Nat} (hji : j.toNatClampNeg = i) (hi : i < vs.length)
    {pc : Nat} {Ls : Array Slot} {S : List Value} (hd : decode c.code pc = .ok (.iastore, 1))
    (kk : ∀ T' h', Stand p l e R s m args below meth c T' (locs ++ [⟨a, j.toNatClampNeg⟩]) cells slots → T'.heap = h' → Wr h h' a j.toNatClampNeg (.int x) → Arv Z h' a k .int n (vs.set i (.int x)) d → own_WP p e below E T' (mkF m (pc + 1) Ls S)) : own_WP p e below E T (mkF m pc Ls (.int x :: .int j :: .ref a :: S)) := by
  obtain ⟨cl, A, q, S1, M, H, G⟩ := V
  obtain ⟨T', h', X', e', W', st⟩ := stI X hx hZ eT A (j := j) (inb_of S1 hj) (g := mkF m pc Ls (.int x :: .int j :: .ref a :: S)) rfl rfl hd
  exact own_go st (kk T' h' X' e' W' (Arv.set A q S1 M H G rfl W' i hji hi))
theorem own_stJ (X : Stand p l e R s m args below meth c T locs cells slots) (hx : p.tables.exec = Jvm.exec) (hZ : Z.Warmed39 s.vm) (eT : T.heap = h) {a : Addr} {k : ClassId} {n j : Int32} {x : Int64} {vs : List Value} {d : Value} (V : Arv Z h a k .long n vs d) (hj : ¬ j < 0 ∧ j < n) {i : Nat} (hji : j.toNatClampNeg = i) (hi : i < vs.length)
    {pc : Nat} {Ls : Array Slot} {S : List Value} (hd : decode c.code pc = .ok (.lastore, 1))
    (kk : ∀ T' h', Stand p l e R s m args below meth c T' (locs ++ [⟨a, j.toNatClampNeg⟩]) cells slots → T'.heap = h' → Wr h h' a j.toNatClampNeg (.long x) → Arv Z h' a k .long n (vs.set i (.long x)) d → own_WP p e below E T' (mkF m (pc + 1) Ls S)) : own_WP p e below E T (mkF m pc Ls (.long x :: .int j :: .ref a :: S)) := by
  obtain ⟨cl, A, q, S1, M, H, G⟩ := V
  obtain ⟨T', h', X', e', W', st⟩ := stJ X hx hZ eT A (j := j) (inb_of S1 hj) (g := mkF m pc Ls (.long x :: .int j :: .ref a :: S)) rfl rfl hd
  exact own_go st (kk T' h' X' e' W' (Arv.set A q S1 M H G rfl W' i hji hi))
theorem own_stB (X : Stand p l e R s m args below meth c T locs cells slots) (hx : p.tables.exec = Jvm.exec) (hZ : Z.Warmed39 s.vm) (eT : T.heap = h) {a : Addr} {k : ClassId} {n j x : Int32} {vs : List Value} {d : Value} (V : Arv Z h a k .byte n vs d) (hj : ¬ j < 0 ∧ j < n) {i : Nat} (hji : j.toNatClampNeg = i) (hi : i < vs.length)
    {pc : Nat} {Ls : Array Slot} {S : List Value} (hd : decode c.code pc = .ok (.bastore, 1))
    (kk : ∀ T' h', Stand p l e R s m args below meth c T' (locs ++ [⟨a, j.toNatClampNeg⟩]) cells slots → T'.heap = h' → Wr h h' a j.toNatClampNeg (.int (nar .byte x)) → Arv Z h' a k .byte n (vs.set i (.int (nar .byte x))) d → own_WP p e below E T' (mkF m (pc + 1) Ls S)) : own_WP p e below E T (mkF m pc Ls (.int x :: .int j :: .ref a :: S)) := by
  obtain ⟨cl, A, q, S1, M, H, G⟩ := V
  obtain ⟨T', h', X', e', W', st⟩ := stB X hx hZ eT A (j := j) (inb_of S1 hj) (g := mkF m pc Ls (.int x :: .int j :: .ref a :: S)) rfl rfl hd
  exact own_go st (kk T' h' X' e' W' (Arv.set A q S1 M H G (fits_nar_byte x) W' i hji hi))
theorem own_nm {x a : Addr} (h : x ≠ a) : x ∉ [a] := fun q => h (List.mem_singleton.mp q)
theorem own_nm0 {x : Addr} : x ∉ ([] : List Addr) := List.not_mem_nil
theorem own_nm2 {x a b : Addr} (h : x ≠ a) (h' : x ≠ b) : x ∉ [a, b] := fun q => by
  rcases List.mem_cons.mp q with r | r
  · exact h r
  · exact h' (List.mem_singleton.mp r)
theorem own_le {h0 h : Heap} {n0 : Nat} {ws : List Addr} (Z0 : n0 ≤ h0.size) (K : Keep h0 h ws) : n0 ≤ h.size := Nat.le_trans Z0 K.1
end OwnKit
def own_if (c : Prop) [Decidable c] (s : Int32 × List Int64) (q : Int64) : Int32 × List Int64 := if c then (s.1 + 1, s.2.set s.1.toNatClampNeg q) else s
def own_s0 : Int32 × List Int64 := (0, List.replicate 8 0)
def own_s1 (a : Int32) (q0 : Int64) : Int32 × List Int64 := own_if (0 < a) own_s0 q0
def own_s2 (a : Int32) (q0 q1 : Int64) : Int32 × List Int64 := own_if (1 < a) (own_s1 a q0) q1
def own_s3 (a : Int32) (q0 q1 q2 : Int64) : Int32 × List Int64 := own_if (2 < a) (own_s2 a q0 q1) q2
def own_s4 (a d : Int32) (q0 q1 q2 : Int64) : Int32 × List Int64 := if d = 0 then own_s3 a q0 q1 q2 else (0, (own_s3 a q0 q1 q2).2)
def own_s5 (a d b : Int32) (q0 q1 q2 : Int64) : Int32 × List Int64 := own_if (0 < b) (own_s4 a d q0 q1 q2) q2
def own_s6 (a d b : Int32) (q0 q1 q2 : Int64) : Int32 × List Int64 := own_if (1 < b) (own_s5 a d b q0 q1 q2) q0
def own_s7 (a d b : Int32) (q0 q1 q2 : Int64) : Int32 × List Int64 := own_if (2 < b) (own_s6 a d b q0 q1 q2) q1
def own_ln (a d b : Int32) : Int32 := (if d = 0 then a else 0) + b
def own_ew (n : Int32) (L : List Int64) (i : Int32) (q : Int64) : Int32 := if i = n - 1 then (if L.getD i.toNatClampNeg 0 = q then 1 else 0) else 0
def own_ee (n a b i : Int32) (q q0 q1 q2 : Int64) : Int32 :=
  if n = 0 then 0 else if i = n - 1 then (if q = (if 0 < b then (if b = 1 then q2 else if b = 2 then q0 else q1) else (if a = 1 then q0 else if a = 2 then q1 else q2)) then 1 else 0) else 0
theorem own_four (y : Int32) (h0 : 0 ≤ y.toInt) (h1 : y.toInt < 4) : y = 0 ∨ y = 1 ∨ y = 2 ∨ y = 3 := by
  have q : ∀ k : Int32, y.toInt = k.toInt → y = k := fun k h => Int32.toInt_inj.mp h
  have e0 : (0 : Int32).toInt = 0 := rfl
  have e1 : (1 : Int32).toInt = 1 := rfl
  have e2 : (2 : Int32).toInt = 2 := rfl
  have e3 : (3 : Int32).toInt = 3 := rfl
  rcases (by omega : y.toInt = 0 ∨ y.toInt = 1 ∨ y.toInt = 2 ∨ y.toInt = 3) with h | h | h | h
  · exact Or.inl (q _ (h.trans e0.symm))
  · exact Or.inr (Or.inl (q _ (h.trans e1.symm)))
  · exact Or.inr (Or.inr (Or.inl (q _ (h.trans e2.symm))))
  · exact Or.inr (Or.inr (Or.inr (q _ (h.trans e3.symm))))
theorem own_flip (z q : Int64) : (if z = q then (1 : Int32) else 0) = if q = z then 1 else 0 := by
  by_cases h : z = q
  · rw [if_pos h, if_pos h.symm]
  · rw [if_neg h, if_neg (Ne.symm h)]
theorem own_key (a d b : Int32) (q0 q1 q2 : Int64) (a0 : 0 ≤ a.toInt) (a1 : a.toInt < 4) (b0 : 0 ≤ b.toInt) (b1 : b.toInt < 4) (n : Int32) (L : List Int64) (hs : (n, L) = own_s7 a d b q0 q1 q2) :
    n = own_ln a d b ∧ ∀ (i : Int32) (q : Int64), ¬ (own_ln a d b = 0 ∧ i = -1) → own_ew n L i q = own_ee (own_ln a d b) a b i q q0 q1 q2 := by
  have hn : n = (own_s7 a d b q0 q1 q2).1 := congrArg Prod.fst hs
  have hL : L = (own_s7 a d b q0 q1 q2).2 := congrArg Prod.snd hs
  clear hs
  rcases own_four a a0 a1 with rfl | rfl | rfl | rfl <;> rcases own_four b b0 b1 with rfl | rfl | rfl | rfl <;> by_cases hd : d = 0 <;>
    simp [own_s7, own_s6, own_s5, own_s4, own_s3, own_s2, own_s1, own_s0, own_if, hd] at hn hL <;> subst hn <;> subst hL <;>
    (refine ⟨by simp [own_ln, hd], fun i q h => ?_⟩) <;>
    simp [own_ew, own_ee, own_ln, hd] at h ⊢ <;>
    first
    | (intro z; exact absurd z h)
    | (split
       · rename_i z; subst z; exact own_flip _ _
       · rfl)

theorem own_up {n : Int32} {K : Int} (h : 0 ≤ n.toInt ∧ n.toInt ≤ K) (hK : K < 100) : 0 ≤ (n + 1).toInt ∧ (n + 1).toInt ≤ K + 1 := by
  have e1 : (1 : Int32).toInt = 1 := rfl
  have e : (n + 1).toInt = n.toInt + 1 := by rw [Jvm.Kit.i32_add (by omega) (by omega), e1]
  omega
theorem own_b0 {n : Int32} {K : Int} (h : 0 ≤ n.toInt ∧ n.toInt ≤ K) : ¬ n < 0 := by
  have e : (0 : Int32).toInt = 0 := rfl
  rw [Int32.lt_iff_toInt_lt]; omega
theorem own_b8 {n : Int32} {K : Int} (h : 0 ≤ n.toInt ∧ n.toInt ≤ K) (hK : K < 8) : n < 8 := by
  have e : (8 : Int32).toInt = 8 := rfl
  rw [Int32.lt_iff_toInt_lt]; omega
theorem own_lt8 {n : Int32} (h0 : ¬ n < 0) (h8 : n < 8) : n.toNatClampNeg < 8 := by
  have e0 : (0 : Int32).toInt = 0 := rfl
  have e : (8 : Int32).toInt = 8 := rfl
  rw [Int32.lt_iff_toInt_lt] at h0 h8
  simp only [Int32.toNatClampNeg]; omega
theorem own_hi {n i : Int32} {K : Int} (h : 0 ≤ n.toInt ∧ n.toInt ≤ K) (hK : K < 8) (hok : ¬ (n = 0 ∧ i = -1)) (e : i = n - 1) : ¬ i < 0 ∧ i < 8 := by
  have e0 : (0 : Int32).toInt = 0 := rfl
  have e1 : (1 : Int32).toInt = 1 := rfl
  have e8 : (8 : Int32).toInt = 8 := rfl
  have en : (n - 1).toInt = n.toInt - 1 := by rw [Jvm.Kit.i32_sub (by omega) (by omega), e1]
  have hz : ¬ n.toInt = 0 := fun z => hok (by
    have z' : n = 0 := Int32.toInt_inj.mp (z.trans e0.symm)
    subst z'; exact ⟨rfl, e⟩)
  subst e
  rw [Int32.lt_iff_toInt_lt, Int32.lt_iff_toInt_lt]; omega
theorem own_mapget (L : List Int64) (n : Nat) {z : Int64} (h : L.getD n 0 = z) : (List.map Value.long L).getD n (.long (0 : Int64)) = .long z := by
  subst h
  simp only [List.getD_eq_getElem?_getD, List.getElem?_map]
  cases L[n]? <;> rfl
theorem own_z0 : 0 ≤ (0 : Int32).toInt ∧ (0 : Int32).toInt ≤ 0 := by decide
theorem d1_0 : decode prog_75_method_1_code 0 = .ok (.aload_n 0, 1) := by decide +kernel
theorem d1_1 : decode prog_75_method_1_code 1 = .ok (.invokespecial 1, 3) := by decide +kernel
theorem d1_4 : decode prog_75_method_1_code 4 = .ok (.aload_n 0, 1) := by decide +kernel
theorem d1_5 : decode prog_75_method_1_code 5 = .ok (.bipush 8, 2) := by decide +kernel
theorem d1_7 : decode prog_75_method_1_code 7 = .ok (.newarray .long, 2) := by decide +kernel
theorem d1_9 : decode prog_75_method_1_code 9 = .ok (.putfield 7, 3) := by decide +kernel
theorem d1_12 : decode prog_75_method_1_code 12 = .ok (.return_, 1) := by decide +kernel
theorem own_pn47753 : plainName "com/example/ringspan/ringspan/symmetry/Trace" = true := by first | (simp [plainName, overriddenIn]; done) | decide +kernel
theorem ef_1 (m : MethodId) (zo : Addr) : entryFrame m #[(.ref zo)] 1 = mkF m 0 #[.val (.ref zo)] [] := by first | (simp [entryFrame, mkF, argsToLocals, Value.category]; done) | rfl
def Q1 (Z : State) (zo : Addr) (u0 : Value) (u1 : Value) (h0 : Heap) (n0 : Nat) (v : Option Value) (h : Heap) (L : List Loc) : Prop := ∃ (rb : Addr), ∃ (rk : ClassId), v = none ∧ Fr n0 L ∧ Keep h0 h [zo] ∧ n0 ≤ rb ∧ h0.size ≤ rb ∧ Exa Z h zo "com/example/ringspan/ringspan/symmetry/Trace" ∧ Fld Z h zo "com/example/ringspan/ringspan/symmetry/Trace" "hashes" "[J" (.ref rb) ∧ Fld Z h zo "com/example/ringspan/ringspan/symmetry/Trace" "length" "I" u1 ∧ Arv Z h rb rk .long (8 : Int32) (List.map Value.long (List.replicate 8 (0 : Int64))) (.long (0 : Int64))
set_option maxRecDepth 65536 in
set_option maxHeartbeats 40000000 in
theorem rm1 (l : Launch) (Z : State) (a0 : Array Value) (hw : ∀ d ∈ tables_1, d.before a0 Z = true) (ws : List Jvm.Cond) (zo : Addr) (u0 : Value) (u1 : Value) (h0 : Heap) (n0 : Nat) (Z0 : n0 ≤ h0.size) (P0 : Exa Z h0 zo "com/example/ringspan/ringspan/symmetry/Trace") (P1 : Fld Z h0 zo "com/example/ringspan/ringspan/symmetry/Trace" "hashes" "[J" u0) (P2 : Fld Z h0 zo "com/example/ringspan/ringspan/symmetry/Trace" "length" "I" u1) (g_zo : n0 ≤ zo) :
    MetFree l (⟨"com/example/ringspan/ringspan/symmetry/Trace", "<init>", "()V"⟩ : MethodName) (head1 (Jvm.Cond.code (⟨"com/example/ringspan/ringspan/symmetry/Trace", "<init>", "()V"⟩ : MethodName) prog_75_method_1_code 1 none :: ws) ({ frames := 1, cells := 1, slots := 8, locals := 12 } : Room)) (fun a U => a = #[(.ref zo)] ∧ Z.Warmed39 U.vm ∧ U.heap = h0) (fun _ _ _ _ _ => True) (fun _ U o U' => ∃ v L, o = .returned v ∧ Q1 Z zo u0 u1 h0 n0 v U'.heap L ∧ FrameEnd U o U' L ({ frames := 1, cells := 1, slots := 8, locals := 12 } : Room).cells ({ frames := 1, cells := 1, slots := 8, locals := 12 } : Room).slots) := by
  refine MetFree.of_bodySF (plainFor_of_name own_pn47753) hisR ?_
  intro p e s m args below meth c s₁ Bd hml0 hP hK
  obtain ⟨rfl, hZ, hh⟩ := hP
  have hx := Bd.exec
  have hby := Bd.bytes
  have hml : c.maxLocals = 1 := hml0
  have hown : s.vm.findClass "com/example/ringspan/ringspan/symmetry/Trace" = some m.cls := findClass_of_methodNamed Bd.named
  have hnm := (name_of_methodNamed Bd.named Bd.method).1
  have X0 : Stand p l e ({ frames := 1, cells := 1, slots := 8, locals := 12 } : Room) s m #[(.ref zo)] below meth c s₁ [] 0 0 := Stand.of_body Bd
  have e0 : s₁.heap = h0 := by rw [← hh, Bd.state]; rfl
  have N0 := Fr.nil n0
  have K0 := Keep.refl h0 [zo]
  show own_WP p e below (own_E s (Q1 Z zo u0 u1 h0 n0) 1 8) s₁ (entryFrame m #[(.ref zo)] 1)
  rw [ef_1 m zo]
  show own_WP _ _ _ _ s₁ (mkF m 0 #[.val (.ref zo)] [])
  refine own_go (fun t k => XS.aloadN X0.here hx rfl (hb hby d1_0) rfl rfl  k) ?_
  show own_WP _ _ _ _ s₁ (mkF m 1 #[.val (.ref zo)] [(.ref zo)])
  obtain ⟨T1, X1, e1, st1⟩ := initO X0 hx hZ hown (hw _ (List.mem_of_getElem? (i := 6) rfl)) (hw _ (List.mem_of_getElem? (i := 7) rfl)) (hw _ (List.mem_of_getElem? (i := 8) rfl)) e0 (g := (mkF m 1 #[.val (.ref zo)] [(.ref zo)])) rfl (by rw [hml]; rfl) rfl (hb hby d1_1) (by decide) (W := 0) (by show 2 * 0 + _ ≤ _; exact Nat.le_of_eq rfl) (by decide)
  refine own_go st1 ?_
  show own_WP _ _ _ _ T1 (mkF m 4 #[.val (.ref zo)] [])
  refine own_go (fun t k => XS.aloadN X1.here hx rfl (hb hby d1_4) rfl rfl  k) ?_
  show own_WP _ _ _ _ T1 (mkF m 5 #[.val (.ref zo)] [(.ref zo)])
  refine own_go (fun t k => XS.bipush X1.here hx rfl (hb hby d1_5) k) ?_
  show own_WP _ _ _ _ T1 (mkF m 7 #[.val (.ref zo)] [(.int (8 : Int32)), (.ref zo)])
  obtain ⟨T2, h2, k2, X2, e2, E2, A2, G2, st2⟩ := newPE X1 hx hZ (hw _ (List.mem_of_getElem? (i := 9) rfl)) e1 (g := (mkF m 7 #[.val (.ref zo)] [(.int (8 : Int32)), (.ref zo)])) rfl (hb hby d1_7) rfl (by decide) (cap := 8) (by decide) (by decide) (by decide) (by decide) (ad := "[J") rfl
  obtain ⟨zr, q2⟩ : ∃ z, z = h0.size := ⟨_, rfl⟩
  rw [← q2] at A2 G2 st2
  refine own_go st2 ?_
  have g_zr : n0 ≤ zr := Nat.le_trans (own_le Z0 K0) (Nat.le_of_eq q2.symm)
  have sz_zr : h0.size ≤ zr := Nat.le_trans K0.1 (Nat.le_of_eq q2.symm)
  have ne_zo_zr : zo ≠ zr := Nat.ne_of_lt (Nat.lt_of_lt_of_le P0.lt (Nat.le_of_eq q2.symm))
  have f3 : Exa Z h2 zo "com/example/ringspan/ringspan/symmetry/Trace" := P0.ext E2
  have f4 : Fld Z h2 zo "com/example/ringspan/ringspan/symmetry/Trace" "hashes" "[J" u0 := P1.ext E2
  have f5 : Fld Z h2 zo "com/example/ringspan/ringspan/symmetry/Trace" "length" "I" u1 := P2.ext E2
  have K6 : Keep h0 h2 [zo] := K0.ext E2
  have f7 : Arv Z h2 zr k2 .long (8 : Int32) [(.long (0 : Int64)), (.long (0 : Int64)), (.long (0 : Int64)), (.long (0 : Int64)), (.long (0 : Int64)), (.long (0 : Int64)), (.long (0 : Int64)), (.long (0 : Int64))] (.long (0 : Int64)) := (Arv.new A2 (by decide)).pad (pad_rep [] (.long (0 : Int64)) 8)
  show own_WP _ _ _ _ T2 (mkF m 9 #[.val (.ref zo)] [(.ref zr), (.ref zo)])
  obtain ⟨T8, h8, X8, e8, W8, st8⟩ := putF X2 hx hZ hown (host := "") (Or.inl (hw _ (List.mem_of_getElem? (i := 10) rfl))) Via.refl e2 f4 f3 (Or.inl (hw _ (List.mem_of_getElem? (i := 11) rfl))) (hw _ (List.mem_of_getElem? (i := 1) rfl)) (ty := (.array .long)) (by decide) rfl rfl (g := (mkF m 9 #[.val (.ref zo)] [(.ref zr), (.ref zo)])) rfl rfl (hb hby d1_9)
  refine own_go st8 ?_
  have f9 : Fld Z h8 zo "com/example/ringspan/ringspan/symmetry/Trace" "hashes" "[J" (.ref zr) := f4.same W8
  have f10 : Exa Z h8 zo "com/example/ringspan/ringspan/symmetry/Trace" := f3.wr W8
  have f12 : Fld Z h8 zo "com/example/ringspan/ringspan/symmetry/Trace" "length" "I" u1 := f5.other W8 (Or.inr (slot_ne (Or.inl (hw _ (List.mem_of_getElem? (i := 18) rfl))) (Or.inl (hw _ (List.mem_of_getElem? (i := 11) rfl))) (by decide) (t := .int) (t' := (.array .long)) (by decide) (by decide)))
  have f13 : Arv Z h8 zr k2 .long (8 : Int32) [(.long (0 : Int64)), (.long (0 : Int64)), (.long (0 : Int64)), (.long (0 : Int64)), (.long (0 : Int64)), (.long (0 : Int64)), (.long (0 : Int64)), (.long (0 : Int64))] (.long (0 : Int64)) := f7.other W8 (Ne.symm ne_zo_zr)
  have K14 : Keep h0 h8 [zo] := K6.wr W8 (Or.inl (List.mem_of_getElem? (i := 0) rfl))
  have N15 := Fr.snoc X8 N0 g_zo
  show own_WP _ _ _ _ T8 (mkF m 12 #[.val (.ref zo)] [])
  refine own_retV X8 hx Bd.notSynchronized Bd.returns (hb hby d1_12) (by decide) (by decide) ?_
  rw [e8]
  exact ⟨zr, k2, rfl, N15, K14, g_zr, sz_zr, f10, f9, f12, ((show ([(.long (0 : Int64)), (.long (0 : Int64)), (.long (0 : Int64)), (.long (0 : Int64)), (.long (0 : Int64)), (.long (0 : Int64)), (.long (0 : Int64)), (.long (0 : Int64))] : List Value) = (List.map Value.long (List.replicate 8 (0 : Int64))) from by rfl) ▸ f13)⟩
theorem d4_0 : decode prog_75_method_3_code 0 = .ok (.aload_n 0, 1) := by decide +kernel
theorem d4_1 : decode prog_75_method_3_code 1 = .ok (.getfield 13, 3) := by decide +kernel
theorem d4_4 : decode prog_75_method_3_code 4 = .ok (.aload_n 0, 1) := by decide +kernel
theorem d4_5 : decode prog_75_method_3_code 5 = .ok (.getfield 7, 3) := by decide +kernel
theorem d4_8 : decode prog_75_method_3_code 8 = .ok (.arraylength, 1) := by decide +kernel
theorem d4_9 : decode prog_75_method_3_code 9 = .ok (.if_icmp .ne 20, 3) := by decide +kernel
theorem d4_29 : decode prog_75_method_3_code 29 = .ok (.aload_n 0, 1) := by decide +kernel
theorem d4_30 : decode prog_75_method_3_code 30 = .ok (.getfield 7, 3) := by decide +kernel
theorem d4_33 : decode prog_75_method_3_code 33 = .ok (.aload_n 0, 1) := by decide +kernel
theorem d4_34 : decode prog_75_method_3_code 34 = .ok (.dup, 1) := by decide +kernel
theorem d4_35 : decode prog_75_method_3_code 35 = .ok (.getfield 13, 3) := by decide +kernel
theorem d4_38 : decode prog_75_method_3_code 38 = .ok (.dup_x1, 1) := by decide +kernel
theorem d4_39 : decode prog_75_method_3_code 39 = .ok (.iconst 1, 1) := by decide +kernel
theorem d4_40 : decode prog_75_method_3_code 40 = .ok (.iadd, 1) := by decide +kernel
theorem d4_41 : decode prog_75_method_3_code 41 = .ok (.putfield 13, 3) := by decide +kernel
theorem d4_44 : decode prog_75_method_3_code 44 = .ok (.lload_n 1, 1) := by decide +kernel
theorem d4_45 : decode prog_75_method_3_code 45 = .ok (.lastore, 1) := by decide +kernel
theorem d4_46 : decode prog_75_method_3_code 46 = .ok (.return_, 1) := by decide +kernel
theorem ef_4 (m : MethodId) (zo : Addr) (zq : Int64) : entryFrame m #[(.ref zo), (.long zq)] 3 = mkF m 0 #[.val (.ref zo), .val (.long zq), .second] [] := by first | (simp [entryFrame, mkF, argsToLocals, Value.category]; done) | rfl
def Q4 (Z : State) (zo : Addr) (zq : Int64) (zr : Addr) (zn : Int32) (zk : ClassId) (zL : List Int64) (h0 : Heap) (n0 : Nat) (v : Option Value) (h : Heap) (L : List Loc) : Prop := v = none ∧ Fr n0 L ∧ Keep h0 h [zo, zr] ∧ Exa Z h zo "com/example/ringspan/ringspan/symmetry/Trace" ∧ Fld Z h zo "com/example/ringspan/ringspan/symmetry/Trace" "hashes" "[J" (.ref zr) ∧ Fld Z h zo "com/example/ringspan/ringspan/symmetry/Trace" "length" "I" (.int (zn + (1 : Int32))) ∧ Arv Z h zr zk .long (8 : Int32) (List.map Value.long (zL.set zn.toNatClampNeg zq)) (.long (0 : Int64))
set_option maxRecDepth 65536 in
set_option maxHeartbeats 40000000 in
theorem rm4 (l : Launch) (Z : State) (a0 : Array Value) (hw : ∀ d ∈ tables_1, d.before a0 Z = true) (ws : List Jvm.Cond) (zo : Addr) (zq : Int64) (zr : Addr) (zn : Int32) (zk : ClassId) (zL : List Int64) (h0 : Heap) (n0 : Nat) (Z0 : n0 ≤ h0.size) (P0 : Exa Z h0 zo "com/example/ringspan/ringspan/symmetry/Trace") (P1 : Fld Z h0 zo "com/example/ringspan/ringspan/symmetry/Trace" "hashes" "[J" (.ref zr)) (P2 : Fld Z h0 zo "com/example/ringspan/ringspan/symmetry/Trace" "length" "I" (.int zn)) (P3 : Arv Z h0 zr zk .long (8 : Int32) (List.map Value.long zL) (.long (0 : Int64))) (g_zo : n0 ≤ zo) (g_zr : n0 ≤ zr) (hne : zo ≠ zr) (hn0 : ¬ zn < 0) (hn8 : zn < 8) (hlen : zL.length = 8) :
    MetFree l (⟨"com/example/ringspan/ringspan/symmetry/Trace", "add", "(J)V"⟩ : MethodName) (head1 (Jvm.Cond.code (⟨"com/example/ringspan/ringspan/symmetry/Trace", "add", "(J)V"⟩ : MethodName) prog_75_method_3_code 3 none :: ws) ({ frames := 0, cells := 0, slots := 0, locals := 0 } : Room)) (fun a U => a = #[(.ref zo), (.long zq)] ∧ Z.Warmed39 U.vm ∧ U.heap = h0) (fun _ _ _ _ _ => True) (fun _ U o U' => ∃ v L, o = .returned v ∧ Q4 Z zo zq zr zn zk zL h0 n0 v U'.heap L ∧ FrameEnd U o U' L ({ frames := 0, cells := 0, slots := 0, locals := 0 } : Room).cells ({ frames := 0, cells := 0, slots := 0, locals := 0 } : Room).slots) := by
  refine MetFree.of_bodySF (plainFor_of_name own_pn47753) hisR ?_
  intro p e s m args below meth c s₁ Bd hml0 hP hK
  obtain ⟨rfl, hZ, hh⟩ := hP
  have hx := Bd.exec
  have hby := Bd.bytes
  have hml : c.maxLocals = 3 := hml0
  have hown : s.vm.findClass "com/example/ringspan/ringspan/symmetry/Trace" = some m.cls := findClass_of_methodNamed Bd.named
  have hnm := (name_of_methodNamed Bd.named Bd.method).1
  have X0 : Stand p l e ({ frames := 0, cells := 0, slots := 0, locals := 0 } : Room) s m #[(.ref zo), (.long zq)] below meth c s₁ [] 0 0 := Stand.of_body Bd
  have e0 : s₁.heap = h0 := by rw [← hh, Bd.state]; rfl
  have N0 := Fr.nil n0
  have K0 := Keep.refl h0 [zo, zr]
  show own_WP p e below (own_E s (Q4 Z zo zq zr zn zk zL h0 n0) 0 0) s₁ (entryFrame m #[(.ref zo), (.long zq)] 3)
  rw [ef_4 m zo zq]
  show own_WP _ _ _ _ s₁ (mkF m 0 #[.val (.ref zo), .val (.long zq), .second] [])
  refine own_go (fun t k => XS.aloadN X0.here hx rfl (hb hby d4_0) rfl rfl  k) ?_
  show own_WP _ _ _ _ s₁ (mkF m 1 #[.val (.ref zo), .val (.long zq), .second] [(.ref zo)])
  obtain ⟨T1, X1, e1, st1⟩ := getF X0 hx hZ hown (host := "") (Or.inl (hw _ (List.mem_of_getElem? (i := 17) rfl))) Via.refl e0 P2 (g := (mkF m 1 #[.val (.ref zo), .val (.long zq), .second] [(.ref zo)])) rfl rfl (hb hby d4_1)
  refine own_go st1 ?_
  show own_WP _ _ _ _ T1 (mkF m 4 #[.val (.ref zo), .val (.long zq), .second] [(.int zn)])
  refine own_go (fun t k => XS.aloadN X1.here hx rfl (hb hby d4_4) rfl rfl  k) ?_
  show own_WP _ _ _ _ T1 (mkF m 5 #[.val (.ref zo), .val (.long zq), .second] [(.ref zo), (.int zn)])
  obtain ⟨T2, X2, e2, st2⟩ := getF X1 hx hZ hown (host := "") (Or.inl (hw _ (List.mem_of_getElem? (i := 10) rfl))) Via.refl e1 P1 (g := (mkF m 5 #[.val (.ref zo), .val (.long zq), .second] [(.ref zo), (.int zn)])) rfl rfl (hb hby d4_5)
  refine own_go st2 ?_
  show own_WP _ _ _ _ T2 (mkF m 8 #[.val (.ref zo), .val (.long zq), .second] [(.ref zr), (.int zn)])
  refine own_len X2 hx hZ e2 P3 (hb hby d4_8) ?_
  show own_WP _ _ _ _ T2 (mkF m 9 #[.val (.ref zo), .val (.long zq), .second] [(.int (8 : Int32)), (.int zn)])
  have hc9 : ¬ (zn = (8 : Int32)) := by
    intro z
    rw [z] at hn8
    exact absurd hn8 (by decide)
  refine own_go (fun t k => XS.icmpYes X2.here hx rfl (pc0 := 9) (pc' := 29) rfl (hb hby d4_9) rfl (feq hc9).2 (by decide) (by decide) k) ?_
  show own_WP _ _ _ _ T2 (mkF m 29 #[.val (.ref zo), .val (.long zq), .second] [])
  refine own_go (fun t k => XS.aloadN X2.here hx rfl (hb hby d4_29) rfl rfl  k) ?_
  show own_WP _ _ _ _ T2 (mkF m 30 #[.val (.ref zo), .val (.long zq), .second] [(.ref zo)])
  obtain ⟨T3, X3, e3, st3⟩ := getF X2 hx hZ hown (host := "") (Or.inl (hw _ (List.mem_of_getElem? (i := 10) rfl))) Via.refl e2 P1 (g := (mkF m 30 #[.val (.ref zo), .val (.long zq), .second] [(.ref zo)])) rfl rfl (hb hby d4_30)
  refine own_go st3 ?_
  show own_WP _ _ _ _ T3 (mkF m 33 #[.val (.ref zo), .val (.long zq), .second] [(.ref zr)])
  refine own_go (fun t k => XS.aloadN X3.here hx rfl (hb hby d4_33) rfl rfl  k) ?_
  show own_WP _ _ _ _ T3 (mkF m 34 #[.val (.ref zo), .val (.long zq), .second] [(.ref zo), (.ref zr)])
  refine own_go (fun t k => XS.dup X3.here hx rfl (hb hby d4_34) rfl rfl k) ?_
  show own_WP _ _ _ _ T3 (mkF m 35 #[.val (.ref zo), .val (.long zq), .second] [(.ref zo), (.ref zo), (.ref zr)])
  obtain ⟨T4, X4, e4, st4⟩ := getF X3 hx hZ hown (host := "") (Or.inl (hw _ (List.mem_of_getElem? (i := 17) rfl))) Via.refl e3 P2 (g := (mkF m 35 #[.val (.ref zo), .val (.long zq), .second] [(.ref zo), (.ref zo), (.ref zr)])) rfl rfl (hb hby d4_35)
  refine own_go st4 ?_
  show own_WP _ _ _ _ T4 (mkF m 38 #[.val (.ref zo), .val (.long zq), .second] [(.int zn), (.ref zo), (.ref zr)])
  refine own_go (fun t k => XS.dupX1 X4.here hx rfl (hb hby d4_38) rfl rfl rfl k) ?_
  show own_WP _ _ _ _ T4 (mkF m 39 #[.val (.ref zo), .val (.long zq), .second] [(.int zn), (.ref zo), (.int zn), (.ref zr)])
  refine own_go (fun t k => XS.iconst X4.here hx rfl (hb hby d4_39) k) ?_
  show own_WP _ _ _ _ T4 (mkF m 40 #[.val (.ref zo), .val (.long zq), .second] [(.int (1 : Int32)), (.int zn), (.ref zo), (.int zn), (.ref zr)])
  refine own_go (fun t k => XS.iadd X4.here hx rfl (hb hby d4_40) rfl k) ?_
  show own_WP _ _ _ _ T4 (mkF m 41 #[.val (.ref zo), .val (.long zq), .second] [(.int (zn + (1 : Int32))), (.ref zo), (.int zn), (.ref zr)])
  obtain ⟨T5, h5, X5, e5, W5, st5⟩ := putF X4 hx hZ hown (host := "") (Or.inl (hw _ (List.mem_of_getElem? (i := 17) rfl))) Via.refl e4 P2 P0 (Or.inl (hw _ (List.mem_of_getElem? (i := 18) rfl))) (hw _ (List.mem_of_getElem? (i := 1) rfl)) (ty := .int) (by decide) rfl rfl (g := (mkF m 41 #[.val (.ref zo), .val (.long zq), .second] [(.int (zn + (1 : Int32))), (.ref zo), (.int zn), (.ref zr)])) rfl rfl (hb hby d4_41)
  refine own_go st5 ?_
  have f6 : Fld Z h5 zo "com/example/ringspan/ringspan/symmetry/Trace" "length" "I" (.int (zn + (1 : Int32))) := P2.same W5
  have f7 : Exa Z h5 zo "com/example/ringspan/ringspan/symmetry/Trace" := P0.wr W5
  have f8 : Fld Z h5 zo "com/example/ringspan/ringspan/symmetry/Trace" "hashes" "[J" (.ref zr) := P1.other W5 (Or.inr (slot_ne (Or.inl (hw _ (List.mem_of_getElem? (i := 11) rfl))) (Or.inl (hw _ (List.mem_of_getElem? (i := 18) rfl))) (by decide) (t := (.array .long)) (t' := .int) (by decide) (by decide)))
  have f10 : Arv Z h5 zr zk .long (8 : Int32) (List.map Value.long zL) (.long (0 : Int64)) := P3.other W5 (Ne.symm hne)
  have K11 : Keep h0 h5 [zo, zr] := K0.wr W5 (Or.inl (List.mem_of_getElem? (i := 0) rfl))
  have N12 := Fr.snoc X5 N0 g_zo
  show own_WP _ _ _ _ T5 (mkF m 44 #[.val (.ref zo), .val (.long zq), .second] [(.int zn), (.ref zr)])
  refine own_go (fun t k => XS.lloadN X5.here hx rfl (hb hby d4_44) rfl  k) ?_
  show own_WP _ _ _ _ T5 (mkF m 45 #[.val (.ref zo), .val (.long zq), .second] [(.long zq), (.int zn), (.ref zr)])
  refine own_stJ X5 hx hZ e5 f10 (j := zn) ⟨hn0, hn8⟩ (i := zn.toNatClampNeg) rfl (by rw [List.length_map, hlen]; exact own_lt8 hn0 hn8) (hb hby d4_45) ?_
  intro T13 h13 X13 e13 W13 V13
  have f14 : Arv Z h13 zr zk .long (8 : Int32) (List.map Value.long (zL.set zn.toNatClampNeg zq)) (.long (0 : Int64)) := (by rw [List.map_set]; exact V13)
  have f15 : Exa Z h13 zo "com/example/ringspan/ringspan/symmetry/Trace" := f7.wr W13
  have f16 : Fld Z h13 zo "com/example/ringspan/ringspan/symmetry/Trace" "hashes" "[J" (.ref zr) := f8.other W13 (Or.inl hne)
  have f18 : Fld Z h13 zo "com/example/ringspan/ringspan/symmetry/Trace" "length" "I" (.int (zn + (1 : Int32))) := f6.other W13 (Or.inl hne)
  have K19 : Keep h0 h13 [zo, zr] := K11.wr W13 (Or.inl (List.mem_of_getElem? (i := 1) rfl))
  have N20 := Fr.snoc X13 N12 g_zr
  show own_WP _ _ _ _ T13 (mkF m 46 #[.val (.ref zo), .val (.long zq), .second] [])
  refine own_retV X13 hx Bd.notSynchronized Bd.returns (hb hby d4_46) (by decide) (by decide) ?_
  rw [e13]
  exact ⟨rfl, N20, K19, f15, f16, f18, f14⟩
theorem d5_0 : decode prog_75_method_2_code 0 = .ok (.aload_n 0, 1) := by decide +kernel
theorem d5_1 : decode prog_75_method_2_code 1 = .ok (.iconst 0, 1) := by decide +kernel
theorem d5_2 : decode prog_75_method_2_code 2 = .ok (.putfield 13, 3) := by decide +kernel
theorem d5_5 : decode prog_75_method_2_code 5 = .ok (.return_, 1) := by decide +kernel
theorem ef_5 (m : MethodId) (zo : Addr) : entryFrame m #[(.ref zo)] 1 = mkF m 0 #[.val (.ref zo)] [] := by first | (simp [entryFrame, mkF, argsToLocals, Value.category]; done) | rfl
def Q5 (Z : State) (zo : Addr) (zr : Addr) (u1 : Value) (h0 : Heap) (n0 : Nat) (v : Option Value) (h : Heap) (L : List Loc) : Prop := v = none ∧ Fr n0 L ∧ Keep h0 h [zo] ∧ Exa Z h zo "com/example/ringspan/ringspan/symmetry/Trace" ∧ Fld Z h zo "com/example/ringspan/ringspan/symmetry/Trace" "hashes" "[J" (.ref zr) ∧ Fld Z h zo "com/example/ringspan/ringspan/symmetry/Trace" "length" "I" (.int (0 : Int32))
set_option maxRecDepth 65536 in
set_option maxHeartbeats 40000000 in
theorem rm5 (l : Launch) (Z : State) (a0 : Array Value) (hw : ∀ d ∈ tables_1, d.before a0 Z = true) (ws : List Jvm.Cond) (zo : Addr) (zr : Addr) (u1 : Value) (h0 : Heap) (n0 : Nat) (Z0 : n0 ≤ h0.size) (P0 : Exa Z h0 zo "com/example/ringspan/ringspan/symmetry/Trace") (P1 : Fld Z h0 zo "com/example/ringspan/ringspan/symmetry/Trace" "hashes" "[J" (.ref zr)) (P2 : Fld Z h0 zo "com/example/ringspan/ringspan/symmetry/Trace" "length" "I" u1) (g_zo : n0 ≤ zo) :
    MetFree l (⟨"com/example/ringspan/ringspan/symmetry/Trace", "clear", "()V"⟩ : MethodName) (head1 (Jvm.Cond.code (⟨"com/example/ringspan/ringspan/symmetry/Trace", "clear", "()V"⟩ : MethodName) prog_75_method_2_code 1 none :: ws) ({ frames := 0, cells := 0, slots := 0, locals := 0 } : Room)) (fun a U => a = #[(.ref zo)] ∧ Z.Warmed39 U.vm ∧ U.heap = h0) (fun _ _ _ _ _ => True) (fun _ U o U' => ∃ v L, o = .returned v ∧ Q5 Z zo zr u1 h0 n0 v U'.heap L ∧ FrameEnd U o U' L ({ frames := 0, cells := 0, slots := 0, locals := 0 } : Room).cells ({ frames := 0, cells := 0, slots := 0, locals := 0 } : Room).slots) := by
  refine MetFree.of_bodySF (plainFor_of_name own_pn47753) hisR ?_
  intro p e s m args below meth c s₁ Bd hml0 hP hK
  obtain ⟨rfl, hZ, hh⟩ := hP
  have hx := Bd.exec
  have hby := Bd.bytes
  have hml : c.maxLocals = 1 := hml0
  have hown : s.vm.findClass "com/example/ringspan/ringspan/symmetry/Trace" = some m.cls := findClass_of_methodNamed Bd.named
  have hnm := (name_of_methodNamed Bd.named Bd.method).1
  have X0 : Stand p l e ({ frames := 0, cells := 0, slots := 0, locals := 0 } : Room) s m #[(.ref zo)] below meth c s₁ [] 0 0 := Stand.of_body Bd
  have e0 : s₁.heap = h0 := by rw [← hh, Bd.state]; rfl
  have N0 := Fr.nil n0
  have K0 := Keep.refl h0 [zo]
  show own_WP p e below (own_E s (Q5 Z zo zr u1 h0 n0) 0 0) s₁ (entryFrame m #[(.ref zo)] 1)
  rw [ef_5 m zo]
  show own_WP _ _ _ _ s₁ (mkF m 0 #[.val (.ref zo)] [])
  refine own_go (fun t k => XS.aloadN X0.here hx rfl (hb hby d5_0) rfl rfl  k) ?_
  show own_WP _ _ _ _ s₁ (mkF m 1 #[.val (.ref zo)] [(.ref zo)])
  refine own_go (fun t k => XS.iconst X0.here hx rfl (hb hby d5_1) k) ?_
  show own_WP _ _ _ _ s₁ (mkF m 2 #[.val (.ref zo)] [(.int (0 : Int32)), (.ref zo)])
  obtain ⟨T1, h1, X1, e1, W1, st1⟩ := putF X0 hx hZ hown (host := "") (Or.inl (hw _ (List.mem_of_getElem? (i := 17) rfl))) Via.refl e0 P2 P0 (Or.inl (hw _ (List.mem_of_getElem? (i := 18) rfl))) (hw _ (List.mem_of_getElem? (i := 1) rfl)) (ty := .int) (by decide) rfl rfl (g := (mkF m 2 #[.val (.ref zo)] [(.int (0 : Int32)), (.ref zo)])) rfl rfl (hb hby d5_2)
  refine own_go st1 ?_
  have f2 : Fld Z h1 zo "com/example/ringspan/ringspan/symmetry/Trace" "length" "I" (.int (0 : Int32)) := P2.same W1
  have f3 : Exa Z h1 zo "com/example/ringspan/ringspan/symmetry/Trace" := P0.wr W1
  have f4 : Fld Z h1 zo "com/example/ringspan/ringspan/symmetry/Trace" "hashes" "[J" (.ref zr) := P1.other W1 (Or.inr (slot_ne (Or.inl (hw _ (List.mem_of_getElem? (i := 11) rfl))) (Or.inl (hw _ (List.mem_of_getElem? (i := 18) rfl))) (by decide) (t := (.array .long)) (t' := .int) (by decide) (by decide)))
  have K6 : Keep h0 h1 [zo] := K0.wr W1 (Or.inl (List.mem_of_getElem? (i := 0) rfl))
  have N7 := Fr.snoc X1 N0 g_zo
  show own_WP _ _ _ _ T1 (mkF m 5 #[.val (.ref zo)] [])
  refine own_retV X1 hx Bd.notSynchronized Bd.returns (hb hby d5_5) (by decide) (by decide) ?_
  rw [e1]
  exact ⟨rfl, N7, K6, f3, f4, f2⟩
theorem d3_0 : decode prog_75_method_5_code 0 = .ok (.iload_n 1, 1) := by decide +kernel
theorem d3_1 : decode prog_75_method_5_code 1 = .ok (.aload_n 0, 1) := by decide +kernel
theorem d3_2 : decode prog_75_method_5_code 2 = .ok (.getfield 13, 3) := by decide +kernel
theorem d3_5 : decode prog_75_method_5_code 5 = .ok (.iconst 1, 1) := by decide +kernel
theorem d3_6 : decode prog_75_method_5_code 6 = .ok (.isub, 1) := by decide +kernel
theorem d3_7 : decode prog_75_method_5_code 7 = .ok (.if_icmp .ne 18, 3) := by decide +kernel
theorem d3_10 : decode prog_75_method_5_code 10 = .ok (.aload_n 0, 1) := by decide +kernel
theorem d3_11 : decode prog_75_method_5_code 11 = .ok (.getfield 7, 3) := by decide +kernel
theorem d3_14 : decode prog_75_method_5_code 14 = .ok (.iload_n 1, 1) := by decide +kernel
theorem d3_15 : decode prog_75_method_5_code 15 = .ok (.laload, 1) := by decide +kernel
theorem d3_16 : decode prog_75_method_5_code 16 = .ok (.lload_n 2, 1) := by decide +kernel
theorem d3_17 : decode prog_75_method_5_code 17 = .ok (.lcmp, 1) := by decide +kernel
theorem d3_18 : decode prog_75_method_5_code 18 = .ok (.ifCond .ne 7, 3) := by decide +kernel
theorem d3_21 : decode prog_75_method_5_code 21 = .ok (.iconst 1, 1) := by decide +kernel
theorem d3_22 : decode prog_75_method_5_code 22 = .ok (.goto 4, 3) := by decide +kernel
theorem d3_25 : decode prog_75_method_5_code 25 = .ok (.iconst 0, 1) := by decide +kernel
theorem d3_26 : decode prog_75_method_5_code 26 = .ok (.ireturn, 1) := by decide +kernel
theorem ef_3 (m : MethodId) (zo : Addr) (zi : Int32) (zq : Int64) : entryFrame m #[(.ref zo), (.int zi), (.long zq)] 4 = mkF m 0 #[.val (.ref zo), .val (.int zi), .val (.long zq), .second] [] := by first | (simp [entryFrame, mkF, argsToLocals, Value.category]; done) | rfl
def Q3 (Z : State) (zo : Addr) (zi : Int32) (zq : Int64) (zr : Addr) (zn : Int32) (zk : ClassId) (zL : List Int64) (h0 : Heap) (n0 : Nat) (v : Option Value) (h : Heap) (L : List Loc) : Prop := v = some (.int (own_ew zn zL zi zq)) ∧ Fr n0 L ∧ h = h0
set_option maxRecDepth 65536 in
set_option maxHeartbeats 40000000 in
theorem rm3 (l : Launch) (Z : State) (a0 : Array Value) (hw : ∀ d ∈ tables_1, d.before a0 Z = true) (ws : List Jvm.Cond) (zo : Addr) (zi : Int32) (zq : Int64) (zr : Addr) (zn : Int32) (zk : ClassId) (zL : List Int64) (h0 : Heap) (n0 : Nat) (Z0 : n0 ≤ h0.size) (P0 : Fld Z h0 zo "com/example/ringspan/ringspan/symmetry/Trace" "hashes" "[J" (.ref zr)) (P1 : Fld Z h0 zo "com/example/ringspan/ringspan/symmetry/Trace" "length" "I" (.int zn)) (P2 : Arv Z h0 zr zk .long (8 : Int32) (List.map Value.long zL) (.long (0 : Int64))) (hlen : zL.length = 8) (hi : zi = zn - 1 → ¬ zi < 0 ∧ zi < 8) :
    MetFree l (⟨"com/example/ringspan/ringspan/symmetry/Trace", "endsWith", "(IJ)Z"⟩ : MethodName) (head1 (Jvm.Cond.code (⟨"com/example/ringspan/ringspan/symmetry/Trace", "endsWith", "(IJ)Z"⟩ : MethodName) prog_75_method_5_code 4 (some .boolean) :: ws) ({ frames := 0, cells := 0, slots := 0, locals := 0 } : Room)) (fun a U => a = #[(.ref zo), (.int zi), (.long zq)] ∧ Z.Warmed39 U.vm ∧ U.heap = h0) (fun _ _ _ _ _ => True) (fun _ U o U' => ∃ v L, o = .returned v ∧ Q3 Z zo zi zq zr zn zk zL h0 n0 v U'.heap L ∧ FrameEnd U o U' L ({ frames := 0, cells := 0, slots := 0, locals := 0 } : Room).cells ({ frames := 0, cells := 0, slots := 0, locals := 0 } : Room).slots) := by
  refine MetFree.of_bodySF (plainFor_of_name own_pn47753) hisR ?_
  intro p e s m args below meth c s₁ Bd hml0 hP hK
  obtain ⟨rfl, hZ, hh⟩ := hP
  have hx := Bd.exec
  have hby := Bd.bytes
  have hml : c.maxLocals = 4 := hml0
  have hown : s.vm.findClass "com/example/ringspan/ringspan/symmetry/Trace" = some m.cls := findClass_of_methodNamed Bd.named
  have hnm := (name_of_methodNamed Bd.named Bd.method).1
  have X0 : Stand p l e ({ frames := 0, cells := 0, slots := 0, locals := 0 } : Room) s m #[(.ref zo), (.int zi), (.long zq)] below meth c s₁ [] 0 0 := Stand.of_body Bd
  have e0 : s₁.heap = h0 := by rw [← hh, Bd.state]; rfl
  have N0 := Fr.nil n0
  have K0 := Keep.refl h0 ([] : List Addr)
  show own_WP p e below (own_E s (Q3 Z zo zi zq zr zn zk zL h0 n0) 0 0) s₁ (entryFrame m #[(.ref zo), (.int zi), (.long zq)] 4)
  rw [ef_3 m zo zi zq]
  show own_WP _ _ _ _ s₁ (mkF m 0 #[.val (.ref zo), .val (.int zi), .val (.long zq), .second] [])
  refine own_go (fun t k => XS.iloadN X0.here hx rfl (hb hby d3_0) rfl  k) ?_
  show own_WP _ _ _ _ s₁ (mkF m 1 #[.val (.ref zo), .val (.int zi), .val (.long zq), .second] [(.int zi)])
  refine own_go (fun t k => XS.aloadN X0.here hx rfl (hb hby d3_1) rfl rfl  k) ?_
  show own_WP _ _ _ _ s₁ (mkF m 2 #[.val (.ref zo), .val (.int zi), .val (.long zq), .second] [(.ref zo), (.int zi)])
  obtain ⟨T1, X1, e1, st1⟩ := getF X0 hx hZ hown (host := "") (Or.inl (hw _ (List.mem_of_getElem? (i := 17) rfl))) Via.refl e0 P1 (g := (mkF m 2 #[.val (.ref zo), .val (.int zi), .val (.long zq), .second] [(.ref zo), (.int zi)])) rfl rfl (hb hby d3_2)
  refine own_go st1 ?_
  show own_WP _ _ _ _ T1 (mkF m 5 #[.val (.ref zo), .val (.int zi), .val (.long zq), .second] [(.int zn), (.int zi)])
  refine own_go (fun t k => XS.iconst X1.here hx rfl (hb hby d3_5) k) ?_
  show own_WP _ _ _ _ T1 (mkF m 6 #[.val (.ref zo), .val (.int zi), .val (.long zq), .second] [(.int (1 : Int32)), (.int zn), (.int zi)])
  refine own_go (fun t k => XS.isub X1.here hx rfl (hb hby d3_6) rfl k) ?_
  show own_WP _ _ _ _ T1 (mkF m 7 #[.val (.ref zo), .val (.int zi), .val (.long zq), .second] [(.int (zn - (1 : Int32))), (.int zi)])
  by_cases hc7 : zi = (zn - (1 : Int32))
  · refine own_go (fun t k => XS.icmpNo X1.here hx rfl (hb hby d3_7) rfl (teq hc7).2 k) ?_
    show own_WP _ _ _ _ T1 (mkF m 10 #[.val (.ref zo), .val (.int zi), .val (.long zq), .second] [])
    refine own_go (fun t k => XS.aloadN X1.here hx rfl (hb hby d3_10) rfl rfl  k) ?_
    show own_WP _ _ _ _ T1 (mkF m 11 #[.val (.ref zo), .val (.int zi), .val (.long zq), .second] [(.ref zo)])
    obtain ⟨T2, X2, e2, st2⟩ := getF X1 hx hZ hown (host := "") (Or.inl (hw _ (List.mem_of_getElem? (i := 10) rfl))) Via.refl e1 P0 (g := (mkF m 11 #[.val (.ref zo), .val (.int zi), .val (.long zq), .second] [(.ref zo)])) rfl rfl (hb hby d3_11)
    refine own_go st2 ?_
    show own_WP _ _ _ _ T2 (mkF m 14 #[.val (.ref zo), .val (.int zi), .val (.long zq), .second] [(.ref zr)])
    refine own_go (fun t k => XS.iloadN X2.here hx rfl (hb hby d3_14) rfl  k) ?_
    show own_WP _ _ _ _ T2 (mkF m 15 #[.val (.ref zo), .val (.int zi), .val (.long zq), .second] [(.int zi), (.ref zr)])
    refine own_ldJ X2 hx hZ e2 P2 (j := zi) (w := (zL.getD zi.toNatClampNeg 0)) (hi hc7) (own_mapget zL zi.toNatClampNeg rfl) (hb hby d3_15) ?_
    show own_WP _ _ _ _ T2 (mkF m 16 #[.val (.ref zo), .val (.int zi), .val (.long zq), .second] [(.long (zL.getD zi.toNatClampNeg 0))])
    refine own_go (fun t k => XS.lloadN X2.here hx rfl (hb hby d3_16) rfl  k) ?_
    show own_WP _ _ _ _ T2 (mkF m 17 #[.val (.ref zo), .val (.int zi), .val (.long zq), .second] [(.long zq), (.long (zL.getD zi.toNatClampNeg 0))])
    refine own_go (fun t k => XS.lcmp X2.here hx rfl (hb hby d3_17) rfl k) ?_
    show own_WP _ _ _ _ T2 (mkF m 18 #[.val (.ref zo), .val (.int zi), .val (.long zq), .second] [(.int (lcmpW (zL.getD zi.toNatClampNeg 0) zq))])
    by_cases hc18 : (zL.getD zi.toNatClampNeg 0) = zq
    · refine own_go (fun t k => XS.ifNo X2.here hx rfl (hb hby d3_18) rfl ((if0 _ _).trans (teq ((lw_eq (zL.getD zi.toNatClampNeg 0) zq).mpr hc18)).2) k) ?_
      show own_WP _ _ _ _ T2 (mkF m 21 #[.val (.ref zo), .val (.int zi), .val (.long zq), .second] [])
      refine own_go (fun t k => XS.iconst X2.here hx rfl (hb hby d3_21) k) ?_
      show own_WP _ _ _ _ T2 (mkF m 22 #[.val (.ref zo), .val (.int zi), .val (.long zq), .second] [(.int (1 : Int32))])
      refine own_go (fun t k => XS.goto X2.here hx rfl (pc0 := 22) (pc' := 26) rfl (hb hby d3_22) (by decide) (by decide) k) ?_
      show own_WP _ _ _ _ T2 (mkF m 26 #[.val (.ref zo), .val (.int zi), .val (.long zq), .second] [(.int (1 : Int32))])
      refine own_retN X2 hx Bd.notSynchronized (t := .boolean) (by simp) Bd.returns (hb hby d3_26) (by decide) (by decide) ?_
      rw [e2]
      exact ⟨(congrArg (fun z => some (Value.int z)) (show (nar .boolean (1 : Int32)) = (own_ew zn zL zi zq) from by first | (simp [nar, own_ew, hc7, hc18]; done) | (simp only [if_true, if_false, eq_self, ↓reduceIte, own_ew, hc7, hc18]; first | done | rfl | decide) | (unfold own_ew; rw [if_pos hc7, if_pos hc18]; first | done | rfl))), N0, rfl⟩
    · refine own_go (fun t k => XS.ifYes X2.here hx rfl (pc0 := 18) (pc' := 25) rfl (hb hby d3_18) rfl ((if0 _ _).trans (feq (fun z => hc18 ((lw_eq (zL.getD zi.toNatClampNeg 0) zq).mp z))).2) (by decide) (by decide) k) ?_
      show own_WP _ _ _ _ T2 (mkF m 25 #[.val (.ref zo), .val (.int zi), .val (.long zq), .second] [])
      refine own_go (fun t k => XS.iconst X2.here hx rfl (hb hby d3_25) k) ?_
      show own_WP _ _ _ _ T2 (mkF m 26 #[.val (.ref zo), .val (.int zi), .val (.long zq), .second] [(.int (0 : Int32))])
      refine own_retN X2 hx Bd.notSynchronized (t := .boolean) (by simp) Bd.returns (hb hby d3_26) (by decide) (by decide) ?_
      rw [e2]
      exact ⟨(congrArg (fun z => some (Value.int z)) (show (nar .boolean (0 : Int32)) = (own_ew zn zL zi zq) from by first | (simp [nar, own_ew, hc7, hc18]; done) | (simp only [if_true, if_false, eq_self, ↓reduceIte, own_ew, hc7, hc18]; first | done | rfl | decide) | (unfold own_ew; rw [if_pos hc7, if_neg hc18]; first | done | rfl))), N0, rfl⟩
  · refine own_go (fun t k => XS.icmpYes X1.here hx rfl (pc0 := 7) (pc' := 25) rfl (hb hby d3_7) rfl (feq hc7).2 (by decide) (by decide) k) ?_
    show own_WP _ _ _ _ T1 (mkF m 25 #[.val (.ref zo), .val (.int zi), .val (.long zq), .second] [])
    refine own_go (fun t k => XS.iconst X1.here hx rfl (hb hby d3_25) k) ?_
    show own_WP _ _ _ _ T1 (mkF m 26 #[.val (.ref zo), .val (.int zi), .val (.long zq), .second] [(.int (0 : Int32))])
    refine own_retN X1 hx Bd.notSynchronized (t := .boolean) (by simp) Bd.returns (hb hby d3_26) (by decide) (by decide) ?_
    rw [e1]
    exact ⟨(congrArg (fun z => some (Value.int z)) (show (nar .boolean (0 : Int32)) = (own_ew zn zL zi zq) from by first | (simp [nar, own_ew, hc7]; done) | (simp only [if_true, if_false, eq_self, ↓reduceIte, own_ew, hc7]; first | done | rfl | decide) | (unfold own_ew; rw [if_neg hc7]; first | done | rfl))), N0, rfl⟩
theorem own_pd91897 : parseMethodDescriptor "()V" = some ⟨[], none⟩ := by decide +kernel
theorem own_pd48266 : parseMethodDescriptor "(IJ)Z" = some ⟨[.int, .long], some .boolean⟩ := by decide +kernel
theorem own_pd99011 : parseMethodDescriptor "(J)V" = some ⟨[.long], none⟩ := by decide +kernel
theorem own_pn74272 : plainName "com/example/ringspan/ringspan/symmetry/TraceEndsWithPinLaw" = true := by first | (simp [plainName, overriddenIn]; done) | decide +kernel
theorem ef_0 (m : MethodId) (zc : Int32) (zx0 : Int32) (zh : Int64) (zq0 : Int64) (zq1 : Int64) (zq2 : Int64) : entryFrame m #[(.int zc), (.int zx0), (.long zh), (.long zq0), (.long zq1), (.long zq2)] maxLocals = mkF m 0 #[.val (.int zc), .val (.int zx0), .val (.long zh), .second, .val (.long zq0), .second, .val (.long zq1), .second, .val (.long zq2), .second, .unset, .unset, .unset, .unset, .unset, .unset, .unset, .unset, .unset, .unset, .unset, .unset] [] := by first | (simp [entryFrame, mkF, argsToLocals, Value.category, maxLocals]; done) | rfl
def Q0 (Z : State) (zc : Int32) (zx0 : Int32) (zh : Int64) (zq0 : Int64) (zq1 : Int64) (zq2 : Int64) (h0 : Heap) (n0 : Nat) (v : Option Value) (h : Heap) (L : List Loc) : Prop := v = some (.int 1) ∧ Fr n0 L
set_option maxRecDepth 65536 in
set_option maxHeartbeats 40000000 in
theorem rm0 (l : Launch) (Z : State) (a0 : Array Value) (hw : ∀ d ∈ tables_1, d.before a0 Z = true) (ws : List Jvm.Cond) (zc : Int32) (zx0 : Int32) (zh : Int64) (zq0 : Int64) (zq1 : Int64) (zq2 : Int64) (h0 : Heap) (n0 : Nat) (Z0 : n0 ≤ h0.size)  :
    MetFree l x (head1 (Jvm.Cond.code x code maxLocals ret :: ws) room_1) (fun a U => a = #[(.int zc), (.int zx0), (.long zh), (.long zq0), (.long zq1), (.long zq2)] ∧ Z.Warmed39 U.vm ∧ U.heap = h0) (fun _ _ _ _ _ => True) (fun _ U o U' => ∃ v L, o = .returned v ∧ Q0 Z zc zx0 zh zq0 zq1 zq2 h0 n0 v U'.heap L ∧ FrameEnd U o U' L 2 10) := by
  refine MetFree.of_bodySF (plainFor_of_name own_pn74272) hisR ?_
  intro p e s m args below meth c s₁ Bd hml0 hP hK
  obtain ⟨rfl, hZ, hh⟩ := hP
  have hx := Bd.exec
  have hby := Bd.bytes
  have hml : c.maxLocals = 22 := hml0
  have hown : s.vm.findClass "com/example/ringspan/ringspan/symmetry/TraceEndsWithPinLaw" = some m.cls := findClass_of_methodNamed Bd.named
  have hnm := (name_of_methodNamed Bd.named Bd.method).1
  have X0 : Stand p l e room_1 s m #[(.int zc), (.int zx0), (.long zh), (.long zq0), (.long zq1), (.long zq2)] below meth c s₁ [] 0 0 := Stand.of_body Bd
  have e0 : s₁.heap = h0 := by rw [← hh, Bd.state]; rfl
  have N0 := Fr.nil n0
  have K0 := Keep.refl h0 ([] : List Addr)
  show own_WP p e below (own_E s (Q0 Z zc zx0 zh zq0 zq1 zq2 h0 n0) 2 10) s₁ (entryFrame m #[(.int zc), (.int zx0), (.long zh), (.long zq0), (.long zq1), (.long zq2)] maxLocals)
  rw [ef_0 m zc zx0 zh zq0 zq1 zq2]
  show own_WP _ _ _ _ s₁ (mkF m 0 #[.val (.int zc), .val (.int zx0), .val (.long zh), .second, .val (.long zq0), .second, .val (.long zq1), .second, .val (.long zq2), .second, .unset, .unset, .unset, .unset, .unset, .unset, .unset, .unset, .unset, .unset, .unset, .unset] [])
  refine own_go (fun t k => XS.iloadN X0.here hx rfl (hb hby at_0) rfl  k) ?_
  show own_WP _ _ _ _ s₁ (mkF m 1 #[.val (.int zc), .val (.int zx0), .val (.long zh), .second, .val (.long zq0), .second, .val (.long zq1), .second, .val (.long zq2), .second, .unset, .unset, .unset, .unset, .unset, .unset, .unset, .unset, .unset, .unset, .unset, .unset] [(.int zc)])
  refine own_go (fun t k => XS.iconst X0.here hx rfl (hb hby at_1) k) ?_
  show own_WP _ _ _ _ s₁ (mkF m 2 #[.val (.int zc), .val (.int zx0), .val (.long zh), .second, .val (.long zq0), .second, .val (.long zq1), .second, .val (.long zq2), .second, .unset, .unset, .unset, .unset, .unset, .unset, .unset, .unset, .unset, .unset, .unset, .unset] [(.int (3 : Int32)), (.int zc)])
  refine own_go (fun t k => XS.iand X0.here hx rfl (hb hby at_2) rfl k) ?_
  show own_WP _ _ _ _ s₁ (mkF m 3 #[.val (.int zc), .val (.int zx0), .val (.long zh), .second, .val (.long zq0), .second, .val (.long zq1), .second, .val (.long zq2), .second, .unset, .unset, .unset, .unset, .unset, .unset, .unset, .unset, .unset, .unset, .unset, .unset] [(.int (zc &&& (3 : Int32)))])
  generalize d_za : (zc &&& (3 : Int32)) = za
  refine own_go (fun t k => XS.istore X0.here hx rfl (hb hby at_3) rfl (l' := #[.val (.int zc), .val (.int zx0), .val (.long zh), .second, .val (.long zq0), .second, .val (.long zq1), .second, .val (.long zq2), .second, .val (.int za), .unset, .unset, .unset, .unset, .unset, .unset, .unset, .unset, .unset, .unset, .unset]) rfl k) ?_
  have ha1 : 0 ≤ za.toInt ∧ za.toInt < 4 := by rw [← d_za, Jvm.Kit.i32_mask _ 3 (k := 2) (by decide) (by decide)]; omega
  have J20 : ∀ (zd : Int32) (T1 : State) (h1 : Heap) (L1 : List Loc), Stand p l e room_1 s m #[(.int zc), (.int zx0), (.long zh), (.long zq0), (.long zq1), (.long zq2)] below meth c T1 L1 0 0 → T1.heap = h1 → Fr n0 L1 → Keep h0 h1 [] → own_WP p e below (own_E s (Q0 Z zc zx0 zh zq0 zq1 zq2 h0 n0) 2 10) T1 (mkF m 20 #[.val (.int zc), .val (.int zx0), .val (.long zh), .second, .val (.long zq0), .second, .val (.long zq1), .second, .val (.long zq2), .second, .val (.int za), .val (.int zd), .unset, .unset, .unset, .unset, .unset, .unset, .unset, .unset, .unset, .unset] []) := by
    intro zd T1 h1 L1 X1 e1 N1 K1j
    show own_WP _ _ _ _ T1 (mkF m 20 #[.val (.int zc), .val (.int zx0), .val (.long zh), .second, .val (.long zq0), .second, .val (.long zq1), .second, .val (.long zq2), .second, .val (.int za), .val (.int zd), .unset, .unset, .unset, .unset, .unset, .unset, .unset, .unset, .unset, .unset] [])
    refine own_go (fun t k => XS.iloadN X1.here hx rfl (hb hby at_20) rfl  k) ?_
    show own_WP _ _ _ _ T1 (mkF m 21 #[.val (.int zc), .val (.int zx0), .val (.long zh), .second, .val (.long zq0), .second, .val (.long zq1), .second, .val (.long zq2), .second, .val (.int za), .val (.int zd), .unset, .unset, .unset, .unset, .unset, .unset, .unset, .unset, .unset, .unset] [(.int zc)])
    refine own_go (fun t k => XS.iconst X1.here hx rfl (hb hby at_21) k) ?_
    show own_WP _ _ _ _ T1 (mkF m 22 #[.val (.int zc), .val (.int zx0), .val (.long zh), .second, .val (.long zq0), .second, .val (.long zq1), .second, .val (.long zq2), .second, .val (.int za), .val (.int zd), .unset, .unset, .unset, .unset, .unset, .unset, .unset, .unset, .unset, .unset] [(.int (3 : Int32)), (.int zc)])
    refine own_go (fun t k => XS.ishr X1.here hx rfl (hb hby at_22) rfl k) ?_
    show own_WP _ _ _ _ T1 (mkF m 23 #[.val (.int zc), .val (.int zx0), .val (.long zh), .second, .val (.long zq0), .second, .val (.long zq1), .second, .val (.long zq2), .second, .val (.int za), .val (.int zd), .unset, .unset, .unset, .unset, .unset, .unset, .unset, .unset, .unset, .unset] [(.int (zc >>> ((3 : Int32) &&& 31)))])
    refine own_go (fun t k => XS.iconst X1.here hx rfl (hb hby at_23) k) ?_
    show own_WP _ _ _ _ T1 (mkF m 24 #[.val (.int zc), .val (.int zx0), .val (.long zh), .second, .val (.long zq0), .second, .val (.long zq1), .second, .val (.long zq2), .second, .val (.int za), .val (.int zd), .unset, .unset, .unset, .unset, .unset, .unset, .unset, .unset, .unset, .unset] [(.int (3 : Int32)), (.int (zc >>> ((3 : Int32) &&& 31)))])
    refine own_go (fun t k => XS.iand X1.here hx rfl (hb hby at_24) rfl k) ?_
    show own_WP _ _ _ _ T1 (mkF m 25 #[.val (.int zc), .val (.int zx0), .val (.long zh), .second, .val (.long zq0), .second, .val (.long zq1), .second, .val (.long zq2), .second, .val (.int za), .val (.int zd), .unset, .unset, .unset, .unset, .unset, .unset, .unset, .unset, .unset, .unset] [(.int ((zc >>> ((3 : Int32) &&& 31)) &&& (3 : Int32)))])
    generalize d_zb : ((zc >>> ((3 : Int32) &&& 31)) &&& (3 : Int32)) = zb
    refine own_go (fun t k => XS.istore X1.here hx rfl (hb hby at_25) rfl (l' := #[.val (.int zc), .val (.int zx0), .val (.long zh), .second, .val (.long zq0), .second, .val (.long zq1), .second, .val (.long zq2), .second, .val (.int za), .val (.int zd), .val (.int zb), .unset, .unset, .unset, .unset, .unset, .unset, .unset, .unset, .unset]) rfl k) ?_
    have hb1x : 0 ≤ zb.toInt ∧ zb.toInt < 4 := by rw [← d_zb, Jvm.Kit.i32_mask _ 3 (k := 2) (by decide) (by decide)]; omega
    show own_WP _ _ _ _ T1 (mkF m 27 #[.val (.int zc), .val (.int zx0), .val (.long zh), .second, .val (.long zq0), .second, .val (.long zq1), .second, .val (.long zq2), .second, .val (.int za), .val (.int zd), .val (.int zb), .unset, .unset, .unset, .unset, .unset, .unset, .unset, .unset, .unset] [])
    refine own_go (fun t k => XS.iloadN X1.here hx rfl (hb hby at_27) rfl  k) ?_
    show own_WP _ _ _ _ T1 (mkF m 28 #[.val (.int zc), .val (.int zx0), .val (.long zh), .second, .val (.long zq0), .second, .val (.long zq1), .second, .val (.long zq2), .second, .val (.int za), .val (.int zd), .val (.int zb), .unset, .unset, .unset, .unset, .unset, .unset, .unset, .unset, .unset] [(.int zc)])
    refine own_go (fun t k => XS.iconst X1.here hx rfl (hb hby at_28) k) ?_
    show own_WP _ _ _ _ T1 (mkF m 29 #[.val (.int zc), .val (.int zx0), .val (.long zh), .second, .val (.long zq0), .second, .val (.long zq1), .second, .val (.long zq2), .second, .val (.int za), .val (.int zd), .val (.int zb), .unset, .unset, .unset, .unset, .unset, .unset, .unset, .unset, .unset] [(.int (5 : Int32)), (.int zc)])
    refine own_go (fun t k => XS.ishr X1.here hx rfl (hb hby at_29) rfl k) ?_
    show own_WP _ _ _ _ T1 (mkF m 30 #[.val (.int zc), .val (.int zx0), .val (.long zh), .second, .val (.long zq0), .second, .val (.long zq1), .second, .val (.long zq2), .second, .val (.int za), .val (.int zd), .val (.int zb), .unset, .unset, .unset, .unset, .unset, .unset, .unset, .unset, .unset] [(.int (zc >>> ((5 : Int32) &&& 31)))])
    refine own_go (fun t k => XS.iconst X1.here hx rfl (hb hby at_30) k) ?_
    show own_WP _ _ _ _ T1 (mkF m 31 #[.val (.int zc), .val (.int zx0), .val (.long zh), .second, .val (.long zq0), .second, .val (.long zq1), .second, .val (.long zq2), .second, .val (.int za), .val (.int zd), .val (.int zb), .unset, .unset, .unset, .unset, .unset, .unset, .unset, .unset, .unset] [(.int (3 : Int32)), (.int (zc >>> ((5 : Int32) &&& 31)))])
    refine own_go (fun t k => XS.iand X1.here hx rfl (hb hby at_31) rfl k) ?_
    show own_WP _ _ _ _ T1 (mkF m 32 #[.val (.int zc), .val (.int zx0), .val (.long zh), .second, .val (.long zq0), .second, .val (.long zq1), .second, .val (.long zq2), .second, .val (.int za), .val (.int zd), .val (.int zb), .unset, .unset, .unset, .unset, .unset, .unset, .unset, .unset, .unset] [(.int ((zc >>> ((5 : Int32) &&& 31)) &&& (3 : Int32)))])
    generalize d_zs : ((zc >>> ((5 : Int32) &&& 31)) &&& (3 : Int32)) = zs
    refine own_go (fun t k => XS.istore X1.here hx rfl (hb hby at_32) rfl (l' := #[.val (.int zc), .val (.int zx0), .val (.long zh), .second, .val (.long zq0), .second, .val (.long zq1), .second, .val (.long zq2), .second, .val (.int za), .val (.int zd), .val (.int zb), .val (.int zs), .unset, .unset, .unset, .unset, .unset, .unset, .unset, .unset]) rfl k) ?_
    have J55 : ∀ (zx : Int32) (T2 : State) (h2 : Heap) (L2 : List Loc), Stand p l e room_1 s m #[(.int zc), (.int zx0), (.long zh), (.long zq0), (.long zq1), (.long zq2)] below meth c T2 L2 0 0 → T2.heap = h2 → Fr n0 L2 → Keep h0 h2 [] → own_WP p e below (own_E s (Q0 Z zc zx0 zh zq0 zq1 zq2 h0 n0) 2 10) T2 (mkF m 55 #[.val (.int zc), .val (.int zx0), .val (.long zh), .second, .val (.long zq0), .second, .val (.long zq1), .second, .val (.long zq2), .second, .val (.int za), .val (.int zd), .val (.int zb), .val (.int zs), .val (.int zx), .unset, .unset, .unset, .unset, .unset, .unset, .unset] []) := by
      intro zx T2 h2 L2 X2 e2 N2 K2j
      have J90 : ∀ (zq : Int64) (T3 : State) (h3 : Heap) (L3 : List Loc), Stand p l e room_1 s m #[(.int zc), (.int zx0), (.long zh), (.long zq0), (.long zq1), (.long zq2)] below meth c T3 L3 0 0 → T3.heap = h3 → Fr n0 L3 → Keep h0 h3 [] → own_WP p e below (own_E s (Q0 Z zc zx0 zh zq0 zq1 zq2 h0 n0) 2 10) T3 (mkF m 90 #[.val (.int zc), .val (.int zx0), .val (.long zh), .second, .val (.long zq0), .second, .val (.long zq1), .second, .val (.long zq2), .second, .val (.int za), .val (.int zd), .val (.int zb), .val (.int zs), .val (.int zx), .val (.long zq), .second, .unset, .unset, .unset, .unset, .unset] []) := by
        intro zq T3 h3 L3 X3 e3 N3 K3j
        have J106 : ∀ (zm : Int32) (T4 : State) (h4 : Heap) (L4 : List Loc), Stand p l e room_1 s m #[(.int zc), (.int zx0), (.long zh), (.long zq0), (.long zq1), (.long zq2)] below meth c T4 L4 0 0 → T4.heap = h4 → Fr n0 L4 → Keep h0 h4 [] → (zm = own_ln za zd zb) → own_WP p e below (own_E s (Q0 Z zc zx0 zh zq0 zq1 zq2 h0 n0) 2 10) T4 (mkF m 106 #[.val (.int zc), .val (.int zx0), .val (.long zh), .second, .val (.long zq0), .second, .val (.long zq1), .second, .val (.long zq2), .second, .val (.int za), .val (.int zd), .val (.int zb), .val (.int zs), .val (.int zx), .val (.long zq), .second, .val (.int zm), .unset, .unset, .unset, .unset] []) := by
          intro zm T4 h4 L4 X4 e4 N4 K4j hln
          have J119 : ∀  (T5 : State) (h5 : Heap) (L5 : List Loc), Stand p l e room_1 s m #[(.int zc), (.int zx0), (.long zh), (.long zq0), (.long zq1), (.long zq2)] below meth c T5 L5 0 0 → T5.heap = h5 → Fr n0 L5 → Keep h0 h5 [] → (¬ (zm = 0 ∧ zx = -1)) → own_WP p e below (own_E s (Q0 Z zc zx0 zh zq0 zq1 zq2 h0 n0) 2 10) T5 (mkF m 119 #[.val (.int zc), .val (.int zx0), .val (.long zh), .second, .val (.long zq0), .second, .val (.long zq1), .second, .val (.long zq2), .second, .val (.int za), .val (.int zd), .val (.int zb), .val (.int zs), .val (.int zx), .val (.long zq), .second, .val (.int zm), .unset, .unset, .unset, .unset] []) := by
            intro T5 h5 L5 X5 e5 N5 K5j hok
            show own_WP _ _ _ _ T5 (mkF m 119 #[.val (.int zc), .val (.int zx0), .val (.long zh), .second, .val (.long zq0), .second, .val (.long zq1), .second, .val (.long zq2), .second, .val (.int za), .val (.int zd), .val (.int zb), .val (.int zs), .val (.int zx), .val (.long zq), .second, .val (.int zm), .unset, .unset, .unset, .unset] [])
            obtain ⟨T6, h6, X6, e6, E6, A6, D6, -, st6⟩ := newO X5 hx hZ hown (hw _ (List.mem_of_getElem? (i := 0) rfl)) (hw _ (List.mem_of_getElem? (i := 1) rfl)) (hw _ (List.mem_of_getElem? (i := 2) rfl)) e5 (g := (mkF m 119 #[.val (.int zc), .val (.int zx0), .val (.long zh), .second, .val (.long zq0), .second, .val (.long zq1), .second, .val (.long zq2), .second, .val (.int za), .val (.int zd), .val (.int zb), .val (.int zs), .val (.int zx), .val (.long zq), .second, .val (.int zm), .unset, .unset, .unset, .unset] [])) rfl (hb hby at_119) (by decide) (by decide)
            obtain ⟨zo, q6⟩ : ∃ z, z = h5.size := ⟨_, rfl⟩
            rw [← q6] at A6 D6 st6
            refine own_go st6 ?_
            have g_zo : n0 ≤ zo := Nat.le_trans (own_le Z0 K5j) (Nat.le_of_eq q6.symm)
            have sz_zo : h0.size ≤ zo := Nat.le_trans K5j.1 (Nat.le_of_eq q6.symm)
            have K7 : Keep h0 h6 [] := K5j.ext E6
            have f8 : Fld Z h6 zo "com/example/ringspan/ringspan/symmetry/Trace" "hashes" "[J" .null := D6 (Or.inl (hw _ (List.mem_of_getElem? (i := 11) rfl))) (ty := (.array .long)) (by decide)
            have f9 : Fld Z h6 zo "com/example/ringspan/ringspan/symmetry/Trace" "length" "I" (.int (0 : Int32)) := D6 (Or.inl (hw _ (List.mem_of_getElem? (i := 18) rfl))) (ty := .int) (by decide)
            show own_WP _ _ _ _ T6 (mkF m 122 #[.val (.int zc), .val (.int zx0), .val (.long zh), .second, .val (.long zq0), .second, .val (.long zq1), .second, .val (.long zq2), .second, .val (.int za), .val (.int zd), .val (.int zb), .val (.int zs), .val (.int zx), .val (.long zq), .second, .val (.int zm), .unset, .unset, .unset, .unset] [(.ref zo)])
            refine own_go (fun t k => XS.dup X6.here hx rfl (hb hby at_122) rfl rfl k) ?_
            show own_WP _ _ _ _ T6 (mkF m 123 #[.val (.int zc), .val (.int zx0), .val (.long zh), .second, .val (.long zq0), .second, .val (.long zq1), .second, .val (.long zq2), .second, .val (.int za), .val (.int zd), .val (.int zb), .val (.int zs), .val (.int zx), .val (.long zq), .second, .val (.int zm), .unset, .unset, .unset, .unset] [(.ref zo), (.ref zo)])
            obtain ⟨_, _, ⟨T10, L10, k10, n10⟩, -, X10, ⟨Lc10, hQ10, l10, y10, z10⟩, st10⟩ := X6.specialBack hx (y := (⟨"com/example/ringspan/ringspan/symmetry/Trace", "<init>", "()V"⟩ : MethodName)) rfl hown (mvT hZ (hw _ (List.mem_of_getElem? (i := 3) rfl))) (mvT hZ (hw _ (List.mem_of_getElem? (i := 4) rfl))) (mvT hZ (hw _ (List.mem_of_getElem? (i := 5) rfl))) (by decide) (backOf (W := 1) (rm1 l Z a0 hw [] zo .null (.int (0 : Int32)) h6 n0 (own_le Z0 K7) A6 f8 f9 g_zo) hZ (hw _ (List.mem_of_getElem? (i := 5) rfl)) (hw _ (List.mem_of_getElem? (i := 2) rfl)) (by decide) (by decide)) (g := (mkF m 123 #[.val (.int zc), .val (.int zx0), .val (.long zh), .second, .val (.long zq0), .second, .val (.long zq1), .second, .val (.long zq2), .second, .val (.int za), .val (.int zd), .val (.int zb), .val (.int zs), .val (.int zx), .val (.long zq), .second, .val (.int zm), .unset, .unset, .unset, .unset] [(.ref zo), (.ref zo)])) rfl (by rw [hml]; rfl) (Steps.refl _) (a := zo) (argsL := []) (rest := [(.ref zo)]) (lenOf own_pd91897 rfl) rfl (by show 2 * 0 + _ ≤ _; exact Nat.le_of_eq rfl) (hb hby at_123) (fun _ _ => ⟨rfl, e6, (by decide : 1 + 1 ≤ _), (by decide : 2 + 8 ≤ _)⟩)
            dsimp only [Pt.U, Pt.locs, Pt.cells, Pt.slots] at X10 l10 y10 z10 st10 hQ10
            subst l10 y10 z10
            obtain ⟨zr, zk, rfl, N10q, Kc10, g_zr, szc_zr, f11, f12, f13, f14⟩ := hQ10
            have N10 := Fr.app N5 N10q
            refine own_tr st10 ?_
            have sz_zr : h0.size ≤ zr := Nat.le_trans K7.1 szc_zr
            have ne_zo_zr : zo ≠ zr := Nat.ne_of_lt (Nat.lt_of_lt_of_le A6.lt szc_zr)
            have f15 : Exa Z T10.heap zo "com/example/ringspan/ringspan/symmetry/Trace" := A6.keep Kc10
            have K18 : Keep h0 T10.heap [] := K7.trans Kc10 (fun x hx => by cases List.mem_singleton.mp hx; exact Or.inr sz_zo)
            show own_WP _ _ _ _ T10 (mkF m 126 #[.val (.int zc), .val (.int zx0), .val (.long zh), .second, .val (.long zq0), .second, .val (.long zq1), .second, .val (.long zq2), .second, .val (.int za), .val (.int zd), .val (.int zb), .val (.int zs), .val (.int zx), .val (.long zq), .second, .val (.int zm), .unset, .unset, .unset, .unset] [(.ref zo)])
            refine own_go (fun t k => XS.astore X10.here hx rfl (hb hby at_126) rfl rfl (l' := #[.val (.int zc), .val (.int zx0), .val (.long zh), .second, .val (.long zq0), .second, .val (.long zq1), .second, .val (.long zq2), .second, .val (.int za), .val (.int zd), .val (.int zb), .val (.int zs), .val (.int zx), .val (.long zq), .second, .val (.int zm), .val (.ref zo), .unset, .unset, .unset]) rfl k) ?_
            have J140 : ∀ (zn1 : Int32) (zL1 : List Int64) (T19 : State) (h19 : Heap) (L19 : List Loc), Stand p l e room_1 s m #[(.int zc), (.int zx0), (.long zh), (.long zq0), (.long zq1), (.long zq2)] below meth c T19 L19 2 10 → T19.heap = h19 → Fr n0 L19 → Keep h0 h19 [] → Exa Z h19 zo "com/example/ringspan/ringspan/symmetry/Trace" → Fld Z h19 zo "com/example/ringspan/ringspan/symmetry/Trace" "hashes" "[J" (.ref zr) → Fld Z h19 zo "com/example/ringspan/ringspan/symmetry/Trace" "length" "I" (.int zn1) → Arv Z h19 zr zk .long (8 : Int32) (List.map Value.long zL1) (.long (0 : Int64)) → ((zn1, zL1) = own_s1 za zq0) → (0 ≤ zn1.toInt ∧ zn1.toInt ≤ 1) → (zL1.length = 8) → own_WP p e below (own_E s (Q0 Z zc zx0 zh zq0 zq1 zq2 h0 n0) 2 10) T19 (mkF m 140 #[.val (.int zc), .val (.int zx0), .val (.long zh), .second, .val (.long zq0), .second, .val (.long zq1), .second, .val (.long zq2), .second, .val (.int za), .val (.int zd), .val (.int zb), .val (.int zs), .val (.int zx), .val (.long zq), .second, .val (.int zm), .val (.ref zo), .unset, .unset, .unset] []) := by
              intro zn1 zL1 T19 h19 L19 X19 e19 N19 K19j f20 f21 f22 f23 hs1 hb1 hl1
              have J153 : ∀ (zn2 : Int32) (zL2 : List Int64) (T24 : State) (h24 : Heap) (L24 : List Loc), Stand p l e room_1 s m #[(.int zc), (.int zx0), (.long zh), (.long zq0), (.long zq1), (.long zq2)] below meth c T24 L24 2 10 → T24.heap = h24 → Fr n0 L24 → Keep h0 h24 [] → Exa Z h24 zo "com/example/ringspan/ringspan/symmetry/Trace" → Fld Z h24 zo "com/example/ringspan/ringspan/symmetry/Trace" "hashes" "[J" (.ref zr) → Fld Z h24 zo "com/example/ringspan/ringspan/symmetry/Trace" "length" "I" (.int zn2) → Arv Z h24 zr zk .long (8 : Int32) (List.map Value.long zL2) (.long (0 : Int64)) → ((zn2, zL2) = own_s2 za zq0 zq1) → (0 ≤ zn2.toInt ∧ zn2.toInt ≤ 2) → (zL2.length = 8) → own_WP p e below (own_E s (Q0 Z zc zx0 zh zq0 zq1 zq2 h0 n0) 2 10) T24 (mkF m 153 #[.val (.int zc), .val (.int zx0), .val (.long zh), .second, .val (.long zq0), .second, .val (.long zq1), .second, .val (.long zq2), .second, .val (.int za), .val (.int zd), .val (.int zb), .val (.int zs), .val (.int zx), .val (.long zq), .second, .val (.int zm), .val (.ref zo), .unset, .unset, .unset] []) := by
                intro zn2 zL2 T24 h24 L24 X24 e24 N24 K24j f25 f26 f27 f28 hs2 hb2 hl2
                have J166 : ∀ (zn3 : Int32) (zL3 : List Int64) (T29 : State) (h29 : Heap) (L29 : List Loc), Stand p l e room_1 s m #[(.int zc), (.int zx0), (.long zh), (.long zq0), (.long zq1), (.long zq2)] below meth c T29 L29 2 10 → T29.heap = h29 → Fr n0 L29 → Keep h0 h29 [] → Exa Z h29 zo "com/example/ringspan/ringspan/symmetry/Trace" → Fld Z h29 zo "com/example/ringspan/ringspan/symmetry/Trace" "hashes" "[J" (.ref zr) → Fld Z h29 zo "com/example/ringspan/ringspan/symmetry/Trace" "length" "I" (.int zn3) → Arv Z h29 zr zk .long (8 : Int32) (List.map Value.long zL3) (.long (0 : Int64)) → ((zn3, zL3) = own_s3 za zq0 zq1 zq2) → (0 ≤ zn3.toInt ∧ zn3.toInt ≤ 3) → (zL3.length = 8) → own_WP p e below (own_E s (Q0 Z zc zx0 zh zq0 zq1 zq2 h0 n0) 2 10) T29 (mkF m 166 #[.val (.int zc), .val (.int zx0), .val (.long zh), .second, .val (.long zq0), .second, .val (.long zq1), .second, .val (.long zq2), .second, .val (.int za), .val (.int zd), .val (.int zb), .val (.int zs), .val (.int zx), .val (.long zq), .second, .val (.int zm), .val (.ref zo), .unset, .unset, .unset] []) := by
                  intro zn3 zL3 T29 h29 L29 X29 e29 N29 K29j f30 f31 f32 f33 hs3 hb3 hl3
                  have J176 : ∀ (zn4 : Int32) (zL4 : List Int64) (T34 : State) (h34 : Heap) (L34 : List Loc), Stand p l e room_1 s m #[(.int zc), (.int zx0), (.long zh), (.long zq0), (.long zq1), (.long zq2)] below meth c T34 L34 2 10 → T34.heap = h34 → Fr n0 L34 → Keep h0 h34 [] → Exa Z h34 zo "com/example/ringspan/ringspan/symmetry/Trace" → Fld Z h34 zo "com/example/ringspan/ringspan/symmetry/Trace" "hashes" "[J" (.ref zr) → Fld Z h34 zo "com/example/ringspan/ringspan/symmetry/Trace" "length" "I" (.int zn4) → Arv Z h34 zr zk .long (8 : Int32) (List.map Value.long zL4) (.long (0 : Int64)) → ((zn4, zL4) = own_s4 za zd zq0 zq1 zq2) → (0 ≤ zn4.toInt ∧ zn4.toInt ≤ 4) → (zL4.length = 8) → own_WP p e below (own_E s (Q0 Z zc zx0 zh zq0 zq1 zq2 h0 n0) 2 10) T34 (mkF m 176 #[.val (.int zc), .val (.int zx0), .val (.long zh), .second, .val (.long zq0), .second, .val (.long zq1), .second, .val (.long zq2), .second, .val (.int za), .val (.int zd), .val (.int zb), .val (.int zs), .val (.int zx), .val (.long zq), .second, .val (.int zm), .val (.ref zo), .unset, .unset, .unset] []) := by
                    intro zn4 zL4 T34 h34 L34 X34 e34 N34 K34j f35 f36 f37 f38 hs4 hb4 hl4
                    have J188 : ∀ (zn5 : Int32) (zL5 : List Int64) (T39 : State) (h39 : Heap) (L39 : List Loc), Stand p l e room_1 s m #[(.int zc), (.int zx0), (.long zh), (.long zq0), (.long zq1), (.long zq2)] below meth c T39 L39 2 10 → T39.heap = h39 → Fr n0 L39 → Keep h0 h39 [] → Exa Z h39 zo "com/example/ringspan/ringspan/symmetry/Trace" → Fld Z h39 zo "com/example/ringspan/ringspan/symmetry/Trace" "hashes" "[J" (.ref zr) → Fld Z h39 zo "com/example/ringspan/ringspan/symmetry/Trace" "length" "I" (.int zn5) → Arv Z h39 zr zk .long (8 : Int32) (List.map Value.long zL5) (.long (0 : Int64)) → ((zn5, zL5) = own_s5 za zd zb zq0 zq1 zq2) → (0 ≤ zn5.toInt ∧ zn5.toInt ≤ 5) → (zL5.length = 8) → own_WP p e below (own_E s (Q0 Z zc zx0 zh zq0 zq1 zq2 h0 n0) 2 10) T39 (mkF m 188 #[.val (.int zc), .val (.int zx0), .val (.long zh), .second, .val (.long zq0), .second, .val (.long zq1), .second, .val (.long zq2), .second, .val (.int za), .val (.int zd), .val (.int zb), .val (.int zs), .val (.int zx), .val (.long zq), .second, .val (.int zm), .val (.ref zo), .unset, .unset, .unset] []) := by
                      intro zn5 zL5 T39 h39 L39 X39 e39 N39 K39j f40 f41 f42 f43 hs5 hb5 hl5
                      have J201 : ∀ (zn6 : Int32) (zL6 : List Int64) (T44 : State) (h44 : Heap) (L44 : List Loc), Stand p l e room_1 s m #[(.int zc), (.int zx0), (.long zh), (.long zq0), (.long zq1), (.long zq2)] below meth c T44 L44 2 10 → T44.heap = h44 → Fr n0 L44 → Keep h0 h44 [] → Exa Z h44 zo "com/example/ringspan/ringspan/symmetry/Trace" → Fld Z h44 zo "com/example/ringspan/ringspan/symmetry/Trace" "hashes" "[J" (.ref zr) → Fld Z h44 zo "com/example/ringspan/ringspan/symmetry/Trace" "length" "I" (.int zn6) → Arv Z h44 zr zk .long (8 : Int32) (List.map Value.long zL6) (.long (0 : Int64)) → ((zn6, zL6) = own_s6 za zd zb zq0 zq1 zq2) → (0 ≤ zn6.toInt ∧ zn6.toInt ≤ 6) → (zL6.length = 8) → own_WP p e below (own_E s (Q0 Z zc zx0 zh zq0 zq1 zq2 h0 n0) 2 10) T44 (mkF m 201 #[.val (.int zc), .val (.int zx0), .val (.long zh), .second, .val (.long zq0), .second, .val (.long zq1), .second, .val (.long zq2), .second, .val (.int za), .val (.int zd), .val (.int zb), .val (.int zs), .val (.int zx), .val (.long zq), .second, .val (.int zm), .val (.ref zo), .unset, .unset, .unset] []) := by
                        intro zn6 zL6 T44 h44 L44 X44 e44 N44 K44j f45 f46 f47 f48 hs6 hb6 hl6
                        have J214 : ∀ (zn7 : Int32) (zL7 : List Int64) (T49 : State) (h49 : Heap) (L49 : List Loc), Stand p l e room_1 s m #[(.int zc), (.int zx0), (.long zh), (.long zq0), (.long zq1), (.long zq2)] below meth c T49 L49 2 10 → T49.heap = h49 → Fr n0 L49 → Keep h0 h49 [] → Exa Z h49 zo "com/example/ringspan/ringspan/symmetry/Trace" → Fld Z h49 zo "com/example/ringspan/ringspan/symmetry/Trace" "hashes" "[J" (.ref zr) → Fld Z h49 zo "com/example/ringspan/ringspan/symmetry/Trace" "length" "I" (.int zn7) → Arv Z h49 zr zk .long (8 : Int32) (List.map Value.long zL7) (.long (0 : Int64)) → ((zn7, zL7) = own_s7 za zd zb zq0 zq1 zq2) → (0 ≤ zn7.toInt ∧ zn7.toInt ≤ 7) → (zL7.length = 8) → own_WP p e below (own_E s (Q0 Z zc zx0 zh zq0 zq1 zq2 h0 n0) 2 10) T49 (mkF m 214 #[.val (.int zc), .val (.int zx0), .val (.long zh), .second, .val (.long zq0), .second, .val (.long zq1), .second, .val (.long zq2), .second, .val (.int za), .val (.int zd), .val (.int zb), .val (.int zs), .val (.int zx), .val (.long zq), .second, .val (.int zm), .val (.ref zo), .unset, .unset, .unset] []) := by
                          intro zn7 zL7 T49 h49 L49 X49 e49 N49 K49j f50 f51 f52 f53 hs7 hb7 hl7
                          have hkey := own_key za zd zb zq0 zq1 zq2 ha1.1 ha1.2 hb1x.1 hb1x.2 zn7 zL7 hs7
                          show own_WP _ _ _ _ T49 (mkF m 214 #[.val (.int zc), .val (.int zx0), .val (.long zh), .second, .val (.long zq0), .second, .val (.long zq1), .second, .val (.long zq2), .second, .val (.int za), .val (.int zd), .val (.int zb), .val (.int zs), .val (.int zx), .val (.long zq), .second, .val (.int zm), .val (.ref zo), .unset, .unset, .unset] [])
                          refine own_go (fun t k => XS.iload X49.here hx rfl (hb hby at_214) rfl  k) ?_
                          show own_WP _ _ _ _ T49 (mkF m 216 #[.val (.int zc), .val (.int zx0), .val (.long zh), .second, .val (.long zq0), .second, .val (.long zq1), .second, .val (.long zq2), .second, .val (.int za), .val (.int zd), .val (.int zb), .val (.int zs), .val (.int zx), .val (.long zq), .second, .val (.int zm), .val (.ref zo), .unset, .unset, .unset] [(.int zm)])
                          by_cases hc216 : zm = (0 : Int32)
                          · refine own_go (fun t k => XS.ifNo X49.here hx rfl (hb hby at_216) rfl ((if0 _ _).trans (teq hc216).2) k) ?_
                            show own_WP _ _ _ _ T49 (mkF m 219 #[.val (.int zc), .val (.int zx0), .val (.long zh), .second, .val (.long zq0), .second, .val (.long zq1), .second, .val (.long zq2), .second, .val (.int za), .val (.int zd), .val (.int zb), .val (.int zs), .val (.int zx), .val (.long zq), .second, .val (.int zm), .val (.ref zo), .unset, .unset, .unset] [])
                            refine own_go (fun t k => XS.iconst X49.here hx rfl (hb hby at_219) k) ?_
                            show own_WP _ _ _ _ T49 (mkF m 220 #[.val (.int zc), .val (.int zx0), .val (.long zh), .second, .val (.long zq0), .second, .val (.long zq1), .second, .val (.long zq2), .second, .val (.int za), .val (.int zd), .val (.int zb), .val (.int zs), .val (.int zx), .val (.long zq), .second, .val (.int zm), .val (.ref zo), .unset, .unset, .unset] [(.int (0 : Int32))])
                            refine own_go (fun t k => XS.istore X49.here hx rfl (hb hby at_220) rfl (l' := #[.val (.int zc), .val (.int zx0), .val (.long zh), .second, .val (.long zq0), .second, .val (.long zq1), .second, .val (.long zq2), .second, .val (.int za), .val (.int zd), .val (.int zb), .val (.int zs), .val (.int zx), .val (.long zq), .second, .val (.int zm), .val (.ref zo), .val (.int (0 : Int32)), .unset, .unset]) rfl k) ?_
                            show own_WP _ _ _ _ T49 (mkF m 222 #[.val (.int zc), .val (.int zx0), .val (.long zh), .second, .val (.long zq0), .second, .val (.long zq1), .second, .val (.long zq2), .second, .val (.int za), .val (.int zd), .val (.int zb), .val (.int zs), .val (.int zx), .val (.long zq), .second, .val (.int zm), .val (.ref zo), .val (.int (0 : Int32)), .unset, .unset] [])
                            refine own_go (fun t k => XS.goto X49.here hx rfl (pc0 := 222) (pc' := 309) rfl (hb hby at_222) (by decide) (by decide) k) ?_
                            show own_WP _ _ _ _ T49 (mkF m 309 #[.val (.int zc), .val (.int zx0), .val (.long zh), .second, .val (.long zq0), .second, .val (.long zq1), .second, .val (.long zq2), .second, .val (.int za), .val (.int zd), .val (.int zb), .val (.int zs), .val (.int zx), .val (.long zq), .second, .val (.int zm), .val (.ref zo), .val (.int (0 : Int32)), .unset, .unset] [])
                            refine own_go (fun t k => XS.aload X49.here hx rfl (hb hby at_309) rfl rfl  k) ?_
                            show own_WP _ _ _ _ T49 (mkF m 311 #[.val (.int zc), .val (.int zx0), .val (.long zh), .second, .val (.long zq0), .second, .val (.long zq1), .second, .val (.long zq2), .second, .val (.int za), .val (.int zd), .val (.int zb), .val (.int zs), .val (.int zx), .val (.long zq), .second, .val (.int zm), .val (.ref zo), .val (.int (0 : Int32)), .unset, .unset] [(.ref zo)])
                            refine own_go (fun t k => XS.iload X49.here hx rfl (hb hby at_311) rfl  k) ?_
                            show own_WP _ _ _ _ T49 (mkF m 313 #[.val (.int zc), .val (.int zx0), .val (.long zh), .second, .val (.long zq0), .second, .val (.long zq1), .second, .val (.long zq2), .second, .val (.int za), .val (.int zd), .val (.int zb), .val (.int zs), .val (.int zx), .val (.long zq), .second, .val (.int zm), .val (.ref zo), .val (.int (0 : Int32)), .unset, .unset] [(.int zx), (.ref zo)])
                            refine own_go (fun t k => XS.lload X49.here hx rfl (hb hby at_313) rfl  k) ?_
                            show own_WP _ _ _ _ T49 (mkF m 315 #[.val (.int zc), .val (.int zx0), .val (.long zh), .second, .val (.long zq0), .second, .val (.long zq1), .second, .val (.long zq2), .second, .val (.int za), .val (.int zd), .val (.int zb), .val (.int zs), .val (.int zx), .val (.long zq), .second, .val (.int zm), .val (.ref zo), .val (.int (0 : Int32)), .unset, .unset] [(.long zq), (.int zx), (.ref zo)])
                            obtain ⟨cq54, kq54, q54a, q54b, q54c⟩ := isOf hZ e49 f50
                            obtain ⟨_, _, ⟨T54, L54, k54, n54⟩, -, X54, ⟨Lc54, hQ54, l54, y54, z54⟩, st54⟩ := X49.virtualBack hx (y := (⟨"com/example/ringspan/ringspan/symmetry/Trace", "endsWith", "(IJ)Z"⟩ : MethodName)) (z := (⟨"com/example/ringspan/ringspan/symmetry/Trace", "endsWith", "(IJ)Z"⟩ : MethodName)) hown (mvT hZ (hw _ (List.mem_of_getElem? (i := 12) rfl))) (mvT hZ (hw _ (List.mem_of_getElem? (i := 13) rfl))) (notFace_of_selects (args := #[]) (mvT hZ (hw _ (List.mem_of_getElem? (i := 15) rfl)))) (mvT hZ (hw _ (List.mem_of_getElem? (i := 15) rfl))) (mvT hZ (hw _ (List.mem_of_getElem? (i := 14) rfl))) (by decide) (backOf (W := 0) (rm3 l Z a0 hw [] zo zx zq zr zn7 zk zL7 h49 n0 (own_le Z0 K49j) f51 f52 f53 (show zL7.length = 8 from hl7) (show zx = zn7 - 1 → ¬ zx < 0 ∧ zx < 8 from own_hi hb7 (by decide) (by rw [hkey.1, ← hln]; exact hok))) hZ (hw _ (List.mem_of_getElem? (i := 16) rfl)) (hw _ (List.mem_of_getElem? (i := 2) rfl)) (by decide) (by decide)) q54a q54c (g := (mkF m 315 #[.val (.int zc), .val (.int zx0), .val (.long zh), .second, .val (.long zq0), .second, .val (.long zq1), .second, .val (.long zq2), .second, .val (.int za), .val (.int zd), .val (.int zb), .val (.int zs), .val (.int zx), .val (.long zq), .second, .val (.int zm), .val (.ref zo), .val (.int (0 : Int32)), .unset, .unset] [(.long zq), (.int zx), (.ref zo)])) rfl (by rw [hml]; rfl) (Steps.refl _) (argsL := [(.int zx), (.long zq)]) (rest := []) (lenOf own_pd48266 rfl) rfl (by show 2 * 0 + _ ≤ _; exact Nat.le_of_eq rfl) (hb hby at_315) (fun _ _ => ⟨rfl, e49, (by decide : 2 + 0 ≤ _), (by decide : 10 + 0 ≤ _)⟩)
                            dsimp only [Pt.U, Pt.locs, Pt.cells, Pt.slots] at X54 l54 y54 z54 st54 hQ54
                            subst l54 y54 z54
                            obtain ⟨rfl, N54q, eq54⟩ := hQ54
                            have N54 := Fr.app N49 N54q
                            refine own_tr st54 ?_
                            show own_WP _ _ _ _ T54 (mkF m 318 #[.val (.int zc), .val (.int zx0), .val (.long zh), .second, .val (.long zq0), .second, .val (.long zq1), .second, .val (.long zq2), .second, .val (.int za), .val (.int zd), .val (.int zb), .val (.int zs), .val (.int zx), .val (.long zq), .second, .val (.int zm), .val (.ref zo), .val (.int (0 : Int32)), .unset, .unset] [(.int (own_ew zn7 zL7 zx zq))])
                            refine own_go (fun t k => XS.iload X54.here hx rfl (hb hby at_318) rfl  k) ?_
                            show own_WP _ _ _ _ T54 (mkF m 320 #[.val (.int zc), .val (.int zx0), .val (.long zh), .second, .val (.long zq0), .second, .val (.long zq1), .second, .val (.long zq2), .second, .val (.int za), .val (.int zd), .val (.int zb), .val (.int zs), .val (.int zx), .val (.long zq), .second, .val (.int zm), .val (.ref zo), .val (.int (0 : Int32)), .unset, .unset] [(.int (0 : Int32)), (.int (own_ew zn7 zL7 zx zq))])
                            have hc320 : (own_ew zn7 zL7 zx zq) = (0 : Int32) := by
                              rw [hkey.2 zx zq (by rw [← hln]; exact hok), ← hln]
                              simp [own_ee, hc216]
                            refine own_go (fun t k => XS.icmpNo X54.here hx rfl (hb hby at_320) rfl (teq hc320).2 k) ?_
                            show own_WP _ _ _ _ T54 (mkF m 323 #[.val (.int zc), .val (.int zx0), .val (.long zh), .second, .val (.long zq0), .second, .val (.long zq1), .second, .val (.long zq2), .second, .val (.int za), .val (.int zd), .val (.int zb), .val (.int zs), .val (.int zx), .val (.long zq), .second, .val (.int zm), .val (.ref zo), .val (.int (0 : Int32)), .unset, .unset] [])
                            refine own_go (fun t k => XS.iconst X54.here hx rfl (hb hby at_323) k) ?_
                            show own_WP _ _ _ _ T54 (mkF m 324 #[.val (.int zc), .val (.int zx0), .val (.long zh), .second, .val (.long zq0), .second, .val (.long zq1), .second, .val (.long zq2), .second, .val (.int za), .val (.int zd), .val (.int zb), .val (.int zs), .val (.int zx), .val (.long zq), .second, .val (.int zm), .val (.ref zo), .val (.int (0 : Int32)), .unset, .unset] [(.int (1 : Int32))])
                            refine own_go (fun t k => XS.goto X54.here hx rfl (pc0 := 324) (pc' := 328) rfl (hb hby at_324) (by decide) (by decide) k) ?_
                            show own_WP _ _ _ _ T54 (mkF m 328 #[.val (.int zc), .val (.int zx0), .val (.long zh), .second, .val (.long zq0), .second, .val (.long zq1), .second, .val (.long zq2), .second, .val (.int za), .val (.int zd), .val (.int zb), .val (.int zs), .val (.int zx), .val (.long zq), .second, .val (.int zm), .val (.ref zo), .val (.int (0 : Int32)), .unset, .unset] [(.int (1 : Int32))])
                            refine own_retN X54 hx Bd.notSynchronized (t := .boolean) (by simp) Bd.returns (hb hby at_328) (by decide) (by decide) ?_
                            rw [eq54]
                            exact ⟨rfl, N54⟩
                          · refine own_go (fun t k => XS.ifYes X49.here hx rfl (pc0 := 216) (pc' := 225) rfl (hb hby at_216) rfl ((if0 _ _).trans (feq hc216).2) (by decide) (by decide) k) ?_
                            show own_WP _ _ _ _ T49 (mkF m 225 #[.val (.int zc), .val (.int zx0), .val (.long zh), .second, .val (.long zq0), .second, .val (.long zq1), .second, .val (.long zq2), .second, .val (.int za), .val (.int zd), .val (.int zb), .val (.int zs), .val (.int zx), .val (.long zq), .second, .val (.int zm), .val (.ref zo), .unset, .unset, .unset] [])
                            refine own_go (fun t k => XS.iload X49.here hx rfl (hb hby at_225) rfl  k) ?_
                            show own_WP _ _ _ _ T49 (mkF m 227 #[.val (.int zc), .val (.int zx0), .val (.long zh), .second, .val (.long zq0), .second, .val (.long zq1), .second, .val (.long zq2), .second, .val (.int za), .val (.int zd), .val (.int zb), .val (.int zs), .val (.int zx), .val (.long zq), .second, .val (.int zm), .val (.ref zo), .unset, .unset, .unset] [(.int zb)])
                            by_cases hc227 : (0 : Int32) < zb
                            · refine own_go (fun t k => XS.ifNo X49.here hx rfl (hb hby at_227) rfl ((if0 _ _).trans (tlt hc227).2.2.2) k) ?_
                              show own_WP _ _ _ _ T49 (mkF m 230 #[.val (.int zc), .val (.int zx0), .val (.long zh), .second, .val (.long zq0), .second, .val (.long zq1), .second, .val (.long zq2), .second, .val (.int za), .val (.int zd), .val (.int zb), .val (.int zs), .val (.int zx), .val (.long zq), .second, .val (.int zm), .val (.ref zo), .unset, .unset, .unset] [])
                              refine own_go (fun t k => XS.iload X49.here hx rfl (hb hby at_230) rfl  k) ?_
                              show own_WP _ _ _ _ T49 (mkF m 232 #[.val (.int zc), .val (.int zx0), .val (.long zh), .second, .val (.long zq0), .second, .val (.long zq1), .second, .val (.long zq2), .second, .val (.int za), .val (.int zd), .val (.int zb), .val (.int zs), .val (.int zx), .val (.long zq), .second, .val (.int zm), .val (.ref zo), .unset, .unset, .unset] [(.int zb)])
                              refine own_go (fun t k => XS.iconst X49.here hx rfl (hb hby at_232) k) ?_
                              show own_WP _ _ _ _ T49 (mkF m 233 #[.val (.int zc), .val (.int zx0), .val (.long zh), .second, .val (.long zq0), .second, .val (.long zq1), .second, .val (.long zq2), .second, .val (.int za), .val (.int zd), .val (.int zb), .val (.int zs), .val (.int zx), .val (.long zq), .second, .val (.int zm), .val (.ref zo), .unset, .unset, .unset] [(.int (1 : Int32)), (.int zb)])
                              by_cases hc233 : zb = (1 : Int32)
                              · refine own_go (fun t k => XS.icmpNo X49.here hx rfl (hb hby at_233) rfl (teq hc233).2 k) ?_
                                show own_WP _ _ _ _ T49 (mkF m 236 #[.val (.int zc), .val (.int zx0), .val (.long zh), .second, .val (.long zq0), .second, .val (.long zq1), .second, .val (.long zq2), .second, .val (.int za), .val (.int zd), .val (.int zb), .val (.int zs), .val (.int zx), .val (.long zq), .second, .val (.int zm), .val (.ref zo), .unset, .unset, .unset] [])
                                refine own_go (fun t k => XS.lload X49.here hx rfl (hb hby at_236) rfl  k) ?_
                                show own_WP _ _ _ _ T49 (mkF m 238 #[.val (.int zc), .val (.int zx0), .val (.long zh), .second, .val (.long zq0), .second, .val (.long zq1), .second, .val (.long zq2), .second, .val (.int za), .val (.int zd), .val (.int zb), .val (.int zs), .val (.int zx), .val (.long zq), .second, .val (.int zm), .val (.ref zo), .unset, .unset, .unset] [(.long zq2)])
                                refine own_go (fun t k => XS.goto X49.here hx rfl (pc0 := 238) (pc' := 254) rfl (hb hby at_238) (by decide) (by decide) k) ?_
                                show own_WP _ _ _ _ T49 (mkF m 254 #[.val (.int zc), .val (.int zx0), .val (.long zh), .second, .val (.long zq0), .second, .val (.long zq1), .second, .val (.long zq2), .second, .val (.int za), .val (.int zd), .val (.int zb), .val (.int zs), .val (.int zx), .val (.long zq), .second, .val (.int zm), .val (.ref zo), .unset, .unset, .unset] [(.long zq2)])
                                refine own_go (fun t k => XS.lstore X49.here hx rfl (hb hby at_254) rfl (l' := #[.val (.int zc), .val (.int zx0), .val (.long zh), .second, .val (.long zq0), .second, .val (.long zq1), .second, .val (.long zq2), .second, .val (.int za), .val (.int zd), .val (.int zb), .val (.int zs), .val (.int zx), .val (.long zq), .second, .val (.int zm), .val (.ref zo), .unset, .val (.long zq2), .second]) rfl k) ?_
                                show own_WP _ _ _ _ T49 (mkF m 256 #[.val (.int zc), .val (.int zx0), .val (.long zh), .second, .val (.long zq0), .second, .val (.long zq1), .second, .val (.long zq2), .second, .val (.int za), .val (.int zd), .val (.int zb), .val (.int zs), .val (.int zx), .val (.long zq), .second, .val (.int zm), .val (.ref zo), .unset, .val (.long zq2), .second] [])
                                refine own_go (fun t k => XS.goto X49.here hx rfl (pc0 := 256) (pc' := 285) rfl (hb hby at_256) (by decide) (by decide) k) ?_
                                show own_WP _ _ _ _ T49 (mkF m 285 #[.val (.int zc), .val (.int zx0), .val (.long zh), .second, .val (.long zq0), .second, .val (.long zq1), .second, .val (.long zq2), .second, .val (.int za), .val (.int zd), .val (.int zb), .val (.int zs), .val (.int zx), .val (.long zq), .second, .val (.int zm), .val (.ref zo), .unset, .val (.long zq2), .second] [])
                                refine own_go (fun t k => XS.iload X49.here hx rfl (hb hby at_285) rfl  k) ?_
                                show own_WP _ _ _ _ T49 (mkF m 287 #[.val (.int zc), .val (.int zx0), .val (.long zh), .second, .val (.long zq0), .second, .val (.long zq1), .second, .val (.long zq2), .second, .val (.int za), .val (.int zd), .val (.int zb), .val (.int zs), .val (.int zx), .val (.long zq), .second, .val (.int zm), .val (.ref zo), .unset, .val (.long zq2), .second] [(.int zx)])
                                refine own_go (fun t k => XS.iload X49.here hx rfl (hb hby at_287) rfl  k) ?_
                                show own_WP _ _ _ _ T49 (mkF m 289 #[.val (.int zc), .val (.int zx0), .val (.long zh), .second, .val (.long zq0), .second, .val (.long zq1), .second, .val (.long zq2), .second, .val (.int za), .val (.int zd), .val (.int zb), .val (.int zs), .val (.int zx), .val (.long zq), .second, .val (.int zm), .val (.ref zo), .unset, .val (.long zq2), .second] [(.int zm), (.int zx)])
                                refine own_go (fun t k => XS.iconst X49.here hx rfl (hb hby at_289) k) ?_
                                show own_WP _ _ _ _ T49 (mkF m 290 #[.val (.int zc), .val (.int zx0), .val (.long zh), .second, .val (.long zq0), .second, .val (.long zq1), .second, .val (.long zq2), .second, .val (.int za), .val (.int zd), .val (.int zb), .val (.int zs), .val (.int zx), .val (.long zq), .second, .val (.int zm), .val (.ref zo), .unset, .val (.long zq2), .second] [(.int (1 : Int32)), (.int zm), (.int zx)])
                                refine own_go (fun t k => XS.isub X49.here hx rfl (hb hby at_290) rfl k) ?_
                                show own_WP _ _ _ _ T49 (mkF m 291 #[.val (.int zc), .val (.int zx0), .val (.long zh), .second, .val (.long zq0), .second, .val (.long zq1), .second, .val (.long zq2), .second, .val (.int za), .val (.int zd), .val (.int zb), .val (.int zs), .val (.int zx), .val (.long zq), .second, .val (.int zm), .val (.ref zo), .unset, .val (.long zq2), .second] [(.int (zm - (1 : Int32))), (.int zx)])
                                by_cases hc291 : zx = (zm - (1 : Int32))
                                · refine own_go (fun t k => XS.icmpNo X49.here hx rfl (hb hby at_291) rfl (teq hc291).2 k) ?_
                                  show own_WP _ _ _ _ T49 (mkF m 294 #[.val (.int zc), .val (.int zx0), .val (.long zh), .second, .val (.long zq0), .second, .val (.long zq1), .second, .val (.long zq2), .second, .val (.int za), .val (.int zd), .val (.int zb), .val (.int zs), .val (.int zx), .val (.long zq), .second, .val (.int zm), .val (.ref zo), .unset, .val (.long zq2), .second] [])
                                  refine own_go (fun t k => XS.lload X49.here hx rfl (hb hby at_294) rfl  k) ?_
                                  show own_WP _ _ _ _ T49 (mkF m 296 #[.val (.int zc), .val (.int zx0), .val (.long zh), .second, .val (.long zq0), .second, .val (.long zq1), .second, .val (.long zq2), .second, .val (.int za), .val (.int zd), .val (.int zb), .val (.int zs), .val (.int zx), .val (.long zq), .second, .val (.int zm), .val (.ref zo), .unset, .val (.long zq2), .second] [(.long zq)])
                                  refine own_go (fun t k => XS.lload X49.here hx rfl (hb hby at_296) rfl  k) ?_
                                  show own_WP _ _ _ _ T49 (mkF m 298 #[.val (.int zc), .val (.int zx0), .val (.long zh), .second, .val (.long zq0), .second, .val (.long zq1), .second, .val (.long zq2), .second, .val (.int za), .val (.int zd), .val (.int zb), .val (.int zs), .val (.int zx), .val (.long zq), .second, .val (.int zm), .val (.ref zo), .unset, .val (.long zq2), .second] [(.long zq2), (.long zq)])
                                  refine own_go (fun t k => XS.lcmp X49.here hx rfl (hb hby at_298) rfl k) ?_
                                  show own_WP _ _ _ _ T49 (mkF m 299 #[.val (.int zc), .val (.int zx0), .val (.long zh), .second, .val (.long zq0), .second, .val (.long zq1), .second, .val (.long zq2), .second, .val (.int za), .val (.int zd), .val (.int zb), .val (.int zs), .val (.int zx), .val (.long zq), .second, .val (.int zm), .val (.ref zo), .unset, .val (.long zq2), .second] [(.int (lcmpW zq zq2))])
                                  by_cases hc299 : zq = zq2
                                  · refine own_go (fun t k => XS.ifNo X49.here hx rfl (hb hby at_299) rfl ((if0 _ _).trans (teq ((lw_eq zq zq2).mpr hc299)).2) k) ?_
                                    show own_WP _ _ _ _ T49 (mkF m 302 #[.val (.int zc), .val (.int zx0), .val (.long zh), .second, .val (.long zq0), .second, .val (.long zq1), .second, .val (.long zq2), .second, .val (.int za), .val (.int zd), .val (.int zb), .val (.int zs), .val (.int zx), .val (.long zq), .second, .val (.int zm), .val (.ref zo), .unset, .val (.long zq2), .second] [])
                                    refine own_go (fun t k => XS.iconst X49.here hx rfl (hb hby at_302) k) ?_
                                    show own_WP _ _ _ _ T49 (mkF m 303 #[.val (.int zc), .val (.int zx0), .val (.long zh), .second, .val (.long zq0), .second, .val (.long zq1), .second, .val (.long zq2), .second, .val (.int za), .val (.int zd), .val (.int zb), .val (.int zs), .val (.int zx), .val (.long zq), .second, .val (.int zm), .val (.ref zo), .unset, .val (.long zq2), .second] [(.int (1 : Int32))])
                                    refine own_go (fun t k => XS.goto X49.here hx rfl (pc0 := 303) (pc' := 307) rfl (hb hby at_303) (by decide) (by decide) k) ?_
                                    show own_WP _ _ _ _ T49 (mkF m 307 #[.val (.int zc), .val (.int zx0), .val (.long zh), .second, .val (.long zq0), .second, .val (.long zq1), .second, .val (.long zq2), .second, .val (.int za), .val (.int zd), .val (.int zb), .val (.int zs), .val (.int zx), .val (.long zq), .second, .val (.int zm), .val (.ref zo), .unset, .val (.long zq2), .second] [(.int (1 : Int32))])
                                    refine own_go (fun t k => XS.istore X49.here hx rfl (hb hby at_307) rfl (l' := #[.val (.int zc), .val (.int zx0), .val (.long zh), .second, .val (.long zq0), .second, .val (.long zq1), .second, .val (.long zq2), .second, .val (.int za), .val (.int zd), .val (.int zb), .val (.int zs), .val (.int zx), .val (.long zq), .second, .val (.int zm), .val (.ref zo), .val (.int (1 : Int32)), .val (.long zq2), .second]) rfl k) ?_
                                    show own_WP _ _ _ _ T49 (mkF m 309 #[.val (.int zc), .val (.int zx0), .val (.long zh), .second, .val (.long zq0), .second, .val (.long zq1), .second, .val (.long zq2), .second, .val (.int za), .val (.int zd), .val (.int zb), .val (.int zs), .val (.int zx), .val (.long zq), .second, .val (.int zm), .val (.ref zo), .val (.int (1 : Int32)), .val (.long zq2), .second] [])
                                    refine own_go (fun t k => XS.aload X49.here hx rfl (hb hby at_309) rfl rfl  k) ?_
                                    show own_WP _ _ _ _ T49 (mkF m 311 #[.val (.int zc), .val (.int zx0), .val (.long zh), .second, .val (.long zq0), .second, .val (.long zq1), .second, .val (.long zq2), .second, .val (.int za), .val (.int zd), .val (.int zb), .val (.int zs), .val (.int zx), .val (.long zq), .second, .val (.int zm), .val (.ref zo), .val (.int (1 : Int32)), .val (.long zq2), .second] [(.ref zo)])
                                    refine own_go (fun t k => XS.iload X49.here hx rfl (hb hby at_311) rfl  k) ?_
                                    show own_WP _ _ _ _ T49 (mkF m 313 #[.val (.int zc), .val (.int zx0), .val (.long zh), .second, .val (.long zq0), .second, .val (.long zq1), .second, .val (.long zq2), .second, .val (.int za), .val (.int zd), .val (.int zb), .val (.int zs), .val (.int zx), .val (.long zq), .second, .val (.int zm), .val (.ref zo), .val (.int (1 : Int32)), .val (.long zq2), .second] [(.int zx), (.ref zo)])
                                    refine own_go (fun t k => XS.lload X49.here hx rfl (hb hby at_313) rfl  k) ?_
                                    show own_WP _ _ _ _ T49 (mkF m 315 #[.val (.int zc), .val (.int zx0), .val (.long zh), .second, .val (.long zq0), .second, .val (.long zq1), .second, .val (.long zq2), .second, .val (.int za), .val (.int zd), .val (.int zb), .val (.int zs), .val (.int zx), .val (.long zq), .second, .val (.int zm), .val (.ref zo), .val (.int (1 : Int32)), .val (.long zq2), .second] [(.long zq), (.int zx), (.ref zo)])
                                    obtain ⟨cq55, kq55, q55a, q55b, q55c⟩ := isOf hZ e49 f50
                                    obtain ⟨_, _, ⟨T55, L55, k55, n55⟩, -, X55, ⟨Lc55, hQ55, l55, y55, z55⟩, st55⟩ := X49.virtualBack hx (y := (⟨"com/example/ringspan/ringspan/symmetry/Trace", "endsWith", "(IJ)Z"⟩ : MethodName)) (z := (⟨"com/example/ringspan/ringspan/symmetry/Trace", "endsWith", "(IJ)Z"⟩ : MethodName)) hown (mvT hZ (hw _ (List.mem_of_getElem? (i := 12) rfl))) (mvT hZ (hw _ (List.mem_of_getElem? (i := 13) rfl))) (notFace_of_selects (args := #[]) (mvT hZ (hw _ (List.mem_of_getElem? (i := 15) rfl)))) (mvT hZ (hw _ (List.mem_of_getElem? (i := 15) rfl))) (mvT hZ (hw _ (List.mem_of_getElem? (i := 14) rfl))) (by decide) (backOf (W := 0) (rm3 l Z a0 hw [] zo zx zq zr zn7 zk zL7 h49 n0 (own_le Z0 K49j) f51 f52 f53 (show zL7.length = 8 from hl7) (show zx = zn7 - 1 → ¬ zx < 0 ∧ zx < 8 from own_hi hb7 (by decide) (by rw [hkey.1, ← hln]; exact hok))) hZ (hw _ (List.mem_of_getElem? (i := 16) rfl)) (hw _ (List.mem_of_getElem? (i := 2) rfl)) (by decide) (by decide)) q55a q55c (g := (mkF m 315 #[.val (.int zc), .val (.int zx0), .val (.long zh), .second, .val (.long zq0), .second, .val (.long zq1), .second, .val (.long zq2), .second, .val (.int za), .val (.int zd), .val (.int zb), .val (.int zs), .val (.int zx), .val (.long zq), .second, .val (.int zm), .val (.ref zo), .val (.int (1 : Int32)), .val (.long zq2), .second] [(.long zq), (.int zx), (.ref zo)])) rfl (by rw [hml]; rfl) (Steps.refl _) (argsL := [(.int zx), (.long zq)]) (rest := []) (lenOf own_pd48266 rfl) rfl (by show 2 * 0 + _ ≤ _; exact Nat.le_of_eq rfl) (hb hby at_315) (fun _ _ => ⟨rfl, e49, (by decide : 2 + 0 ≤ _), (by decide : 10 + 0 ≤ _)⟩)
                                    dsimp only [Pt.U, Pt.locs, Pt.cells, Pt.slots] at X55 l55 y55 z55 st55 hQ55
                                    subst l55 y55 z55
                                    obtain ⟨rfl, N55q, eq55⟩ := hQ55
                                    have N55 := Fr.app N49 N55q
                                    refine own_tr st55 ?_
                                    show own_WP _ _ _ _ T55 (mkF m 318 #[.val (.int zc), .val (.int zx0), .val (.long zh), .second, .val (.long zq0), .second, .val (.long zq1), .second, .val (.long zq2), .second, .val (.int za), .val (.int zd), .val (.int zb), .val (.int zs), .val (.int zx), .val (.long zq), .second, .val (.int zm), .val (.ref zo), .val (.int (1 : Int32)), .val (.long zq2), .second] [(.int (own_ew zn7 zL7 zx zq))])
                                    refine own_go (fun t k => XS.iload X55.here hx rfl (hb hby at_318) rfl  k) ?_
                                    show own_WP _ _ _ _ T55 (mkF m 320 #[.val (.int zc), .val (.int zx0), .val (.long zh), .second, .val (.long zq0), .second, .val (.long zq1), .second, .val (.long zq2), .second, .val (.int za), .val (.int zd), .val (.int zb), .val (.int zs), .val (.int zx), .val (.long zq), .second, .val (.int zm), .val (.ref zo), .val (.int (1 : Int32)), .val (.long zq2), .second] [(.int (1 : Int32)), (.int (own_ew zn7 zL7 zx zq))])
                                    have hc320 : (own_ew zn7 zL7 zx zq) = (1 : Int32) := by
                                      rw [hkey.2 zx zq (by rw [← hln]; exact hok), ← hln]
                                      simp [own_ee, hc216, hc227, hc233, hc291, hc299]
                                    refine own_go (fun t k => XS.icmpNo X55.here hx rfl (hb hby at_320) rfl (teq hc320).2 k) ?_
                                    show own_WP _ _ _ _ T55 (mkF m 323 #[.val (.int zc), .val (.int zx0), .val (.long zh), .second, .val (.long zq0), .second, .val (.long zq1), .second, .val (.long zq2), .second, .val (.int za), .val (.int zd), .val (.int zb), .val (.int zs), .val (.int zx), .val (.long zq), .second, .val (.int zm), .val (.ref zo), .val (.int (1 : Int32)), .val (.long zq2), .second] [])
                                    refine own_go (fun t k => XS.iconst X55.here hx rfl (hb hby at_323) k) ?_
                                    show own_WP _ _ _ _ T55 (mkF m 324 #[.val (.int zc), .val (.int zx0), .val (.long zh), .second, .val (.long zq0), .second, .val (.long zq1), .second, .val (.long zq2), .second, .val (.int za), .val (.int zd), .val (.int zb), .val (.int zs), .val (.int zx), .val (.long zq), .second, .val (.int zm), .val (.ref zo), .val (.int (1 : Int32)), .val (.long zq2), .second] [(.int (1 : Int32))])
                                    refine own_go (fun t k => XS.goto X55.here hx rfl (pc0 := 324) (pc' := 328) rfl (hb hby at_324) (by decide) (by decide) k) ?_
                                    show own_WP _ _ _ _ T55 (mkF m 328 #[.val (.int zc), .val (.int zx0), .val (.long zh), .second, .val (.long zq0), .second, .val (.long zq1), .second, .val (.long zq2), .second, .val (.int za), .val (.int zd), .val (.int zb), .val (.int zs), .val (.int zx), .val (.long zq), .second, .val (.int zm), .val (.ref zo), .val (.int (1 : Int32)), .val (.long zq2), .second] [(.int (1 : Int32))])
                                    refine own_retN X55 hx Bd.notSynchronized (t := .boolean) (by simp) Bd.returns (hb hby at_328) (by decide) (by decide) ?_
                                    rw [eq55]
                                    exact ⟨rfl, N55⟩
                                  · refine own_go (fun t k => XS.ifYes X49.here hx rfl (pc0 := 299) (pc' := 306) rfl (hb hby at_299) rfl ((if0 _ _).trans (feq (fun z => hc299 ((lw_eq zq zq2).mp z))).2) (by decide) (by decide) k) ?_
                                    show own_WP _ _ _ _ T49 (mkF m 306 #[.val (.int zc), .val (.int zx0), .val (.long zh), .second, .val (.long zq0), .second, .val (.long zq1), .second, .val (.long zq2), .second, .val (.int za), .val (.int zd), .val (.int zb), .val (.int zs), .val (.int zx), .val (.long zq), .second, .val (.int zm), .val (.ref zo), .unset, .val (.long zq2), .second] [])
                                    refine own_go (fun t k => XS.iconst X49.here hx rfl (hb hby at_306) k) ?_
                                    show own_WP _ _ _ _ T49 (mkF m 307 #[.val (.int zc), .val (.int zx0), .val (.long zh), .second, .val (.long zq0), .second, .val (.long zq1), .second, .val (.long zq2), .second, .val (.int za), .val (.int zd), .val (.int zb), .val (.int zs), .val (.int zx), .val (.long zq), .second, .val (.int zm), .val (.ref zo), .unset, .val (.long zq2), .second] [(.int (0 : Int32))])
                                    refine own_go (fun t k => XS.istore X49.here hx rfl (hb hby at_307) rfl (l' := #[.val (.int zc), .val (.int zx0), .val (.long zh), .second, .val (.long zq0), .second, .val (.long zq1), .second, .val (.long zq2), .second, .val (.int za), .val (.int zd), .val (.int zb), .val (.int zs), .val (.int zx), .val (.long zq), .second, .val (.int zm), .val (.ref zo), .val (.int (0 : Int32)), .val (.long zq2), .second]) rfl k) ?_
                                    show own_WP _ _ _ _ T49 (mkF m 309 #[.val (.int zc), .val (.int zx0), .val (.long zh), .second, .val (.long zq0), .second, .val (.long zq1), .second, .val (.long zq2), .second, .val (.int za), .val (.int zd), .val (.int zb), .val (.int zs), .val (.int zx), .val (.long zq), .second, .val (.int zm), .val (.ref zo), .val (.int (0 : Int32)), .val (.long zq2), .second] [])
                                    refine own_go (fun t k => XS.aload X49.here hx rfl (hb hby at_309) rfl rfl  k) ?_
                                    show own_WP _ _ _ _ T49 (mkF m 311 #[.val (.int zc), .val (.int zx0), .val (.long zh), .second, .val (.long zq0), .second, .val (.long zq1), .second, .val (.long zq2), .second, .val (.int za), .val (.int zd), .val (.int zb), .val (.int zs), .val (.int zx), .val (.long zq), .second, .val (.int zm), .val (.ref zo), .val (.int (0 : Int32)), .val (.long zq2), .second] [(.ref zo)])
                                    refine own_go (fun t k => XS.iload X49.here hx rfl (hb hby at_311) rfl  k) ?_
                                    show own_WP _ _ _ _ T49 (mkF m 313 #[.val (.int zc), .val (.int zx0), .val (.long zh), .second, .val (.long zq0), .second, .val (.long zq1), .second, .val (.long zq2), .second, .val (.int za), .val (.int zd), .val (.int zb), .val (.int zs), .val (.int zx), .val (.long zq), .second, .val (.int zm), .val (.ref zo), .val (.int (0 : Int32)), .val (.long zq2), .second] [(.int zx), (.ref zo)])
                                    refine own_go (fun t k => XS.lload X49.here hx rfl (hb hby at_313) rfl  k) ?_
                                    show own_WP _ _ _ _ T49 (mkF m 315 #[.val (.int zc), .val (.int zx0), .val (.long zh), .second, .val (.long zq0), .second, .val (.long zq1), .second, .val (.long zq2), .second, .val (.int za), .val (.int zd), .val (.int zb), .val (.int zs), .val (.int zx), .val (.long zq), .second, .val (.int zm), .val (.ref zo), .val (.int (0 : Int32)), .val (.long zq2), .second] [(.long zq), (.int zx), (.ref zo)])
                                    obtain ⟨cq56, kq56, q56a, q56b, q56c⟩ := isOf hZ e49 f50
                                    obtain ⟨_, _, ⟨T56, L56, k56, n56⟩, -, X56, ⟨Lc56, hQ56, l56, y56, z56⟩, st56⟩ := X49.virtualBack hx (y := (⟨"com/example/ringspan/ringspan/symmetry/Trace", "endsWith", "(IJ)Z"⟩ : MethodName)) (z := (⟨"com/example/ringspan/ringspan/symmetry/Trace", "endsWith", "(IJ)Z"⟩ : MethodName)) hown (mvT hZ (hw _ (List.mem_of_getElem? (i := 12) rfl))) (mvT hZ (hw _ (List.mem_of_getElem? (i := 13) rfl))) (notFace_of_selects (args := #[]) (mvT hZ (hw _ (List.mem_of_getElem? (i := 15) rfl)))) (mvT hZ (hw _ (List.mem_of_getElem? (i := 15) rfl))) (mvT hZ (hw _ (List.mem_of_getElem? (i := 14) rfl))) (by decide) (backOf (W := 0) (rm3 l Z a0 hw [] zo zx zq zr zn7 zk zL7 h49 n0 (own_le Z0 K49j) f51 f52 f53 (show zL7.length = 8 from hl7) (show zx = zn7 - 1 → ¬ zx < 0 ∧ zx < 8 from own_hi hb7 (by decide) (by rw [hkey.1, ← hln]; exact hok))) hZ (hw _ (List.mem_of_getElem? (i := 16) rfl)) (hw _ (List.mem_of_getElem? (i := 2) rfl)) (by decide) (by decide)) q56a q56c (g := (mkF m 315 #[.val (.int zc), .val (.int zx0), .val (.long zh), .second, .val (.long zq0), .second, .val (.long zq1), .second, .val (.long zq2), .second, .val (.int za), .val (.int zd), .val (.int zb), .val (.int zs), .val (.int zx), .val (.long zq), .second, .val (.int zm), .val (.ref zo), .val (.int (0 : Int32)), .val (.long zq2), .second] [(.long zq), (.int zx), (.ref zo)])) rfl (by rw [hml]; rfl) (Steps.refl _) (argsL := [(.int zx), (.long zq)]) (rest := []) (lenOf own_pd48266 rfl) rfl (by show 2 * 0 + _ ≤ _; exact Nat.le_of_eq rfl) (hb hby at_315) (fun _ _ => ⟨rfl, e49, (by decide : 2 + 0 ≤ _), (by decide : 10 + 0 ≤ _)⟩)
                                    dsimp only [Pt.U, Pt.locs, Pt.cells, Pt.slots] at X56 l56 y56 z56 st56 hQ56
                                    subst l56 y56 z56
                                    obtain ⟨rfl, N56q, eq56⟩ := hQ56
                                    have N56 := Fr.app N49 N56q
                                    refine own_tr st56 ?_
                                    show own_WP _ _ _ _ T56 (mkF m 318 #[.val (.int zc), .val (.int zx0), .val (.long zh), .second, .val (.long zq0), .second, .val (.long zq1), .second, .val (.long zq2), .second, .val (.int za), .val (.int zd), .val (.int zb), .val (.int zs), .val (.int zx), .val (.long zq), .second, .val (.int zm), .val (.ref zo), .val (.int (0 : Int32)), .val (.long zq2), .second] [(.int (own_ew zn7 zL7 zx zq))])
                                    refine own_go (fun t k => XS.iload X56.here hx rfl (hb hby at_318) rfl  k) ?_
                                    show own_WP _ _ _ _ T56 (mkF m 320 #[.val (.int zc), .val (.int zx0), .val (.long zh), .second, .val (.long zq0), .second, .val (.long zq1), .second, .val (.long zq2), .second, .val (.int za), .val (.int zd), .val (.int zb), .val (.int zs), .val (.int zx), .val (.long zq), .second, .val (.int zm), .val (.ref zo), .val (.int (0 : Int32)), .val (.long zq2), .second] [(.int (0 : Int32)), (.int (own_ew zn7 zL7 zx zq))])
                                    have hc320 : (own_ew zn7 zL7 zx zq) = (0 : Int32) := by
                                      rw [hkey.2 zx zq (by rw [← hln]; exact hok), ← hln]
                                      simp [own_ee, hc216, hc227, hc233, hc291, hc299]
                                    refine own_go (fun t k => XS.icmpNo X56.here hx rfl (hb hby at_320) rfl (teq hc320).2 k) ?_
                                    show own_WP _ _ _ _ T56 (mkF m 323 #[.val (.int zc), .val (.int zx0), .val (.long zh), .second, .val (.long zq0), .second, .val (.long zq1), .second, .val (.long zq2), .second, .val (.int za), .val (.int zd), .val (.int zb), .val (.int zs), .val (.int zx), .val (.long zq), .second, .val (.int zm), .val (.ref zo), .val (.int (0 : Int32)), .val (.long zq2), .second] [])
                                    refine own_go (fun t k => XS.iconst X56.here hx rfl (hb hby at_323) k) ?_
                                    show own_WP _ _ _ _ T56 (mkF m 324 #[.val (.int zc), .val (.int zx0), .val (.long zh), .second, .val (.long zq0), .second, .val (.long zq1), .second, .val (.long zq2), .second, .val (.int za), .val (.int zd), .val (.int zb), .val (.int zs), .val (.int zx), .val (.long zq), .second, .val (.int zm), .val (.ref zo), .val (.int (0 : Int32)), .val (.long zq2), .second] [(.int (1 : Int32))])
                                    refine own_go (fun t k => XS.goto X56.here hx rfl (pc0 := 324) (pc' := 328) rfl (hb hby at_324) (by decide) (by decide) k) ?_
                                    show own_WP _ _ _ _ T56 (mkF m 328 #[.val (.int zc), .val (.int zx0), .val (.long zh), .second, .val (.long zq0), .second, .val (.long zq1), .second, .val (.long zq2), .second, .val (.int za), .val (.int zd), .val (.int zb), .val (.int zs), .val (.int zx), .val (.long zq), .second, .val (.int zm), .val (.ref zo), .val (.int (0 : Int32)), .val (.long zq2), .second] [(.int (1 : Int32))])
                                    refine own_retN X56 hx Bd.notSynchronized (t := .boolean) (by simp) Bd.returns (hb hby at_328) (by decide) (by decide) ?_
                                    rw [eq56]
                                    exact ⟨rfl, N56⟩
                                · refine own_go (fun t k => XS.icmpYes X49.here hx rfl (pc0 := 291) (pc' := 306) rfl (hb hby at_291) rfl (feq hc291).2 (by decide) (by decide) k) ?_
                                  show own_WP _ _ _ _ T49 (mkF m 306 #[.val (.int zc), .val (.int zx0), .val (.long zh), .second, .val (.long zq0), .second, .val (.long zq1), .second, .val (.long zq2), .second, .val (.int za), .val (.int zd), .val (.int zb), .val (.int zs), .val (.int zx), .val (.long zq), .second, .val (.int zm), .val (.ref zo), .unset, .val (.long zq2), .second] [])
                                  refine own_go (fun t k => XS.iconst X49.here hx rfl (hb hby at_306) k) ?_
                                  show own_WP _ _ _ _ T49 (mkF m 307 #[.val (.int zc), .val (.int zx0), .val (.long zh), .second, .val (.long zq0), .second, .val (.long zq1), .second, .val (.long zq2), .second, .val (.int za), .val (.int zd), .val (.int zb), .val (.int zs), .val (.int zx), .val (.long zq), .second, .val (.int zm), .val (.ref zo), .unset, .val (.long zq2), .second] [(.int (0 : Int32))])
                                  refine own_go (fun t k => XS.istore X49.here hx rfl (hb hby at_307) rfl (l' := #[.val (.int zc), .val (.int zx0), .val (.long zh), .second, .val (.long zq0), .second, .val (.long zq1), .second, .val (.long zq2), .second, .val (.int za), .val (.int zd), .val (.int zb), .val (.int zs), .val (.int zx), .val (.long zq), .second, .val (.int zm), .val (.ref zo), .val (.int (0 : Int32)), .val (.long zq2), .second]) rfl k) ?_
                                  show own_WP _ _ _ _ T49 (mkF m 309 #[.val (.int zc), .val (.int zx0), .val (.long zh), .second, .val (.long zq0), .second, .val (.long zq1), .second, .val (.long zq2), .second, .val (.int za), .val (.int zd), .val (.int zb), .val (.int zs), .val (.int zx), .val (.long zq), .second, .val (.int zm), .val (.ref zo), .val (.int (0 : Int32)), .val (.long zq2), .second] [])
                                  refine own_go (fun t k => XS.aload X49.here hx rfl (hb hby at_309) rfl rfl  k) ?_
                                  show own_WP _ _ _ _ T49 (mkF m 311 #[.val (.int zc), .val (.int zx0), .val (.long zh), .second, .val (.long zq0), .second, .val (.long zq1), .second, .val (.long zq2), .second, .val (.int za), .val (.int zd), .val (.int zb), .val (.int zs), .val (.int zx), .val (.long zq), .second, .val (.int zm), .val (.ref zo), .val (.int (0 : Int32)), .val (.long zq2), .second] [(.ref zo)])
                                  refine own_go (fun t k => XS.iload X49.here hx rfl (hb hby at_311) rfl  k) ?_
                                  show own_WP _ _ _ _ T49 (mkF m 313 #[.val (.int zc), .val (.int zx0), .val (.long zh), .second, .val (.long zq0), .second, .val (.long zq1), .second, .val (.long zq2), .second, .val (.int za), .val (.int zd), .val (.int zb), .val (.int zs), .val (.int zx), .val (.long zq), .second, .val (.int zm), .val (.ref zo), .val (.int (0 : Int32)), .val (.long zq2), .second] [(.int zx), (.ref zo)])
                                  refine own_go (fun t k => XS.lload X49.here hx rfl (hb hby at_313) rfl  k) ?_
                                  show own_WP _ _ _ _ T49 (mkF m 315 #[.val (.int zc), .val (.int zx0), .val (.long zh), .second, .val (.long zq0), .second, .val (.long zq1), .second, .val (.long zq2), .second, .val (.int za), .val (.int zd), .val (.int zb), .val (.int zs), .val (.int zx), .val (.long zq), .second, .val (.int zm), .val (.ref zo), .val (.int (0 : Int32)), .val (.long zq2), .second] [(.long zq), (.int zx), (.ref zo)])
                                  obtain ⟨cq57, kq57, q57a, q57b, q57c⟩ := isOf hZ e49 f50
                                  obtain ⟨_, _, ⟨T57, L57, k57, n57⟩, -, X57, ⟨Lc57, hQ57, l57, y57, z57⟩, st57⟩ := X49.virtualBack hx (y := (⟨"com/example/ringspan/ringspan/symmetry/Trace", "endsWith", "(IJ)Z"⟩ : MethodName)) (z := (⟨"com/example/ringspan/ringspan/symmetry/Trace", "endsWith", "(IJ)Z"⟩ : MethodName)) hown (mvT hZ (hw _ (List.mem_of_getElem? (i := 12) rfl))) (mvT hZ (hw _ (List.mem_of_getElem? (i := 13) rfl))) (notFace_of_selects (args := #[]) (mvT hZ (hw _ (List.mem_of_getElem? (i := 15) rfl)))) (mvT hZ (hw _ (List.mem_of_getElem? (i := 15) rfl))) (mvT hZ (hw _ (List.mem_of_getElem? (i := 14) rfl))) (by decide) (backOf (W := 0) (rm3 l Z a0 hw [] zo zx zq zr zn7 zk zL7 h49 n0 (own_le Z0 K49j) f51 f52 f53 (show zL7.length = 8 from hl7) (show zx = zn7 - 1 → ¬ zx < 0 ∧ zx < 8 from own_hi hb7 (by decide) (by rw [hkey.1, ← hln]; exact hok))) hZ (hw _ (List.mem_of_getElem? (i := 16) rfl)) (hw _ (List.mem_of_getElem? (i := 2) rfl)) (by decide) (by decide)) q57a q57c (g := (mkF m 315 #[.val (.int zc), .val (.int zx0), .val (.long zh), .second, .val (.long zq0), .second, .val (.long zq1), .second, .val (.long zq2), .second, .val (.int za), .val (.int zd), .val (.int zb), .val (.int zs), .val (.int zx), .val (.long zq), .second, .val (.int zm), .val (.ref zo), .val (.int (0 : Int32)), .val (.long zq2), .second] [(.long zq), (.int zx), (.ref zo)])) rfl (by rw [hml]; rfl) (Steps.refl _) (argsL := [(.int zx), (.long zq)]) (rest := []) (lenOf own_pd48266 rfl) rfl (by show 2 * 0 + _ ≤ _; exact Nat.le_of_eq rfl) (hb hby at_315) (fun _ _ => ⟨rfl, e49, (by decide : 2 + 0 ≤ _), (by decide : 10 + 0 ≤ _)⟩)
                                  dsimp only [Pt.U, Pt.locs, Pt.cells, Pt.slots] at X57 l57 y57 z57 st57 hQ57
                                  subst l57 y57 z57
                                  obtain ⟨rfl, N57q, eq57⟩ := hQ57
                                  have N57 := Fr.app N49 N57q
                                  refine own_tr st57 ?_
                                  show own_WP _ _ _ _ T57 (mkF m 318 #[.val (.int zc), .val (.int zx0), .val (.long zh), .second, .val (.long zq0), .second, .val (.long zq1), .second, .val (.long zq2), .second, .val (.int za), .val (.int zd), .val (.int zb), .val (.int zs), .val (.int zx), .val (.long zq), .second, .val (.int zm), .val (.ref zo), .val (.int (0 : Int32)), .val (.long zq2), .second] [(.int (own_ew zn7 zL7 zx zq))])
                                  refine own_go (fun t k => XS.iload X57.here hx rfl (hb hby at_318) rfl  k) ?_
                                  show own_WP _ _ _ _ T57 (mkF m 320 #[.val (.int zc), .val (.int zx0), .val (.long zh), .second, .val (.long zq0), .second, .val (.long zq1), .second, .val (.long zq2), .second, .val (.int za), .val (.int zd), .val (.int zb), .val (.int zs), .val (.int zx), .val (.long zq), .second, .val (.int zm), .val (.ref zo), .val (.int (0 : Int32)), .val (.long zq2), .second] [(.int (0 : Int32)), (.int (own_ew zn7 zL7 zx zq))])
                                  have hc320 : (own_ew zn7 zL7 zx zq) = (0 : Int32) := by
                                    rw [hkey.2 zx zq (by rw [← hln]; exact hok), ← hln]
                                    simp [own_ee, hc216, hc227, hc233, hc291]
                                  refine own_go (fun t k => XS.icmpNo X57.here hx rfl (hb hby at_320) rfl (teq hc320).2 k) ?_
                                  show own_WP _ _ _ _ T57 (mkF m 323 #[.val (.int zc), .val (.int zx0), .val (.long zh), .second, .val (.long zq0), .second, .val (.long zq1), .second, .val (.long zq2), .second, .val (.int za), .val (.int zd), .val (.int zb), .val (.int zs), .val (.int zx), .val (.long zq), .second, .val (.int zm), .val (.ref zo), .val (.int (0 : Int32)), .val (.long zq2), .second] [])
                                  refine own_go (fun t k => XS.iconst X57.here hx rfl (hb hby at_323) k) ?_
                                  show own_WP _ _ _ _ T57 (mkF m 324 #[.val (.int zc), .val (.int zx0), .val (.long zh), .second, .val (.long zq0), .second, .val (.long zq1), .second, .val (.long zq2), .second, .val (.int za), .val (.int zd), .val (.int zb), .val (.int zs), .val (.int zx), .val (.long zq), .second, .val (.int zm), .val (.ref zo), .val (.int (0 : Int32)), .val (.long zq2), .second] [(.int (1 : Int32))])
                                  refine own_go (fun t k => XS.goto X57.here hx rfl (pc0 := 324) (pc' := 328) rfl (hb hby at_324) (by decide) (by decide) k) ?_
                                  show own_WP _ _ _ _ T57 (mkF m 328 #[.val (.int zc), .val (.int zx0), .val (.long zh), .second, .val (.long zq0), .second, .val (.long zq1), .second, .val (.long zq2), .second, .val (.int za), .val (.int zd), .val (.int zb), .val (.int zs), .val (.int zx), .val (.long zq), .second, .val (.int zm), .val (.ref zo), .val (.int (0 : Int32)), .val (.long zq2), .second] [(.int (1 : Int32))])
                                  refine own_retN X57 hx Bd.notSynchronized (t := .boolean) (by simp) Bd.returns (hb hby at_328) (by decide) (by decide) ?_
                                  rw [eq57]
                                  exact ⟨rfl, N57⟩
                              · refine own_go (fun t k => XS.icmpYes X49.here hx rfl (pc0 := 233) (pc' := 241) rfl (hb hby at_233) rfl (feq hc233).2 (by decide) (by decide) k) ?_
                                show own_WP _ _ _ _ T49 (mkF m 241 #[.val (.int zc), .val (.int zx0), .val (.long zh), .second, .val (.long zq0), .second, .val (.long zq1), .second, .val (.long zq2), .second, .val (.int za), .val (.int zd), .val (.int zb), .val (.int zs), .val (.int zx), .val (.long zq), .second, .val (.int zm), .val (.ref zo), .unset, .unset, .unset] [])
                                refine own_go (fun t k => XS.iload X49.here hx rfl (hb hby at_241) rfl  k) ?_
                                show own_WP _ _ _ _ T49 (mkF m 243 #[.val (.int zc), .val (.int zx0), .val (.long zh), .second, .val (.long zq0), .second, .val (.long zq1), .second, .val (.long zq2), .second, .val (.int za), .val (.int zd), .val (.int zb), .val (.int zs), .val (.int zx), .val (.long zq), .second, .val (.int zm), .val (.ref zo), .unset, .unset, .unset] [(.int zb)])
                                refine own_go (fun t k => XS.iconst X49.here hx rfl (hb hby at_243) k) ?_
                                show own_WP _ _ _ _ T49 (mkF m 244 #[.val (.int zc), .val (.int zx0), .val (.long zh), .second, .val (.long zq0), .second, .val (.long zq1), .second, .val (.long zq2), .second, .val (.int za), .val (.int zd), .val (.int zb), .val (.int zs), .val (.int zx), .val (.long zq), .second, .val (.int zm), .val (.ref zo), .unset, .unset, .unset] [(.int (2 : Int32)), (.int zb)])
                                by_cases hc244 : zb = (2 : Int32)
                                · refine own_go (fun t k => XS.icmpNo X49.here hx rfl (hb hby at_244) rfl (teq hc244).2 k) ?_
                                  show own_WP _ _ _ _ T49 (mkF m 247 #[.val (.int zc), .val (.int zx0), .val (.long zh), .second, .val (.long zq0), .second, .val (.long zq1), .second, .val (.long zq2), .second, .val (.int za), .val (.int zd), .val (.int zb), .val (.int zs), .val (.int zx), .val (.long zq), .second, .val (.int zm), .val (.ref zo), .unset, .unset, .unset] [])
                                  refine own_go (fun t k => XS.lload X49.here hx rfl (hb hby at_247) rfl  k) ?_
                                  show own_WP _ _ _ _ T49 (mkF m 249 #[.val (.int zc), .val (.int zx0), .val (.long zh), .second, .val (.long zq0), .second, .val (.long zq1), .second, .val (.long zq2), .second, .val (.int za), .val (.int zd), .val (.int zb), .val (.int zs), .val (.int zx), .val (.long zq), .second, .val (.int zm), .val (.ref zo), .unset, .unset, .unset] [(.long zq0)])
                                  refine own_go (fun t k => XS.goto X49.here hx rfl (pc0 := 249) (pc' := 254) rfl (hb hby at_249) (by decide) (by decide) k) ?_
                                  show own_WP _ _ _ _ T49 (mkF m 254 #[.val (.int zc), .val (.int zx0), .val (.long zh), .second, .val (.long zq0), .second, .val (.long zq1), .second, .val (.long zq2), .second, .val (.int za), .val (.int zd), .val (.int zb), .val (.int zs), .val (.int zx), .val (.long zq), .second, .val (.int zm), .val (.ref zo), .unset, .unset, .unset] [(.long zq0)])
                                  refine own_go (fun t k => XS.lstore X49.here hx rfl (hb hby at_254) rfl (l' := #[.val (.int zc), .val (.int zx0), .val (.long zh), .second, .val (.long zq0), .second, .val (.long zq1), .second, .val (.long zq2), .second, .val (.int za), .val (.int zd), .val (.int zb), .val (.int zs), .val (.int zx), .val (.long zq), .second, .val (.int zm), .val (.ref zo), .unset, .val (.long zq0), .second]) rfl k) ?_
                                  show own_WP _ _ _ _ T49 (mkF m 256 #[.val (.int zc), .val (.int zx0), .val (.long zh), .second, .val (.long zq0), .second, .val (.long zq1), .second, .val (.long zq2), .second, .val (.int za), .val (.int zd), .val (.int zb), .val (.int zs), .val (.int zx), .val (.long zq), .second, .val (.int zm), .val (.ref zo), .unset, .val (.long zq0), .second] [])
                                  refine own_go (fun t k => XS.goto X49.here hx rfl (pc0 := 256) (pc' := 285) rfl (hb hby at_256) (by decide) (by decide) k) ?_
                                  show own_WP _ _ _ _ T49 (mkF m 285 #[.val (.int zc), .val (.int zx0), .val (.long zh), .second, .val (.long zq0), .second, .val (.long zq1), .second, .val (.long zq2), .second, .val (.int za), .val (.int zd), .val (.int zb), .val (.int zs), .val (.int zx), .val (.long zq), .second, .val (.int zm), .val (.ref zo), .unset, .val (.long zq0), .second] [])
                                  refine own_go (fun t k => XS.iload X49.here hx rfl (hb hby at_285) rfl  k) ?_
                                  show own_WP _ _ _ _ T49 (mkF m 287 #[.val (.int zc), .val (.int zx0), .val (.long zh), .second, .val (.long zq0), .second, .val (.long zq1), .second, .val (.long zq2), .second, .val (.int za), .val (.int zd), .val (.int zb), .val (.int zs), .val (.int zx), .val (.long zq), .second, .val (.int zm), .val (.ref zo), .unset, .val (.long zq0), .second] [(.int zx)])
                                  refine own_go (fun t k => XS.iload X49.here hx rfl (hb hby at_287) rfl  k) ?_
                                  show own_WP _ _ _ _ T49 (mkF m 289 #[.val (.int zc), .val (.int zx0), .val (.long zh), .second, .val (.long zq0), .second, .val (.long zq1), .second, .val (.long zq2), .second, .val (.int za), .val (.int zd), .val (.int zb), .val (.int zs), .val (.int zx), .val (.long zq), .second, .val (.int zm), .val (.ref zo), .unset, .val (.long zq0), .second] [(.int zm), (.int zx)])
                                  refine own_go (fun t k => XS.iconst X49.here hx rfl (hb hby at_289) k) ?_
                                  show own_WP _ _ _ _ T49 (mkF m 290 #[.val (.int zc), .val (.int zx0), .val (.long zh), .second, .val (.long zq0), .second, .val (.long zq1), .second, .val (.long zq2), .second, .val (.int za), .val (.int zd), .val (.int zb), .val (.int zs), .val (.int zx), .val (.long zq), .second, .val (.int zm), .val (.ref zo), .unset, .val (.long zq0), .second] [(.int (1 : Int32)), (.int zm), (.int zx)])
                                  refine own_go (fun t k => XS.isub X49.here hx rfl (hb hby at_290) rfl k) ?_
                                  show own_WP _ _ _ _ T49 (mkF m 291 #[.val (.int zc), .val (.int zx0), .val (.long zh), .second, .val (.long zq0), .second, .val (.long zq1), .second, .val (.long zq2), .second, .val (.int za), .val (.int zd), .val (.int zb), .val (.int zs), .val (.int zx), .val (.long zq), .second, .val (.int zm), .val (.ref zo), .unset, .val (.long zq0), .second] [(.int (zm - (1 : Int32))), (.int zx)])
                                  by_cases hc291 : zx = (zm - (1 : Int32))
                                  · refine own_go (fun t k => XS.icmpNo X49.here hx rfl (hb hby at_291) rfl (teq hc291).2 k) ?_
                                    show own_WP _ _ _ _ T49 (mkF m 294 #[.val (.int zc), .val (.int zx0), .val (.long zh), .second, .val (.long zq0), .second, .val (.long zq1), .second, .val (.long zq2), .second, .val (.int za), .val (.int zd), .val (.int zb), .val (.int zs), .val (.int zx), .val (.long zq), .second, .val (.int zm), .val (.ref zo), .unset, .val (.long zq0), .second] [])
                                    refine own_go (fun t k => XS.lload X49.here hx rfl (hb hby at_294) rfl  k) ?_
                                    show own_WP _ _ _ _ T49 (mkF m 296 #[.val (.int zc), .val (.int zx0), .val (.long zh), .second, .val (.long zq0), .second, .val (.long zq1), .second, .val (.long zq2), .second, .val (.int za), .val (.int zd), .val (.int zb), .val (.int zs), .val (.int zx), .val (.long zq), .second, .val (.int zm), .val (.ref zo), .unset, .val (.long zq0), .second] [(.long zq)])
                                    refine own_go (fun t k => XS.lload X49.here hx rfl (hb hby at_296) rfl  k) ?_
                                    show own_WP _ _ _ _ T49 (mkF m 298 #[.val (.int zc), .val (.int zx0), .val (.long zh), .second, .val (.long zq0), .second, .val (.long zq1), .second, .val (.long zq2), .second, .val (.int za), .val (.int zd), .val (.int zb), .val (.int zs), .val (.int zx), .val (.long zq), .second, .val (.int zm), .val (.ref zo), .unset, .val (.long zq0), .second] [(.long zq0), (.long zq)])
                                    refine own_go (fun t k => XS.lcmp X49.here hx rfl (hb hby at_298) rfl k) ?_
                                    show own_WP _ _ _ _ T49 (mkF m 299 #[.val (.int zc), .val (.int zx0), .val (.long zh), .second, .val (.long zq0), .second, .val (.long zq1), .second, .val (.long zq2), .second, .val (.int za), .val (.int zd), .val (.int zb), .val (.int zs), .val (.int zx), .val (.long zq), .second, .val (.int zm), .val (.ref zo), .unset, .val (.long zq0), .second] [(.int (lcmpW zq zq0))])
                                    by_cases hc299 : zq = zq0
                                    · refine own_go (fun t k => XS.ifNo X49.here hx rfl (hb hby at_299) rfl ((if0 _ _).trans (teq ((lw_eq zq zq0).mpr hc299)).2) k) ?_
                                      show own_WP _ _ _ _ T49 (mkF m 302 #[.val (.int zc), .val (.int zx0), .val (.long zh), .second, .val (.long zq0), .second, .val (.long zq1), .second, .val (.long zq2), .second, .val (.int za), .val (.int zd), .val (.int zb), .val (.int zs), .val (.int zx), .val (.long zq), .second, .val (.int zm), .val (.ref zo), .unset, .val (.long zq0), .second] [])
                                      refine own_go (fun t k => XS.iconst X49.here hx rfl (hb hby at_302) k) ?_
                                      show own_WP _ _ _ _ T49 (mkF m 303 #[.val (.int zc), .val (.int zx0), .val (.long zh), .second, .val (.long zq0), .second, .val (.long zq1), .second, .val (.long zq2), .second, .val (.int za), .val (.int zd), .val (.int zb), .val (.int zs), .val (.int zx), .val (.long zq), .second, .val (.int zm), .val (.ref zo), .unset, .val (.long zq0), .second] [(.int (1 : Int32))])
                                      refine own_go (fun t k => XS.goto X49.here hx rfl (pc0 := 303) (pc' := 307) rfl (hb hby at_303) (by decide) (by decide) k) ?_
                                      show own_WP _ _ _ _ T49 (mkF m 307 #[.val (.int zc), .val (.int zx0), .val (.long zh), .second, .val (.long zq0), .second, .val (.long zq1), .second, .val (.long zq2), .second, .val (.int za), .val (.int zd), .val (.int zb), .val (.int zs), .val (.int zx), .val (.long zq), .second, .val (.int zm), .val (.ref zo), .unset, .val (.long zq0), .second] [(.int (1 : Int32))])
                                      refine own_go (fun t k => XS.istore X49.here hx rfl (hb hby at_307) rfl (l' := #[.val (.int zc), .val (.int zx0), .val (.long zh), .second, .val (.long zq0), .second, .val (.long zq1), .second, .val (.long zq2), .second, .val (.int za), .val (.int zd), .val (.int zb), .val (.int zs), .val (.int zx), .val (.long zq), .second, .val (.int zm), .val (.ref zo), .val (.int (1 : Int32)), .val (.long zq0), .second]) rfl k) ?_
                                      show own_WP _ _ _ _ T49 (mkF m 309 #[.val (.int zc), .val (.int zx0), .val (.long zh), .second, .val (.long zq0), .second, .val (.long zq1), .second, .val (.long zq2), .second, .val (.int za), .val (.int zd), .val (.int zb), .val (.int zs), .val (.int zx), .val (.long zq), .second, .val (.int zm), .val (.ref zo), .val (.int (1 : Int32)), .val (.long zq0), .second] [])
                                      refine own_go (fun t k => XS.aload X49.here hx rfl (hb hby at_309) rfl rfl  k) ?_
                                      show own_WP _ _ _ _ T49 (mkF m 311 #[.val (.int zc), .val (.int zx0), .val (.long zh), .second, .val (.long zq0), .second, .val (.long zq1), .second, .val (.long zq2), .second, .val (.int za), .val (.int zd), .val (.int zb), .val (.int zs), .val (.int zx), .val (.long zq), .second, .val (.int zm), .val (.ref zo), .val (.int (1 : Int32)), .val (.long zq0), .second] [(.ref zo)])
                                      refine own_go (fun t k => XS.iload X49.here hx rfl (hb hby at_311) rfl  k) ?_
                                      show own_WP _ _ _ _ T49 (mkF m 313 #[.val (.int zc), .val (.int zx0), .val (.long zh), .second, .val (.long zq0), .second, .val (.long zq1), .second, .val (.long zq2), .second, .val (.int za), .val (.int zd), .val (.int zb), .val (.int zs), .val (.int zx), .val (.long zq), .second, .val (.int zm), .val (.ref zo), .val (.int (1 : Int32)), .val (.long zq0), .second] [(.int zx), (.ref zo)])
                                      refine own_go (fun t k => XS.lload X49.here hx rfl (hb hby at_313) rfl  k) ?_
                                      show own_WP _ _ _ _ T49 (mkF m 315 #[.val (.int zc), .val (.int zx0), .val (.long zh), .second, .val (.long zq0), .second, .val (.long zq1), .second, .val (.long zq2), .second, .val (.int za), .val (.int zd), .val (.int zb), .val (.int zs), .val (.int zx), .val (.long zq), .second, .val (.int zm), .val (.ref zo), .val (.int (1 : Int32)), .val (.long zq0), .second] [(.long zq), (.int zx), (.ref zo)])
                                      obtain ⟨cq58, kq58, q58a, q58b, q58c⟩ := isOf hZ e49 f50
                                      obtain ⟨_, _, ⟨T58, L58, k58, n58⟩, -, X58, ⟨Lc58, hQ58, l58, y58, z58⟩, st58⟩ := X49.virtualBack hx (y := (⟨"com/example/ringspan/ringspan/symmetry/Trace", "endsWith", "(IJ)Z"⟩ : MethodName)) (z := (⟨"com/example/ringspan/ringspan/symmetry/Trace", "endsWith", "(IJ)Z"⟩ : MethodName)) hown (mvT hZ (hw _ (List.mem_of_getElem? (i := 12) rfl))) (mvT hZ (hw _ (List.mem_of_getElem? (i := 13) rfl))) (notFace_of_selects (args := #[]) (mvT hZ (hw _ (List.mem_of_getElem? (i := 15) rfl)))) (mvT hZ (hw _ (List.mem_of_getElem? (i := 15) rfl))) (mvT hZ (hw _ (List.mem_of_getElem? (i := 14) rfl))) (by decide) (backOf (W := 0) (rm3 l Z a0 hw [] zo zx zq zr zn7 zk zL7 h49 n0 (own_le Z0 K49j) f51 f52 f53 (show zL7.length = 8 from hl7) (show zx = zn7 - 1 → ¬ zx < 0 ∧ zx < 8 from own_hi hb7 (by decide) (by rw [hkey.1, ← hln]; exact hok))) hZ (hw _ (List.mem_of_getElem? (i := 16) rfl)) (hw _ (List.mem_of_getElem? (i := 2) rfl)) (by decide) (by decide)) q58a q58c (g := (mkF m 315 #[.val (.int zc), .val (.int zx0), .val (.long zh), .second, .val (.long zq0), .second, .val (.long zq1), .second, .val (.long zq2), .second, .val (.int za), .val (.int zd), .val (.int zb), .val (.int zs), .val (.int zx), .val (.long zq), .second, .val (.int zm), .val (.ref zo), .val (.int (1 : Int32)), .val (.long zq0), .second] [(.long zq), (.int zx), (.ref zo)])) rfl (by rw [hml]; rfl) (Steps.refl _) (argsL := [(.int zx), (.long zq)]) (rest := []) (lenOf own_pd48266 rfl) rfl (by show 2 * 0 + _ ≤ _; exact Nat.le_of_eq rfl) (hb hby at_315) (fun _ _ => ⟨rfl, e49, (by decide : 2 + 0 ≤ _), (by decide : 10 + 0 ≤ _)⟩)
                                      dsimp only [Pt.U, Pt.locs, Pt.cells, Pt.slots] at X58 l58 y58 z58 st58 hQ58
                                      subst l58 y58 z58
                                      obtain ⟨rfl, N58q, eq58⟩ := hQ58
                                      have N58 := Fr.app N49 N58q
                                      refine own_tr st58 ?_
                                      show own_WP _ _ _ _ T58 (mkF m 318 #[.val (.int zc), .val (.int zx0), .val (.long zh), .second, .val (.long zq0), .second, .val (.long zq1), .second, .val (.long zq2), .second, .val (.int za), .val (.int zd), .val (.int zb), .val (.int zs), .val (.int zx), .val (.long zq), .second, .val (.int zm), .val (.ref zo), .val (.int (1 : Int32)), .val (.long zq0), .second] [(.int (own_ew zn7 zL7 zx zq))])
                                      refine own_go (fun t k => XS.iload X58.here hx rfl (hb hby at_318) rfl  k) ?_
                                      show own_WP _ _ _ _ T58 (mkF m 320 #[.val (.int zc), .val (.int zx0), .val (.long zh), .second, .val (.long zq0), .second, .val (.long zq1), .second, .val (.long zq2), .second, .val (.int za), .val (.int zd), .val (.int zb), .val (.int zs), .val (.int zx), .val (.long zq), .second, .val (.int zm), .val (.ref zo), .val (.int (1 : Int32)), .val (.long zq0), .second] [(.int (1 : Int32)), (.int (own_ew zn7 zL7 zx zq))])
                                      have hc320 : (own_ew zn7 zL7 zx zq) = (1 : Int32) := by
                                        rw [hkey.2 zx zq (by rw [← hln]; exact hok), ← hln]
                                        simp [own_ee, hc216, hc227, hc233, hc244, hc291, hc299]
                                      refine own_go (fun t k => XS.icmpNo X58.here hx rfl (hb hby at_320) rfl (teq hc320).2 k) ?_
                                      show own_WP _ _ _ _ T58 (mkF m 323 #[.val (.int zc), .val (.int zx0), .val (.long zh), .second, .val (.long zq0), .second, .val (.long zq1), .second, .val (.long zq2), .second, .val (.int za), .val (.int zd), .val (.int zb), .val (.int zs), .val (.int zx), .val (.long zq), .second, .val (.int zm), .val (.ref zo), .val (.int (1 : Int32)), .val (.long zq0), .second] [])
                                      refine own_go (fun t k => XS.iconst X58.here hx rfl (hb hby at_323) k) ?_
                                      show own_WP _ _ _ _ T58 (mkF m 324 #[.val (.int zc), .val (.int zx0), .val (.long zh), .second, .val (.long zq0), .second, .val (.long zq1), .second, .val (.long zq2), .second, .val (.int za), .val (.int zd), .val (.int zb), .val (.int zs), .val (.int zx), .val (.long zq), .second, .val (.int zm), .val (.ref zo), .val (.int (1 : Int32)), .val (.long zq0), .second] [(.int (1 : Int32))])
                                      refine own_go (fun t k => XS.goto X58.here hx rfl (pc0 := 324) (pc' := 328) rfl (hb hby at_324) (by decide) (by decide) k) ?_
                                      show own_WP _ _ _ _ T58 (mkF m 328 #[.val (.int zc), .val (.int zx0), .val (.long zh), .second, .val (.long zq0), .second, .val (.long zq1), .second, .val (.long zq2), .second, .val (.int za), .val (.int zd), .val (.int zb), .val (.int zs), .val (.int zx), .val (.long zq), .second, .val (.int zm), .val (.ref zo), .val (.int (1 : Int32)), .val (.long zq0), .second] [(.int (1 : Int32))])
                                      refine own_retN X58 hx Bd.notSynchronized (t := .boolean) (by simp) Bd.returns (hb hby at_328) (by decide) (by decide) ?_
                                      rw [eq58]
                                      exact ⟨rfl, N58⟩
                                    · refine own_go (fun t k => XS.ifYes X49.here hx rfl (pc0 := 299) (pc' := 306) rfl (hb hby at_299) rfl ((if0 _ _).trans (feq (fun z => hc299 ((lw_eq zq zq0).mp z))).2) (by decide) (by decide) k) ?_
                                      show own_WP _ _ _ _ T49 (mkF m 306 #[.val (.int zc), .val (.int zx0), .val (.long zh), .second, .val (.long zq0), .second, .val (.long zq1), .second, .val (.long zq2), .second, .val (.int za), .val (.int zd), .val (.int zb), .val (.int zs), .val (.int zx), .val (.long zq), .second, .val (.int zm), .val (.ref zo), .unset, .val (.long zq0), .second] [])
                                      refine own_go (fun t k => XS.iconst X49.here hx rfl (hb hby at_306) k) ?_
                                      show own_WP _ _ _ _ T49 (mkF m 307 #[.val (.int zc), .val (.int zx0), .val (.long zh), .second, .val (.long zq0), .second, .val (.long zq1), .second, .val (.long zq2), .second, .val (.int za), .val (.int zd), .val (.int zb), .val (.int zs), .val (.int zx), .val (.long zq), .second, .val (.int zm), .val (.ref zo), .unset, .val (.long zq0), .second] [(.int (0 : Int32))])
                                      refine own_go (fun t k => XS.istore X49.here hx rfl (hb hby at_307) rfl (l' := #[.val (.int zc), .val (.int zx0), .val (.long zh), .second, .val (.long zq0), .second, .val (.long zq1), .second, .val (.long zq2), .second, .val (.int za), .val (.int zd), .val (.int zb), .val (.int zs), .val (.int zx), .val (.long zq), .second, .val (.int zm), .val (.ref zo), .val (.int (0 : Int32)), .val (.long zq0), .second]) rfl k) ?_
                                      show own_WP _ _ _ _ T49 (mkF m 309 #[.val (.int zc), .val (.int zx0), .val (.long zh), .second, .val (.long zq0), .second, .val (.long zq1), .second, .val (.long zq2), .second, .val (.int za), .val (.int zd), .val (.int zb), .val (.int zs), .val (.int zx), .val (.long zq), .second, .val (.int zm), .val (.ref zo), .val (.int (0 : Int32)), .val (.long zq0), .second] [])
                                      refine own_go (fun t k => XS.aload X49.here hx rfl (hb hby at_309) rfl rfl  k) ?_
                                      show own_WP _ _ _ _ T49 (mkF m 311 #[.val (.int zc), .val (.int zx0), .val (.long zh), .second, .val (.long zq0), .second, .val (.long zq1), .second, .val (.long zq2), .second, .val (.int za), .val (.int zd), .val (.int zb), .val (.int zs), .val (.int zx), .val (.long zq), .second, .val (.int zm), .val (.ref zo), .val (.int (0 : Int32)), .val (.long zq0), .second] [(.ref zo)])
                                      refine own_go (fun t k => XS.iload X49.here hx rfl (hb hby at_311) rfl  k) ?_
                                      show own_WP _ _ _ _ T49 (mkF m 313 #[.val (.int zc), .val (.int zx0), .val (.long zh), .second, .val (.long zq0), .second, .val (.long zq1), .second, .val (.long zq2), .second, .val (.int za), .val (.int zd), .val (.int zb), .val (.int zs), .val (.int zx), .val (.long zq), .second, .val (.int zm), .val (.ref zo), .val (.int (0 : Int32)), .val (.long zq0), .second] [(.int zx), (.ref zo)])
                                      refine own_go (fun t k => XS.lload X49.here hx rfl (hb hby at_313) rfl  k) ?_
                                      show own_WP _ _ _ _ T49 (mkF m 315 #[.val (.int zc), .val (.int zx0), .val (.long zh), .second, .val (.long zq0), .second, .val (.long zq1), .second, .val (.long zq2), .second, .val (.int za), .val (.int zd), .val (.int zb), .val (.int zs), .val (.int zx), .val (.long zq), .second, .val (.int zm), .val (.ref zo), .val (.int (0 : Int32)), .val (.long zq0), .second] [(.long zq), (.int zx), (.ref zo)])
                                      obtain ⟨cq59, kq59, q59a, q59b, q59c⟩ := isOf hZ e49 f50
                                      obtain ⟨_, _, ⟨T59, L59, k59, n59⟩, -, X59, ⟨Lc59, hQ59, l59, y59, z59⟩, st59⟩ := X49.virtualBack hx (y := (⟨"com/example/ringspan/ringspan/symmetry/Trace", "endsWith", "(IJ)Z"⟩ : MethodName)) (z := (⟨"com/example/ringspan/ringspan/symmetry/Trace", "endsWith", "(IJ)Z"⟩ : MethodName)) hown (mvT hZ (hw _ (List.mem_of_getElem? (i := 12) rfl))) (mvT hZ (hw _ (List.mem_of_getElem? (i := 13) rfl))) (notFace_of_selects (args := #[]) (mvT hZ (hw _ (List.mem_of_getElem? (i := 15) rfl)))) (mvT hZ (hw _ (List.mem_of_getElem? (i := 15) rfl))) (mvT hZ (hw _ (List.mem_of_getElem? (i := 14) rfl))) (by decide) (backOf (W := 0) (rm3 l Z a0 hw [] zo zx zq zr zn7 zk zL7 h49 n0 (own_le Z0 K49j) f51 f52 f53 (show zL7.length = 8 from hl7) (show zx = zn7 - 1 → ¬ zx < 0 ∧ zx < 8 from own_hi hb7 (by decide) (by rw [hkey.1, ← hln]; exact hok))) hZ (hw _ (List.mem_of_getElem? (i := 16) rfl)) (hw _ (List.mem_of_getElem? (i := 2) rfl)) (by decide) (by decide)) q59a q59c (g := (mkF m 315 #[.val (.int zc), .val (.int zx0), .val (.long zh), .second, .val (.long zq0), .second, .val (.long zq1), .second, .val (.long zq2), .second, .val (.int za), .val (.int zd), .val (.int zb), .val (.int zs), .val (.int zx), .val (.long zq), .second, .val (.int zm), .val (.ref zo), .val (.int (0 : Int32)), .val (.long zq0), .second] [(.long zq), (.int zx), (.ref zo)])) rfl (by rw [hml]; rfl) (Steps.refl _) (argsL := [(.int zx), (.long zq)]) (rest := []) (lenOf own_pd48266 rfl) rfl (by show 2 * 0 + _ ≤ _; exact Nat.le_of_eq rfl) (hb hby at_315) (fun _ _ => ⟨rfl, e49, (by decide : 2 + 0 ≤ _), (by decide : 10 + 0 ≤ _)⟩)
                                      dsimp only [Pt.U, Pt.locs, Pt.cells, Pt.slots] at X59 l59 y59 z59 st59 hQ59
                                      subst l59 y59 z59
                                      obtain ⟨rfl, N59q, eq59⟩ := hQ59
                                      have N59 := Fr.app N49 N59q
                                      refine own_tr st59 ?_
                                      show own_WP _ _ _ _ T59 (mkF m 318 #[.val (.int zc), .val (.int zx0), .val (.long zh), .second, .val (.long zq0), .second, .val (.long zq1), .second, .val (.long zq2), .second, .val (.int za), .val (.int zd), .val (.int zb), .val (.int zs), .val (.int zx), .val (.long zq), .second, .val (.int zm), .val (.ref zo), .val (.int (0 : Int32)), .val (.long zq0), .second] [(.int (own_ew zn7 zL7 zx zq))])
                                      refine own_go (fun t k => XS.iload X59.here hx rfl (hb hby at_318) rfl  k) ?_
                                      show own_WP _ _ _ _ T59 (mkF m 320 #[.val (.int zc), .val (.int zx0), .val (.long zh), .second, .val (.long zq0), .second, .val (.long zq1), .second, .val (.long zq2), .second, .val (.int za), .val (.int zd), .val (.int zb), .val (.int zs), .val (.int zx), .val (.long zq), .second, .val (.int zm), .val (.ref zo), .val (.int (0 : Int32)), .val (.long zq0), .second] [(.int (0 : Int32)), (.int (own_ew zn7 zL7 zx zq))])
                                      have hc320 : (own_ew zn7 zL7 zx zq) = (0 : Int32) := by
                                        rw [hkey.2 zx zq (by rw [← hln]; exact hok), ← hln]
                                        simp [own_ee, hc216, hc227, hc233, hc244, hc291, hc299]
                                      refine own_go (fun t k => XS.icmpNo X59.here hx rfl (hb hby at_320) rfl (teq hc320).2 k) ?_
                                      show own_WP _ _ _ _ T59 (mkF m 323 #[.val (.int zc), .val (.int zx0), .val (.long zh), .second, .val (.long zq0), .second, .val (.long zq1), .second, .val (.long zq2), .second, .val (.int za), .val (.int zd), .val (.int zb), .val (.int zs), .val (.int zx), .val (.long zq), .second, .val (.int zm), .val (.ref zo), .val (.int (0 : Int32)), .val (.long zq0), .second] [])
                                      refine own_go (fun t k => XS.iconst X59.here hx rfl (hb hby at_323) k) ?_
                                      show own_WP _ _ _ _ T59 (mkF m 324 #[.val (.int zc), .val (.int zx0), .val (.long zh), .second, .val (.long zq0), .second, .val (.long zq1), .second, .val (.long zq2), .second, .val (.int za), .val (.int zd), .val (.int zb), .val (.int zs), .val (.int zx), .val (.long zq), .second, .val (.int zm), .val (.ref zo), .val (.int (0 : Int32)), .val (.long zq0), .second] [(.int (1 : Int32))])
                                      refine own_go (fun t k => XS.goto X59.here hx rfl (pc0 := 324) (pc' := 328) rfl (hb hby at_324) (by decide) (by decide) k) ?_
                                      show own_WP _ _ _ _ T59 (mkF m 328 #[.val (.int zc), .val (.int zx0), .val (.long zh), .second, .val (.long zq0), .second, .val (.long zq1), .second, .val (.long zq2), .second, .val (.int za), .val (.int zd), .val (.int zb), .val (.int zs), .val (.int zx), .val (.long zq), .second, .val (.int zm), .val (.ref zo), .val (.int (0 : Int32)), .val (.long zq0), .second] [(.int (1 : Int32))])
                                      refine own_retN X59 hx Bd.notSynchronized (t := .boolean) (by simp) Bd.returns (hb hby at_328) (by decide) (by decide) ?_
                                      rw [eq59]
                                      exact ⟨rfl, N59⟩
                                  · refine own_go (fun t k => XS.icmpYes X49.here hx rfl (pc0 := 291) (pc' := 306) rfl (hb hby at_291) rfl (feq hc291).2 (by decide) (by decide) k) ?_
                                    show own_WP _ _ _ _ T49 (mkF m 306 #[.val (.int zc), .val (.int zx0), .val (.long zh), .second, .val (.long zq0), .second, .val (.long zq1), .second, .val (.long zq2), .second, .val (.int za), .val (.int zd), .val (.int zb), .val (.int zs), .val (.int zx), .val (.long zq), .second, .val (.int zm), .val (.ref zo), .unset, .val (.long zq0), .second] [])
                                    refine own_go (fun t k => XS.iconst X49.here hx rfl (hb hby at_306) k) ?_
                                    show own_WP _ _ _ _ T49 (mkF m 307 #[.val (.int zc), .val (.int zx0), .val (.long zh), .second, .val (.long zq0), .second, .val (.long zq1), .second, .val (.long zq2), .second, .val (.int za), .val (.int zd), .val (.int zb), .val (.int zs), .val (.int zx), .val (.long zq), .second, .val (.int zm), .val (.ref zo), .unset, .val (.long zq0), .second] [(.int (0 : Int32))])
                                    refine own_go (fun t k => XS.istore X49.here hx rfl (hb hby at_307) rfl (l' := #[.val (.int zc), .val (.int zx0), .val (.long zh), .second, .val (.long zq0), .second, .val (.long zq1), .second, .val (.long zq2), .second, .val (.int za), .val (.int zd), .val (.int zb), .val (.int zs), .val (.int zx), .val (.long zq), .second, .val (.int zm), .val (.ref zo), .val (.int (0 : Int32)), .val (.long zq0), .second]) rfl k) ?_
                                    show own_WP _ _ _ _ T49 (mkF m 309 #[.val (.int zc), .val (.int zx0), .val (.long zh), .second, .val (.long zq0), .second, .val (.long zq1), .second, .val (.long zq2), .second, .val (.int za), .val (.int zd), .val (.int zb), .val (.int zs), .val (.int zx), .val (.long zq), .second, .val (.int zm), .val (.ref zo), .val (.int (0 : Int32)), .val (.long zq0), .second] [])
                                    refine own_go (fun t k => XS.aload X49.here hx rfl (hb hby at_309) rfl rfl  k) ?_
                                    show own_WP _ _ _ _ T49 (mkF m 311 #[.val (.int zc), .val (.int zx0), .val (.long zh), .second, .val (.long zq0), .second, .val (.long zq1), .second, .val (.long zq2), .second, .val (.int za), .val (.int zd), .val (.int zb), .val (.int zs), .val (.int zx), .val (.long zq), .second, .val (.int zm), .val (.ref zo), .val (.int (0 : Int32)), .val (.long zq0), .second] [(.ref zo)])
                                    refine own_go (fun t k => XS.iload X49.here hx rfl (hb hby at_311) rfl  k) ?_
                                    show own_WP _ _ _ _ T49 (mkF m 313 #[.val (.int zc), .val (.int zx0), .val (.long zh), .second, .val (.long zq0), .second, .val (.long zq1), .second, .val (.long zq2), .second, .val (.int za), .val (.int zd), .val (.int zb), .val (.int zs), .val (.int zx), .val (.long zq), .second, .val (.int zm), .val (.ref zo), .val (.int (0 : Int32)), .val (.long zq0), .second] [(.int zx), (.ref zo)])
                                    refine own_go (fun t k => XS.lload X49.here hx rfl (hb hby at_313) rfl  k) ?_
                                    show own_WP _ _ _ _ T49 (mkF m 315 #[.val (.int zc), .val (.int zx0), .val (.long zh), .second, .val (.long zq0), .second, .val (.long zq1), .second, .val (.long zq2), .second, .val (.int za), .val (.int zd), .val (.int zb), .val (.int zs), .val (.int zx), .val (.long zq), .second, .val (.int zm), .val (.ref zo), .val (.int (0 : Int32)), .val (.long zq0), .second] [(.long zq), (.int zx), (.ref zo)])
                                    obtain ⟨cq60, kq60, q60a, q60b, q60c⟩ := isOf hZ e49 f50
                                    obtain ⟨_, _, ⟨T60, L60, k60, n60⟩, -, X60, ⟨Lc60, hQ60, l60, y60, z60⟩, st60⟩ := X49.virtualBack hx (y := (⟨"com/example/ringspan/ringspan/symmetry/Trace", "endsWith", "(IJ)Z"⟩ : MethodName)) (z := (⟨"com/example/ringspan/ringspan/symmetry/Trace", "endsWith", "(IJ)Z"⟩ : MethodName)) hown (mvT hZ (hw _ (List.mem_of_getElem? (i := 12) rfl))) (mvT hZ (hw _ (List.mem_of_getElem? (i := 13) rfl))) (notFace_of_selects (args := #[]) (mvT hZ (hw _ (List.mem_of_getElem? (i := 15) rfl)))) (mvT hZ (hw _ (List.mem_of_getElem? (i := 15) rfl))) (mvT hZ (hw _ (List.mem_of_getElem? (i := 14) rfl))) (by decide) (backOf (W := 0) (rm3 l Z a0 hw [] zo zx zq zr zn7 zk zL7 h49 n0 (own_le Z0 K49j) f51 f52 f53 (show zL7.length = 8 from hl7) (show zx = zn7 - 1 → ¬ zx < 0 ∧ zx < 8 from own_hi hb7 (by decide) (by rw [hkey.1, ← hln]; exact hok))) hZ (hw _ (List.mem_of_getElem? (i := 16) rfl)) (hw _ (List.mem_of_getElem? (i := 2) rfl)) (by decide) (by decide)) q60a q60c (g := (mkF m 315 #[.val (.int zc), .val (.int zx0), .val (.long zh), .second, .val (.long zq0), .second, .val (.long zq1), .second, .val (.long zq2), .second, .val (.int za), .val (.int zd), .val (.int zb), .val (.int zs), .val (.int zx), .val (.long zq), .second, .val (.int zm), .val (.ref zo), .val (.int (0 : Int32)), .val (.long zq0), .second] [(.long zq), (.int zx), (.ref zo)])) rfl (by rw [hml]; rfl) (Steps.refl _) (argsL := [(.int zx), (.long zq)]) (rest := []) (lenOf own_pd48266 rfl) rfl (by show 2 * 0 + _ ≤ _; exact Nat.le_of_eq rfl) (hb hby at_315) (fun _ _ => ⟨rfl, e49, (by decide : 2 + 0 ≤ _), (by decide : 10 + 0 ≤ _)⟩)
                                    dsimp only [Pt.U, Pt.locs, Pt.cells, Pt.slots] at X60 l60 y60 z60 st60 hQ60
                                    subst l60 y60 z60
                                    obtain ⟨rfl, N60q, eq60⟩ := hQ60
                                    have N60 := Fr.app N49 N60q
                                    refine own_tr st60 ?_
                                    show own_WP _ _ _ _ T60 (mkF m 318 #[.val (.int zc), .val (.int zx0), .val (.long zh), .second, .val (.long zq0), .second, .val (.long zq1), .second, .val (.long zq2), .second, .val (.int za), .val (.int zd), .val (.int zb), .val (.int zs), .val (.int zx), .val (.long zq), .second, .val (.int zm), .val (.ref zo), .val (.int (0 : Int32)), .val (.long zq0), .second] [(.int (own_ew zn7 zL7 zx zq))])
                                    refine own_go (fun t k => XS.iload X60.here hx rfl (hb hby at_318) rfl  k) ?_
                                    show own_WP _ _ _ _ T60 (mkF m 320 #[.val (.int zc), .val (.int zx0), .val (.long zh), .second, .val (.long zq0), .second, .val (.long zq1), .second, .val (.long zq2), .second, .val (.int za), .val (.int zd), .val (.int zb), .val (.int zs), .val (.int zx), .val (.long zq), .second, .val (.int zm), .val (.ref zo), .val (.int (0 : Int32)), .val (.long zq0), .second] [(.int (0 : Int32)), (.int (own_ew zn7 zL7 zx zq))])
                                    have hc320 : (own_ew zn7 zL7 zx zq) = (0 : Int32) := by
                                      rw [hkey.2 zx zq (by rw [← hln]; exact hok), ← hln]
                                      simp [own_ee, hc216, hc227, hc233, hc244, hc291]
                                    refine own_go (fun t k => XS.icmpNo X60.here hx rfl (hb hby at_320) rfl (teq hc320).2 k) ?_
                                    show own_WP _ _ _ _ T60 (mkF m 323 #[.val (.int zc), .val (.int zx0), .val (.long zh), .second, .val (.long zq0), .second, .val (.long zq1), .second, .val (.long zq2), .second, .val (.int za), .val (.int zd), .val (.int zb), .val (.int zs), .val (.int zx), .val (.long zq), .second, .val (.int zm), .val (.ref zo), .val (.int (0 : Int32)), .val (.long zq0), .second] [])
                                    refine own_go (fun t k => XS.iconst X60.here hx rfl (hb hby at_323) k) ?_
                                    show own_WP _ _ _ _ T60 (mkF m 324 #[.val (.int zc), .val (.int zx0), .val (.long zh), .second, .val (.long zq0), .second, .val (.long zq1), .second, .val (.long zq2), .second, .val (.int za), .val (.int zd), .val (.int zb), .val (.int zs), .val (.int zx), .val (.long zq), .second, .val (.int zm), .val (.ref zo), .val (.int (0 : Int32)), .val (.long zq0), .second] [(.int (1 : Int32))])
                                    refine own_go (fun t k => XS.goto X60.here hx rfl (pc0 := 324) (pc' := 328) rfl (hb hby at_324) (by decide) (by decide) k) ?_
                                    show own_WP _ _ _ _ T60 (mkF m 328 #[.val (.int zc), .val (.int zx0), .val (.long zh), .second, .val (.long zq0), .second, .val (.long zq1), .second, .val (.long zq2), .second, .val (.int za), .val (.int zd), .val (.int zb), .val (.int zs), .val (.int zx), .val (.long zq), .second, .val (.int zm), .val (.ref zo), .val (.int (0 : Int32)), .val (.long zq0), .second] [(.int (1 : Int32))])
                                    refine own_retN X60 hx Bd.notSynchronized (t := .boolean) (by simp) Bd.returns (hb hby at_328) (by decide) (by decide) ?_
                                    rw [eq60]
                                    exact ⟨rfl, N60⟩
                                · refine own_go (fun t k => XS.icmpYes X49.here hx rfl (pc0 := 244) (pc' := 252) rfl (hb hby at_244) rfl (feq hc244).2 (by decide) (by decide) k) ?_
                                  show own_WP _ _ _ _ T49 (mkF m 252 #[.val (.int zc), .val (.int zx0), .val (.long zh), .second, .val (.long zq0), .second, .val (.long zq1), .second, .val (.long zq2), .second, .val (.int za), .val (.int zd), .val (.int zb), .val (.int zs), .val (.int zx), .val (.long zq), .second, .val (.int zm), .val (.ref zo), .unset, .unset, .unset] [])
                                  refine own_go (fun t k => XS.lload X49.here hx rfl (hb hby at_252) rfl  k) ?_
                                  show own_WP _ _ _ _ T49 (mkF m 254 #[.val (.int zc), .val (.int zx0), .val (.long zh), .second, .val (.long zq0), .second, .val (.long zq1), .second, .val (.long zq2), .second, .val (.int za), .val (.int zd), .val (.int zb), .val (.int zs), .val (.int zx), .val (.long zq), .second, .val (.int zm), .val (.ref zo), .unset, .unset, .unset] [(.long zq1)])
                                  refine own_go (fun t k => XS.lstore X49.here hx rfl (hb hby at_254) rfl (l' := #[.val (.int zc), .val (.int zx0), .val (.long zh), .second, .val (.long zq0), .second, .val (.long zq1), .second, .val (.long zq2), .second, .val (.int za), .val (.int zd), .val (.int zb), .val (.int zs), .val (.int zx), .val (.long zq), .second, .val (.int zm), .val (.ref zo), .unset, .val (.long zq1), .second]) rfl k) ?_
                                  show own_WP _ _ _ _ T49 (mkF m 256 #[.val (.int zc), .val (.int zx0), .val (.long zh), .second, .val (.long zq0), .second, .val (.long zq1), .second, .val (.long zq2), .second, .val (.int za), .val (.int zd), .val (.int zb), .val (.int zs), .val (.int zx), .val (.long zq), .second, .val (.int zm), .val (.ref zo), .unset, .val (.long zq1), .second] [])
                                  refine own_go (fun t k => XS.goto X49.here hx rfl (pc0 := 256) (pc' := 285) rfl (hb hby at_256) (by decide) (by decide) k) ?_
                                  show own_WP _ _ _ _ T49 (mkF m 285 #[.val (.int zc), .val (.int zx0), .val (.long zh), .second, .val (.long zq0), .second, .val (.long zq1), .second, .val (.long zq2), .second, .val (.int za), .val (.int zd), .val (.int zb), .val (.int zs), .val (.int zx), .val (.long zq), .second, .val (.int zm), .val (.ref zo), .unset, .val (.long zq1), .second] [])
                                  refine own_go (fun t k => XS.iload X49.here hx rfl (hb hby at_285) rfl  k) ?_
                                  show own_WP _ _ _ _ T49 (mkF m 287 #[.val (.int zc), .val (.int zx0), .val (.long zh), .second, .val (.long zq0), .second, .val (.long zq1), .second, .val (.long zq2), .second, .val (.int za), .val (.int zd), .val (.int zb), .val (.int zs), .val (.int zx), .val (.long zq), .second, .val (.int zm), .val (.ref zo), .unset, .val (.long zq1), .second] [(.int zx)])
                                  refine own_go (fun t k => XS.iload X49.here hx rfl (hb hby at_287) rfl  k) ?_
                                  show own_WP _ _ _ _ T49 (mkF m 289 #[.val (.int zc), .val (.int zx0), .val (.long zh), .second, .val (.long zq0), .second, .val (.long zq1), .second, .val (.long zq2), .second, .val (.int za), .val (.int zd), .val (.int zb), .val (.int zs), .val (.int zx), .val (.long zq), .second, .val (.int zm), .val (.ref zo), .unset, .val (.long zq1), .second] [(.int zm), (.int zx)])
                                  refine own_go (fun t k => XS.iconst X49.here hx rfl (hb hby at_289) k) ?_
                                  show own_WP _ _ _ _ T49 (mkF m 290 #[.val (.int zc), .val (.int zx0), .val (.long zh), .second, .val (.long zq0), .second, .val (.long zq1), .second, .val (.long zq2), .second, .val (.int za), .val (.int zd), .val (.int zb), .val (.int zs), .val (.int zx), .val (.long zq), .second, .val (.int zm), .val (.ref zo), .unset, .val (.long zq1), .second] [(.int (1 : Int32)), (.int zm), (.int zx)])
                                  refine own_go (fun t k => XS.isub X49.here hx rfl (hb hby at_290) rfl k) ?_
                                  show own_WP _ _ _ _ T49 (mkF m 291 #[.val (.int zc), .val (.int zx0), .val (.long zh), .second, .val (.long zq0), .second, .val (.long zq1), .second, .val (.long zq2), .second, .val (.int za), .val (.int zd), .val (.int zb), .val (.int zs), .val (.int zx), .val (.long zq), .second, .val (.int zm), .val (.ref zo), .unset, .val (.long zq1), .second] [(.int (zm - (1 : Int32))), (.int zx)])
                                  by_cases hc291 : zx = (zm - (1 : Int32))
                                  · refine own_go (fun t k => XS.icmpNo X49.here hx rfl (hb hby at_291) rfl (teq hc291).2 k) ?_
                                    show own_WP _ _ _ _ T49 (mkF m 294 #[.val (.int zc), .val (.int zx0), .val (.long zh), .second, .val (.long zq0), .second, .val (.long zq1), .second, .val (.long zq2), .second, .val (.int za), .val (.int zd), .val (.int zb), .val (.int zs), .val (.int zx), .val (.long zq), .second, .val (.int zm), .val (.ref zo), .unset, .val (.long zq1), .second] [])
                                    refine own_go (fun t k => XS.lload X49.here hx rfl (hb hby at_294) rfl  k) ?_
                                    show own_WP _ _ _ _ T49 (mkF m 296 #[.val (.int zc), .val (.int zx0), .val (.long zh), .second, .val (.long zq0), .second, .val (.long zq1), .second, .val (.long zq2), .second, .val (.int za), .val (.int zd), .val (.int zb), .val (.int zs), .val (.int zx), .val (.long zq), .second, .val (.int zm), .val (.ref zo), .unset, .val (.long zq1), .second] [(.long zq)])
                                    refine own_go (fun t k => XS.lload X49.here hx rfl (hb hby at_296) rfl  k) ?_
                                    show own_WP _ _ _ _ T49 (mkF m 298 #[.val (.int zc), .val (.int zx0), .val (.long zh), .second, .val (.long zq0), .second, .val (.long zq1), .second, .val (.long zq2), .second, .val (.int za), .val (.int zd), .val (.int zb), .val (.int zs), .val (.int zx), .val (.long zq), .second, .val (.int zm), .val (.ref zo), .unset, .val (.long zq1), .second] [(.long zq1), (.long zq)])
                                    refine own_go (fun t k => XS.lcmp X49.here hx rfl (hb hby at_298) rfl k) ?_
                                    show own_WP _ _ _ _ T49 (mkF m 299 #[.val (.int zc), .val (.int zx0), .val (.long zh), .second, .val (.long zq0), .second, .val (.long zq1), .second, .val (.long zq2), .second, .val (.int za), .val (.int zd), .val (.int zb), .val (.int zs), .val (.int zx), .val (.long zq), .second, .val (.int zm), .val (.ref zo), .unset, .val (.long zq1), .second] [(.int (lcmpW zq zq1))])
                                    by_cases hc299 : zq = zq1
                                    · refine own_go (fun t k => XS.ifNo X49.here hx rfl (hb hby at_299) rfl ((if0 _ _).trans (teq ((lw_eq zq zq1).mpr hc299)).2) k) ?_
                                      show own_WP _ _ _ _ T49 (mkF m 302 #[.val (.int zc), .val (.int zx0), .val (.long zh), .second, .val (.long zq0), .second, .val (.long zq1), .second, .val (.long zq2), .second, .val (.int za), .val (.int zd), .val (.int zb), .val (.int zs), .val (.int zx), .val (.long zq), .second, .val (.int zm), .val (.ref zo), .unset, .val (.long zq1), .second] [])
                                      refine own_go (fun t k => XS.iconst X49.here hx rfl (hb hby at_302) k) ?_
                                      show own_WP _ _ _ _ T49 (mkF m 303 #[.val (.int zc), .val (.int zx0), .val (.long zh), .second, .val (.long zq0), .second, .val (.long zq1), .second, .val (.long zq2), .second, .val (.int za), .val (.int zd), .val (.int zb), .val (.int zs), .val (.int zx), .val (.long zq), .second, .val (.int zm), .val (.ref zo), .unset, .val (.long zq1), .second] [(.int (1 : Int32))])
                                      refine own_go (fun t k => XS.goto X49.here hx rfl (pc0 := 303) (pc' := 307) rfl (hb hby at_303) (by decide) (by decide) k) ?_
                                      show own_WP _ _ _ _ T49 (mkF m 307 #[.val (.int zc), .val (.int zx0), .val (.long zh), .second, .val (.long zq0), .second, .val (.long zq1), .second, .val (.long zq2), .second, .val (.int za), .val (.int zd), .val (.int zb), .val (.int zs), .val (.int zx), .val (.long zq), .second, .val (.int zm), .val (.ref zo), .unset, .val (.long zq1), .second] [(.int (1 : Int32))])
                                      refine own_go (fun t k => XS.istore X49.here hx rfl (hb hby at_307) rfl (l' := #[.val (.int zc), .val (.int zx0), .val (.long zh), .second, .val (.long zq0), .second, .val (.long zq1), .second, .val (.long zq2), .second, .val (.int za), .val (.int zd), .val (.int zb), .val (.int zs), .val (.int zx), .val (.long zq), .second, .val (.int zm), .val (.ref zo), .val (.int (1 : Int32)), .val (.long zq1), .second]) rfl k) ?_
                                      show own_WP _ _ _ _ T49 (mkF m 309 #[.val (.int zc), .val (.int zx0), .val (.long zh), .second, .val (.long zq0), .second, .val (.long zq1), .second, .val (.long zq2), .second, .val (.int za), .val (.int zd), .val (.int zb), .val (.int zs), .val (.int zx), .val (.long zq), .second, .val (.int zm), .val (.ref zo), .val (.int (1 : Int32)), .val (.long zq1), .second] [])
                                      refine own_go (fun t k => XS.aload X49.here hx rfl (hb hby at_309) rfl rfl  k) ?_
                                      show own_WP _ _ _ _ T49 (mkF m 311 #[.val (.int zc), .val (.int zx0), .val (.long zh), .second, .val (.long zq0), .second, .val (.long zq1), .second, .val (.long zq2), .second, .val (.int za), .val (.int zd), .val (.int zb), .val (.int zs), .val (.int zx), .val (.long zq), .second, .val (.int zm), .val (.ref zo), .val (.int (1 : Int32)), .val (.long zq1), .second] [(.ref zo)])
                                      refine own_go (fun t k => XS.iload X49.here hx rfl (hb hby at_311) rfl  k) ?_
                                      show own_WP _ _ _ _ T49 (mkF m 313 #[.val (.int zc), .val (.int zx0), .val (.long zh), .second, .val (.long zq0), .second, .val (.long zq1), .second, .val (.long zq2), .second, .val (.int za), .val (.int zd), .val (.int zb), .val (.int zs), .val (.int zx), .val (.long zq), .second, .val (.int zm), .val (.ref zo), .val (.int (1 : Int32)), .val (.long zq1), .second] [(.int zx), (.ref zo)])
                                      refine own_go (fun t k => XS.lload X49.here hx rfl (hb hby at_313) rfl  k) ?_
                                      show own_WP _ _ _ _ T49 (mkF m 315 #[.val (.int zc), .val (.int zx0), .val (.long zh), .second, .val (.long zq0), .second, .val (.long zq1), .second, .val (.long zq2), .second, .val (.int za), .val (.int zd), .val (.int zb), .val (.int zs), .val (.int zx), .val (.long zq), .second, .val (.int zm), .val (.ref zo), .val (.int (1 : Int32)), .val (.long zq1), .second] [(.long zq), (.int zx), (.ref zo)])
                                      obtain ⟨cq61, kq61, q61a, q61b, q61c⟩ := isOf hZ e49 f50
                                      obtain ⟨_, _, ⟨T61, L61, k61, n61⟩, -, X61, ⟨Lc61, hQ61, l61, y61, z61⟩, st61⟩ := X49.virtualBack hx (y := (⟨"com/example/ringspan/ringspan/symmetry/Trace", "endsWith", "(IJ)Z"⟩ : MethodName)) (z := (⟨"com/example/ringspan/ringspan/symmetry/Trace", "endsWith", "(IJ)Z"⟩ : MethodName)) hown (mvT hZ (hw _ (List.mem_of_getElem? (i := 12) rfl))) (mvT hZ (hw _ (List.mem_of_getElem? (i := 13) rfl))) (notFace_of_selects (args := #[]) (mvT hZ (hw _ (List.mem_of_getElem? (i := 15) rfl)))) (mvT hZ (hw _ (List.mem_of_getElem? (i := 15) rfl))) (mvT hZ (hw _ (List.mem_of_getElem? (i := 14) rfl))) (by decide) (backOf (W := 0) (rm3 l Z a0 hw [] zo zx zq zr zn7 zk zL7 h49 n0 (own_le Z0 K49j) f51 f52 f53 (show zL7.length = 8 from hl7) (show zx = zn7 - 1 → ¬ zx < 0 ∧ zx < 8 from own_hi hb7 (by decide) (by rw [hkey.1, ← hln]; exact hok))) hZ (hw _ (List.mem_of_getElem? (i := 16) rfl)) (hw _ (List.mem_of_getElem? (i := 2) rfl)) (by decide) (by decide)) q61a q61c (g := (mkF m 315 #[.val (.int zc), .val (.int zx0), .val (.long zh), .second, .val (.long zq0), .second, .val (.long zq1), .second, .val (.long zq2), .second, .val (.int za), .val (.int zd), .val (.int zb), .val (.int zs), .val (.int zx), .val (.long zq), .second, .val (.int zm), .val (.ref zo), .val (.int (1 : Int32)), .val (.long zq1), .second] [(.long zq), (.int zx), (.ref zo)])) rfl (by rw [hml]; rfl) (Steps.refl _) (argsL := [(.int zx), (.long zq)]) (rest := []) (lenOf own_pd48266 rfl) rfl (by show 2 * 0 + _ ≤ _; exact Nat.le_of_eq rfl) (hb hby at_315) (fun _ _ => ⟨rfl, e49, (by decide : 2 + 0 ≤ _), (by decide : 10 + 0 ≤ _)⟩)
                                      dsimp only [Pt.U, Pt.locs, Pt.cells, Pt.slots] at X61 l61 y61 z61 st61 hQ61
                                      subst l61 y61 z61
                                      obtain ⟨rfl, N61q, eq61⟩ := hQ61
                                      have N61 := Fr.app N49 N61q
                                      refine own_tr st61 ?_
                                      show own_WP _ _ _ _ T61 (mkF m 318 #[.val (.int zc), .val (.int zx0), .val (.long zh), .second, .val (.long zq0), .second, .val (.long zq1), .second, .val (.long zq2), .second, .val (.int za), .val (.int zd), .val (.int zb), .val (.int zs), .val (.int zx), .val (.long zq), .second, .val (.int zm), .val (.ref zo), .val (.int (1 : Int32)), .val (.long zq1), .second] [(.int (own_ew zn7 zL7 zx zq))])
                                      refine own_go (fun t k => XS.iload X61.here hx rfl (hb hby at_318) rfl  k) ?_
                                      show own_WP _ _ _ _ T61 (mkF m 320 #[.val (.int zc), .val (.int zx0), .val (.long zh), .second, .val (.long zq0), .second, .val (.long zq1), .second, .val (.long zq2), .second, .val (.int za), .val (.int zd), .val (.int zb), .val (.int zs), .val (.int zx), .val (.long zq), .second, .val (.int zm), .val (.ref zo), .val (.int (1 : Int32)), .val (.long zq1), .second] [(.int (1 : Int32)), (.int (own_ew zn7 zL7 zx zq))])
                                      have hc320 : (own_ew zn7 zL7 zx zq) = (1 : Int32) := by
                                        rw [hkey.2 zx zq (by rw [← hln]; exact hok), ← hln]
                                        simp [own_ee, hc216, hc227, hc233, hc244, hc291, hc299]
                                      refine own_go (fun t k => XS.icmpNo X61.here hx rfl (hb hby at_320) rfl (teq hc320).2 k) ?_
                                      show own_WP _ _ _ _ T61 (mkF m 323 #[.val (.int zc), .val (.int zx0), .val (.long zh), .second, .val (.long zq0), .second, .val (.long zq1), .second, .val (.long zq2), .second, .val (.int za), .val (.int zd), .val (.int zb), .val (.int zs), .val (.int zx), .val (.long zq), .second, .val (.int zm), .val (.ref zo), .val (.int (1 : Int32)), .val (.long zq1), .second] [])
                                      refine own_go (fun t k => XS.iconst X61.here hx rfl (hb hby at_323) k) ?_
                                      show own_WP _ _ _ _ T61 (mkF m 324 #[.val (.int zc), .val (.int zx0), .val (.long zh), .second, .val (.long zq0), .second, .val (.long zq1), .second, .val (.long zq2), .second, .val (.int za), .val (.int zd), .val (.int zb), .val (.int zs), .val (.int zx), .val (.long zq), .second, .val (.int zm), .val (.ref zo), .val (.int (1 : Int32)), .val (.long zq1), .second] [(.int (1 : Int32))])
                                      refine own_go (fun t k => XS.goto X61.here hx rfl (pc0 := 324) (pc' := 328) rfl (hb hby at_324) (by decide) (by decide) k) ?_
                                      show own_WP _ _ _ _ T61 (mkF m 328 #[.val (.int zc), .val (.int zx0), .val (.long zh), .second, .val (.long zq0), .second, .val (.long zq1), .second, .val (.long zq2), .second, .val (.int za), .val (.int zd), .val (.int zb), .val (.int zs), .val (.int zx), .val (.long zq), .second, .val (.int zm), .val (.ref zo), .val (.int (1 : Int32)), .val (.long zq1), .second] [(.int (1 : Int32))])
                                      refine own_retN X61 hx Bd.notSynchronized (t := .boolean) (by simp) Bd.returns (hb hby at_328) (by decide) (by decide) ?_
                                      rw [eq61]
                                      exact ⟨rfl, N61⟩
                                    · refine own_go (fun t k => XS.ifYes X49.here hx rfl (pc0 := 299) (pc' := 306) rfl (hb hby at_299) rfl ((if0 _ _).trans (feq (fun z => hc299 ((lw_eq zq zq1).mp z))).2) (by decide) (by decide) k) ?_
                                      show own_WP _ _ _ _ T49 (mkF m 306 #[.val (.int zc), .val (.int zx0), .val (.long zh), .second, .val (.long zq0), .second, .val (.long zq1), .second, .val (.long zq2), .second, .val (.int za), .val (.int zd), .val (.int zb), .val (.int zs), .val (.int zx), .val (.long zq), .second, .val (.int zm), .val (.ref zo), .unset, .val (.long zq1), .second] [])
                                      refine own_go (fun t k => XS.iconst X49.here hx rfl (hb hby at_306) k) ?_
                                      show own_WP _ _ _ _ T49 (mkF m 307 #[.val (.int zc), .val (.int zx0), .val (.long zh), .second, .val (.long zq0), .second, .val (.long zq1), .second, .val (.long zq2), .second, .val (.int za), .val (.int zd), .val (.int zb), .val (.int zs), .val (.int zx), .val (.long zq), .second, .val (.int zm), .val (.ref zo), .unset, .val (.long zq1), .second] [(.int (0 : Int32))])
                                      refine own_go (fun t k => XS.istore X49.here hx rfl (hb hby at_307) rfl (l' := #[.val (.int zc), .val (.int zx0), .val (.long zh), .second, .val (.long zq0), .second, .val (.long zq1), .second, .val (.long zq2), .second, .val (.int za), .val (.int zd), .val (.int zb), .val (.int zs), .val (.int zx), .val (.long zq), .second, .val (.int zm), .val (.ref zo), .val (.int (0 : Int32)), .val (.long zq1), .second]) rfl k) ?_
                                      show own_WP _ _ _ _ T49 (mkF m 309 #[.val (.int zc), .val (.int zx0), .val (.long zh), .second, .val (.long zq0), .second, .val (.long zq1), .second, .val (.long zq2), .second, .val (.int za), .val (.int zd), .val (.int zb), .val (.int zs), .val (.int zx), .val (.long zq), .second, .val (.int zm), .val (.ref zo), .val (.int (0 : Int32)), .val (.long zq1), .second] [])
                                      refine own_go (fun t k => XS.aload X49.here hx rfl (hb hby at_309) rfl rfl  k) ?_
                                      show own_WP _ _ _ _ T49 (mkF m 311 #[.val (.int zc), .val (.int zx0), .val (.long zh), .second, .val (.long zq0), .second, .val (.long zq1), .second, .val (.long zq2), .second, .val (.int za), .val (.int zd), .val (.int zb), .val (.int zs), .val (.int zx), .val (.long zq), .second, .val (.int zm), .val (.ref zo), .val (.int (0 : Int32)), .val (.long zq1), .second] [(.ref zo)])
                                      refine own_go (fun t k => XS.iload X49.here hx rfl (hb hby at_311) rfl  k) ?_
                                      show own_WP _ _ _ _ T49 (mkF m 313 #[.val (.int zc), .val (.int zx0), .val (.long zh), .second, .val (.long zq0), .second, .val (.long zq1), .second, .val (.long zq2), .second, .val (.int za), .val (.int zd), .val (.int zb), .val (.int zs), .val (.int zx), .val (.long zq), .second, .val (.int zm), .val (.ref zo), .val (.int (0 : Int32)), .val (.long zq1), .second] [(.int zx), (.ref zo)])
                                      refine own_go (fun t k => XS.lload X49.here hx rfl (hb hby at_313) rfl  k) ?_
                                      show own_WP _ _ _ _ T49 (mkF m 315 #[.val (.int zc), .val (.int zx0), .val (.long zh), .second, .val (.long zq0), .second, .val (.long zq1), .second, .val (.long zq2), .second, .val (.int za), .val (.int zd), .val (.int zb), .val (.int zs), .val (.int zx), .val (.long zq), .second, .val (.int zm), .val (.ref zo), .val (.int (0 : Int32)), .val (.long zq1), .second] [(.long zq), (.int zx), (.ref zo)])
                                      obtain ⟨cq62, kq62, q62a, q62b, q62c⟩ := isOf hZ e49 f50
                                      obtain ⟨_, _, ⟨T62, L62, k62, n62⟩, -, X62, ⟨Lc62, hQ62, l62, y62, z62⟩, st62⟩ := X49.virtualBack hx (y := (⟨"com/example/ringspan/ringspan/symmetry/Trace", "endsWith", "(IJ)Z"⟩ : MethodName)) (z := (⟨"com/example/ringspan/ringspan/symmetry/Trace", "endsWith", "(IJ)Z"⟩ : MethodName)) hown (mvT hZ (hw _ (List.mem_of_getElem? (i := 12) rfl))) (mvT hZ (hw _ (List.mem_of_getElem? (i := 13) rfl))) (notFace_of_selects (args := #[]) (mvT hZ (hw _ (List.mem_of_getElem? (i := 15) rfl)))) (mvT hZ (hw _ (List.mem_of_getElem? (i := 15) rfl))) (mvT hZ (hw _ (List.mem_of_getElem? (i := 14) rfl))) (by decide) (backOf (W := 0) (rm3 l Z a0 hw [] zo zx zq zr zn7 zk zL7 h49 n0 (own_le Z0 K49j) f51 f52 f53 (show zL7.length = 8 from hl7) (show zx = zn7 - 1 → ¬ zx < 0 ∧ zx < 8 from own_hi hb7 (by decide) (by rw [hkey.1, ← hln]; exact hok))) hZ (hw _ (List.mem_of_getElem? (i := 16) rfl)) (hw _ (List.mem_of_getElem? (i := 2) rfl)) (by decide) (by decide)) q62a q62c (g := (mkF m 315 #[.val (.int zc), .val (.int zx0), .val (.long zh), .second, .val (.long zq0), .second, .val (.long zq1), .second, .val (.long zq2), .second, .val (.int za), .val (.int zd), .val (.int zb), .val (.int zs), .val (.int zx), .val (.long zq), .second, .val (.int zm), .val (.ref zo), .val (.int (0 : Int32)), .val (.long zq1), .second] [(.long zq), (.int zx), (.ref zo)])) rfl (by rw [hml]; rfl) (Steps.refl _) (argsL := [(.int zx), (.long zq)]) (rest := []) (lenOf own_pd48266 rfl) rfl (by show 2 * 0 + _ ≤ _; exact Nat.le_of_eq rfl) (hb hby at_315) (fun _ _ => ⟨rfl, e49, (by decide : 2 + 0 ≤ _), (by decide : 10 + 0 ≤ _)⟩)
                                      dsimp only [Pt.U, Pt.locs, Pt.cells, Pt.slots] at X62 l62 y62 z62 st62 hQ62
                                      subst l62 y62 z62
                                      obtain ⟨rfl, N62q, eq62⟩ := hQ62
                                      have N62 := Fr.app N49 N62q
                                      refine own_tr st62 ?_
                                      show own_WP _ _ _ _ T62 (mkF m 318 #[.val (.int zc), .val (.int zx0), .val (.long zh), .second, .val (.long zq0), .second, .val (.long zq1), .second, .val (.long zq2), .second, .val (.int za), .val (.int zd), .val (.int zb), .val (.int zs), .val (.int zx), .val (.long zq), .second, .val (.int zm), .val (.ref zo), .val (.int (0 : Int32)), .val (.long zq1), .second] [(.int (own_ew zn7 zL7 zx zq))])
                                      refine own_go (fun t k => XS.iload X62.here hx rfl (hb hby at_318) rfl  k) ?_
                                      show own_WP _ _ _ _ T62 (mkF m 320 #[.val (.int zc), .val (.int zx0), .val (.long zh), .second, .val (.long zq0), .second, .val (.long zq1), .second, .val (.long zq2), .second, .val (.int za), .val (.int zd), .val (.int zb), .val (.int zs), .val (.int zx), .val (.long zq), .second, .val (.int zm), .val (.ref zo), .val (.int (0 : Int32)), .val (.long zq1), .second] [(.int (0 : Int32)), (.int (own_ew zn7 zL7 zx zq))])
                                      have hc320 : (own_ew zn7 zL7 zx zq) = (0 : Int32) := by
                                        rw [hkey.2 zx zq (by rw [← hln]; exact hok), ← hln]
                                        simp [own_ee, hc216, hc227, hc233, hc244, hc291, hc299]
                                      refine own_go (fun t k => XS.icmpNo X62.here hx rfl (hb hby at_320) rfl (teq hc320).2 k) ?_
                                      show own_WP _ _ _ _ T62 (mkF m 323 #[.val (.int zc), .val (.int zx0), .val (.long zh), .second, .val (.long zq0), .second, .val (.long zq1), .second, .val (.long zq2), .second, .val (.int za), .val (.int zd), .val (.int zb), .val (.int zs), .val (.int zx), .val (.long zq), .second, .val (.int zm), .val (.ref zo), .val (.int (0 : Int32)), .val (.long zq1), .second] [])
                                      refine own_go (fun t k => XS.iconst X62.here hx rfl (hb hby at_323) k) ?_
                                      show own_WP _ _ _ _ T62 (mkF m 324 #[.val (.int zc), .val (.int zx0), .val (.long zh), .second, .val (.long zq0), .second, .val (.long zq1), .second, .val (.long zq2), .second, .val (.int za), .val (.int zd), .val (.int zb), .val (.int zs), .val (.int zx), .val (.long zq), .second, .val (.int zm), .val (.ref zo), .val (.int (0 : Int32)), .val (.long zq1), .second] [(.int (1 : Int32))])
                                      refine own_go (fun t k => XS.goto X62.here hx rfl (pc0 := 324) (pc' := 328) rfl (hb hby at_324) (by decide) (by decide) k) ?_
                                      show own_WP _ _ _ _ T62 (mkF m 328 #[.val (.int zc), .val (.int zx0), .val (.long zh), .second, .val (.long zq0), .second, .val (.long zq1), .second, .val (.long zq2), .second, .val (.int za), .val (.int zd), .val (.int zb), .val (.int zs), .val (.int zx), .val (.long zq), .second, .val (.int zm), .val (.ref zo), .val (.int (0 : Int32)), .val (.long zq1), .second] [(.int (1 : Int32))])
                                      refine own_retN X62 hx Bd.notSynchronized (t := .boolean) (by simp) Bd.returns (hb hby at_328) (by decide) (by decide) ?_
                                      rw [eq62]
                                      exact ⟨rfl, N62⟩
                                  · refine own_go (fun t k => XS.icmpYes X49.here hx rfl (pc0 := 291) (pc' := 306) rfl (hb hby at_291) rfl (feq hc291).2 (by decide) (by decide) k) ?_
                                    show own_WP _ _ _ _ T49 (mkF m 306 #[.val (.int zc), .val (.int zx0), .val (.long zh), .second, .val (.long zq0), .second, .val (.long zq1), .second, .val (.long zq2), .second, .val (.int za), .val (.int zd), .val (.int zb), .val (.int zs), .val (.int zx), .val (.long zq), .second, .val (.int zm), .val (.ref zo), .unset, .val (.long zq1), .second] [])
                                    refine own_go (fun t k => XS.iconst X49.here hx rfl (hb hby at_306) k) ?_
                                    show own_WP _ _ _ _ T49 (mkF m 307 #[.val (.int zc), .val (.int zx0), .val (.long zh), .second, .val (.long zq0), .second, .val (.long zq1), .second, .val (.long zq2), .second, .val (.int za), .val (.int zd), .val (.int zb), .val (.int zs), .val (.int zx), .val (.long zq), .second, .val (.int zm), .val (.ref zo), .unset, .val (.long zq1), .second] [(.int (0 : Int32))])
                                    refine own_go (fun t k => XS.istore X49.here hx rfl (hb hby at_307) rfl (l' := #[.val (.int zc), .val (.int zx0), .val (.long zh), .second, .val (.long zq0), .second, .val (.long zq1), .second, .val (.long zq2), .second, .val (.int za), .val (.int zd), .val (.int zb), .val (.int zs), .val (.int zx), .val (.long zq), .second, .val (.int zm), .val (.ref zo), .val (.int (0 : Int32)), .val (.long zq1), .second]) rfl k) ?_
                                    show own_WP _ _ _ _ T49 (mkF m 309 #[.val (.int zc), .val (.int zx0), .val (.long zh), .second, .val (.long zq0), .second, .val (.long zq1), .second, .val (.long zq2), .second, .val (.int za), .val (.int zd), .val (.int zb), .val (.int zs), .val (.int zx), .val (.long zq), .second, .val (.int zm), .val (.ref zo), .val (.int (0 : Int32)), .val (.long zq1), .second] [])
                                    refine own_go (fun t k => XS.aload X49.here hx rfl (hb hby at_309) rfl rfl  k) ?_
                                    show own_WP _ _ _ _ T49 (mkF m 311 #[.val (.int zc), .val (.int zx0), .val (.long zh), .second, .val (.long zq0), .second, .val (.long zq1), .second, .val (.long zq2), .second, .val (.int za), .val (.int zd), .val (.int zb), .val (.int zs), .val (.int zx), .val (.long zq), .second, .val (.int zm), .val (.ref zo), .val (.int (0 : Int32)), .val (.long zq1), .second] [(.ref zo)])
                                    refine own_go (fun t k => XS.iload X49.here hx rfl (hb hby at_311) rfl  k) ?_
                                    show own_WP _ _ _ _ T49 (mkF m 313 #[.val (.int zc), .val (.int zx0), .val (.long zh), .second, .val (.long zq0), .second, .val (.long zq1), .second, .val (.long zq2), .second, .val (.int za), .val (.int zd), .val (.int zb), .val (.int zs), .val (.int zx), .val (.long zq), .second, .val (.int zm), .val (.ref zo), .val (.int (0 : Int32)), .val (.long zq1), .second] [(.int zx), (.ref zo)])
                                    refine own_go (fun t k => XS.lload X49.here hx rfl (hb hby at_313) rfl  k) ?_
                                    show own_WP _ _ _ _ T49 (mkF m 315 #[.val (.int zc), .val (.int zx0), .val (.long zh), .second, .val (.long zq0), .second, .val (.long zq1), .second, .val (.long zq2), .second, .val (.int za), .val (.int zd), .val (.int zb), .val (.int zs), .val (.int zx), .val (.long zq), .second, .val (.int zm), .val (.ref zo), .val (.int (0 : Int32)), .val (.long zq1), .second] [(.long zq), (.int zx), (.ref zo)])
                                    obtain ⟨cq63, kq63, q63a, q63b, q63c⟩ := isOf hZ e49 f50
                                    obtain ⟨_, _, ⟨T63, L63, k63, n63⟩, -, X63, ⟨Lc63, hQ63, l63, y63, z63⟩, st63⟩ := X49.virtualBack hx (y := (⟨"com/example/ringspan/ringspan/symmetry/Trace", "endsWith", "(IJ)Z"⟩ : MethodName)) (z := (⟨"com/example/ringspan/ringspan/symmetry/Trace", "endsWith", "(IJ)Z"⟩ : MethodName)) hown (mvT hZ (hw _ (List.mem_of_getElem? (i := 12) rfl))) (mvT hZ (hw _ (List.mem_of_getElem? (i := 13) rfl))) (notFace_of_selects (args := #[]) (mvT hZ (hw _ (List.mem_of_getElem? (i := 15) rfl)))) (mvT hZ (hw _ (List.mem_of_getElem? (i := 15) rfl))) (mvT hZ (hw _ (List.mem_of_getElem? (i := 14) rfl))) (by decide) (backOf (W := 0) (rm3 l Z a0 hw [] zo zx zq zr zn7 zk zL7 h49 n0 (own_le Z0 K49j) f51 f52 f53 (show zL7.length = 8 from hl7) (show zx = zn7 - 1 → ¬ zx < 0 ∧ zx < 8 from own_hi hb7 (by decide) (by rw [hkey.1, ← hln]; exact hok))) hZ (hw _ (List.mem_of_getElem? (i := 16) rfl)) (hw _ (List.mem_of_getElem? (i := 2) rfl)) (by decide) (by decide)) q63a q63c (g := (mkF m 315 #[.val (.int zc), .val (.int zx0), .val (.long zh), .second, .val (.long zq0), .second, .val (.long zq1), .second, .val (.long zq2), .second, .val (.int za), .val (.int zd), .val (.int zb), .val (.int zs), .val (.int zx), .val (.long zq), .second, .val (.int zm), .val (.ref zo), .val (.int (0 : Int32)), .val (.long zq1), .second] [(.long zq), (.int zx), (.ref zo)])) rfl (by rw [hml]; rfl) (Steps.refl _) (argsL := [(.int zx), (.long zq)]) (rest := []) (lenOf own_pd48266 rfl) rfl (by show 2 * 0 + _ ≤ _; exact Nat.le_of_eq rfl) (hb hby at_315) (fun _ _ => ⟨rfl, e49, (by decide : 2 + 0 ≤ _), (by decide : 10 + 0 ≤ _)⟩)
                                    dsimp only [Pt.U, Pt.locs, Pt.cells, Pt.slots] at X63 l63 y63 z63 st63 hQ63
                                    subst l63 y63 z63
                                    obtain ⟨rfl, N63q, eq63⟩ := hQ63
                                    have N63 := Fr.app N49 N63q
                                    refine own_tr st63 ?_
                                    show own_WP _ _ _ _ T63 (mkF m 318 #[.val (.int zc), .val (.int zx0), .val (.long zh), .second, .val (.long zq0), .second, .val (.long zq1), .second, .val (.long zq2), .second, .val (.int za), .val (.int zd), .val (.int zb), .val (.int zs), .val (.int zx), .val (.long zq), .second, .val (.int zm), .val (.ref zo), .val (.int (0 : Int32)), .val (.long zq1), .second] [(.int (own_ew zn7 zL7 zx zq))])
                                    refine own_go (fun t k => XS.iload X63.here hx rfl (hb hby at_318) rfl  k) ?_
                                    show own_WP _ _ _ _ T63 (mkF m 320 #[.val (.int zc), .val (.int zx0), .val (.long zh), .second, .val (.long zq0), .second, .val (.long zq1), .second, .val (.long zq2), .second, .val (.int za), .val (.int zd), .val (.int zb), .val (.int zs), .val (.int zx), .val (.long zq), .second, .val (.int zm), .val (.ref zo), .val (.int (0 : Int32)), .val (.long zq1), .second] [(.int (0 : Int32)), (.int (own_ew zn7 zL7 zx zq))])
                                    have hc320 : (own_ew zn7 zL7 zx zq) = (0 : Int32) := by
                                      rw [hkey.2 zx zq (by rw [← hln]; exact hok), ← hln]
                                      simp [own_ee, hc216, hc227, hc233, hc244, hc291]
                                    refine own_go (fun t k => XS.icmpNo X63.here hx rfl (hb hby at_320) rfl (teq hc320).2 k) ?_
                                    show own_WP _ _ _ _ T63 (mkF m 323 #[.val (.int zc), .val (.int zx0), .val (.long zh), .second, .val (.long zq0), .second, .val (.long zq1), .second, .val (.long zq2), .second, .val (.int za), .val (.int zd), .val (.int zb), .val (.int zs), .val (.int zx), .val (.long zq), .second, .val (.int zm), .val (.ref zo), .val (.int (0 : Int32)), .val (.long zq1), .second] [])
                                    refine own_go (fun t k => XS.iconst X63.here hx rfl (hb hby at_323) k) ?_
                                    show own_WP _ _ _ _ T63 (mkF m 324 #[.val (.int zc), .val (.int zx0), .val (.long zh), .second, .val (.long zq0), .second, .val (.long zq1), .second, .val (.long zq2), .second, .val (.int za), .val (.int zd), .val (.int zb), .val (.int zs), .val (.int zx), .val (.long zq), .second, .val (.int zm), .val (.ref zo), .val (.int (0 : Int32)), .val (.long zq1), .second] [(.int (1 : Int32))])
                                    refine own_go (fun t k => XS.goto X63.here hx rfl (pc0 := 324) (pc' := 328) rfl (hb hby at_324) (by decide) (by decide) k) ?_
                                    show own_WP _ _ _ _ T63 (mkF m 328 #[.val (.int zc), .val (.int zx0), .val (.long zh), .second, .val (.long zq0), .second, .val (.long zq1), .second, .val (.long zq2), .second, .val (.int za), .val (.int zd), .val (.int zb), .val (.int zs), .val (.int zx), .val (.long zq), .second, .val (.int zm), .val (.ref zo), .val (.int (0 : Int32)), .val (.long zq1), .second] [(.int (1 : Int32))])
                                    refine own_retN X63 hx Bd.notSynchronized (t := .boolean) (by simp) Bd.returns (hb hby at_328) (by decide) (by decide) ?_
                                    rw [eq63]
                                    exact ⟨rfl, N63⟩
                            · refine own_go (fun t k => XS.ifYes X49.here hx rfl (pc0 := 227) (pc' := 259) rfl (hb hby at_227) rfl ((if0 _ _).trans (flt hc227).2.2.2) (by decide) (by decide) k) ?_
                              show own_WP _ _ _ _ T49 (mkF m 259 #[.val (.int zc), .val (.int zx0), .val (.long zh), .second, .val (.long zq0), .second, .val (.long zq1), .second, .val (.long zq2), .second, .val (.int za), .val (.int zd), .val (.int zb), .val (.int zs), .val (.int zx), .val (.long zq), .second, .val (.int zm), .val (.ref zo), .unset, .unset, .unset] [])
                              refine own_go (fun t k => XS.iload X49.here hx rfl (hb hby at_259) rfl  k) ?_
                              show own_WP _ _ _ _ T49 (mkF m 261 #[.val (.int zc), .val (.int zx0), .val (.long zh), .second, .val (.long zq0), .second, .val (.long zq1), .second, .val (.long zq2), .second, .val (.int za), .val (.int zd), .val (.int zb), .val (.int zs), .val (.int zx), .val (.long zq), .second, .val (.int zm), .val (.ref zo), .unset, .unset, .unset] [(.int za)])
                              refine own_go (fun t k => XS.iconst X49.here hx rfl (hb hby at_261) k) ?_
                              show own_WP _ _ _ _ T49 (mkF m 262 #[.val (.int zc), .val (.int zx0), .val (.long zh), .second, .val (.long zq0), .second, .val (.long zq1), .second, .val (.long zq2), .second, .val (.int za), .val (.int zd), .val (.int zb), .val (.int zs), .val (.int zx), .val (.long zq), .second, .val (.int zm), .val (.ref zo), .unset, .unset, .unset] [(.int (1 : Int32)), (.int za)])
                              by_cases hc262 : za = (1 : Int32)
                              · refine own_go (fun t k => XS.icmpNo X49.here hx rfl (hb hby at_262) rfl (teq hc262).2 k) ?_
                                show own_WP _ _ _ _ T49 (mkF m 265 #[.val (.int zc), .val (.int zx0), .val (.long zh), .second, .val (.long zq0), .second, .val (.long zq1), .second, .val (.long zq2), .second, .val (.int za), .val (.int zd), .val (.int zb), .val (.int zs), .val (.int zx), .val (.long zq), .second, .val (.int zm), .val (.ref zo), .unset, .unset, .unset] [])
                                refine own_go (fun t k => XS.lload X49.here hx rfl (hb hby at_265) rfl  k) ?_
                                show own_WP _ _ _ _ T49 (mkF m 267 #[.val (.int zc), .val (.int zx0), .val (.long zh), .second, .val (.long zq0), .second, .val (.long zq1), .second, .val (.long zq2), .second, .val (.int za), .val (.int zd), .val (.int zb), .val (.int zs), .val (.int zx), .val (.long zq), .second, .val (.int zm), .val (.ref zo), .unset, .unset, .unset] [(.long zq0)])
                                refine own_go (fun t k => XS.goto X49.here hx rfl (pc0 := 267) (pc' := 283) rfl (hb hby at_267) (by decide) (by decide) k) ?_
                                show own_WP _ _ _ _ T49 (mkF m 283 #[.val (.int zc), .val (.int zx0), .val (.long zh), .second, .val (.long zq0), .second, .val (.long zq1), .second, .val (.long zq2), .second, .val (.int za), .val (.int zd), .val (.int zb), .val (.int zs), .val (.int zx), .val (.long zq), .second, .val (.int zm), .val (.ref zo), .unset, .unset, .unset] [(.long zq0)])
                                refine own_go (fun t k => XS.lstore X49.here hx rfl (hb hby at_283) rfl (l' := #[.val (.int zc), .val (.int zx0), .val (.long zh), .second, .val (.long zq0), .second, .val (.long zq1), .second, .val (.long zq2), .second, .val (.int za), .val (.int zd), .val (.int zb), .val (.int zs), .val (.int zx), .val (.long zq), .second, .val (.int zm), .val (.ref zo), .unset, .val (.long zq0), .second]) rfl k) ?_
                                show own_WP _ _ _ _ T49 (mkF m 285 #[.val (.int zc), .val (.int zx0), .val (.long zh), .second, .val (.long zq0), .second, .val (.long zq1), .second, .val (.long zq2), .second, .val (.int za), .val (.int zd), .val (.int zb), .val (.int zs), .val (.int zx), .val (.long zq), .second, .val (.int zm), .val (.ref zo), .unset, .val (.long zq0), .second] [])
                                refine own_go (fun t k => XS.iload X49.here hx rfl (hb hby at_285) rfl  k) ?_
                                show own_WP _ _ _ _ T49 (mkF m 287 #[.val (.int zc), .val (.int zx0), .val (.long zh), .second, .val (.long zq0), .second, .val (.long zq1), .second, .val (.long zq2), .second, .val (.int za), .val (.int zd), .val (.int zb), .val (.int zs), .val (.int zx), .val (.long zq), .second, .val (.int zm), .val (.ref zo), .unset, .val (.long zq0), .second] [(.int zx)])
                                refine own_go (fun t k => XS.iload X49.here hx rfl (hb hby at_287) rfl  k) ?_
                                show own_WP _ _ _ _ T49 (mkF m 289 #[.val (.int zc), .val (.int zx0), .val (.long zh), .second, .val (.long zq0), .second, .val (.long zq1), .second, .val (.long zq2), .second, .val (.int za), .val (.int zd), .val (.int zb), .val (.int zs), .val (.int zx), .val (.long zq), .second, .val (.int zm), .val (.ref zo), .unset, .val (.long zq0), .second] [(.int zm), (.int zx)])
                                refine own_go (fun t k => XS.iconst X49.here hx rfl (hb hby at_289) k) ?_
                                show own_WP _ _ _ _ T49 (mkF m 290 #[.val (.int zc), .val (.int zx0), .val (.long zh), .second, .val (.long zq0), .second, .val (.long zq1), .second, .val (.long zq2), .second, .val (.int za), .val (.int zd), .val (.int zb), .val (.int zs), .val (.int zx), .val (.long zq), .second, .val (.int zm), .val (.ref zo), .unset, .val (.long zq0), .second] [(.int (1 : Int32)), (.int zm), (.int zx)])
                                refine own_go (fun t k => XS.isub X49.here hx rfl (hb hby at_290) rfl k) ?_
                                show own_WP _ _ _ _ T49 (mkF m 291 #[.val (.int zc), .val (.int zx0), .val (.long zh), .second, .val (.long zq0), .second, .val (.long zq1), .second, .val (.long zq2), .second, .val (.int za), .val (.int zd), .val (.int zb), .val (.int zs), .val (.int zx), .val (.long zq), .second, .val (.int zm), .val (.ref zo), .unset, .val (.long zq0), .second] [(.int (zm - (1 : Int32))), (.int zx)])
                                by_cases hc291 : zx = (zm - (1 : Int32))
                                · refine own_go (fun t k => XS.icmpNo X49.here hx rfl (hb hby at_291) rfl (teq hc291).2 k) ?_
                                  show own_WP _ _ _ _ T49 (mkF m 294 #[.val (.int zc), .val (.int zx0), .val (.long zh), .second, .val (.long zq0), .second, .val (.long zq1), .second, .val (.long zq2), .second, .val (.int za), .val (.int zd), .val (.int zb), .val (.int zs), .val (.int zx), .val (.long zq), .second, .val (.int zm), .val (.ref zo), .unset, .val (.long zq0), .second] [])
                                  refine own_go (fun t k => XS.lload X49.here hx rfl (hb hby at_294) rfl  k) ?_
                                  show own_WP _ _ _ _ T49 (mkF m 296 #[.val (.int zc), .val (.int zx0), .val (.long zh), .second, .val (.long zq0), .second, .val (.long zq1), .second, .val (.long zq2), .second, .val (.int za), .val (.int zd), .val (.int zb), .val (.int zs), .val (.int zx), .val (.long zq), .second, .val (.int zm), .val (.ref zo), .unset, .val (.long zq0), .second] [(.long zq)])
                                  refine own_go (fun t k => XS.lload X49.here hx rfl (hb hby at_296) rfl  k) ?_
                                  show own_WP _ _ _ _ T49 (mkF m 298 #[.val (.int zc), .val (.int zx0), .val (.long zh), .second, .val (.long zq0), .second, .val (.long zq1), .second, .val (.long zq2), .second, .val (.int za), .val (.int zd), .val (.int zb), .val (.int zs), .val (.int zx), .val (.long zq), .second, .val (.int zm), .val (.ref zo), .unset, .val (.long zq0), .second] [(.long zq0), (.long zq)])
                                  refine own_go (fun t k => XS.lcmp X49.here hx rfl (hb hby at_298) rfl k) ?_
                                  show own_WP _ _ _ _ T49 (mkF m 299 #[.val (.int zc), .val (.int zx0), .val (.long zh), .second, .val (.long zq0), .second, .val (.long zq1), .second, .val (.long zq2), .second, .val (.int za), .val (.int zd), .val (.int zb), .val (.int zs), .val (.int zx), .val (.long zq), .second, .val (.int zm), .val (.ref zo), .unset, .val (.long zq0), .second] [(.int (lcmpW zq zq0))])
                                  by_cases hc299 : zq = zq0
                                  · refine own_go (fun t k => XS.ifNo X49.here hx rfl (hb hby at_299) rfl ((if0 _ _).trans (teq ((lw_eq zq zq0).mpr hc299)).2) k) ?_
                                    show own_WP _ _ _ _ T49 (mkF m 302 #[.val (.int zc), .val (.int zx0), .val (.long zh), .second, .val (.long zq0), .second, .val (.long zq1), .second, .val (.long zq2), .second, .val (.int za), .val (.int zd), .val (.int zb), .val (.int zs), .val (.int zx), .val (.long zq), .second, .val (.int zm), .val (.ref zo), .unset, .val (.long zq0), .second] [])
                                    refine own_go (fun t k => XS.iconst X49.here hx rfl (hb hby at_302) k) ?_
                                    show own_WP _ _ _ _ T49 (mkF m 303 #[.val (.int zc), .val (.int zx0), .val (.long zh), .second, .val (.long zq0), .second, .val (.long zq1), .second, .val (.long zq2), .second, .val (.int za), .val (.int zd), .val (.int zb), .val (.int zs), .val (.int zx), .val (.long zq), .second, .val (.int zm), .val (.ref zo), .unset, .val (.long zq0), .second] [(.int (1 : Int32))])
                                    refine own_go (fun t k => XS.goto X49.here hx rfl (pc0 := 303) (pc' := 307) rfl (hb hby at_303) (by decide) (by decide) k) ?_
                                    show own_WP _ _ _ _ T49 (mkF m 307 #[.val (.int zc), .val (.int zx0), .val (.long zh), .second, .val (.long zq0), .second, .val (.long zq1), .second, .val (.long zq2), .second, .val (.int za), .val (.int zd), .val (.int zb), .val (.int zs), .val (.int zx), .val (.long zq), .second, .val (.int zm), .val (.ref zo), .unset, .val (.long zq0), .second] [(.int (1 : Int32))])
                                    refine own_go (fun t k => XS.istore X49.here hx rfl (hb hby at_307) rfl (l' := #[.val (.int zc), .val (.int zx0), .val (.long zh), .second, .val (.long zq0), .second, .val (.long zq1), .second, .val (.long zq2), .second, .val (.int za), .val (.int zd), .val (.int zb), .val (.int zs), .val (.int zx), .val (.long zq), .second, .val (.int zm), .val (.ref zo), .val (.int (1 : Int32)), .val (.long zq0), .second]) rfl k) ?_
                                    show own_WP _ _ _ _ T49 (mkF m 309 #[.val (.int zc), .val (.int zx0), .val (.long zh), .second, .val (.long zq0), .second, .val (.long zq1), .second, .val (.long zq2), .second, .val (.int za), .val (.int zd), .val (.int zb), .val (.int zs), .val (.int zx), .val (.long zq), .second, .val (.int zm), .val (.ref zo), .val (.int (1 : Int32)), .val (.long zq0), .second] [])
                                    refine own_go (fun t k => XS.aload X49.here hx rfl (hb hby at_309) rfl rfl  k) ?_
                                    show own_WP _ _ _ _ T49 (mkF m 311 #[.val (.int zc), .val (.int zx0), .val (.long zh), .second, .val (.long zq0), .second, .val (.long zq1), .second, .val (.long zq2), .second, .val (.int za), .val (.int zd), .val (.int zb), .val (.int zs), .val (.int zx), .val (.long zq), .second, .val (.int zm), .val (.ref zo), .val (.int (1 : Int32)), .val (.long zq0), .second] [(.ref zo)])
                                    refine own_go (fun t k => XS.iload X49.here hx rfl (hb hby at_311) rfl  k) ?_
                                    show own_WP _ _ _ _ T49 (mkF m 313 #[.val (.int zc), .val (.int zx0), .val (.long zh), .second, .val (.long zq0), .second, .val (.long zq1), .second, .val (.long zq2), .second, .val (.int za), .val (.int zd), .val (.int zb), .val (.int zs), .val (.int zx), .val (.long zq), .second, .val (.int zm), .val (.ref zo), .val (.int (1 : Int32)), .val (.long zq0), .second] [(.int zx), (.ref zo)])
                                    refine own_go (fun t k => XS.lload X49.here hx rfl (hb hby at_313) rfl  k) ?_
                                    show own_WP _ _ _ _ T49 (mkF m 315 #[.val (.int zc), .val (.int zx0), .val (.long zh), .second, .val (.long zq0), .second, .val (.long zq1), .second, .val (.long zq2), .second, .val (.int za), .val (.int zd), .val (.int zb), .val (.int zs), .val (.int zx), .val (.long zq), .second, .val (.int zm), .val (.ref zo), .val (.int (1 : Int32)), .val (.long zq0), .second] [(.long zq), (.int zx), (.ref zo)])
                                    obtain ⟨cq64, kq64, q64a, q64b, q64c⟩ := isOf hZ e49 f50
                                    obtain ⟨_, _, ⟨T64, L64, k64, n64⟩, -, X64, ⟨Lc64, hQ64, l64, y64, z64⟩, st64⟩ := X49.virtualBack hx (y := (⟨"com/example/ringspan/ringspan/symmetry/Trace", "endsWith", "(IJ)Z"⟩ : MethodName)) (z := (⟨"com/example/ringspan/ringspan/symmetry/Trace", "endsWith", "(IJ)Z"⟩ : MethodName)) hown (mvT hZ (hw _ (List.mem_of_getElem? (i := 12) rfl))) (mvT hZ (hw _ (List.mem_of_getElem? (i := 13) rfl))) (notFace_of_selects (args := #[]) (mvT hZ (hw _ (List.mem_of_getElem? (i := 15) rfl)))) (mvT hZ (hw _ (List.mem_of_getElem? (i := 15) rfl))) (mvT hZ (hw _ (List.mem_of_getElem? (i := 14) rfl))) (by decide) (backOf (W := 0) (rm3 l Z a0 hw [] zo zx zq zr zn7 zk zL7 h49 n0 (own_le Z0 K49j) f51 f52 f53 (show zL7.length = 8 from hl7) (show zx = zn7 - 1 → ¬ zx < 0 ∧ zx < 8 from own_hi hb7 (by decide) (by rw [hkey.1, ← hln]; exact hok))) hZ (hw _ (List.mem_of_getElem? (i := 16) rfl)) (hw _ (List.mem_of_getElem? (i := 2) rfl)) (by decide) (by decide)) q64a q64c (g := (mkF m 315 #[.val (.int zc), .val (.int zx0), .val (.long zh), .second, .val (.long zq0), .second, .val (.long zq1), .second, .val (.long zq2), .second, .val (.int za), .val (.int zd), .val (.int zb), .val (.int zs), .val (.int zx), .val (.long zq), .second, .val (.int zm), .val (.ref zo), .val (.int (1 : Int32)), .val (.long zq0), .second] [(.long zq), (.int zx), (.ref zo)])) rfl (by rw [hml]; rfl) (Steps.refl _) (argsL := [(.int zx), (.long zq)]) (rest := []) (lenOf own_pd48266 rfl) rfl (by show 2 * 0 + _ ≤ _; exact Nat.le_of_eq rfl) (hb hby at_315) (fun _ _ => ⟨rfl, e49, (by decide : 2 + 0 ≤ _), (by decide : 10 + 0 ≤ _)⟩)
                                    dsimp only [Pt.U, Pt.locs, Pt.cells, Pt.slots] at X64 l64 y64 z64 st64 hQ64
                                    subst l64 y64 z64
                                    obtain ⟨rfl, N64q, eq64⟩ := hQ64
                                    have N64 := Fr.app N49 N64q
                                    refine own_tr st64 ?_
                                    show own_WP _ _ _ _ T64 (mkF m 318 #[.val (.int zc), .val (.int zx0), .val (.long zh), .second, .val (.long zq0), .second, .val (.long zq1), .second, .val (.long zq2), .second, .val (.int za), .val (.int zd), .val (.int zb), .val (.int zs), .val (.int zx), .val (.long zq), .second, .val (.int zm), .val (.ref zo), .val (.int (1 : Int32)), .val (.long zq0), .second] [(.int (own_ew zn7 zL7 zx zq))])
                                    refine own_go (fun t k => XS.iload X64.here hx rfl (hb hby at_318) rfl  k) ?_
                                    show own_WP _ _ _ _ T64 (mkF m 320 #[.val (.int zc), .val (.int zx0), .val (.long zh), .second, .val (.long zq0), .second, .val (.long zq1), .second, .val (.long zq2), .second, .val (.int za), .val (.int zd), .val (.int zb), .val (.int zs), .val (.int zx), .val (.long zq), .second, .val (.int zm), .val (.ref zo), .val (.int (1 : Int32)), .val (.long zq0), .second] [(.int (1 : Int32)), (.int (own_ew zn7 zL7 zx zq))])
                                    have hc320 : (own_ew zn7 zL7 zx zq) = (1 : Int32) := by
                                      rw [hkey.2 zx zq (by rw [← hln]; exact hok), ← hln]
                                      simp [own_ee, hc216, hc227, hc262, hc291, hc299]
                                    refine own_go (fun t k => XS.icmpNo X64.here hx rfl (hb hby at_320) rfl (teq hc320).2 k) ?_
                                    show own_WP _ _ _ _ T64 (mkF m 323 #[.val (.int zc), .val (.int zx0), .val (.long zh), .second, .val (.long zq0), .second, .val (.long zq1), .second, .val (.long zq2), .second, .val (.int za), .val (.int zd), .val (.int zb), .val (.int zs), .val (.int zx), .val (.long zq), .second, .val (.int zm), .val (.ref zo), .val (.int (1 : Int32)), .val (.long zq0), .second] [])
                                    refine own_go (fun t k => XS.iconst X64.here hx rfl (hb hby at_323) k) ?_
                                    show own_WP _ _ _ _ T64 (mkF m 324 #[.val (.int zc), .val (.int zx0), .val (.long zh), .second, .val (.long zq0), .second, .val (.long zq1), .second, .val (.long zq2), .second, .val (.int za), .val (.int zd), .val (.int zb), .val (.int zs), .val (.int zx), .val (.long zq), .second, .val (.int zm), .val (.ref zo), .val (.int (1 : Int32)), .val (.long zq0), .second] [(.int (1 : Int32))])
                                    refine own_go (fun t k => XS.goto X64.here hx rfl (pc0 := 324) (pc' := 328) rfl (hb hby at_324) (by decide) (by decide) k) ?_
                                    show own_WP _ _ _ _ T64 (mkF m 328 #[.val (.int zc), .val (.int zx0), .val (.long zh), .second, .val (.long zq0), .second, .val (.long zq1), .second, .val (.long zq2), .second, .val (.int za), .val (.int zd), .val (.int zb), .val (.int zs), .val (.int zx), .val (.long zq), .second, .val (.int zm), .val (.ref zo), .val (.int (1 : Int32)), .val (.long zq0), .second] [(.int (1 : Int32))])
                                    refine own_retN X64 hx Bd.notSynchronized (t := .boolean) (by simp) Bd.returns (hb hby at_328) (by decide) (by decide) ?_
                                    rw [eq64]
                                    exact ⟨rfl, N64⟩
                                  · refine own_go (fun t k => XS.ifYes X49.here hx rfl (pc0 := 299) (pc' := 306) rfl (hb hby at_299) rfl ((if0 _ _).trans (feq (fun z => hc299 ((lw_eq zq zq0).mp z))).2) (by decide) (by decide) k) ?_
                                    show own_WP _ _ _ _ T49 (mkF m 306 #[.val (.int zc), .val (.int zx0), .val (.long zh), .second, .val (.long zq0), .second, .val (.long zq1), .second, .val (.long zq2), .second, .val (.int za), .val (.int zd), .val (.int zb), .val (.int zs), .val (.int zx), .val (.long zq), .second, .val (.int zm), .val (.ref zo), .unset, .val (.long zq0), .second] [])
                                    refine own_go (fun t k => XS.iconst X49.here hx rfl (hb hby at_306) k) ?_
                                    show own_WP _ _ _ _ T49 (mkF m 307 #[.val (.int zc), .val (.int zx0), .val (.long zh), .second, .val (.long zq0), .second, .val (.long zq1), .second, .val (.long zq2), .second, .val (.int za), .val (.int zd), .val (.int zb), .val (.int zs), .val (.int zx), .val (.long zq), .second, .val (.int zm), .val (.ref zo), .unset, .val (.long zq0), .second] [(.int (0 : Int32))])
                                    refine own_go (fun t k => XS.istore X49.here hx rfl (hb hby at_307) rfl (l' := #[.val (.int zc), .val (.int zx0), .val (.long zh), .second, .val (.long zq0), .second, .val (.long zq1), .second, .val (.long zq2), .second, .val (.int za), .val (.int zd), .val (.int zb), .val (.int zs), .val (.int zx), .val (.long zq), .second, .val (.int zm), .val (.ref zo), .val (.int (0 : Int32)), .val (.long zq0), .second]) rfl k) ?_
                                    show own_WP _ _ _ _ T49 (mkF m 309 #[.val (.int zc), .val (.int zx0), .val (.long zh), .second, .val (.long zq0), .second, .val (.long zq1), .second, .val (.long zq2), .second, .val (.int za), .val (.int zd), .val (.int zb), .val (.int zs), .val (.int zx), .val (.long zq), .second, .val (.int zm), .val (.ref zo), .val (.int (0 : Int32)), .val (.long zq0), .second] [])
                                    refine own_go (fun t k => XS.aload X49.here hx rfl (hb hby at_309) rfl rfl  k) ?_
                                    show own_WP _ _ _ _ T49 (mkF m 311 #[.val (.int zc), .val (.int zx0), .val (.long zh), .second, .val (.long zq0), .second, .val (.long zq1), .second, .val (.long zq2), .second, .val (.int za), .val (.int zd), .val (.int zb), .val (.int zs), .val (.int zx), .val (.long zq), .second, .val (.int zm), .val (.ref zo), .val (.int (0 : Int32)), .val (.long zq0), .second] [(.ref zo)])
                                    refine own_go (fun t k => XS.iload X49.here hx rfl (hb hby at_311) rfl  k) ?_
                                    show own_WP _ _ _ _ T49 (mkF m 313 #[.val (.int zc), .val (.int zx0), .val (.long zh), .second, .val (.long zq0), .second, .val (.long zq1), .second, .val (.long zq2), .second, .val (.int za), .val (.int zd), .val (.int zb), .val (.int zs), .val (.int zx), .val (.long zq), .second, .val (.int zm), .val (.ref zo), .val (.int (0 : Int32)), .val (.long zq0), .second] [(.int zx), (.ref zo)])
                                    refine own_go (fun t k => XS.lload X49.here hx rfl (hb hby at_313) rfl  k) ?_
                                    show own_WP _ _ _ _ T49 (mkF m 315 #[.val (.int zc), .val (.int zx0), .val (.long zh), .second, .val (.long zq0), .second, .val (.long zq1), .second, .val (.long zq2), .second, .val (.int za), .val (.int zd), .val (.int zb), .val (.int zs), .val (.int zx), .val (.long zq), .second, .val (.int zm), .val (.ref zo), .val (.int (0 : Int32)), .val (.long zq0), .second] [(.long zq), (.int zx), (.ref zo)])
                                    obtain ⟨cq65, kq65, q65a, q65b, q65c⟩ := isOf hZ e49 f50
                                    obtain ⟨_, _, ⟨T65, L65, k65, n65⟩, -, X65, ⟨Lc65, hQ65, l65, y65, z65⟩, st65⟩ := X49.virtualBack hx (y := (⟨"com/example/ringspan/ringspan/symmetry/Trace", "endsWith", "(IJ)Z"⟩ : MethodName)) (z := (⟨"com/example/ringspan/ringspan/symmetry/Trace", "endsWith", "(IJ)Z"⟩ : MethodName)) hown (mvT hZ (hw _ (List.mem_of_getElem? (i := 12) rfl))) (mvT hZ (hw _ (List.mem_of_getElem? (i := 13) rfl))) (notFace_of_selects (args := #[]) (mvT hZ (hw _ (List.mem_of_getElem? (i := 15) rfl)))) (mvT hZ (hw _ (List.mem_of_getElem? (i := 15) rfl))) (mvT hZ (hw _ (List.mem_of_getElem? (i := 14) rfl))) (by decide) (backOf (W := 0) (rm3 l Z a0 hw [] zo zx zq zr zn7 zk zL7 h49 n0 (own_le Z0 K49j) f51 f52 f53 (show zL7.length = 8 from hl7) (show zx = zn7 - 1 → ¬ zx < 0 ∧ zx < 8 from own_hi hb7 (by decide) (by rw [hkey.1, ← hln]; exact hok))) hZ (hw _ (List.mem_of_getElem? (i := 16) rfl)) (hw _ (List.mem_of_getElem? (i := 2) rfl)) (by decide) (by decide)) q65a q65c (g := (mkF m 315 #[.val (.int zc), .val (.int zx0), .val (.long zh), .second, .val (.long zq0), .second, .val (.long zq1), .second, .val (.long zq2), .second, .val (.int za), .val (.int zd), .val (.int zb), .val (.int zs), .val (.int zx), .val (.long zq), .second, .val (.int zm), .val (.ref zo), .val (.int (0 : Int32)), .val (.long zq0), .second] [(.long zq), (.int zx), (.ref zo)])) rfl (by rw [hml]; rfl) (Steps.refl _) (argsL := [(.int zx), (.long zq)]) (rest := []) (lenOf own_pd48266 rfl) rfl (by show 2 * 0 + _ ≤ _; exact Nat.le_of_eq rfl) (hb hby at_315) (fun _ _ => ⟨rfl, e49, (by decide : 2 + 0 ≤ _), (by decide : 10 + 0 ≤ _)⟩)
                                    dsimp only [Pt.U, Pt.locs, Pt.cells, Pt.slots] at X65 l65 y65 z65 st65 hQ65
                                    subst l65 y65 z65
                                    obtain ⟨rfl, N65q, eq65⟩ := hQ65
                                    have N65 := Fr.app N49 N65q
                                    refine own_tr st65 ?_
                                    show own_WP _ _ _ _ T65 (mkF m 318 #[.val (.int zc), .val (.int zx0), .val (.long zh), .second, .val (.long zq0), .second, .val (.long zq1), .second, .val (.long zq2), .second, .val (.int za), .val (.int zd), .val (.int zb), .val (.int zs), .val (.int zx), .val (.long zq), .second, .val (.int zm), .val (.ref zo), .val (.int (0 : Int32)), .val (.long zq0), .second] [(.int (own_ew zn7 zL7 zx zq))])
                                    refine own_go (fun t k => XS.iload X65.here hx rfl (hb hby at_318) rfl  k) ?_
                                    show own_WP _ _ _ _ T65 (mkF m 320 #[.val (.int zc), .val (.int zx0), .val (.long zh), .second, .val (.long zq0), .second, .val (.long zq1), .second, .val (.long zq2), .second, .val (.int za), .val (.int zd), .val (.int zb), .val (.int zs), .val (.int zx), .val (.long zq), .second, .val (.int zm), .val (.ref zo), .val (.int (0 : Int32)), .val (.long zq0), .second] [(.int (0 : Int32)), (.int (own_ew zn7 zL7 zx zq))])
                                    have hc320 : (own_ew zn7 zL7 zx zq) = (0 : Int32) := by
                                      rw [hkey.2 zx zq (by rw [← hln]; exact hok), ← hln]
                                      simp [own_ee, hc216, hc227, hc262, hc291, hc299]
                                    refine own_go (fun t k => XS.icmpNo X65.here hx rfl (hb hby at_320) rfl (teq hc320).2 k) ?_
                                    show own_WP _ _ _ _ T65 (mkF m 323 #[.val (.int zc), .val (.int zx0), .val (.long zh), .second, .val (.long zq0), .second, .val (.long zq1), .second, .val (.long zq2), .second, .val (.int za), .val (.int zd), .val (.int zb), .val (.int zs), .val (.int zx), .val (.long zq), .second, .val (.int zm), .val (.ref zo), .val (.int (0 : Int32)), .val (.long zq0), .second] [])
                                    refine own_go (fun t k => XS.iconst X65.here hx rfl (hb hby at_323) k) ?_
                                    show own_WP _ _ _ _ T65 (mkF m 324 #[.val (.int zc), .val (.int zx0), .val (.long zh), .second, .val (.long zq0), .second, .val (.long zq1), .second, .val (.long zq2), .second, .val (.int za), .val (.int zd), .val (.int zb), .val (.int zs), .val (.int zx), .val (.long zq), .second, .val (.int zm), .val (.ref zo), .val (.int (0 : Int32)), .val (.long zq0), .second] [(.int (1 : Int32))])
                                    refine own_go (fun t k => XS.goto X65.here hx rfl (pc0 := 324) (pc' := 328) rfl (hb hby at_324) (by decide) (by decide) k) ?_
                                    show own_WP _ _ _ _ T65 (mkF m 328 #[.val (.int zc), .val (.int zx0), .val (.long zh), .second, .val (.long zq0), .second, .val (.long zq1), .second, .val (.long zq2), .second, .val (.int za), .val (.int zd), .val (.int zb), .val (.int zs), .val (.int zx), .val (.long zq), .second, .val (.int zm), .val (.ref zo), .val (.int (0 : Int32)), .val (.long zq0), .second] [(.int (1 : Int32))])
                                    refine own_retN X65 hx Bd.notSynchronized (t := .boolean) (by simp) Bd.returns (hb hby at_328) (by decide) (by decide) ?_
                                    rw [eq65]
                                    exact ⟨rfl, N65⟩
                                · refine own_go (fun t k => XS.icmpYes X49.here hx rfl (pc0 := 291) (pc' := 306) rfl (hb hby at_291) rfl (feq hc291).2 (by decide) (by decide) k) ?_
                                  show own_WP _ _ _ _ T49 (mkF m 306 #[.val (.int zc), .val (.int zx0), .val (.long zh), .second, .val (.long zq0), .second, .val (.long zq1), .second, .val (.long zq2), .second, .val (.int za), .val (.int zd), .val (.int zb), .val (.int zs), .val (.int zx), .val (.long zq), .second, .val (.int zm), .val (.ref zo), .unset, .val (.long zq0), .second] [])
                                  refine own_go (fun t k => XS.iconst X49.here hx rfl (hb hby at_306) k) ?_
                                  show own_WP _ _ _ _ T49 (mkF m 307 #[.val (.int zc), .val (.int zx0), .val (.long zh), .second, .val (.long zq0), .second, .val (.long zq1), .second, .val (.long zq2), .second, .val (.int za), .val (.int zd), .val (.int zb), .val (.int zs), .val (.int zx), .val (.long zq), .second, .val (.int zm), .val (.ref zo), .unset, .val (.long zq0), .second] [(.int (0 : Int32))])
                                  refine own_go (fun t k => XS.istore X49.here hx rfl (hb hby at_307) rfl (l' := #[.val (.int zc), .val (.int zx0), .val (.long zh), .second, .val (.long zq0), .second, .val (.long zq1), .second, .val (.long zq2), .second, .val (.int za), .val (.int zd), .val (.int zb), .val (.int zs), .val (.int zx), .val (.long zq), .second, .val (.int zm), .val (.ref zo), .val (.int (0 : Int32)), .val (.long zq0), .second]) rfl k) ?_
                                  show own_WP _ _ _ _ T49 (mkF m 309 #[.val (.int zc), .val (.int zx0), .val (.long zh), .second, .val (.long zq0), .second, .val (.long zq1), .second, .val (.long zq2), .second, .val (.int za), .val (.int zd), .val (.int zb), .val (.int zs), .val (.int zx), .val (.long zq), .second, .val (.int zm), .val (.ref zo), .val (.int (0 : Int32)), .val (.long zq0), .second] [])
                                  refine own_go (fun t k => XS.aload X49.here hx rfl (hb hby at_309) rfl rfl  k) ?_
                                  show own_WP _ _ _ _ T49 (mkF m 311 #[.val (.int zc), .val (.int zx0), .val (.long zh), .second, .val (.long zq0), .second, .val (.long zq1), .second, .val (.long zq2), .second, .val (.int za), .val (.int zd), .val (.int zb), .val (.int zs), .val (.int zx), .val (.long zq), .second, .val (.int zm), .val (.ref zo), .val (.int (0 : Int32)), .val (.long zq0), .second] [(.ref zo)])
                                  refine own_go (fun t k => XS.iload X49.here hx rfl (hb hby at_311) rfl  k) ?_
                                  show own_WP _ _ _ _ T49 (mkF m 313 #[.val (.int zc), .val (.int zx0), .val (.long zh), .second, .val (.long zq0), .second, .val (.long zq1), .second, .val (.long zq2), .second, .val (.int za), .val (.int zd), .val (.int zb), .val (.int zs), .val (.int zx), .val (.long zq), .second, .val (.int zm), .val (.ref zo), .val (.int (0 : Int32)), .val (.long zq0), .second] [(.int zx), (.ref zo)])
                                  refine own_go (fun t k => XS.lload X49.here hx rfl (hb hby at_313) rfl  k) ?_
                                  show own_WP _ _ _ _ T49 (mkF m 315 #[.val (.int zc), .val (.int zx0), .val (.long zh), .second, .val (.long zq0), .second, .val (.long zq1), .second, .val (.long zq2), .second, .val (.int za), .val (.int zd), .val (.int zb), .val (.int zs), .val (.int zx), .val (.long zq), .second, .val (.int zm), .val (.ref zo), .val (.int (0 : Int32)), .val (.long zq0), .second] [(.long zq), (.int zx), (.ref zo)])
                                  obtain ⟨cq66, kq66, q66a, q66b, q66c⟩ := isOf hZ e49 f50
                                  obtain ⟨_, _, ⟨T66, L66, k66, n66⟩, -, X66, ⟨Lc66, hQ66, l66, y66, z66⟩, st66⟩ := X49.virtualBack hx (y := (⟨"com/example/ringspan/ringspan/symmetry/Trace", "endsWith", "(IJ)Z"⟩ : MethodName)) (z := (⟨"com/example/ringspan/ringspan/symmetry/Trace", "endsWith", "(IJ)Z"⟩ : MethodName)) hown (mvT hZ (hw _ (List.mem_of_getElem? (i := 12) rfl))) (mvT hZ (hw _ (List.mem_of_getElem? (i := 13) rfl))) (notFace_of_selects (args := #[]) (mvT hZ (hw _ (List.mem_of_getElem? (i := 15) rfl)))) (mvT hZ (hw _ (List.mem_of_getElem? (i := 15) rfl))) (mvT hZ (hw _ (List.mem_of_getElem? (i := 14) rfl))) (by decide) (backOf (W := 0) (rm3 l Z a0 hw [] zo zx zq zr zn7 zk zL7 h49 n0 (own_le Z0 K49j) f51 f52 f53 (show zL7.length = 8 from hl7) (show zx = zn7 - 1 → ¬ zx < 0 ∧ zx < 8 from own_hi hb7 (by decide) (by rw [hkey.1, ← hln]; exact hok))) hZ (hw _ (List.mem_of_getElem? (i := 16) rfl)) (hw _ (List.mem_of_getElem? (i := 2) rfl)) (by decide) (by decide)) q66a q66c (g := (mkF m 315 #[.val (.int zc), .val (.int zx0), .val (.long zh), .second, .val (.long zq0), .second, .val (.long zq1), .second, .val (.long zq2), .second, .val (.int za), .val (.int zd), .val (.int zb), .val (.int zs), .val (.int zx), .val (.long zq), .second, .val (.int zm), .val (.ref zo), .val (.int (0 : Int32)), .val (.long zq0), .second] [(.long zq), (.int zx), (.ref zo)])) rfl (by rw [hml]; rfl) (Steps.refl _) (argsL := [(.int zx), (.long zq)]) (rest := []) (lenOf own_pd48266 rfl) rfl (by show 2 * 0 + _ ≤ _; exact Nat.le_of_eq rfl) (hb hby at_315) (fun _ _ => ⟨rfl, e49, (by decide : 2 + 0 ≤ _), (by decide : 10 + 0 ≤ _)⟩)
                                  dsimp only [Pt.U, Pt.locs, Pt.cells, Pt.slots] at X66 l66 y66 z66 st66 hQ66
                                  subst l66 y66 z66
                                  obtain ⟨rfl, N66q, eq66⟩ := hQ66
                                  have N66 := Fr.app N49 N66q
                                  refine own_tr st66 ?_
                                  show own_WP _ _ _ _ T66 (mkF m 318 #[.val (.int zc), .val (.int zx0), .val (.long zh), .second, .val (.long zq0), .second, .val (.long zq1), .second, .val (.long zq2), .second, .val (.int za), .val (.int zd), .val (.int zb), .val (.int zs), .val (.int zx), .val (.long zq), .second, .val (.int zm), .val (.ref zo), .val (.int (0 : Int32)), .val (.long zq0), .second] [(.int (own_ew zn7 zL7 zx zq))])
                                  refine own_go (fun t k => XS.iload X66.here hx rfl (hb hby at_318) rfl  k) ?_
                                  show own_WP _ _ _ _ T66 (mkF m 320 #[.val (.int zc), .val (.int zx0), .val (.long zh), .second, .val (.long zq0), .second, .val (.long zq1), .second, .val (.long zq2), .second, .val (.int za), .val (.int zd), .val (.int zb), .val (.int zs), .val (.int zx), .val (.long zq), .second, .val (.int zm), .val (.ref zo), .val (.int (0 : Int32)), .val (.long zq0), .second] [(.int (0 : Int32)), (.int (own_ew zn7 zL7 zx zq))])
                                  have hc320 : (own_ew zn7 zL7 zx zq) = (0 : Int32) := by
                                    rw [hkey.2 zx zq (by rw [← hln]; exact hok), ← hln]
                                    simp [own_ee, hc216, hc227, hc262, hc291]
                                  refine own_go (fun t k => XS.icmpNo X66.here hx rfl (hb hby at_320) rfl (teq hc320).2 k) ?_
                                  show own_WP _ _ _ _ T66 (mkF m 323 #[.val (.int zc), .val (.int zx0), .val (.long zh), .second, .val (.long zq0), .second, .val (.long zq1), .second, .val (.long zq2), .second, .val (.int za), .val (.int zd), .val (.int zb), .val (.int zs), .val (.int zx), .val (.long zq), .second, .val (.int zm), .val (.ref zo), .val (.int (0 : Int32)), .val (.long zq0), .second] [])
                                  refine own_go (fun t k => XS.iconst X66.here hx rfl (hb hby at_323) k) ?_
                                  show own_WP _ _ _ _ T66 (mkF m 324 #[.val (.int zc), .val (.int zx0), .val (.long zh), .second, .val (.long zq0), .second, .val (.long zq1), .second, .val (.long zq2), .second, .val (.int za), .val (.int zd), .val (.int zb), .val (.int zs), .val (.int zx), .val (.long zq), .second, .val (.int zm), .val (.ref zo), .val (.int (0 : Int32)), .val (.long zq0), .second] [(.int (1 : Int32))])
                                  refine own_go (fun t k => XS.goto X66.here hx rfl (pc0 := 324) (pc' := 328) rfl (hb hby at_324) (by decide) (by decide) k) ?_
                                  show own_WP _ _ _ _ T66 (mkF m 328 #[.val (.int zc), .val (.int zx0), .val (.long zh), .second, .val (.long zq0), .second, .val (.long zq1), .second, .val (.long zq2), .second, .val (.int za), .val (.int zd), .val (.int zb), .val (.int zs), .val (.int zx), .val (.long zq), .second, .val (.int zm), .val (.ref zo), .val (.int (0 : Int32)), .val (.long zq0), .second] [(.int (1 : Int32))])
                                  refine own_retN X66 hx Bd.notSynchronized (t := .boolean) (by simp) Bd.returns (hb hby at_328) (by decide) (by decide) ?_
                                  rw [eq66]
                                  exact ⟨rfl, N66⟩
                              · refine own_go (fun t k => XS.icmpYes X49.here hx rfl (pc0 := 262) (pc' := 270) rfl (hb hby at_262) rfl (feq hc262).2 (by decide) (by decide) k) ?_
                                show own_WP _ _ _ _ T49 (mkF m 270 #[.val (.int zc), .val (.int zx0), .val (.long zh), .second, .val (.long zq0), .second, .val (.long zq1), .second, .val (.long zq2), .second, .val (.int za), .val (.int zd), .val (.int zb), .val (.int zs), .val (.int zx), .val (.long zq), .second, .val (.int zm), .val (.ref zo), .unset, .unset, .unset] [])
                                refine own_go (fun t k => XS.iload X49.here hx rfl (hb hby at_270) rfl  k) ?_
                                show own_WP _ _ _ _ T49 (mkF m 272 #[.val (.int zc), .val (.int zx0), .val (.long zh), .second, .val (.long zq0), .second, .val (.long zq1), .second, .val (.long zq2), .second, .val (.int za), .val (.int zd), .val (.int zb), .val (.int zs), .val (.int zx), .val (.long zq), .second, .val (.int zm), .val (.ref zo), .unset, .unset, .unset] [(.int za)])
                                refine own_go (fun t k => XS.iconst X49.here hx rfl (hb hby at_272) k) ?_
                                show own_WP _ _ _ _ T49 (mkF m 273 #[.val (.int zc), .val (.int zx0), .val (.long zh), .second, .val (.long zq0), .second, .val (.long zq1), .second, .val (.long zq2), .second, .val (.int za), .val (.int zd), .val (.int zb), .val (.int zs), .val (.int zx), .val (.long zq), .second, .val (.int zm), .val (.ref zo), .unset, .unset, .unset] [(.int (2 : Int32)), (.int za)])
                                by_cases hc273 : za = (2 : Int32)
                                · refine own_go (fun t k => XS.icmpNo X49.here hx rfl (hb hby at_273) rfl (teq hc273).2 k) ?_
                                  show own_WP _ _ _ _ T49 (mkF m 276 #[.val (.int zc), .val (.int zx0), .val (.long zh), .second, .val (.long zq0), .second, .val (.long zq1), .second, .val (.long zq2), .second, .val (.int za), .val (.int zd), .val (.int zb), .val (.int zs), .val (.int zx), .val (.long zq), .second, .val (.int zm), .val (.ref zo), .unset, .unset, .unset] [])
                                  refine own_go (fun t k => XS.lload X49.here hx rfl (hb hby at_276) rfl  k) ?_
                                  show own_WP _ _ _ _ T49 (mkF m 278 #[.val (.int zc), .val (.int zx0), .val (.long zh), .second, .val (.long zq0), .second, .val (.long zq1), .second, .val (.long zq2), .second, .val (.int za), .val (.int zd), .val (.int zb), .val (.int zs), .val (.int zx), .val (.long zq), .second, .val (.int zm), .val (.ref zo), .unset, .unset, .unset] [(.long zq1)])
                                  refine own_go (fun t k => XS.goto X49.here hx rfl (pc0 := 278) (pc' := 283) rfl (hb hby at_278) (by decide) (by decide) k) ?_
                                  show own_WP _ _ _ _ T49 (mkF m 283 #[.val (.int zc), .val (.int zx0), .val (.long zh), .second, .val (.long zq0), .second, .val (.long zq1), .second, .val (.long zq2), .second, .val (.int za), .val (.int zd), .val (.int zb), .val (.int zs), .val (.int zx), .val (.long zq), .second, .val (.int zm), .val (.ref zo), .unset, .unset, .unset] [(.long zq1)])
                                  refine own_go (fun t k => XS.lstore X49.here hx rfl (hb hby at_283) rfl (l' := #[.val (.int zc), .val (.int zx0), .val (.long zh), .second, .val (.long zq0), .second, .val (.long zq1), .second, .val (.long zq2), .second, .val (.int za), .val (.int zd), .val (.int zb), .val (.int zs), .val (.int zx), .val (.long zq), .second, .val (.int zm), .val (.ref zo), .unset, .val (.long zq1), .second]) rfl k) ?_
                                  show own_WP _ _ _ _ T49 (mkF m 285 #[.val (.int zc), .val (.int zx0), .val (.long zh), .second, .val (.long zq0), .second, .val (.long zq1), .second, .val (.long zq2), .second, .val (.int za), .val (.int zd), .val (.int zb), .val (.int zs), .val (.int zx), .val (.long zq), .second, .val (.int zm), .val (.ref zo), .unset, .val (.long zq1), .second] [])
                                  refine own_go (fun t k => XS.iload X49.here hx rfl (hb hby at_285) rfl  k) ?_
                                  show own_WP _ _ _ _ T49 (mkF m 287 #[.val (.int zc), .val (.int zx0), .val (.long zh), .second, .val (.long zq0), .second, .val (.long zq1), .second, .val (.long zq2), .second, .val (.int za), .val (.int zd), .val (.int zb), .val (.int zs), .val (.int zx), .val (.long zq), .second, .val (.int zm), .val (.ref zo), .unset, .val (.long zq1), .second] [(.int zx)])
                                  refine own_go (fun t k => XS.iload X49.here hx rfl (hb hby at_287) rfl  k) ?_
                                  show own_WP _ _ _ _ T49 (mkF m 289 #[.val (.int zc), .val (.int zx0), .val (.long zh), .second, .val (.long zq0), .second, .val (.long zq1), .second, .val (.long zq2), .second, .val (.int za), .val (.int zd), .val (.int zb), .val (.int zs), .val (.int zx), .val (.long zq), .second, .val (.int zm), .val (.ref zo), .unset, .val (.long zq1), .second] [(.int zm), (.int zx)])
                                  refine own_go (fun t k => XS.iconst X49.here hx rfl (hb hby at_289) k) ?_
                                  show own_WP _ _ _ _ T49 (mkF m 290 #[.val (.int zc), .val (.int zx0), .val (.long zh), .second, .val (.long zq0), .second, .val (.long zq1), .second, .val (.long zq2), .second, .val (.int za), .val (.int zd), .val (.int zb), .val (.int zs), .val (.int zx), .val (.long zq), .second, .val (.int zm), .val (.ref zo), .unset, .val (.long zq1), .second] [(.int (1 : Int32)), (.int zm), (.int zx)])
                                  refine own_go (fun t k => XS.isub X49.here hx rfl (hb hby at_290) rfl k) ?_
                                  show own_WP _ _ _ _ T49 (mkF m 291 #[.val (.int zc), .val (.int zx0), .val (.long zh), .second, .val (.long zq0), .second, .val (.long zq1), .second, .val (.long zq2), .second, .val (.int za), .val (.int zd), .val (.int zb), .val (.int zs), .val (.int zx), .val (.long zq), .second, .val (.int zm), .val (.ref zo), .unset, .val (.long zq1), .second] [(.int (zm - (1 : Int32))), (.int zx)])
                                  by_cases hc291 : zx = (zm - (1 : Int32))
                                  · refine own_go (fun t k => XS.icmpNo X49.here hx rfl (hb hby at_291) rfl (teq hc291).2 k) ?_
                                    show own_WP _ _ _ _ T49 (mkF m 294 #[.val (.int zc), .val (.int zx0), .val (.long zh), .second, .val (.long zq0), .second, .val (.long zq1), .second, .val (.long zq2), .second, .val (.int za), .val (.int zd), .val (.int zb), .val (.int zs), .val (.int zx), .val (.long zq), .second, .val (.int zm), .val (.ref zo), .unset, .val (.long zq1), .second] [])
                                    refine own_go (fun t k => XS.lload X49.here hx rfl (hb hby at_294) rfl  k) ?_
                                    show own_WP _ _ _ _ T49 (mkF m 296 #[.val (.int zc), .val (.int zx0), .val (.long zh), .second, .val (.long zq0), .second, .val (.long zq1), .second, .val (.long zq2), .second, .val (.int za), .val (.int zd), .val (.int zb), .val (.int zs), .val (.int zx), .val (.long zq), .second, .val (.int zm), .val (.ref zo), .unset, .val (.long zq1), .second] [(.long zq)])
                                    refine own_go (fun t k => XS.lload X49.here hx rfl (hb hby at_296) rfl  k) ?_
                                    show own_WP _ _ _ _ T49 (mkF m 298 #[.val (.int zc), .val (.int zx0), .val (.long zh), .second, .val (.long zq0), .second, .val (.long zq1), .second, .val (.long zq2), .second, .val (.int za), .val (.int zd), .val (.int zb), .val (.int zs), .val (.int zx), .val (.long zq), .second, .val (.int zm), .val (.ref zo), .unset, .val (.long zq1), .second] [(.long zq1), (.long zq)])
                                    refine own_go (fun t k => XS.lcmp X49.here hx rfl (hb hby at_298) rfl k) ?_
                                    show own_WP _ _ _ _ T49 (mkF m 299 #[.val (.int zc), .val (.int zx0), .val (.long zh), .second, .val (.long zq0), .second, .val (.long zq1), .second, .val (.long zq2), .second, .val (.int za), .val (.int zd), .val (.int zb), .val (.int zs), .val (.int zx), .val (.long zq), .second, .val (.int zm), .val (.ref zo), .unset, .val (.long zq1), .second] [(.int (lcmpW zq zq1))])
                                    by_cases hc299 : zq = zq1
                                    · refine own_go (fun t k => XS.ifNo X49.here hx rfl (hb hby at_299) rfl ((if0 _ _).trans (teq ((lw_eq zq zq1).mpr hc299)).2) k) ?_
                                      show own_WP _ _ _ _ T49 (mkF m 302 #[.val (.int zc), .val (.int zx0), .val (.long zh), .second, .val (.long zq0), .second, .val (.long zq1), .second, .val (.long zq2), .second, .val (.int za), .val (.int zd), .val (.int zb), .val (.int zs), .val (.int zx), .val (.long zq), .second, .val (.int zm), .val (.ref zo), .unset, .val (.long zq1), .second] [])
                                      refine own_go (fun t k => XS.iconst X49.here hx rfl (hb hby at_302) k) ?_
                                      show own_WP _ _ _ _ T49 (mkF m 303 #[.val (.int zc), .val (.int zx0), .val (.long zh), .second, .val (.long zq0), .second, .val (.long zq1), .second, .val (.long zq2), .second, .val (.int za), .val (.int zd), .val (.int zb), .val (.int zs), .val (.int zx), .val (.long zq), .second, .val (.int zm), .val (.ref zo), .unset, .val (.long zq1), .second] [(.int (1 : Int32))])
                                      refine own_go (fun t k => XS.goto X49.here hx rfl (pc0 := 303) (pc' := 307) rfl (hb hby at_303) (by decide) (by decide) k) ?_
                                      show own_WP _ _ _ _ T49 (mkF m 307 #[.val (.int zc), .val (.int zx0), .val (.long zh), .second, .val (.long zq0), .second, .val (.long zq1), .second, .val (.long zq2), .second, .val (.int za), .val (.int zd), .val (.int zb), .val (.int zs), .val (.int zx), .val (.long zq), .second, .val (.int zm), .val (.ref zo), .unset, .val (.long zq1), .second] [(.int (1 : Int32))])
                                      refine own_go (fun t k => XS.istore X49.here hx rfl (hb hby at_307) rfl (l' := #[.val (.int zc), .val (.int zx0), .val (.long zh), .second, .val (.long zq0), .second, .val (.long zq1), .second, .val (.long zq2), .second, .val (.int za), .val (.int zd), .val (.int zb), .val (.int zs), .val (.int zx), .val (.long zq), .second, .val (.int zm), .val (.ref zo), .val (.int (1 : Int32)), .val (.long zq1), .second]) rfl k) ?_
                                      show own_WP _ _ _ _ T49 (mkF m 309 #[.val (.int zc), .val (.int zx0), .val (.long zh), .second, .val (.long zq0), .second, .val (.long zq1), .second, .val (.long zq2), .second, .val (.int za), .val (.int zd), .val (.int zb), .val (.int zs), .val (.int zx), .val (.long zq), .second, .val (.int zm), .val (.ref zo), .val (.int (1 : Int32)), .val (.long zq1), .second] [])
                                      refine own_go (fun t k => XS.aload X49.here hx rfl (hb hby at_309) rfl rfl  k) ?_
                                      show own_WP _ _ _ _ T49 (mkF m 311 #[.val (.int zc), .val (.int zx0), .val (.long zh), .second, .val (.long zq0), .second, .val (.long zq1), .second, .val (.long zq2), .second, .val (.int za), .val (.int zd), .val (.int zb), .val (.int zs), .val (.int zx), .val (.long zq), .second, .val (.int zm), .val (.ref zo), .val (.int (1 : Int32)), .val (.long zq1), .second] [(.ref zo)])
                                      refine own_go (fun t k => XS.iload X49.here hx rfl (hb hby at_311) rfl  k) ?_
                                      show own_WP _ _ _ _ T49 (mkF m 313 #[.val (.int zc), .val (.int zx0), .val (.long zh), .second, .val (.long zq0), .second, .val (.long zq1), .second, .val (.long zq2), .second, .val (.int za), .val (.int zd), .val (.int zb), .val (.int zs), .val (.int zx), .val (.long zq), .second, .val (.int zm), .val (.ref zo), .val (.int (1 : Int32)), .val (.long zq1), .second] [(.int zx), (.ref zo)])
                                      refine own_go (fun t k => XS.lload X49.here hx rfl (hb hby at_313) rfl  k) ?_
                                      show own_WP _ _ _ _ T49 (mkF m 315 #[.val (.int zc), .val (.int zx0), .val (.long zh), .second, .val (.long zq0), .second, .val (.long zq1), .second, .val (.long zq2), .second, .val (.int za), .val (.int zd), .val (.int zb), .val (.int zs), .val (.int zx), .val (.long zq), .second, .val (.int zm), .val (.ref zo), .val (.int (1 : Int32)), .val (.long zq1), .second] [(.long zq), (.int zx), (.ref zo)])
                                      obtain ⟨cq67, kq67, q67a, q67b, q67c⟩ := isOf hZ e49 f50
                                      obtain ⟨_, _, ⟨T67, L67, k67, n67⟩, -, X67, ⟨Lc67, hQ67, l67, y67, z67⟩, st67⟩ := X49.virtualBack hx (y := (⟨"com/example/ringspan/ringspan/symmetry/Trace", "endsWith", "(IJ)Z"⟩ : MethodName)) (z := (⟨"com/example/ringspan/ringspan/symmetry/Trace", "endsWith", "(IJ)Z"⟩ : MethodName)) hown (mvT hZ (hw _ (List.mem_of_getElem? (i := 12) rfl))) (mvT hZ (hw _ (List.mem_of_getElem? (i := 13) rfl))) (notFace_of_selects (args := #[]) (mvT hZ (hw _ (List.mem_of_getElem? (i := 15) rfl)))) (mvT hZ (hw _ (List.mem_of_getElem? (i := 15) rfl))) (mvT hZ (hw _ (List.mem_of_getElem? (i := 14) rfl))) (by decide) (backOf (W := 0) (rm3 l Z a0 hw [] zo zx zq zr zn7 zk zL7 h49 n0 (own_le Z0 K49j) f51 f52 f53 (show zL7.length = 8 from hl7) (show zx = zn7 - 1 → ¬ zx < 0 ∧ zx < 8 from own_hi hb7 (by decide) (by rw [hkey.1, ← hln]; exact hok))) hZ (hw _ (List.mem_of_getElem? (i := 16) rfl)) (hw _ (List.mem_of_getElem? (i := 2) rfl)) (by decide) (by decide)) q67a q67c (g := (mkF m 315 #[.val (.int zc), .val (.int zx0), .val (.long zh), .second, .val (.long zq0), .second, .val (.long zq1), .second, .val (.long zq2), .second, .val (.int za), .val (.int zd), .val (.int zb), .val (.int zs), .val (.int zx), .val (.long zq), .second, .val (.int zm), .val (.ref zo), .val (.int (1 : Int32)), .val (.long zq1), .second] [(.long zq), (.int zx), (.ref zo)])) rfl (by rw [hml]; rfl) (Steps.refl _) (argsL := [(.int zx), (.long zq)]) (rest := []) (lenOf own_pd48266 rfl) rfl (by show 2 * 0 + _ ≤ _; exact Nat.le_of_eq rfl) (hb hby at_315) (fun _ _ => ⟨rfl, e49, (by decide : 2 + 0 ≤ _), (by decide : 10 + 0 ≤ _)⟩)
                                      dsimp only [Pt.U, Pt.locs, Pt.cells, Pt.slots] at X67 l67 y67 z67 st67 hQ67
                                      subst l67 y67 z67
                                      obtain ⟨rfl, N67q, eq67⟩ := hQ67
                                      have N67 := Fr.app N49 N67q
                                      refine own_tr st67 ?_
                                      show own_WP _ _ _ _ T67 (mkF m 318 #[.val (.int zc), .val (.int zx0), .val (.long zh), .second, .val (.long zq0), .second, .val (.long zq1), .second, .val (.long zq2), .second, .val (.int za), .val (.int zd), .val (.int zb), .val (.int zs), .val (.int zx), .val (.long zq), .second, .val (.int zm), .val (.ref zo), .val (.int (1 : Int32)), .val (.long zq1), .second] [(.int (own_ew zn7 zL7 zx zq))])
                                      refine own_go (fun t k => XS.iload X67.here hx rfl (hb hby at_318) rfl  k) ?_
                                      show own_WP _ _ _ _ T67 (mkF m 320 #[.val (.int zc), .val (.int zx0), .val (.long zh), .second, .val (.long zq0), .second, .val (.long zq1), .second, .val (.long zq2), .second, .val (.int za), .val (.int zd), .val (.int zb), .val (.int zs), .val (.int zx), .val (.long zq), .second, .val (.int zm), .val (.ref zo), .val (.int (1 : Int32)), .val (.long zq1), .second] [(.int (1 : Int32)), (.int (own_ew zn7 zL7 zx zq))])
                                      have hc320 : (own_ew zn7 zL7 zx zq) = (1 : Int32) := by
                                        rw [hkey.2 zx zq (by rw [← hln]; exact hok), ← hln]
                                        simp [own_ee, hc216, hc227, hc262, hc273, hc291, hc299]
                                      refine own_go (fun t k => XS.icmpNo X67.here hx rfl (hb hby at_320) rfl (teq hc320).2 k) ?_
                                      show own_WP _ _ _ _ T67 (mkF m 323 #[.val (.int zc), .val (.int zx0), .val (.long zh), .second, .val (.long zq0), .second, .val (.long zq1), .second, .val (.long zq2), .second, .val (.int za), .val (.int zd), .val (.int zb), .val (.int zs), .val (.int zx), .val (.long zq), .second, .val (.int zm), .val (.ref zo), .val (.int (1 : Int32)), .val (.long zq1), .second] [])
                                      refine own_go (fun t k => XS.iconst X67.here hx rfl (hb hby at_323) k) ?_
                                      show own_WP _ _ _ _ T67 (mkF m 324 #[.val (.int zc), .val (.int zx0), .val (.long zh), .second, .val (.long zq0), .second, .val (.long zq1), .second, .val (.long zq2), .second, .val (.int za), .val (.int zd), .val (.int zb), .val (.int zs), .val (.int zx), .val (.long zq), .second, .val (.int zm), .val (.ref zo), .val (.int (1 : Int32)), .val (.long zq1), .second] [(.int (1 : Int32))])
                                      refine own_go (fun t k => XS.goto X67.here hx rfl (pc0 := 324) (pc' := 328) rfl (hb hby at_324) (by decide) (by decide) k) ?_
                                      show own_WP _ _ _ _ T67 (mkF m 328 #[.val (.int zc), .val (.int zx0), .val (.long zh), .second, .val (.long zq0), .second, .val (.long zq1), .second, .val (.long zq2), .second, .val (.int za), .val (.int zd), .val (.int zb), .val (.int zs), .val (.int zx), .val (.long zq), .second, .val (.int zm), .val (.ref zo), .val (.int (1 : Int32)), .val (.long zq1), .second] [(.int (1 : Int32))])
                                      refine own_retN X67 hx Bd.notSynchronized (t := .boolean) (by simp) Bd.returns (hb hby at_328) (by decide) (by decide) ?_
                                      rw [eq67]
                                      exact ⟨rfl, N67⟩
                                    · refine own_go (fun t k => XS.ifYes X49.here hx rfl (pc0 := 299) (pc' := 306) rfl (hb hby at_299) rfl ((if0 _ _).trans (feq (fun z => hc299 ((lw_eq zq zq1).mp z))).2) (by decide) (by decide) k) ?_
                                      show own_WP _ _ _ _ T49 (mkF m 306 #[.val (.int zc), .val (.int zx0), .val (.long zh), .second, .val (.long zq0), .second, .val (.long zq1), .second, .val (.long zq2), .second, .val (.int za), .val (.int zd), .val (.int zb), .val (.int zs), .val (.int zx), .val (.long zq), .second, .val (.int zm), .val (.ref zo), .unset, .val (.long zq1), .second] [])
                                      refine own_go (fun t k => XS.iconst X49.here hx rfl (hb hby at_306) k) ?_
                                      show own_WP _ _ _ _ T49 (mkF m 307 #[.val (.int zc), .val (.int zx0), .val (.long zh), .second, .val (.long zq0), .second, .val (.long zq1), .second, .val (.long zq2), .second, .val (.int za), .val (.int zd), .val (.int zb), .val (.int zs), .val (.int zx), .val (.long zq), .second, .val (.int zm), .val (.ref zo), .unset, .val (.long zq1), .second] [(.int (0 : Int32))])
                                      refine own_go (fun t k => XS.istore X49.here hx rfl (hb hby at_307) rfl (l' := #[.val (.int zc), .val (.int zx0), .val (.long zh), .second, .val (.long zq0), .second, .val (.long zq1), .second, .val (.long zq2), .second, .val (.int za), .val (.int zd), .val (.int zb), .val (.int zs), .val (.int zx), .val (.long zq), .second, .val (.int zm), .val (.ref zo), .val (.int (0 : Int32)), .val (.long zq1), .second]) rfl k) ?_
                                      show own_WP _ _ _ _ T49 (mkF m 309 #[.val (.int zc), .val (.int zx0), .val (.long zh), .second, .val (.long zq0), .second, .val (.long zq1), .second, .val (.long zq2), .second, .val (.int za), .val (.int zd), .val (.int zb), .val (.int zs), .val (.int zx), .val (.long zq), .second, .val (.int zm), .val (.ref zo), .val (.int (0 : Int32)), .val (.long zq1), .second] [])
                                      refine own_go (fun t k => XS.aload X49.here hx rfl (hb hby at_309) rfl rfl  k) ?_
                                      show own_WP _ _ _ _ T49 (mkF m 311 #[.val (.int zc), .val (.int zx0), .val (.long zh), .second, .val (.long zq0), .second, .val (.long zq1), .second, .val (.long zq2), .second, .val (.int za), .val (.int zd), .val (.int zb), .val (.int zs), .val (.int zx), .val (.long zq), .second, .val (.int zm), .val (.ref zo), .val (.int (0 : Int32)), .val (.long zq1), .second] [(.ref zo)])
                                      refine own_go (fun t k => XS.iload X49.here hx rfl (hb hby at_311) rfl  k) ?_
                                      show own_WP _ _ _ _ T49 (mkF m 313 #[.val (.int zc), .val (.int zx0), .val (.long zh), .second, .val (.long zq0), .second, .val (.long zq1), .second, .val (.long zq2), .second, .val (.int za), .val (.int zd), .val (.int zb), .val (.int zs), .val (.int zx), .val (.long zq), .second, .val (.int zm), .val (.ref zo), .val (.int (0 : Int32)), .val (.long zq1), .second] [(.int zx), (.ref zo)])
                                      refine own_go (fun t k => XS.lload X49.here hx rfl (hb hby at_313) rfl  k) ?_
                                      show own_WP _ _ _ _ T49 (mkF m 315 #[.val (.int zc), .val (.int zx0), .val (.long zh), .second, .val (.long zq0), .second, .val (.long zq1), .second, .val (.long zq2), .second, .val (.int za), .val (.int zd), .val (.int zb), .val (.int zs), .val (.int zx), .val (.long zq), .second, .val (.int zm), .val (.ref zo), .val (.int (0 : Int32)), .val (.long zq1), .second] [(.long zq), (.int zx), (.ref zo)])
                                      obtain ⟨cq68, kq68, q68a, q68b, q68c⟩ := isOf hZ e49 f50
                                      obtain ⟨_, _, ⟨T68, L68, k68, n68⟩, -, X68, ⟨Lc68, hQ68, l68, y68, z68⟩, st68⟩ := X49.virtualBack hx (y := (⟨"com/example/ringspan/ringspan/symmetry/Trace", "endsWith", "(IJ)Z"⟩ : MethodName)) (z := (⟨"com/example/ringspan/ringspan/symmetry/Trace", "endsWith", "(IJ)Z"⟩ : MethodName)) hown (mvT hZ (hw _ (List.mem_of_getElem? (i := 12) rfl))) (mvT hZ (hw _ (List.mem_of_getElem? (i := 13) rfl))) (notFace_of_selects (args := #[]) (mvT hZ (hw _ (List.mem_of_getElem? (i := 15) rfl)))) (mvT hZ (hw _ (List.mem_of_getElem? (i := 15) rfl))) (mvT hZ (hw _ (List.mem_of_getElem? (i := 14) rfl))) (by decide) (backOf (W := 0) (rm3 l Z a0 hw [] zo zx zq zr zn7 zk zL7 h49 n0 (own_le Z0 K49j) f51 f52 f53 (show zL7.length = 8 from hl7) (show zx = zn7 - 1 → ¬ zx < 0 ∧ zx < 8 from own_hi hb7 (by decide) (by rw [hkey.1, ← hln]; exact hok))) hZ (hw _ (List.mem_of_getElem? (i := 16) rfl)) (hw _ (List.mem_of_getElem? (i := 2) rfl)) (by decide) (by decide)) q68a q68c (g := (mkF m 315 #[.val (.int zc), .val (.int zx0), .val (.long zh), .second, .val (.long zq0), .second, .val (.long zq1), .second, .val (.long zq2), .second, .val (.int za), .val (.int zd), .val (.int zb), .val (.int zs), .val (.int zx), .val (.long zq), .second, .val (.int zm), .val (.ref zo), .val (.int (0 : Int32)), .val (.long zq1), .second] [(.long zq), (.int zx), (.ref zo)])) rfl (by rw [hml]; rfl) (Steps.refl _) (argsL := [(.int zx), (.long zq)]) (rest := []) (lenOf own_pd48266 rfl) rfl (by show 2 * 0 + _ ≤ _; exact Nat.le_of_eq rfl) (hb hby at_315) (fun _ _ => ⟨rfl, e49, (by decide : 2 + 0 ≤ _), (by decide : 10 + 0 ≤ _)⟩)
                                      dsimp only [Pt.U, Pt.locs, Pt.cells, Pt.slots] at X68 l68 y68 z68 st68 hQ68
                                      subst l68 y68 z68
                                      obtain ⟨rfl, N68q, eq68⟩ := hQ68
                                      have N68 := Fr.app N49 N68q
                                      refine own_tr st68 ?_
                                      show own_WP _ _ _ _ T68 (mkF m 318 #[.val (.int zc), .val (.int zx0), .val (.long zh), .second, .val (.long zq0), .second, .val (.long zq1), .second, .val (.long zq2), .second, .val (.int za), .val (.int zd), .val (.int zb), .val (.int zs), .val (.int zx), .val (.long zq), .second, .val (.int zm), .val (.ref zo), .val (.int (0 : Int32)), .val (.long zq1), .second] [(.int (own_ew zn7 zL7 zx zq))])
                                      refine own_go (fun t k => XS.iload X68.here hx rfl (hb hby at_318) rfl  k) ?_
                                      show own_WP _ _ _ _ T68 (mkF m 320 #[.val (.int zc), .val (.int zx0), .val (.long zh), .second, .val (.long zq0), .second, .val (.long zq1), .second, .val (.long zq2), .second, .val (.int za), .val (.int zd), .val (.int zb), .val (.int zs), .val (.int zx), .val (.long zq), .second, .val (.int zm), .val (.ref zo), .val (.int (0 : Int32)), .val (.long zq1), .second] [(.int (0 : Int32)), (.int (own_ew zn7 zL7 zx zq))])
                                      have hc320 : (own_ew zn7 zL7 zx zq) = (0 : Int32) := by
                                        rw [hkey.2 zx zq (by rw [← hln]; exact hok), ← hln]
                                        simp [own_ee, hc216, hc227, hc262, hc273, hc291, hc299]
                                      refine own_go (fun t k => XS.icmpNo X68.here hx rfl (hb hby at_320) rfl (teq hc320).2 k) ?_
                                      show own_WP _ _ _ _ T68 (mkF m 323 #[.val (.int zc), .val (.int zx0), .val (.long zh), .second, .val (.long zq0), .second, .val (.long zq1), .second, .val (.long zq2), .second, .val (.int za), .val (.int zd), .val (.int zb), .val (.int zs), .val (.int zx), .val (.long zq), .second, .val (.int zm), .val (.ref zo), .val (.int (0 : Int32)), .val (.long zq1), .second] [])
                                      refine own_go (fun t k => XS.iconst X68.here hx rfl (hb hby at_323) k) ?_
                                      show own_WP _ _ _ _ T68 (mkF m 324 #[.val (.int zc), .val (.int zx0), .val (.long zh), .second, .val (.long zq0), .second, .val (.long zq1), .second, .val (.long zq2), .second, .val (.int za), .val (.int zd), .val (.int zb), .val (.int zs), .val (.int zx), .val (.long zq), .second, .val (.int zm), .val (.ref zo), .val (.int (0 : Int32)), .val (.long zq1), .second] [(.int (1 : Int32))])
                                      refine own_go (fun t k => XS.goto X68.here hx rfl (pc0 := 324) (pc' := 328) rfl (hb hby at_324) (by decide) (by decide) k) ?_
                                      show own_WP _ _ _ _ T68 (mkF m 328 #[.val (.int zc), .val (.int zx0), .val (.long zh), .second, .val (.long zq0), .second, .val (.long zq1), .second, .val (.long zq2), .second, .val (.int za), .val (.int zd), .val (.int zb), .val (.int zs), .val (.int zx), .val (.long zq), .second, .val (.int zm), .val (.ref zo), .val (.int (0 : Int32)), .val (.long zq1), .second] [(.int (1 : Int32))])
                                      refine own_retN X68 hx Bd.notSynchronized (t := .boolean) (by simp) Bd.returns (hb hby at_328) (by decide) (by decide) ?_
                                      rw [eq68]
                                      exact ⟨rfl, N68⟩
                                  · refine own_go (fun t k => XS.icmpYes X49.here hx rfl (pc0 := 291) (pc' := 306) rfl (hb hby at_291) rfl (feq hc291).2 (by decide) (by decide) k) ?_
                                    show own_WP _ _ _ _ T49 (mkF m 306 #[.val (.int zc), .val (.int zx0), .val (.long zh), .second, .val (.long zq0), .second, .val (.long zq1), .second, .val (.long zq2), .second, .val (.int za), .val (.int zd), .val (.int zb), .val (.int zs), .val (.int zx), .val (.long zq), .second, .val (.int zm), .val (.ref zo), .unset, .val (.long zq1), .second] [])
                                    refine own_go (fun t k => XS.iconst X49.here hx rfl (hb hby at_306) k) ?_
                                    show own_WP _ _ _ _ T49 (mkF m 307 #[.val (.int zc), .val (.int zx0), .val (.long zh), .second, .val (.long zq0), .second, .val (.long zq1), .second, .val (.long zq2), .second, .val (.int za), .val (.int zd), .val (.int zb), .val (.int zs), .val (.int zx), .val (.long zq), .second, .val (.int zm), .val (.ref zo), .unset, .val (.long zq1), .second] [(.int (0 : Int32))])
                                    refine own_go (fun t k => XS.istore X49.here hx rfl (hb hby at_307) rfl (l' := #[.val (.int zc), .val (.int zx0), .val (.long zh), .second, .val (.long zq0), .second, .val (.long zq1), .second, .val (.long zq2), .second, .val (.int za), .val (.int zd), .val (.int zb), .val (.int zs), .val (.int zx), .val (.long zq), .second, .val (.int zm), .val (.ref zo), .val (.int (0 : Int32)), .val (.long zq1), .second]) rfl k) ?_
                                    show own_WP _ _ _ _ T49 (mkF m 309 #[.val (.int zc), .val (.int zx0), .val (.long zh), .second, .val (.long zq0), .second, .val (.long zq1), .second, .val (.long zq2), .second, .val (.int za), .val (.int zd), .val (.int zb), .val (.int zs), .val (.int zx), .val (.long zq), .second, .val (.int zm), .val (.ref zo), .val (.int (0 : Int32)), .val (.long zq1), .second] [])
                                    refine own_go (fun t k => XS.aload X49.here hx rfl (hb hby at_309) rfl rfl  k) ?_
                                    show own_WP _ _ _ _ T49 (mkF m 311 #[.val (.int zc), .val (.int zx0), .val (.long zh), .second, .val (.long zq0), .second, .val (.long zq1), .second, .val (.long zq2), .second, .val (.int za), .val (.int zd), .val (.int zb), .val (.int zs), .val (.int zx), .val (.long zq), .second, .val (.int zm), .val (.ref zo), .val (.int (0 : Int32)), .val (.long zq1), .second] [(.ref zo)])
                                    refine own_go (fun t k => XS.iload X49.here hx rfl (hb hby at_311) rfl  k) ?_
                                    show own_WP _ _ _ _ T49 (mkF m 313 #[.val (.int zc), .val (.int zx0), .val (.long zh), .second, .val (.long zq0), .second, .val (.long zq1), .second, .val (.long zq2), .second, .val (.int za), .val (.int zd), .val (.int zb), .val (.int zs), .val (.int zx), .val (.long zq), .second, .val (.int zm), .val (.ref zo), .val (.int (0 : Int32)), .val (.long zq1), .second] [(.int zx), (.ref zo)])
                                    refine own_go (fun t k => XS.lload X49.here hx rfl (hb hby at_313) rfl  k) ?_
                                    show own_WP _ _ _ _ T49 (mkF m 315 #[.val (.int zc), .val (.int zx0), .val (.long zh), .second, .val (.long zq0), .second, .val (.long zq1), .second, .val (.long zq2), .second, .val (.int za), .val (.int zd), .val (.int zb), .val (.int zs), .val (.int zx), .val (.long zq), .second, .val (.int zm), .val (.ref zo), .val (.int (0 : Int32)), .val (.long zq1), .second] [(.long zq), (.int zx), (.ref zo)])
                                    obtain ⟨cq69, kq69, q69a, q69b, q69c⟩ := isOf hZ e49 f50
                                    obtain ⟨_, _, ⟨T69, L69, k69, n69⟩, -, X69, ⟨Lc69, hQ69, l69, y69, z69⟩, st69⟩ := X49.virtualBack hx (y := (⟨"com/example/ringspan/ringspan/symmetry/Trace", "endsWith", "(IJ)Z"⟩ : MethodName)) (z := (⟨"com/example/ringspan/ringspan/symmetry/Trace", "endsWith", "(IJ)Z"⟩ : MethodName)) hown (mvT hZ (hw _ (List.mem_of_getElem? (i := 12) rfl))) (mvT hZ (hw _ (List.mem_of_getElem? (i := 13) rfl))) (notFace_of_selects (args := #[]) (mvT hZ (hw _ (List.mem_of_getElem? (i := 15) rfl)))) (mvT hZ (hw _ (List.mem_of_getElem? (i := 15) rfl))) (mvT hZ (hw _ (List.mem_of_getElem? (i := 14) rfl))) (by decide) (backOf (W := 0) (rm3 l Z a0 hw [] zo zx zq zr zn7 zk zL7 h49 n0 (own_le Z0 K49j) f51 f52 f53 (show zL7.length = 8 from hl7) (show zx = zn7 - 1 → ¬ zx < 0 ∧ zx < 8 from own_hi hb7 (by decide) (by rw [hkey.1, ← hln]; exact hok))) hZ (hw _ (List.mem_of_getElem? (i := 16) rfl)) (hw _ (List.mem_of_getElem? (i := 2) rfl)) (by decide) (by decide)) q69a q69c (g := (mkF m 315 #[.val (.int zc), .val (.int zx0), .val (.long zh), .second, .val (.long zq0), .second, .val (.long zq1), .second, .val (.long zq2), .second, .val (.int za), .val (.int zd), .val (.int zb), .val (.int zs), .val (.int zx), .val (.long zq), .second, .val (.int zm), .val (.ref zo), .val (.int (0 : Int32)), .val (.long zq1), .second] [(.long zq), (.int zx), (.ref zo)])) rfl (by rw [hml]; rfl) (Steps.refl _) (argsL := [(.int zx), (.long zq)]) (rest := []) (lenOf own_pd48266 rfl) rfl (by show 2 * 0 + _ ≤ _; exact Nat.le_of_eq rfl) (hb hby at_315) (fun _ _ => ⟨rfl, e49, (by decide : 2 + 0 ≤ _), (by decide : 10 + 0 ≤ _)⟩)
                                    dsimp only [Pt.U, Pt.locs, Pt.cells, Pt.slots] at X69 l69 y69 z69 st69 hQ69
                                    subst l69 y69 z69
                                    obtain ⟨rfl, N69q, eq69⟩ := hQ69
                                    have N69 := Fr.app N49 N69q
                                    refine own_tr st69 ?_
                                    show own_WP _ _ _ _ T69 (mkF m 318 #[.val (.int zc), .val (.int zx0), .val (.long zh), .second, .val (.long zq0), .second, .val (.long zq1), .second, .val (.long zq2), .second, .val (.int za), .val (.int zd), .val (.int zb), .val (.int zs), .val (.int zx), .val (.long zq), .second, .val (.int zm), .val (.ref zo), .val (.int (0 : Int32)), .val (.long zq1), .second] [(.int (own_ew zn7 zL7 zx zq))])
                                    refine own_go (fun t k => XS.iload X69.here hx rfl (hb hby at_318) rfl  k) ?_
                                    show own_WP _ _ _ _ T69 (mkF m 320 #[.val (.int zc), .val (.int zx0), .val (.long zh), .second, .val (.long zq0), .second, .val (.long zq1), .second, .val (.long zq2), .second, .val (.int za), .val (.int zd), .val (.int zb), .val (.int zs), .val (.int zx), .val (.long zq), .second, .val (.int zm), .val (.ref zo), .val (.int (0 : Int32)), .val (.long zq1), .second] [(.int (0 : Int32)), (.int (own_ew zn7 zL7 zx zq))])
                                    have hc320 : (own_ew zn7 zL7 zx zq) = (0 : Int32) := by
                                      rw [hkey.2 zx zq (by rw [← hln]; exact hok), ← hln]
                                      simp [own_ee, hc216, hc227, hc262, hc273, hc291]
                                    refine own_go (fun t k => XS.icmpNo X69.here hx rfl (hb hby at_320) rfl (teq hc320).2 k) ?_
                                    show own_WP _ _ _ _ T69 (mkF m 323 #[.val (.int zc), .val (.int zx0), .val (.long zh), .second, .val (.long zq0), .second, .val (.long zq1), .second, .val (.long zq2), .second, .val (.int za), .val (.int zd), .val (.int zb), .val (.int zs), .val (.int zx), .val (.long zq), .second, .val (.int zm), .val (.ref zo), .val (.int (0 : Int32)), .val (.long zq1), .second] [])
                                    refine own_go (fun t k => XS.iconst X69.here hx rfl (hb hby at_323) k) ?_
                                    show own_WP _ _ _ _ T69 (mkF m 324 #[.val (.int zc), .val (.int zx0), .val (.long zh), .second, .val (.long zq0), .second, .val (.long zq1), .second, .val (.long zq2), .second, .val (.int za), .val (.int zd), .val (.int zb), .val (.int zs), .val (.int zx), .val (.long zq), .second, .val (.int zm), .val (.ref zo), .val (.int (0 : Int32)), .val (.long zq1), .second] [(.int (1 : Int32))])
                                    refine own_go (fun t k => XS.goto X69.here hx rfl (pc0 := 324) (pc' := 328) rfl (hb hby at_324) (by decide) (by decide) k) ?_
                                    show own_WP _ _ _ _ T69 (mkF m 328 #[.val (.int zc), .val (.int zx0), .val (.long zh), .second, .val (.long zq0), .second, .val (.long zq1), .second, .val (.long zq2), .second, .val (.int za), .val (.int zd), .val (.int zb), .val (.int zs), .val (.int zx), .val (.long zq), .second, .val (.int zm), .val (.ref zo), .val (.int (0 : Int32)), .val (.long zq1), .second] [(.int (1 : Int32))])
                                    refine own_retN X69 hx Bd.notSynchronized (t := .boolean) (by simp) Bd.returns (hb hby at_328) (by decide) (by decide) ?_
                                    rw [eq69]
                                    exact ⟨rfl, N69⟩
                                · refine own_go (fun t k => XS.icmpYes X49.here hx rfl (pc0 := 273) (pc' := 281) rfl (hb hby at_273) rfl (feq hc273).2 (by decide) (by decide) k) ?_
                                  show own_WP _ _ _ _ T49 (mkF m 281 #[.val (.int zc), .val (.int zx0), .val (.long zh), .second, .val (.long zq0), .second, .val (.long zq1), .second, .val (.long zq2), .second, .val (.int za), .val (.int zd), .val (.int zb), .val (.int zs), .val (.int zx), .val (.long zq), .second, .val (.int zm), .val (.ref zo), .unset, .unset, .unset] [])
                                  refine own_go (fun t k => XS.lload X49.here hx rfl (hb hby at_281) rfl  k) ?_
                                  show own_WP _ _ _ _ T49 (mkF m 283 #[.val (.int zc), .val (.int zx0), .val (.long zh), .second, .val (.long zq0), .second, .val (.long zq1), .second, .val (.long zq2), .second, .val (.int za), .val (.int zd), .val (.int zb), .val (.int zs), .val (.int zx), .val (.long zq), .second, .val (.int zm), .val (.ref zo), .unset, .unset, .unset] [(.long zq2)])
                                  refine own_go (fun t k => XS.lstore X49.here hx rfl (hb hby at_283) rfl (l' := #[.val (.int zc), .val (.int zx0), .val (.long zh), .second, .val (.long zq0), .second, .val (.long zq1), .second, .val (.long zq2), .second, .val (.int za), .val (.int zd), .val (.int zb), .val (.int zs), .val (.int zx), .val (.long zq), .second, .val (.int zm), .val (.ref zo), .unset, .val (.long zq2), .second]) rfl k) ?_
                                  show own_WP _ _ _ _ T49 (mkF m 285 #[.val (.int zc), .val (.int zx0), .val (.long zh), .second, .val (.long zq0), .second, .val (.long zq1), .second, .val (.long zq2), .second, .val (.int za), .val (.int zd), .val (.int zb), .val (.int zs), .val (.int zx), .val (.long zq), .second, .val (.int zm), .val (.ref zo), .unset, .val (.long zq2), .second] [])
                                  refine own_go (fun t k => XS.iload X49.here hx rfl (hb hby at_285) rfl  k) ?_
                                  show own_WP _ _ _ _ T49 (mkF m 287 #[.val (.int zc), .val (.int zx0), .val (.long zh), .second, .val (.long zq0), .second, .val (.long zq1), .second, .val (.long zq2), .second, .val (.int za), .val (.int zd), .val (.int zb), .val (.int zs), .val (.int zx), .val (.long zq), .second, .val (.int zm), .val (.ref zo), .unset, .val (.long zq2), .second] [(.int zx)])
                                  refine own_go (fun t k => XS.iload X49.here hx rfl (hb hby at_287) rfl  k) ?_
                                  show own_WP _ _ _ _ T49 (mkF m 289 #[.val (.int zc), .val (.int zx0), .val (.long zh), .second, .val (.long zq0), .second, .val (.long zq1), .second, .val (.long zq2), .second, .val (.int za), .val (.int zd), .val (.int zb), .val (.int zs), .val (.int zx), .val (.long zq), .second, .val (.int zm), .val (.ref zo), .unset, .val (.long zq2), .second] [(.int zm), (.int zx)])
                                  refine own_go (fun t k => XS.iconst X49.here hx rfl (hb hby at_289) k) ?_
                                  show own_WP _ _ _ _ T49 (mkF m 290 #[.val (.int zc), .val (.int zx0), .val (.long zh), .second, .val (.long zq0), .second, .val (.long zq1), .second, .val (.long zq2), .second, .val (.int za), .val (.int zd), .val (.int zb), .val (.int zs), .val (.int zx), .val (.long zq), .second, .val (.int zm), .val (.ref zo), .unset, .val (.long zq2), .second] [(.int (1 : Int32)), (.int zm), (.int zx)])
                                  refine own_go (fun t k => XS.isub X49.here hx rfl (hb hby at_290) rfl k) ?_
                                  show own_WP _ _ _ _ T49 (mkF m 291 #[.val (.int zc), .val (.int zx0), .val (.long zh), .second, .val (.long zq0), .second, .val (.long zq1), .second, .val (.long zq2), .second, .val (.int za), .val (.int zd), .val (.int zb), .val (.int zs), .val (.int zx), .val (.long zq), .second, .val (.int zm), .val (.ref zo), .unset, .val (.long zq2), .second] [(.int (zm - (1 : Int32))), (.int zx)])
                                  by_cases hc291 : zx = (zm - (1 : Int32))
                                  · refine own_go (fun t k => XS.icmpNo X49.here hx rfl (hb hby at_291) rfl (teq hc291).2 k) ?_
                                    show own_WP _ _ _ _ T49 (mkF m 294 #[.val (.int zc), .val (.int zx0), .val (.long zh), .second, .val (.long zq0), .second, .val (.long zq1), .second, .val (.long zq2), .second, .val (.int za), .val (.int zd), .val (.int zb), .val (.int zs), .val (.int zx), .val (.long zq), .second, .val (.int zm), .val (.ref zo), .unset, .val (.long zq2), .second] [])
                                    refine own_go (fun t k => XS.lload X49.here hx rfl (hb hby at_294) rfl  k) ?_
                                    show own_WP _ _ _ _ T49 (mkF m 296 #[.val (.int zc), .val (.int zx0), .val (.long zh), .second, .val (.long zq0), .second, .val (.long zq1), .second, .val (.long zq2), .second, .val (.int za), .val (.int zd), .val (.int zb), .val (.int zs), .val (.int zx), .val (.long zq), .second, .val (.int zm), .val (.ref zo), .unset, .val (.long zq2), .second] [(.long zq)])
                                    refine own_go (fun t k => XS.lload X49.here hx rfl (hb hby at_296) rfl  k) ?_
                                    show own_WP _ _ _ _ T49 (mkF m 298 #[.val (.int zc), .val (.int zx0), .val (.long zh), .second, .val (.long zq0), .second, .val (.long zq1), .second, .val (.long zq2), .second, .val (.int za), .val (.int zd), .val (.int zb), .val (.int zs), .val (.int zx), .val (.long zq), .second, .val (.int zm), .val (.ref zo), .unset, .val (.long zq2), .second] [(.long zq2), (.long zq)])
                                    refine own_go (fun t k => XS.lcmp X49.here hx rfl (hb hby at_298) rfl k) ?_
                                    show own_WP _ _ _ _ T49 (mkF m 299 #[.val (.int zc), .val (.int zx0), .val (.long zh), .second, .val (.long zq0), .second, .val (.long zq1), .second, .val (.long zq2), .second, .val (.int za), .val (.int zd), .val (.int zb), .val (.int zs), .val (.int zx), .val (.long zq), .second, .val (.int zm), .val (.ref zo), .unset, .val (.long zq2), .second] [(.int (lcmpW zq zq2))])
                                    by_cases hc299 : zq = zq2
                                    · refine own_go (fun t k => XS.ifNo X49.here hx rfl (hb hby at_299) rfl ((if0 _ _).trans (teq ((lw_eq zq zq2).mpr hc299)).2) k) ?_
                                      show own_WP _ _ _ _ T49 (mkF m 302 #[.val (.int zc), .val (.int zx0), .val (.long zh), .second, .val (.long zq0), .second, .val (.long zq1), .second, .val (.long zq2), .second, .val (.int za), .val (.int zd), .val (.int zb), .val (.int zs), .val (.int zx), .val (.long zq), .second, .val (.int zm), .val (.ref zo), .unset, .val (.long zq2), .second] [])
                                      refine own_go (fun t k => XS.iconst X49.here hx rfl (hb hby at_302) k) ?_
                                      show own_WP _ _ _ _ T49 (mkF m 303 #[.val (.int zc), .val (.int zx0), .val (.long zh), .second, .val (.long zq0), .second, .val (.long zq1), .second, .val (.long zq2), .second, .val (.int za), .val (.int zd), .val (.int zb), .val (.int zs), .val (.int zx), .val (.long zq), .second, .val (.int zm), .val (.ref zo), .unset, .val (.long zq2), .second] [(.int (1 : Int32))])
                                      refine own_go (fun t k => XS.goto X49.here hx rfl (pc0 := 303) (pc' := 307) rfl (hb hby at_303) (by decide) (by decide) k) ?_
                                      show own_WP _ _ _ _ T49 (mkF m 307 #[.val (.int zc), .val (.int zx0), .val (.long zh), .second, .val (.long zq0), .second, .val (.long zq1), .second, .val (.long zq2), .second, .val (.int za), .val (.int zd), .val (.int zb), .val (.int zs), .val (.int zx), .val (.long zq), .second, .val (.int zm), .val (.ref zo), .unset, .val (.long zq2), .second] [(.int (1 : Int32))])
                                      refine own_go (fun t k => XS.istore X49.here hx rfl (hb hby at_307) rfl (l' := #[.val (.int zc), .val (.int zx0), .val (.long zh), .second, .val (.long zq0), .second, .val (.long zq1), .second, .val (.long zq2), .second, .val (.int za), .val (.int zd), .val (.int zb), .val (.int zs), .val (.int zx), .val (.long zq), .second, .val (.int zm), .val (.ref zo), .val (.int (1 : Int32)), .val (.long zq2), .second]) rfl k) ?_
                                      show own_WP _ _ _ _ T49 (mkF m 309 #[.val (.int zc), .val (.int zx0), .val (.long zh), .second, .val (.long zq0), .second, .val (.long zq1), .second, .val (.long zq2), .second, .val (.int za), .val (.int zd), .val (.int zb), .val (.int zs), .val (.int zx), .val (.long zq), .second, .val (.int zm), .val (.ref zo), .val (.int (1 : Int32)), .val (.long zq2), .second] [])
                                      refine own_go (fun t k => XS.aload X49.here hx rfl (hb hby at_309) rfl rfl  k) ?_
                                      show own_WP _ _ _ _ T49 (mkF m 311 #[.val (.int zc), .val (.int zx0), .val (.long zh), .second, .val (.long zq0), .second, .val (.long zq1), .second, .val (.long zq2), .second, .val (.int za), .val (.int zd), .val (.int zb), .val (.int zs), .val (.int zx), .val (.long zq), .second, .val (.int zm), .val (.ref zo), .val (.int (1 : Int32)), .val (.long zq2), .second] [(.ref zo)])
                                      refine own_go (fun t k => XS.iload X49.here hx rfl (hb hby at_311) rfl  k) ?_
                                      show own_WP _ _ _ _ T49 (mkF m 313 #[.val (.int zc), .val (.int zx0), .val (.long zh), .second, .val (.long zq0), .second, .val (.long zq1), .second, .val (.long zq2), .second, .val (.int za), .val (.int zd), .val (.int zb), .val (.int zs), .val (.int zx), .val (.long zq), .second, .val (.int zm), .val (.ref zo), .val (.int (1 : Int32)), .val (.long zq2), .second] [(.int zx), (.ref zo)])
                                      refine own_go (fun t k => XS.lload X49.here hx rfl (hb hby at_313) rfl  k) ?_
                                      show own_WP _ _ _ _ T49 (mkF m 315 #[.val (.int zc), .val (.int zx0), .val (.long zh), .second, .val (.long zq0), .second, .val (.long zq1), .second, .val (.long zq2), .second, .val (.int za), .val (.int zd), .val (.int zb), .val (.int zs), .val (.int zx), .val (.long zq), .second, .val (.int zm), .val (.ref zo), .val (.int (1 : Int32)), .val (.long zq2), .second] [(.long zq), (.int zx), (.ref zo)])
                                      obtain ⟨cq70, kq70, q70a, q70b, q70c⟩ := isOf hZ e49 f50
                                      obtain ⟨_, _, ⟨T70, L70, k70, n70⟩, -, X70, ⟨Lc70, hQ70, l70, y70, z70⟩, st70⟩ := X49.virtualBack hx (y := (⟨"com/example/ringspan/ringspan/symmetry/Trace", "endsWith", "(IJ)Z"⟩ : MethodName)) (z := (⟨"com/example/ringspan/ringspan/symmetry/Trace", "endsWith", "(IJ)Z"⟩ : MethodName)) hown (mvT hZ (hw _ (List.mem_of_getElem? (i := 12) rfl))) (mvT hZ (hw _ (List.mem_of_getElem? (i := 13) rfl))) (notFace_of_selects (args := #[]) (mvT hZ (hw _ (List.mem_of_getElem? (i := 15) rfl)))) (mvT hZ (hw _ (List.mem_of_getElem? (i := 15) rfl))) (mvT hZ (hw _ (List.mem_of_getElem? (i := 14) rfl))) (by decide) (backOf (W := 0) (rm3 l Z a0 hw [] zo zx zq zr zn7 zk zL7 h49 n0 (own_le Z0 K49j) f51 f52 f53 (show zL7.length = 8 from hl7) (show zx = zn7 - 1 → ¬ zx < 0 ∧ zx < 8 from own_hi hb7 (by decide) (by rw [hkey.1, ← hln]; exact hok))) hZ (hw _ (List.mem_of_getElem? (i := 16) rfl)) (hw _ (List.mem_of_getElem? (i := 2) rfl)) (by decide) (by decide)) q70a q70c (g := (mkF m 315 #[.val (.int zc), .val (.int zx0), .val (.long zh), .second, .val (.long zq0), .second, .val (.long zq1), .second, .val (.long zq2), .second, .val (.int za), .val (.int zd), .val (.int zb), .val (.int zs), .val (.int zx), .val (.long zq), .second, .val (.int zm), .val (.ref zo), .val (.int (1 : Int32)), .val (.long zq2), .second] [(.long zq), (.int zx), (.ref zo)])) rfl (by rw [hml]; rfl) (Steps.refl _) (argsL := [(.int zx), (.long zq)]) (rest := []) (lenOf own_pd48266 rfl) rfl (by show 2 * 0 + _ ≤ _; exact Nat.le_of_eq rfl) (hb hby at_315) (fun _ _ => ⟨rfl, e49, (by decide : 2 + 0 ≤ _), (by decide : 10 + 0 ≤ _)⟩)
                                      dsimp only [Pt.U, Pt.locs, Pt.cells, Pt.slots] at X70 l70 y70 z70 st70 hQ70
                                      subst l70 y70 z70
                                      obtain ⟨rfl, N70q, eq70⟩ := hQ70
                                      have N70 := Fr.app N49 N70q
                                      refine own_tr st70 ?_
                                      show own_WP _ _ _ _ T70 (mkF m 318 #[.val (.int zc), .val (.int zx0), .val (.long zh), .second, .val (.long zq0), .second, .val (.long zq1), .second, .val (.long zq2), .second, .val (.int za), .val (.int zd), .val (.int zb), .val (.int zs), .val (.int zx), .val (.long zq), .second, .val (.int zm), .val (.ref zo), .val (.int (1 : Int32)), .val (.long zq2), .second] [(.int (own_ew zn7 zL7 zx zq))])
                                      refine own_go (fun t k => XS.iload X70.here hx rfl (hb hby at_318) rfl  k) ?_
                                      show own_WP _ _ _ _ T70 (mkF m 320 #[.val (.int zc), .val (.int zx0), .val (.long zh), .second, .val (.long zq0), .second, .val (.long zq1), .second, .val (.long zq2), .second, .val (.int za), .val (.int zd), .val (.int zb), .val (.int zs), .val (.int zx), .val (.long zq), .second, .val (.int zm), .val (.ref zo), .val (.int (1 : Int32)), .val (.long zq2), .second] [(.int (1 : Int32)), (.int (own_ew zn7 zL7 zx zq))])
                                      have hc320 : (own_ew zn7 zL7 zx zq) = (1 : Int32) := by
                                        rw [hkey.2 zx zq (by rw [← hln]; exact hok), ← hln]
                                        simp [own_ee, hc216, hc227, hc262, hc273, hc291, hc299]
                                      refine own_go (fun t k => XS.icmpNo X70.here hx rfl (hb hby at_320) rfl (teq hc320).2 k) ?_
                                      show own_WP _ _ _ _ T70 (mkF m 323 #[.val (.int zc), .val (.int zx0), .val (.long zh), .second, .val (.long zq0), .second, .val (.long zq1), .second, .val (.long zq2), .second, .val (.int za), .val (.int zd), .val (.int zb), .val (.int zs), .val (.int zx), .val (.long zq), .second, .val (.int zm), .val (.ref zo), .val (.int (1 : Int32)), .val (.long zq2), .second] [])
                                      refine own_go (fun t k => XS.iconst X70.here hx rfl (hb hby at_323) k) ?_
                                      show own_WP _ _ _ _ T70 (mkF m 324 #[.val (.int zc), .val (.int zx0), .val (.long zh), .second, .val (.long zq0), .second, .val (.long zq1), .second, .val (.long zq2), .second, .val (.int za), .val (.int zd), .val (.int zb), .val (.int zs), .val (.int zx), .val (.long zq), .second, .val (.int zm), .val (.ref zo), .val (.int (1 : Int32)), .val (.long zq2), .second] [(.int (1 : Int32))])
                                      refine own_go (fun t k => XS.goto X70.here hx rfl (pc0 := 324) (pc' := 328) rfl (hb hby at_324) (by decide) (by decide) k) ?_
                                      show own_WP _ _ _ _ T70 (mkF m 328 #[.val (.int zc), .val (.int zx0), .val (.long zh), .second, .val (.long zq0), .second, .val (.long zq1), .second, .val (.long zq2), .second, .val (.int za), .val (.int zd), .val (.int zb), .val (.int zs), .val (.int zx), .val (.long zq), .second, .val (.int zm), .val (.ref zo), .val (.int (1 : Int32)), .val (.long zq2), .second] [(.int (1 : Int32))])
                                      refine own_retN X70 hx Bd.notSynchronized (t := .boolean) (by simp) Bd.returns (hb hby at_328) (by decide) (by decide) ?_
                                      rw [eq70]
                                      exact ⟨rfl, N70⟩
                                    · refine own_go (fun t k => XS.ifYes X49.here hx rfl (pc0 := 299) (pc' := 306) rfl (hb hby at_299) rfl ((if0 _ _).trans (feq (fun z => hc299 ((lw_eq zq zq2).mp z))).2) (by decide) (by decide) k) ?_
                                      show own_WP _ _ _ _ T49 (mkF m 306 #[.val (.int zc), .val (.int zx0), .val (.long zh), .second, .val (.long zq0), .second, .val (.long zq1), .second, .val (.long zq2), .second, .val (.int za), .val (.int zd), .val (.int zb), .val (.int zs), .val (.int zx), .val (.long zq), .second, .val (.int zm), .val (.ref zo), .unset, .val (.long zq2), .second] [])
                                      refine own_go (fun t k => XS.iconst X49.here hx rfl (hb hby at_306) k) ?_
                                      show own_WP _ _ _ _ T49 (mkF m 307 #[.val (.int zc), .val (.int zx0), .val (.long zh), .second, .val (.long zq0), .second, .val (.long zq1), .second, .val (.long zq2), .second, .val (.int za), .val (.int zd), .val (.int zb), .val (.int zs), .val (.int zx), .val (.long zq), .second, .val (.int zm), .val (.ref zo), .unset, .val (.long zq2), .second] [(.int (0 : Int32))])
                                      refine own_go (fun t k => XS.istore X49.here hx rfl (hb hby at_307) rfl (l' := #[.val (.int zc), .val (.int zx0), .val (.long zh), .second, .val (.long zq0), .second, .val (.long zq1), .second, .val (.long zq2), .second, .val (.int za), .val (.int zd), .val (.int zb), .val (.int zs), .val (.int zx), .val (.long zq), .second, .val (.int zm), .val (.ref zo), .val (.int (0 : Int32)), .val (.long zq2), .second]) rfl k) ?_
                                      show own_WP _ _ _ _ T49 (mkF m 309 #[.val (.int zc), .val (.int zx0), .val (.long zh), .second, .val (.long zq0), .second, .val (.long zq1), .second, .val (.long zq2), .second, .val (.int za), .val (.int zd), .val (.int zb), .val (.int zs), .val (.int zx), .val (.long zq), .second, .val (.int zm), .val (.ref zo), .val (.int (0 : Int32)), .val (.long zq2), .second] [])
                                      refine own_go (fun t k => XS.aload X49.here hx rfl (hb hby at_309) rfl rfl  k) ?_
                                      show own_WP _ _ _ _ T49 (mkF m 311 #[.val (.int zc), .val (.int zx0), .val (.long zh), .second, .val (.long zq0), .second, .val (.long zq1), .second, .val (.long zq2), .second, .val (.int za), .val (.int zd), .val (.int zb), .val (.int zs), .val (.int zx), .val (.long zq), .second, .val (.int zm), .val (.ref zo), .val (.int (0 : Int32)), .val (.long zq2), .second] [(.ref zo)])
                                      refine own_go (fun t k => XS.iload X49.here hx rfl (hb hby at_311) rfl  k) ?_
                                      show own_WP _ _ _ _ T49 (mkF m 313 #[.val (.int zc), .val (.int zx0), .val (.long zh), .second, .val (.long zq0), .second, .val (.long zq1), .second, .val (.long zq2), .second, .val (.int za), .val (.int zd), .val (.int zb), .val (.int zs), .val (.int zx), .val (.long zq), .second, .val (.int zm), .val (.ref zo), .val (.int (0 : Int32)), .val (.long zq2), .second] [(.int zx), (.ref zo)])
                                      refine own_go (fun t k => XS.lload X49.here hx rfl (hb hby at_313) rfl  k) ?_
                                      show own_WP _ _ _ _ T49 (mkF m 315 #[.val (.int zc), .val (.int zx0), .val (.long zh), .second, .val (.long zq0), .second, .val (.long zq1), .second, .val (.long zq2), .second, .val (.int za), .val (.int zd), .val (.int zb), .val (.int zs), .val (.int zx), .val (.long zq), .second, .val (.int zm), .val (.ref zo), .val (.int (0 : Int32)), .val (.long zq2), .second] [(.long zq), (.int zx), (.ref zo)])
                                      obtain ⟨cq71, kq71, q71a, q71b, q71c⟩ := isOf hZ e49 f50
                                      obtain ⟨_, _, ⟨T71, L71, k71, n71⟩, -, X71, ⟨Lc71, hQ71, l71, y71, z71⟩, st71⟩ := X49.virtualBack hx (y := (⟨"com/example/ringspan/ringspan/symmetry/Trace", "endsWith", "(IJ)Z"⟩ : MethodName)) (z := (⟨"com/example/ringspan/ringspan/symmetry/Trace", "endsWith", "(IJ)Z"⟩ : MethodName)) hown (mvT hZ (hw _ (List.mem_of_getElem? (i := 12) rfl))) (mvT hZ (hw _ (List.mem_of_getElem? (i := 13) rfl))) (notFace_of_selects (args := #[]) (mvT hZ (hw _ (List.mem_of_getElem? (i := 15) rfl)))) (mvT hZ (hw _ (List.mem_of_getElem? (i := 15) rfl))) (mvT hZ (hw _ (List.mem_of_getElem? (i := 14) rfl))) (by decide) (backOf (W := 0) (rm3 l Z a0 hw [] zo zx zq zr zn7 zk zL7 h49 n0 (own_le Z0 K49j) f51 f52 f53 (show zL7.length = 8 from hl7) (show zx = zn7 - 1 → ¬ zx < 0 ∧ zx < 8 from own_hi hb7 (by decide) (by rw [hkey.1, ← hln]; exact hok))) hZ (hw _ (List.mem_of_getElem? (i := 16) rfl)) (hw _ (List.mem_of_getElem? (i := 2) rfl)) (by decide) (by decide)) q71a q71c (g := (mkF m 315 #[.val (.int zc), .val (.int zx0), .val (.long zh), .second, .val (.long zq0), .second, .val (.long zq1), .second, .val (.long zq2), .second, .val (.int za), .val (.int zd), .val (.int zb), .val (.int zs), .val (.int zx), .val (.long zq), .second, .val (.int zm), .val (.ref zo), .val (.int (0 : Int32)), .val (.long zq2), .second] [(.long zq), (.int zx), (.ref zo)])) rfl (by rw [hml]; rfl) (Steps.refl _) (argsL := [(.int zx), (.long zq)]) (rest := []) (lenOf own_pd48266 rfl) rfl (by show 2 * 0 + _ ≤ _; exact Nat.le_of_eq rfl) (hb hby at_315) (fun _ _ => ⟨rfl, e49, (by decide : 2 + 0 ≤ _), (by decide : 10 + 0 ≤ _)⟩)
                                      dsimp only [Pt.U, Pt.locs, Pt.cells, Pt.slots] at X71 l71 y71 z71 st71 hQ71
                                      subst l71 y71 z71
                                      obtain ⟨rfl, N71q, eq71⟩ := hQ71
                                      have N71 := Fr.app N49 N71q
                                      refine own_tr st71 ?_
                                      show own_WP _ _ _ _ T71 (mkF m 318 #[.val (.int zc), .val (.int zx0), .val (.long zh), .second, .val (.long zq0), .second, .val (.long zq1), .second, .val (.long zq2), .second, .val (.int za), .val (.int zd), .val (.int zb), .val (.int zs), .val (.int zx), .val (.long zq), .second, .val (.int zm), .val (.ref zo), .val (.int (0 : Int32)), .val (.long zq2), .second] [(.int (own_ew zn7 zL7 zx zq))])
                                      refine own_go (fun t k => XS.iload X71.here hx rfl (hb hby at_318) rfl  k) ?_
                                      show own_WP _ _ _ _ T71 (mkF m 320 #[.val (.int zc), .val (.int zx0), .val (.long zh), .second, .val (.long zq0), .second, .val (.long zq1), .second, .val (.long zq2), .second, .val (.int za), .val (.int zd), .val (.int zb), .val (.int zs), .val (.int zx), .val (.long zq), .second, .val (.int zm), .val (.ref zo), .val (.int (0 : Int32)), .val (.long zq2), .second] [(.int (0 : Int32)), (.int (own_ew zn7 zL7 zx zq))])
                                      have hc320 : (own_ew zn7 zL7 zx zq) = (0 : Int32) := by
                                        rw [hkey.2 zx zq (by rw [← hln]; exact hok), ← hln]
                                        simp [own_ee, hc216, hc227, hc262, hc273, hc291, hc299]
                                      refine own_go (fun t k => XS.icmpNo X71.here hx rfl (hb hby at_320) rfl (teq hc320).2 k) ?_
                                      show own_WP _ _ _ _ T71 (mkF m 323 #[.val (.int zc), .val (.int zx0), .val (.long zh), .second, .val (.long zq0), .second, .val (.long zq1), .second, .val (.long zq2), .second, .val (.int za), .val (.int zd), .val (.int zb), .val (.int zs), .val (.int zx), .val (.long zq), .second, .val (.int zm), .val (.ref zo), .val (.int (0 : Int32)), .val (.long zq2), .second] [])
                                      refine own_go (fun t k => XS.iconst X71.here hx rfl (hb hby at_323) k) ?_
                                      show own_WP _ _ _ _ T71 (mkF m 324 #[.val (.int zc), .val (.int zx0), .val (.long zh), .second, .val (.long zq0), .second, .val (.long zq1), .second, .val (.long zq2), .second, .val (.int za), .val (.int zd), .val (.int zb), .val (.int zs), .val (.int zx), .val (.long zq), .second, .val (.int zm), .val (.ref zo), .val (.int (0 : Int32)), .val (.long zq2), .second] [(.int (1 : Int32))])
                                      refine own_go (fun t k => XS.goto X71.here hx rfl (pc0 := 324) (pc' := 328) rfl (hb hby at_324) (by decide) (by decide) k) ?_
                                      show own_WP _ _ _ _ T71 (mkF m 328 #[.val (.int zc), .val (.int zx0), .val (.long zh), .second, .val (.long zq0), .second, .val (.long zq1), .second, .val (.long zq2), .second, .val (.int za), .val (.int zd), .val (.int zb), .val (.int zs), .val (.int zx), .val (.long zq), .second, .val (.int zm), .val (.ref zo), .val (.int (0 : Int32)), .val (.long zq2), .second] [(.int (1 : Int32))])
                                      refine own_retN X71 hx Bd.notSynchronized (t := .boolean) (by simp) Bd.returns (hb hby at_328) (by decide) (by decide) ?_
                                      rw [eq71]
                                      exact ⟨rfl, N71⟩
                                  · refine own_go (fun t k => XS.icmpYes X49.here hx rfl (pc0 := 291) (pc' := 306) rfl (hb hby at_291) rfl (feq hc291).2 (by decide) (by decide) k) ?_
                                    show own_WP _ _ _ _ T49 (mkF m 306 #[.val (.int zc), .val (.int zx0), .val (.long zh), .second, .val (.long zq0), .second, .val (.long zq1), .second, .val (.long zq2), .second, .val (.int za), .val (.int zd), .val (.int zb), .val (.int zs), .val (.int zx), .val (.long zq), .second, .val (.int zm), .val (.ref zo), .unset, .val (.long zq2), .second] [])
                                    refine own_go (fun t k => XS.iconst X49.here hx rfl (hb hby at_306) k) ?_
                                    show own_WP _ _ _ _ T49 (mkF m 307 #[.val (.int zc), .val (.int zx0), .val (.long zh), .second, .val (.long zq0), .second, .val (.long zq1), .second, .val (.long zq2), .second, .val (.int za), .val (.int zd), .val (.int zb), .val (.int zs), .val (.int zx), .val (.long zq), .second, .val (.int zm), .val (.ref zo), .unset, .val (.long zq2), .second] [(.int (0 : Int32))])
                                    refine own_go (fun t k => XS.istore X49.here hx rfl (hb hby at_307) rfl (l' := #[.val (.int zc), .val (.int zx0), .val (.long zh), .second, .val (.long zq0), .second, .val (.long zq1), .second, .val (.long zq2), .second, .val (.int za), .val (.int zd), .val (.int zb), .val (.int zs), .val (.int zx), .val (.long zq), .second, .val (.int zm), .val (.ref zo), .val (.int (0 : Int32)), .val (.long zq2), .second]) rfl k) ?_
                                    show own_WP _ _ _ _ T49 (mkF m 309 #[.val (.int zc), .val (.int zx0), .val (.long zh), .second, .val (.long zq0), .second, .val (.long zq1), .second, .val (.long zq2), .second, .val (.int za), .val (.int zd), .val (.int zb), .val (.int zs), .val (.int zx), .val (.long zq), .second, .val (.int zm), .val (.ref zo), .val (.int (0 : Int32)), .val (.long zq2), .second] [])
                                    refine own_go (fun t k => XS.aload X49.here hx rfl (hb hby at_309) rfl rfl  k) ?_
                                    show own_WP _ _ _ _ T49 (mkF m 311 #[.val (.int zc), .val (.int zx0), .val (.long zh), .second, .val (.long zq0), .second, .val (.long zq1), .second, .val (.long zq2), .second, .val (.int za), .val (.int zd), .val (.int zb), .val (.int zs), .val (.int zx), .val (.long zq), .second, .val (.int zm), .val (.ref zo), .val (.int (0 : Int32)), .val (.long zq2), .second] [(.ref zo)])
                                    refine own_go (fun t k => XS.iload X49.here hx rfl (hb hby at_311) rfl  k) ?_
                                    show own_WP _ _ _ _ T49 (mkF m 313 #[.val (.int zc), .val (.int zx0), .val (.long zh), .second, .val (.long zq0), .second, .val (.long zq1), .second, .val (.long zq2), .second, .val (.int za), .val (.int zd), .val (.int zb), .val (.int zs), .val (.int zx), .val (.long zq), .second, .val (.int zm), .val (.ref zo), .val (.int (0 : Int32)), .val (.long zq2), .second] [(.int zx), (.ref zo)])
                                    refine own_go (fun t k => XS.lload X49.here hx rfl (hb hby at_313) rfl  k) ?_
                                    show own_WP _ _ _ _ T49 (mkF m 315 #[.val (.int zc), .val (.int zx0), .val (.long zh), .second, .val (.long zq0), .second, .val (.long zq1), .second, .val (.long zq2), .second, .val (.int za), .val (.int zd), .val (.int zb), .val (.int zs), .val (.int zx), .val (.long zq), .second, .val (.int zm), .val (.ref zo), .val (.int (0 : Int32)), .val (.long zq2), .second] [(.long zq), (.int zx), (.ref zo)])
                                    obtain ⟨cq72, kq72, q72a, q72b, q72c⟩ := isOf hZ e49 f50
                                    obtain ⟨_, _, ⟨T72, L72, k72, n72⟩, -, X72, ⟨Lc72, hQ72, l72, y72, z72⟩, st72⟩ := X49.virtualBack hx (y := (⟨"com/example/ringspan/ringspan/symmetry/Trace", "endsWith", "(IJ)Z"⟩ : MethodName)) (z := (⟨"com/example/ringspan/ringspan/symmetry/Trace", "endsWith", "(IJ)Z"⟩ : MethodName)) hown (mvT hZ (hw _ (List.mem_of_getElem? (i := 12) rfl))) (mvT hZ (hw _ (List.mem_of_getElem? (i := 13) rfl))) (notFace_of_selects (args := #[]) (mvT hZ (hw _ (List.mem_of_getElem? (i := 15) rfl)))) (mvT hZ (hw _ (List.mem_of_getElem? (i := 15) rfl))) (mvT hZ (hw _ (List.mem_of_getElem? (i := 14) rfl))) (by decide) (backOf (W := 0) (rm3 l Z a0 hw [] zo zx zq zr zn7 zk zL7 h49 n0 (own_le Z0 K49j) f51 f52 f53 (show zL7.length = 8 from hl7) (show zx = zn7 - 1 → ¬ zx < 0 ∧ zx < 8 from own_hi hb7 (by decide) (by rw [hkey.1, ← hln]; exact hok))) hZ (hw _ (List.mem_of_getElem? (i := 16) rfl)) (hw _ (List.mem_of_getElem? (i := 2) rfl)) (by decide) (by decide)) q72a q72c (g := (mkF m 315 #[.val (.int zc), .val (.int zx0), .val (.long zh), .second, .val (.long zq0), .second, .val (.long zq1), .second, .val (.long zq2), .second, .val (.int za), .val (.int zd), .val (.int zb), .val (.int zs), .val (.int zx), .val (.long zq), .second, .val (.int zm), .val (.ref zo), .val (.int (0 : Int32)), .val (.long zq2), .second] [(.long zq), (.int zx), (.ref zo)])) rfl (by rw [hml]; rfl) (Steps.refl _) (argsL := [(.int zx), (.long zq)]) (rest := []) (lenOf own_pd48266 rfl) rfl (by show 2 * 0 + _ ≤ _; exact Nat.le_of_eq rfl) (hb hby at_315) (fun _ _ => ⟨rfl, e49, (by decide : 2 + 0 ≤ _), (by decide : 10 + 0 ≤ _)⟩)
                                    dsimp only [Pt.U, Pt.locs, Pt.cells, Pt.slots] at X72 l72 y72 z72 st72 hQ72
                                    subst l72 y72 z72
                                    obtain ⟨rfl, N72q, eq72⟩ := hQ72
                                    have N72 := Fr.app N49 N72q
                                    refine own_tr st72 ?_
                                    show own_WP _ _ _ _ T72 (mkF m 318 #[.val (.int zc), .val (.int zx0), .val (.long zh), .second, .val (.long zq0), .second, .val (.long zq1), .second, .val (.long zq2), .second, .val (.int za), .val (.int zd), .val (.int zb), .val (.int zs), .val (.int zx), .val (.long zq), .second, .val (.int zm), .val (.ref zo), .val (.int (0 : Int32)), .val (.long zq2), .second] [(.int (own_ew zn7 zL7 zx zq))])
                                    refine own_go (fun t k => XS.iload X72.here hx rfl (hb hby at_318) rfl  k) ?_
                                    show own_WP _ _ _ _ T72 (mkF m 320 #[.val (.int zc), .val (.int zx0), .val (.long zh), .second, .val (.long zq0), .second, .val (.long zq1), .second, .val (.long zq2), .second, .val (.int za), .val (.int zd), .val (.int zb), .val (.int zs), .val (.int zx), .val (.long zq), .second, .val (.int zm), .val (.ref zo), .val (.int (0 : Int32)), .val (.long zq2), .second] [(.int (0 : Int32)), (.int (own_ew zn7 zL7 zx zq))])
                                    have hc320 : (own_ew zn7 zL7 zx zq) = (0 : Int32) := by
                                      rw [hkey.2 zx zq (by rw [← hln]; exact hok), ← hln]
                                      simp [own_ee, hc216, hc227, hc262, hc273, hc291]
                                    refine own_go (fun t k => XS.icmpNo X72.here hx rfl (hb hby at_320) rfl (teq hc320).2 k) ?_
                                    show own_WP _ _ _ _ T72 (mkF m 323 #[.val (.int zc), .val (.int zx0), .val (.long zh), .second, .val (.long zq0), .second, .val (.long zq1), .second, .val (.long zq2), .second, .val (.int za), .val (.int zd), .val (.int zb), .val (.int zs), .val (.int zx), .val (.long zq), .second, .val (.int zm), .val (.ref zo), .val (.int (0 : Int32)), .val (.long zq2), .second] [])
                                    refine own_go (fun t k => XS.iconst X72.here hx rfl (hb hby at_323) k) ?_
                                    show own_WP _ _ _ _ T72 (mkF m 324 #[.val (.int zc), .val (.int zx0), .val (.long zh), .second, .val (.long zq0), .second, .val (.long zq1), .second, .val (.long zq2), .second, .val (.int za), .val (.int zd), .val (.int zb), .val (.int zs), .val (.int zx), .val (.long zq), .second, .val (.int zm), .val (.ref zo), .val (.int (0 : Int32)), .val (.long zq2), .second] [(.int (1 : Int32))])
                                    refine own_go (fun t k => XS.goto X72.here hx rfl (pc0 := 324) (pc' := 328) rfl (hb hby at_324) (by decide) (by decide) k) ?_
                                    show own_WP _ _ _ _ T72 (mkF m 328 #[.val (.int zc), .val (.int zx0), .val (.long zh), .second, .val (.long zq0), .second, .val (.long zq1), .second, .val (.long zq2), .second, .val (.int za), .val (.int zd), .val (.int zb), .val (.int zs), .val (.int zx), .val (.long zq), .second, .val (.int zm), .val (.ref zo), .val (.int (0 : Int32)), .val (.long zq2), .second] [(.int (1 : Int32))])
                                    refine own_retN X72 hx Bd.notSynchronized (t := .boolean) (by simp) Bd.returns (hb hby at_328) (by decide) (by decide) ?_
                                    rw [eq72]
                                    exact ⟨rfl, N72⟩
                        show own_WP _ _ _ _ T44 (mkF m 201 #[.val (.int zc), .val (.int zx0), .val (.long zh), .second, .val (.long zq0), .second, .val (.long zq1), .second, .val (.long zq2), .second, .val (.int za), .val (.int zd), .val (.int zb), .val (.int zs), .val (.int zx), .val (.long zq), .second, .val (.int zm), .val (.ref zo), .unset, .unset, .unset] [])
                        refine own_go (fun t k => XS.iload X44.here hx rfl (hb hby at_201) rfl  k) ?_
                        show own_WP _ _ _ _ T44 (mkF m 203 #[.val (.int zc), .val (.int zx0), .val (.long zh), .second, .val (.long zq0), .second, .val (.long zq1), .second, .val (.long zq2), .second, .val (.int za), .val (.int zd), .val (.int zb), .val (.int zs), .val (.int zx), .val (.long zq), .second, .val (.int zm), .val (.ref zo), .unset, .unset, .unset] [(.int zb)])
                        refine own_go (fun t k => XS.iconst X44.here hx rfl (hb hby at_203) k) ?_
                        show own_WP _ _ _ _ T44 (mkF m 204 #[.val (.int zc), .val (.int zx0), .val (.long zh), .second, .val (.long zq0), .second, .val (.long zq1), .second, .val (.long zq2), .second, .val (.int za), .val (.int zd), .val (.int zb), .val (.int zs), .val (.int zx), .val (.long zq), .second, .val (.int zm), .val (.ref zo), .unset, .unset, .unset] [(.int (2 : Int32)), (.int zb)])
                        by_cases hc204 : (2 : Int32) < zb
                        · refine own_go (fun t k => XS.icmpNo X44.here hx rfl (hb hby at_204) rfl (tlt hc204).2.2.2 k) ?_
                          show own_WP _ _ _ _ T44 (mkF m 207 #[.val (.int zc), .val (.int zx0), .val (.long zh), .second, .val (.long zq0), .second, .val (.long zq1), .second, .val (.long zq2), .second, .val (.int za), .val (.int zd), .val (.int zb), .val (.int zs), .val (.int zx), .val (.long zq), .second, .val (.int zm), .val (.ref zo), .unset, .unset, .unset] [])
                          refine own_go (fun t k => XS.aload X44.here hx rfl (hb hby at_207) rfl rfl  k) ?_
                          show own_WP _ _ _ _ T44 (mkF m 209 #[.val (.int zc), .val (.int zx0), .val (.long zh), .second, .val (.long zq0), .second, .val (.long zq1), .second, .val (.long zq2), .second, .val (.int za), .val (.int zd), .val (.int zb), .val (.int zs), .val (.int zx), .val (.long zq), .second, .val (.int zm), .val (.ref zo), .unset, .unset, .unset] [(.ref zo)])
                          refine own_go (fun t k => XS.lload X44.here hx rfl (hb hby at_209) rfl  k) ?_
                          show own_WP _ _ _ _ T44 (mkF m 211 #[.val (.int zc), .val (.int zx0), .val (.long zh), .second, .val (.long zq0), .second, .val (.long zq1), .second, .val (.long zq2), .second, .val (.int za), .val (.int zd), .val (.int zb), .val (.int zs), .val (.int zx), .val (.long zq), .second, .val (.int zm), .val (.ref zo), .unset, .unset, .unset] [(.long zq1), (.ref zo)])
                          obtain ⟨cq73, kq73, q73a, q73b, q73c⟩ := isOf hZ e44 f45
                          obtain ⟨_, _, ⟨T73, L73, k73, n73⟩, -, X73, ⟨Lc73, hQ73, l73, y73, z73⟩, st73⟩ := X44.virtualBack hx (y := (⟨"com/example/ringspan/ringspan/symmetry/Trace", "add", "(J)V"⟩ : MethodName)) (z := (⟨"com/example/ringspan/ringspan/symmetry/Trace", "add", "(J)V"⟩ : MethodName)) hown (mvT hZ (hw _ (List.mem_of_getElem? (i := 19) rfl))) (mvT hZ (hw _ (List.mem_of_getElem? (i := 20) rfl))) (notFace_of_selects (args := #[]) (mvT hZ (hw _ (List.mem_of_getElem? (i := 22) rfl)))) (mvT hZ (hw _ (List.mem_of_getElem? (i := 22) rfl))) (mvT hZ (hw _ (List.mem_of_getElem? (i := 21) rfl))) (by decide) (backOf (W := 0) (rm4 l Z a0 hw [] zo zq1 zr zn6 zk zL6 h44 n0 (own_le Z0 K44j) f45 f46 f47 f48 g_zo g_zr ne_zo_zr (show ¬ zn6 < 0 from own_b0 hb6) (show zn6 < 8 from own_b8 hb6 (by decide)) (show zL6.length = 8 from hl6)) hZ (hw _ (List.mem_of_getElem? (i := 23) rfl)) (hw _ (List.mem_of_getElem? (i := 2) rfl)) (by decide) (by decide)) q73a q73c (g := (mkF m 211 #[.val (.int zc), .val (.int zx0), .val (.long zh), .second, .val (.long zq0), .second, .val (.long zq1), .second, .val (.long zq2), .second, .val (.int za), .val (.int zd), .val (.int zb), .val (.int zs), .val (.int zx), .val (.long zq), .second, .val (.int zm), .val (.ref zo), .unset, .unset, .unset] [(.long zq1), (.ref zo)])) rfl (by rw [hml]; rfl) (Steps.refl _) (argsL := [(.long zq1)]) (rest := []) (lenOf own_pd99011 rfl) rfl (by show 2 * 0 + _ ≤ _; exact Nat.le_of_eq rfl) (hb hby at_211) (fun _ _ => ⟨rfl, e44, (by decide : 2 + 0 ≤ _), (by decide : 10 + 0 ≤ _)⟩)
                          dsimp only [Pt.U, Pt.locs, Pt.cells, Pt.slots] at X73 l73 y73 z73 st73 hQ73
                          subst l73 y73 z73
                          obtain ⟨rfl, N73q, Kc73, f74, f75, f76, f77⟩ := hQ73
                          have N73 := Fr.app N44 N73q
                          refine own_tr st73 ?_
                          have f78 : Exa Z T73.heap zo "com/example/ringspan/ringspan/symmetry/Trace" := f45.keep Kc73
                          have K82 : Keep h0 T73.heap [] := K44j.trans Kc73 (fun x hx => by simp only [List.mem_cons, List.not_mem_nil, or_false] at hx; rcases hx with rfl | rfl <;> first | exact Or.inr sz_zo | exact Or.inr sz_zr)
                          show own_WP _ _ _ _ T73 (mkF m 214 #[.val (.int zc), .val (.int zx0), .val (.long zh), .second, .val (.long zq0), .second, .val (.long zq1), .second, .val (.long zq2), .second, .val (.int za), .val (.int zd), .val (.int zb), .val (.int zs), .val (.int zx), .val (.long zq), .second, .val (.int zm), .val (.ref zo), .unset, .unset, .unset] [])
                          exact J214 ((zn6 + (1 : Int32))) (zL6.set zn6.toNatClampNeg zq1) _ _ _ X73 rfl N73 K82 f74 f75 f76 f77 (by rw [own_s7, ← hs6]; exact (if_pos hc204).symm) (own_up hb6 (by decide)) (by rw [List.length_set]; exact hl6)
                        · refine own_go (fun t k => XS.icmpYes X44.here hx rfl (pc0 := 204) (pc' := 214) rfl (hb hby at_204) rfl (flt hc204).2.2.2 (by decide) (by decide) k) ?_
                          show own_WP _ _ _ _ T44 (mkF m 214 #[.val (.int zc), .val (.int zx0), .val (.long zh), .second, .val (.long zq0), .second, .val (.long zq1), .second, .val (.long zq2), .second, .val (.int za), .val (.int zd), .val (.int zb), .val (.int zs), .val (.int zx), .val (.long zq), .second, .val (.int zm), .val (.ref zo), .unset, .unset, .unset] [])
                          exact J214 zn6 zL6 _ _ _ X44 e44 N44 K44j f45 f46 f47 f48 (by rw [own_s7, ← hs6]; exact (if_neg hc204).symm) (⟨hb6.1, by have q := hb6.2; omega⟩) (hl6)
                      show own_WP _ _ _ _ T39 (mkF m 188 #[.val (.int zc), .val (.int zx0), .val (.long zh), .second, .val (.long zq0), .second, .val (.long zq1), .second, .val (.long zq2), .second, .val (.int za), .val (.int zd), .val (.int zb), .val (.int zs), .val (.int zx), .val (.long zq), .second, .val (.int zm), .val (.ref zo), .unset, .unset, .unset] [])
                      refine own_go (fun t k => XS.iload X39.here hx rfl (hb hby at_188) rfl  k) ?_
                      show own_WP _ _ _ _ T39 (mkF m 190 #[.val (.int zc), .val (.int zx0), .val (.long zh), .second, .val (.long zq0), .second, .val (.long zq1), .second, .val (.long zq2), .second, .val (.int za), .val (.int zd), .val (.int zb), .val (.int zs), .val (.int zx), .val (.long zq), .second, .val (.int zm), .val (.ref zo), .unset, .unset, .unset] [(.int zb)])
                      refine own_go (fun t k => XS.iconst X39.here hx rfl (hb hby at_190) k) ?_
                      show own_WP _ _ _ _ T39 (mkF m 191 #[.val (.int zc), .val (.int zx0), .val (.long zh), .second, .val (.long zq0), .second, .val (.long zq1), .second, .val (.long zq2), .second, .val (.int za), .val (.int zd), .val (.int zb), .val (.int zs), .val (.int zx), .val (.long zq), .second, .val (.int zm), .val (.ref zo), .unset, .unset, .unset] [(.int (1 : Int32)), (.int zb)])
                      by_cases hc191 : (1 : Int32) < zb
                      · refine own_go (fun t k => XS.icmpNo X39.here hx rfl (hb hby at_191) rfl (tlt hc191).2.2.2 k) ?_
                        show own_WP _ _ _ _ T39 (mkF m 194 #[.val (.int zc), .val (.int zx0), .val (.long zh), .second, .val (.long zq0), .second, .val (.long zq1), .second, .val (.long zq2), .second, .val (.int za), .val (.int zd), .val (.int zb), .val (.int zs), .val (.int zx), .val (.long zq), .second, .val (.int zm), .val (.ref zo), .unset, .unset, .unset] [])
                        refine own_go (fun t k => XS.aload X39.here hx rfl (hb hby at_194) rfl rfl  k) ?_
                        show own_WP _ _ _ _ T39 (mkF m 196 #[.val (.int zc), .val (.int zx0), .val (.long zh), .second, .val (.long zq0), .second, .val (.long zq1), .second, .val (.long zq2), .second, .val (.int za), .val (.int zd), .val (.int zb), .val (.int zs), .val (.int zx), .val (.long zq), .second, .val (.int zm), .val (.ref zo), .unset, .unset, .unset] [(.ref zo)])
                        refine own_go (fun t k => XS.lload X39.here hx rfl (hb hby at_196) rfl  k) ?_
                        show own_WP _ _ _ _ T39 (mkF m 198 #[.val (.int zc), .val (.int zx0), .val (.long zh), .second, .val (.long zq0), .second, .val (.long zq1), .second, .val (.long zq2), .second, .val (.int za), .val (.int zd), .val (.int zb), .val (.int zs), .val (.int zx), .val (.long zq), .second, .val (.int zm), .val (.ref zo), .unset, .unset, .unset] [(.long zq0), (.ref zo)])
                        obtain ⟨cq83, kq83, q83a, q83b, q83c⟩ := isOf hZ e39 f40
                        obtain ⟨_, _, ⟨T83, L83, k83, n83⟩, -, X83, ⟨Lc83, hQ83, l83, y83, z83⟩, st83⟩ := X39.virtualBack hx (y := (⟨"com/example/ringspan/ringspan/symmetry/Trace", "add", "(J)V"⟩ : MethodName)) (z := (⟨"com/example/ringspan/ringspan/symmetry/Trace", "add", "(J)V"⟩ : MethodName)) hown (mvT hZ (hw _ (List.mem_of_getElem? (i := 19) rfl))) (mvT hZ (hw _ (List.mem_of_getElem? (i := 20) rfl))) (notFace_of_selects (args := #[]) (mvT hZ (hw _ (List.mem_of_getElem? (i := 22) rfl)))) (mvT hZ (hw _ (List.mem_of_getElem? (i := 22) rfl))) (mvT hZ (hw _ (List.mem_of_getElem? (i := 21) rfl))) (by decide) (backOf (W := 0) (rm4 l Z a0 hw [] zo zq0 zr zn5 zk zL5 h39 n0 (own_le Z0 K39j) f40 f41 f42 f43 g_zo g_zr ne_zo_zr (show ¬ zn5 < 0 from own_b0 hb5) (show zn5 < 8 from own_b8 hb5 (by decide)) (show zL5.length = 8 from hl5)) hZ (hw _ (List.mem_of_getElem? (i := 23) rfl)) (hw _ (List.mem_of_getElem? (i := 2) rfl)) (by decide) (by decide)) q83a q83c (g := (mkF m 198 #[.val (.int zc), .val (.int zx0), .val (.long zh), .second, .val (.long zq0), .second, .val (.long zq1), .second, .val (.long zq2), .second, .val (.int za), .val (.int zd), .val (.int zb), .val (.int zs), .val (.int zx), .val (.long zq), .second, .val (.int zm), .val (.ref zo), .unset, .unset, .unset] [(.long zq0), (.ref zo)])) rfl (by rw [hml]; rfl) (Steps.refl _) (argsL := [(.long zq0)]) (rest := []) (lenOf own_pd99011 rfl) rfl (by show 2 * 0 + _ ≤ _; exact Nat.le_of_eq rfl) (hb hby at_198) (fun _ _ => ⟨rfl, e39, (by decide : 2 + 0 ≤ _), (by decide : 10 + 0 ≤ _)⟩)
                        dsimp only [Pt.U, Pt.locs, Pt.cells, Pt.slots] at X83 l83 y83 z83 st83 hQ83
                        subst l83 y83 z83
                        obtain ⟨rfl, N83q, Kc83, f84, f85, f86, f87⟩ := hQ83
                        have N83 := Fr.app N39 N83q
                        refine own_tr st83 ?_
                        have f88 : Exa Z T83.heap zo "com/example/ringspan/ringspan/symmetry/Trace" := f40.keep Kc83
                        have K92 : Keep h0 T83.heap [] := K39j.trans Kc83 (fun x hx => by simp only [List.mem_cons, List.not_mem_nil, or_false] at hx; rcases hx with rfl | rfl <;> first | exact Or.inr sz_zo | exact Or.inr sz_zr)
                        show own_WP _ _ _ _ T83 (mkF m 201 #[.val (.int zc), .val (.int zx0), .val (.long zh), .second, .val (.long zq0), .second, .val (.long zq1), .second, .val (.long zq2), .second, .val (.int za), .val (.int zd), .val (.int zb), .val (.int zs), .val (.int zx), .val (.long zq), .second, .val (.int zm), .val (.ref zo), .unset, .unset, .unset] [])
                        exact J201 ((zn5 + (1 : Int32))) (zL5.set zn5.toNatClampNeg zq0) _ _ _ X83 rfl N83 K92 f84 f85 f86 f87 (by rw [own_s6, ← hs5]; exact (if_pos hc191).symm) (own_up hb5 (by decide)) (by rw [List.length_set]; exact hl5)
                      · refine own_go (fun t k => XS.icmpYes X39.here hx rfl (pc0 := 191) (pc' := 201) rfl (hb hby at_191) rfl (flt hc191).2.2.2 (by decide) (by decide) k) ?_
                        show own_WP _ _ _ _ T39 (mkF m 201 #[.val (.int zc), .val (.int zx0), .val (.long zh), .second, .val (.long zq0), .second, .val (.long zq1), .second, .val (.long zq2), .second, .val (.int za), .val (.int zd), .val (.int zb), .val (.int zs), .val (.int zx), .val (.long zq), .second, .val (.int zm), .val (.ref zo), .unset, .unset, .unset] [])
                        exact J201 zn5 zL5 _ _ _ X39 e39 N39 K39j f40 f41 f42 f43 (by rw [own_s6, ← hs5]; exact (if_neg hc191).symm) (⟨hb5.1, by have q := hb5.2; omega⟩) (hl5)
                    show own_WP _ _ _ _ T34 (mkF m 176 #[.val (.int zc), .val (.int zx0), .val (.long zh), .second, .val (.long zq0), .second, .val (.long zq1), .second, .val (.long zq2), .second, .val (.int za), .val (.int zd), .val (.int zb), .val (.int zs), .val (.int zx), .val (.long zq), .second, .val (.int zm), .val (.ref zo), .unset, .unset, .unset] [])
                    refine own_go (fun t k => XS.iload X34.here hx rfl (hb hby at_176) rfl  k) ?_
                    show own_WP _ _ _ _ T34 (mkF m 178 #[.val (.int zc), .val (.int zx0), .val (.long zh), .second, .val (.long zq0), .second, .val (.long zq1), .second, .val (.long zq2), .second, .val (.int za), .val (.int zd), .val (.int zb), .val (.int zs), .val (.int zx), .val (.long zq), .second, .val (.int zm), .val (.ref zo), .unset, .unset, .unset] [(.int zb)])
                    by_cases hc178 : (0 : Int32) < zb
                    · refine own_go (fun t k => XS.ifNo X34.here hx rfl (hb hby at_178) rfl ((if0 _ _).trans (tlt hc178).2.2.2) k) ?_
                      show own_WP _ _ _ _ T34 (mkF m 181 #[.val (.int zc), .val (.int zx0), .val (.long zh), .second, .val (.long zq0), .second, .val (.long zq1), .second, .val (.long zq2), .second, .val (.int za), .val (.int zd), .val (.int zb), .val (.int zs), .val (.int zx), .val (.long zq), .second, .val (.int zm), .val (.ref zo), .unset, .unset, .unset] [])
                      refine own_go (fun t k => XS.aload X34.here hx rfl (hb hby at_181) rfl rfl  k) ?_
                      show own_WP _ _ _ _ T34 (mkF m 183 #[.val (.int zc), .val (.int zx0), .val (.long zh), .second, .val (.long zq0), .second, .val (.long zq1), .second, .val (.long zq2), .second, .val (.int za), .val (.int zd), .val (.int zb), .val (.int zs), .val (.int zx), .val (.long zq), .second, .val (.int zm), .val (.ref zo), .unset, .unset, .unset] [(.ref zo)])
                      refine own_go (fun t k => XS.lload X34.here hx rfl (hb hby at_183) rfl  k) ?_
                      show own_WP _ _ _ _ T34 (mkF m 185 #[.val (.int zc), .val (.int zx0), .val (.long zh), .second, .val (.long zq0), .second, .val (.long zq1), .second, .val (.long zq2), .second, .val (.int za), .val (.int zd), .val (.int zb), .val (.int zs), .val (.int zx), .val (.long zq), .second, .val (.int zm), .val (.ref zo), .unset, .unset, .unset] [(.long zq2), (.ref zo)])
                      obtain ⟨cq93, kq93, q93a, q93b, q93c⟩ := isOf hZ e34 f35
                      obtain ⟨_, _, ⟨T93, L93, k93, n93⟩, -, X93, ⟨Lc93, hQ93, l93, y93, z93⟩, st93⟩ := X34.virtualBack hx (y := (⟨"com/example/ringspan/ringspan/symmetry/Trace", "add", "(J)V"⟩ : MethodName)) (z := (⟨"com/example/ringspan/ringspan/symmetry/Trace", "add", "(J)V"⟩ : MethodName)) hown (mvT hZ (hw _ (List.mem_of_getElem? (i := 19) rfl))) (mvT hZ (hw _ (List.mem_of_getElem? (i := 20) rfl))) (notFace_of_selects (args := #[]) (mvT hZ (hw _ (List.mem_of_getElem? (i := 22) rfl)))) (mvT hZ (hw _ (List.mem_of_getElem? (i := 22) rfl))) (mvT hZ (hw _ (List.mem_of_getElem? (i := 21) rfl))) (by decide) (backOf (W := 0) (rm4 l Z a0 hw [] zo zq2 zr zn4 zk zL4 h34 n0 (own_le Z0 K34j) f35 f36 f37 f38 g_zo g_zr ne_zo_zr (show ¬ zn4 < 0 from own_b0 hb4) (show zn4 < 8 from own_b8 hb4 (by decide)) (show zL4.length = 8 from hl4)) hZ (hw _ (List.mem_of_getElem? (i := 23) rfl)) (hw _ (List.mem_of_getElem? (i := 2) rfl)) (by decide) (by decide)) q93a q93c (g := (mkF m 185 #[.val (.int zc), .val (.int zx0), .val (.long zh), .second, .val (.long zq0), .second, .val (.long zq1), .second, .val (.long zq2), .second, .val (.int za), .val (.int zd), .val (.int zb), .val (.int zs), .val (.int zx), .val (.long zq), .second, .val (.int zm), .val (.ref zo), .unset, .unset, .unset] [(.long zq2), (.ref zo)])) rfl (by rw [hml]; rfl) (Steps.refl _) (argsL := [(.long zq2)]) (rest := []) (lenOf own_pd99011 rfl) rfl (by show 2 * 0 + _ ≤ _; exact Nat.le_of_eq rfl) (hb hby at_185) (fun _ _ => ⟨rfl, e34, (by decide : 2 + 0 ≤ _), (by decide : 10 + 0 ≤ _)⟩)
                      dsimp only [Pt.U, Pt.locs, Pt.cells, Pt.slots] at X93 l93 y93 z93 st93 hQ93
                      subst l93 y93 z93
                      obtain ⟨rfl, N93q, Kc93, f94, f95, f96, f97⟩ := hQ93
                      have N93 := Fr.app N34 N93q
                      refine own_tr st93 ?_
                      have f98 : Exa Z T93.heap zo "com/example/ringspan/ringspan/symmetry/Trace" := f35.keep Kc93
                      have K102 : Keep h0 T93.heap [] := K34j.trans Kc93 (fun x hx => by simp only [List.mem_cons, List.not_mem_nil, or_false] at hx; rcases hx with rfl | rfl <;> first | exact Or.inr sz_zo | exact Or.inr sz_zr)
                      show own_WP _ _ _ _ T93 (mkF m 188 #[.val (.int zc), .val (.int zx0), .val (.long zh), .second, .val (.long zq0), .second, .val (.long zq1), .second, .val (.long zq2), .second, .val (.int za), .val (.int zd), .val (.int zb), .val (.int zs), .val (.int zx), .val (.long zq), .second, .val (.int zm), .val (.ref zo), .unset, .unset, .unset] [])
                      exact J188 ((zn4 + (1 : Int32))) (zL4.set zn4.toNatClampNeg zq2) _ _ _ X93 rfl N93 K102 f94 f95 f96 f97 (by rw [own_s5, ← hs4]; exact (if_pos hc178).symm) (own_up hb4 (by decide)) (by rw [List.length_set]; exact hl4)
                    · refine own_go (fun t k => XS.ifYes X34.here hx rfl (pc0 := 178) (pc' := 188) rfl (hb hby at_178) rfl ((if0 _ _).trans (flt hc178).2.2.2) (by decide) (by decide) k) ?_
                      show own_WP _ _ _ _ T34 (mkF m 188 #[.val (.int zc), .val (.int zx0), .val (.long zh), .second, .val (.long zq0), .second, .val (.long zq1), .second, .val (.long zq2), .second, .val (.int za), .val (.int zd), .val (.int zb), .val (.int zs), .val (.int zx), .val (.long zq), .second, .val (.int zm), .val (.ref zo), .unset, .unset, .unset] [])
                      exact J188 zn4 zL4 _ _ _ X34 e34 N34 K34j f35 f36 f37 f38 (by rw [own_s5, ← hs4]; exact (if_neg hc178).symm) (⟨hb4.1, by have q := hb4.2; omega⟩) (hl4)
                  show own_WP _ _ _ _ T29 (mkF m 166 #[.val (.int zc), .val (.int zx0), .val (.long zh), .second, .val (.long zq0), .second, .val (.long zq1), .second, .val (.long zq2), .second, .val (.int za), .val (.int zd), .val (.int zb), .val (.int zs), .val (.int zx), .val (.long zq), .second, .val (.int zm), .val (.ref zo), .unset, .unset, .unset] [])
                  refine own_go (fun t k => XS.iload X29.here hx rfl (hb hby at_166) rfl  k) ?_
                  show own_WP _ _ _ _ T29 (mkF m 168 #[.val (.int zc), .val (.int zx0), .val (.long zh), .second, .val (.long zq0), .second, .val (.long zq1), .second, .val (.long zq2), .second, .val (.int za), .val (.int zd), .val (.int zb), .val (.int zs), .val (.int zx), .val (.long zq), .second, .val (.int zm), .val (.ref zo), .unset, .unset, .unset] [(.int zd)])
                  by_cases hc168 : zd = (0 : Int32)
                  · refine own_go (fun t k => XS.ifYes X29.here hx rfl (pc0 := 168) (pc' := 176) rfl (hb hby at_168) rfl ((if0 _ _).trans (teq hc168).1) (by decide) (by decide) k) ?_
                    show own_WP _ _ _ _ T29 (mkF m 176 #[.val (.int zc), .val (.int zx0), .val (.long zh), .second, .val (.long zq0), .second, .val (.long zq1), .second, .val (.long zq2), .second, .val (.int za), .val (.int zd), .val (.int zb), .val (.int zs), .val (.int zx), .val (.long zq), .second, .val (.int zm), .val (.ref zo), .unset, .unset, .unset] [])
                    exact J176 zn3 zL3 _ _ _ X29 e29 N29 K29j f30 f31 f32 f33 (by rw [own_s4, ← hs3]; exact (if_pos hc168).symm) (⟨hb3.1, by have q := hb3.2; omega⟩) (hl3)
                  · refine own_go (fun t k => XS.ifNo X29.here hx rfl (hb hby at_168) rfl ((if0 _ _).trans (feq hc168).1) k) ?_
                    show own_WP _ _ _ _ T29 (mkF m 171 #[.val (.int zc), .val (.int zx0), .val (.long zh), .second, .val (.long zq0), .second, .val (.long zq1), .second, .val (.long zq2), .second, .val (.int za), .val (.int zd), .val (.int zb), .val (.int zs), .val (.int zx), .val (.long zq), .second, .val (.int zm), .val (.ref zo), .unset, .unset, .unset] [])
                    refine own_go (fun t k => XS.aload X29.here hx rfl (hb hby at_171) rfl rfl  k) ?_
                    show own_WP _ _ _ _ T29 (mkF m 173 #[.val (.int zc), .val (.int zx0), .val (.long zh), .second, .val (.long zq0), .second, .val (.long zq1), .second, .val (.long zq2), .second, .val (.int za), .val (.int zd), .val (.int zb), .val (.int zs), .val (.int zx), .val (.long zq), .second, .val (.int zm), .val (.ref zo), .unset, .unset, .unset] [(.ref zo)])
                    obtain ⟨cq103, kq103, q103a, q103b, q103c⟩ := isOf hZ e29 f30
                    obtain ⟨_, _, ⟨T103, L103, k103, n103⟩, -, X103, ⟨Lc103, hQ103, l103, y103, z103⟩, st103⟩ := X29.virtualBack hx (y := (⟨"com/example/ringspan/ringspan/symmetry/Trace", "clear", "()V"⟩ : MethodName)) (z := (⟨"com/example/ringspan/ringspan/symmetry/Trace", "clear", "()V"⟩ : MethodName)) hown (mvT hZ (hw _ (List.mem_of_getElem? (i := 24) rfl))) (mvT hZ (hw _ (List.mem_of_getElem? (i := 25) rfl))) (notFace_of_selects (args := #[]) (mvT hZ (hw _ (List.mem_of_getElem? (i := 27) rfl)))) (mvT hZ (hw _ (List.mem_of_getElem? (i := 27) rfl))) (mvT hZ (hw _ (List.mem_of_getElem? (i := 26) rfl))) (by decide) (backOf (W := 0) (rm5 l Z a0 hw [] zo zr (.int zn3) h29 n0 (own_le Z0 K29j) f30 f31 f32 g_zo) hZ (hw _ (List.mem_of_getElem? (i := 28) rfl)) (hw _ (List.mem_of_getElem? (i := 2) rfl)) (by decide) (by decide)) q103a q103c (g := (mkF m 173 #[.val (.int zc), .val (.int zx0), .val (.long zh), .second, .val (.long zq0), .second, .val (.long zq1), .second, .val (.long zq2), .second, .val (.int za), .val (.int zd), .val (.int zb), .val (.int zs), .val (.int zx), .val (.long zq), .second, .val (.int zm), .val (.ref zo), .unset, .unset, .unset] [(.ref zo)])) rfl (by rw [hml]; rfl) (Steps.refl _) (argsL := []) (rest := []) (lenOf own_pd91897 rfl) rfl (by show 2 * 0 + _ ≤ _; exact Nat.le_of_eq rfl) (hb hby at_173) (fun _ _ => ⟨rfl, e29, (by decide : 2 + 0 ≤ _), (by decide : 10 + 0 ≤ _)⟩)
                    dsimp only [Pt.U, Pt.locs, Pt.cells, Pt.slots] at X103 l103 y103 z103 st103 hQ103
                    subst l103 y103 z103
                    obtain ⟨rfl, N103q, Kc103, f104, f105, f106⟩ := hQ103
                    have N103 := Fr.app N29 N103q
                    refine own_tr st103 ?_
                    have f107 : Exa Z T103.heap zo "com/example/ringspan/ringspan/symmetry/Trace" := f30.keep Kc103
                    have f110 : Arv Z T103.heap zr zk .long (8 : Int32) (List.map Value.long zL3) (.long (0 : Int64)) := f33.keep Kc103 (own_nm (Ne.symm ne_zo_zr))
                    have K111 : Keep h0 T103.heap [] := K29j.trans Kc103 (fun x hx => by cases List.mem_singleton.mp hx; exact Or.inr sz_zo)
                    show own_WP _ _ _ _ T103 (mkF m 176 #[.val (.int zc), .val (.int zx0), .val (.long zh), .second, .val (.long zq0), .second, .val (.long zq1), .second, .val (.long zq2), .second, .val (.int za), .val (.int zd), .val (.int zb), .val (.int zs), .val (.int zx), .val (.long zq), .second, .val (.int zm), .val (.ref zo), .unset, .unset, .unset] [])
                    exact J176 (0 : Int32) zL3 _ _ _ X103 rfl N103 K111 f104 f105 f106 f110 (by rw [own_s4, ← hs3]; exact (if_neg hc168).symm) (by decide) (hl3)
                show own_WP _ _ _ _ T24 (mkF m 153 #[.val (.int zc), .val (.int zx0), .val (.long zh), .second, .val (.long zq0), .second, .val (.long zq1), .second, .val (.long zq2), .second, .val (.int za), .val (.int zd), .val (.int zb), .val (.int zs), .val (.int zx), .val (.long zq), .second, .val (.int zm), .val (.ref zo), .unset, .unset, .unset] [])
                refine own_go (fun t k => XS.iload X24.here hx rfl (hb hby at_153) rfl  k) ?_
                show own_WP _ _ _ _ T24 (mkF m 155 #[.val (.int zc), .val (.int zx0), .val (.long zh), .second, .val (.long zq0), .second, .val (.long zq1), .second, .val (.long zq2), .second, .val (.int za), .val (.int zd), .val (.int zb), .val (.int zs), .val (.int zx), .val (.long zq), .second, .val (.int zm), .val (.ref zo), .unset, .unset, .unset] [(.int za)])
                refine own_go (fun t k => XS.iconst X24.here hx rfl (hb hby at_155) k) ?_
                show own_WP _ _ _ _ T24 (mkF m 156 #[.val (.int zc), .val (.int zx0), .val (.long zh), .second, .val (.long zq0), .second, .val (.long zq1), .second, .val (.long zq2), .second, .val (.int za), .val (.int zd), .val (.int zb), .val (.int zs), .val (.int zx), .val (.long zq), .second, .val (.int zm), .val (.ref zo), .unset, .unset, .unset] [(.int (2 : Int32)), (.int za)])
                by_cases hc156 : (2 : Int32) < za
                · refine own_go (fun t k => XS.icmpNo X24.here hx rfl (hb hby at_156) rfl (tlt hc156).2.2.2 k) ?_
                  show own_WP _ _ _ _ T24 (mkF m 159 #[.val (.int zc), .val (.int zx0), .val (.long zh), .second, .val (.long zq0), .second, .val (.long zq1), .second, .val (.long zq2), .second, .val (.int za), .val (.int zd), .val (.int zb), .val (.int zs), .val (.int zx), .val (.long zq), .second, .val (.int zm), .val (.ref zo), .unset, .unset, .unset] [])
                  refine own_go (fun t k => XS.aload X24.here hx rfl (hb hby at_159) rfl rfl  k) ?_
                  show own_WP _ _ _ _ T24 (mkF m 161 #[.val (.int zc), .val (.int zx0), .val (.long zh), .second, .val (.long zq0), .second, .val (.long zq1), .second, .val (.long zq2), .second, .val (.int za), .val (.int zd), .val (.int zb), .val (.int zs), .val (.int zx), .val (.long zq), .second, .val (.int zm), .val (.ref zo), .unset, .unset, .unset] [(.ref zo)])
                  refine own_go (fun t k => XS.lload X24.here hx rfl (hb hby at_161) rfl  k) ?_
                  show own_WP _ _ _ _ T24 (mkF m 163 #[.val (.int zc), .val (.int zx0), .val (.long zh), .second, .val (.long zq0), .second, .val (.long zq1), .second, .val (.long zq2), .second, .val (.int za), .val (.int zd), .val (.int zb), .val (.int zs), .val (.int zx), .val (.long zq), .second, .val (.int zm), .val (.ref zo), .unset, .unset, .unset] [(.long zq2), (.ref zo)])
                  obtain ⟨cq112, kq112, q112a, q112b, q112c⟩ := isOf hZ e24 f25
                  obtain ⟨_, _, ⟨T112, L112, k112, n112⟩, -, X112, ⟨Lc112, hQ112, l112, y112, z112⟩, st112⟩ := X24.virtualBack hx (y := (⟨"com/example/ringspan/ringspan/symmetry/Trace", "add", "(J)V"⟩ : MethodName)) (z := (⟨"com/example/ringspan/ringspan/symmetry/Trace", "add", "(J)V"⟩ : MethodName)) hown (mvT hZ (hw _ (List.mem_of_getElem? (i := 19) rfl))) (mvT hZ (hw _ (List.mem_of_getElem? (i := 20) rfl))) (notFace_of_selects (args := #[]) (mvT hZ (hw _ (List.mem_of_getElem? (i := 22) rfl)))) (mvT hZ (hw _ (List.mem_of_getElem? (i := 22) rfl))) (mvT hZ (hw _ (List.mem_of_getElem? (i := 21) rfl))) (by decide) (backOf (W := 0) (rm4 l Z a0 hw [] zo zq2 zr zn2 zk zL2 h24 n0 (own_le Z0 K24j) f25 f26 f27 f28 g_zo g_zr ne_zo_zr (show ¬ zn2 < 0 from own_b0 hb2) (show zn2 < 8 from own_b8 hb2 (by decide)) (show zL2.length = 8 from hl2)) hZ (hw _ (List.mem_of_getElem? (i := 23) rfl)) (hw _ (List.mem_of_getElem? (i := 2) rfl)) (by decide) (by decide)) q112a q112c (g := (mkF m 163 #[.val (.int zc), .val (.int zx0), .val (.long zh), .second, .val (.long zq0), .second, .val (.long zq1), .second, .val (.long zq2), .second, .val (.int za), .val (.int zd), .val (.int zb), .val (.int zs), .val (.int zx), .val (.long zq), .second, .val (.int zm), .val (.ref zo), .unset, .unset, .unset] [(.long zq2), (.ref zo)])) rfl (by rw [hml]; rfl) (Steps.refl _) (argsL := [(.long zq2)]) (rest := []) (lenOf own_pd99011 rfl) rfl (by show 2 * 0 + _ ≤ _; exact Nat.le_of_eq rfl) (hb hby at_163) (fun _ _ => ⟨rfl, e24, (by decide : 2 + 0 ≤ _), (by decide : 10 + 0 ≤ _)⟩)
                  dsimp only [Pt.U, Pt.locs, Pt.cells, Pt.slots] at X112 l112 y112 z112 st112 hQ112
                  subst l112 y112 z112
                  obtain ⟨rfl, N112q, Kc112, f113, f114, f115, f116⟩ := hQ112
                  have N112 := Fr.app N24 N112q
                  refine own_tr st112 ?_
                  have f117 : Exa Z T112.heap zo "com/example/ringspan/ringspan/symmetry/Trace" := f25.keep Kc112
                  have K121 : Keep h0 T112.heap [] := K24j.trans Kc112 (fun x hx => by simp only [List.mem_cons, List.not_mem_nil, or_false] at hx; rcases hx with rfl | rfl <;> first | exact Or.inr sz_zo | exact Or.inr sz_zr)
                  show own_WP _ _ _ _ T112 (mkF m 166 #[.val (.int zc), .val (.int zx0), .val (.long zh), .second, .val (.long zq0), .second, .val (.long zq1), .second, .val (.long zq2), .second, .val (.int za), .val (.int zd), .val (.int zb), .val (.int zs), .val (.int zx), .val (.long zq), .second, .val (.int zm), .val (.ref zo), .unset, .unset, .unset] [])
                  exact J166 ((zn2 + (1 : Int32))) (zL2.set zn2.toNatClampNeg zq2) _ _ _ X112 rfl N112 K121 f113 f114 f115 f116 (by rw [own_s3, ← hs2]; exact (if_pos hc156).symm) (own_up hb2 (by decide)) (by rw [List.length_set]; exact hl2)
                · refine own_go (fun t k => XS.icmpYes X24.here hx rfl (pc0 := 156) (pc' := 166) rfl (hb hby at_156) rfl (flt hc156).2.2.2 (by decide) (by decide) k) ?_
                  show own_WP _ _ _ _ T24 (mkF m 166 #[.val (.int zc), .val (.int zx0), .val (.long zh), .second, .val (.long zq0), .second, .val (.long zq1), .second, .val (.long zq2), .second, .val (.int za), .val (.int zd), .val (.int zb), .val (.int zs), .val (.int zx), .val (.long zq), .second, .val (.int zm), .val (.ref zo), .unset, .unset, .unset] [])
                  exact J166 zn2 zL2 _ _ _ X24 e24 N24 K24j f25 f26 f27 f28 (by rw [own_s3, ← hs2]; exact (if_neg hc156).symm) (⟨hb2.1, by have q := hb2.2; omega⟩) (hl2)
              show own_WP _ _ _ _ T19 (mkF m 140 #[.val (.int zc), .val (.int zx0), .val (.long zh), .second, .val (.long zq0), .second, .val (.long zq1), .second, .val (.long zq2), .second, .val (.int za), .val (.int zd), .val (.int zb), .val (.int zs), .val (.int zx), .val (.long zq), .second, .val (.int zm), .val (.ref zo), .unset, .unset, .unset] [])
              refine own_go (fun t k => XS.iload X19.here hx rfl (hb hby at_140) rfl  k) ?_
              show own_WP _ _ _ _ T19 (mkF m 142 #[.val (.int zc), .val (.int zx0), .val (.long zh), .second, .val (.long zq0), .second, .val (.long zq1), .second, .val (.long zq2), .second, .val (.int za), .val (.int zd), .val (.int zb), .val (.int zs), .val (.int zx), .val (.long zq), .second, .val (.int zm), .val (.ref zo), .unset, .unset, .unset] [(.int za)])
              refine own_go (fun t k => XS.iconst X19.here hx rfl (hb hby at_142) k) ?_
              show own_WP _ _ _ _ T19 (mkF m 143 #[.val (.int zc), .val (.int zx0), .val (.long zh), .second, .val (.long zq0), .second, .val (.long zq1), .second, .val (.long zq2), .second, .val (.int za), .val (.int zd), .val (.int zb), .val (.int zs), .val (.int zx), .val (.long zq), .second, .val (.int zm), .val (.ref zo), .unset, .unset, .unset] [(.int (1 : Int32)), (.int za)])
              by_cases hc143 : (1 : Int32) < za
              · refine own_go (fun t k => XS.icmpNo X19.here hx rfl (hb hby at_143) rfl (tlt hc143).2.2.2 k) ?_
                show own_WP _ _ _ _ T19 (mkF m 146 #[.val (.int zc), .val (.int zx0), .val (.long zh), .second, .val (.long zq0), .second, .val (.long zq1), .second, .val (.long zq2), .second, .val (.int za), .val (.int zd), .val (.int zb), .val (.int zs), .val (.int zx), .val (.long zq), .second, .val (.int zm), .val (.ref zo), .unset, .unset, .unset] [])
                refine own_go (fun t k => XS.aload X19.here hx rfl (hb hby at_146) rfl rfl  k) ?_
                show own_WP _ _ _ _ T19 (mkF m 148 #[.val (.int zc), .val (.int zx0), .val (.long zh), .second, .val (.long zq0), .second, .val (.long zq1), .second, .val (.long zq2), .second, .val (.int za), .val (.int zd), .val (.int zb), .val (.int zs), .val (.int zx), .val (.long zq), .second, .val (.int zm), .val (.ref zo), .unset, .unset, .unset] [(.ref zo)])
                refine own_go (fun t k => XS.lload X19.here hx rfl (hb hby at_148) rfl  k) ?_
                show own_WP _ _ _ _ T19 (mkF m 150 #[.val (.int zc), .val (.int zx0), .val (.long zh), .second, .val (.long zq0), .second, .val (.long zq1), .second, .val (.long zq2), .second, .val (.int za), .val (.int zd), .val (.int zb), .val (.int zs), .val (.int zx), .val (.long zq), .second, .val (.int zm), .val (.ref zo), .unset, .unset, .unset] [(.long zq1), (.ref zo)])
                obtain ⟨cq122, kq122, q122a, q122b, q122c⟩ := isOf hZ e19 f20
                obtain ⟨_, _, ⟨T122, L122, k122, n122⟩, -, X122, ⟨Lc122, hQ122, l122, y122, z122⟩, st122⟩ := X19.virtualBack hx (y := (⟨"com/example/ringspan/ringspan/symmetry/Trace", "add", "(J)V"⟩ : MethodName)) (z := (⟨"com/example/ringspan/ringspan/symmetry/Trace", "add", "(J)V"⟩ : MethodName)) hown (mvT hZ (hw _ (List.mem_of_getElem? (i := 19) rfl))) (mvT hZ (hw _ (List.mem_of_getElem? (i := 20) rfl))) (notFace_of_selects (args := #[]) (mvT hZ (hw _ (List.mem_of_getElem? (i := 22) rfl)))) (mvT hZ (hw _ (List.mem_of_getElem? (i := 22) rfl))) (mvT hZ (hw _ (List.mem_of_getElem? (i := 21) rfl))) (by decide) (backOf (W := 0) (rm4 l Z a0 hw [] zo zq1 zr zn1 zk zL1 h19 n0 (own_le Z0 K19j) f20 f21 f22 f23 g_zo g_zr ne_zo_zr (show ¬ zn1 < 0 from own_b0 hb1) (show zn1 < 8 from own_b8 hb1 (by decide)) (show zL1.length = 8 from hl1)) hZ (hw _ (List.mem_of_getElem? (i := 23) rfl)) (hw _ (List.mem_of_getElem? (i := 2) rfl)) (by decide) (by decide)) q122a q122c (g := (mkF m 150 #[.val (.int zc), .val (.int zx0), .val (.long zh), .second, .val (.long zq0), .second, .val (.long zq1), .second, .val (.long zq2), .second, .val (.int za), .val (.int zd), .val (.int zb), .val (.int zs), .val (.int zx), .val (.long zq), .second, .val (.int zm), .val (.ref zo), .unset, .unset, .unset] [(.long zq1), (.ref zo)])) rfl (by rw [hml]; rfl) (Steps.refl _) (argsL := [(.long zq1)]) (rest := []) (lenOf own_pd99011 rfl) rfl (by show 2 * 0 + _ ≤ _; exact Nat.le_of_eq rfl) (hb hby at_150) (fun _ _ => ⟨rfl, e19, (by decide : 2 + 0 ≤ _), (by decide : 10 + 0 ≤ _)⟩)
                dsimp only [Pt.U, Pt.locs, Pt.cells, Pt.slots] at X122 l122 y122 z122 st122 hQ122
                subst l122 y122 z122
                obtain ⟨rfl, N122q, Kc122, f123, f124, f125, f126⟩ := hQ122
                have N122 := Fr.app N19 N122q
                refine own_tr st122 ?_
                have f127 : Exa Z T122.heap zo "com/example/ringspan/ringspan/symmetry/Trace" := f20.keep Kc122
                have K131 : Keep h0 T122.heap [] := K19j.trans Kc122 (fun x hx => by simp only [List.mem_cons, List.not_mem_nil, or_false] at hx; rcases hx with rfl | rfl <;> first | exact Or.inr sz_zo | exact Or.inr sz_zr)
                show own_WP _ _ _ _ T122 (mkF m 153 #[.val (.int zc), .val (.int zx0), .val (.long zh), .second, .val (.long zq0), .second, .val (.long zq1), .second, .val (.long zq2), .second, .val (.int za), .val (.int zd), .val (.int zb), .val (.int zs), .val (.int zx), .val (.long zq), .second, .val (.int zm), .val (.ref zo), .unset, .unset, .unset] [])
                exact J153 ((zn1 + (1 : Int32))) (zL1.set zn1.toNatClampNeg zq1) _ _ _ X122 rfl N122 K131 f123 f124 f125 f126 (by rw [own_s2, ← hs1]; exact (if_pos hc143).symm) (own_up hb1 (by decide)) (by rw [List.length_set]; exact hl1)
              · refine own_go (fun t k => XS.icmpYes X19.here hx rfl (pc0 := 143) (pc' := 153) rfl (hb hby at_143) rfl (flt hc143).2.2.2 (by decide) (by decide) k) ?_
                show own_WP _ _ _ _ T19 (mkF m 153 #[.val (.int zc), .val (.int zx0), .val (.long zh), .second, .val (.long zq0), .second, .val (.long zq1), .second, .val (.long zq2), .second, .val (.int za), .val (.int zd), .val (.int zb), .val (.int zs), .val (.int zx), .val (.long zq), .second, .val (.int zm), .val (.ref zo), .unset, .unset, .unset] [])
                exact J153 zn1 zL1 _ _ _ X19 e19 N19 K19j f20 f21 f22 f23 (by rw [own_s2, ← hs1]; exact (if_neg hc143).symm) (⟨hb1.1, by have q := hb1.2; omega⟩) (hl1)
            show own_WP _ _ _ _ T10 (mkF m 128 #[.val (.int zc), .val (.int zx0), .val (.long zh), .second, .val (.long zq0), .second, .val (.long zq1), .second, .val (.long zq2), .second, .val (.int za), .val (.int zd), .val (.int zb), .val (.int zs), .val (.int zx), .val (.long zq), .second, .val (.int zm), .val (.ref zo), .unset, .unset, .unset] [])
            refine own_go (fun t k => XS.iload X10.here hx rfl (hb hby at_128) rfl  k) ?_
            show own_WP _ _ _ _ T10 (mkF m 130 #[.val (.int zc), .val (.int zx0), .val (.long zh), .second, .val (.long zq0), .second, .val (.long zq1), .second, .val (.long zq2), .second, .val (.int za), .val (.int zd), .val (.int zb), .val (.int zs), .val (.int zx), .val (.long zq), .second, .val (.int zm), .val (.ref zo), .unset, .unset, .unset] [(.int za)])
            by_cases hc130 : (0 : Int32) < za
            · refine own_go (fun t k => XS.ifNo X10.here hx rfl (hb hby at_130) rfl ((if0 _ _).trans (tlt hc130).2.2.2) k) ?_
              show own_WP _ _ _ _ T10 (mkF m 133 #[.val (.int zc), .val (.int zx0), .val (.long zh), .second, .val (.long zq0), .second, .val (.long zq1), .second, .val (.long zq2), .second, .val (.int za), .val (.int zd), .val (.int zb), .val (.int zs), .val (.int zx), .val (.long zq), .second, .val (.int zm), .val (.ref zo), .unset, .unset, .unset] [])
              refine own_go (fun t k => XS.aload X10.here hx rfl (hb hby at_133) rfl rfl  k) ?_
              show own_WP _ _ _ _ T10 (mkF m 135 #[.val (.int zc), .val (.int zx0), .val (.long zh), .second, .val (.long zq0), .second, .val (.long zq1), .second, .val (.long zq2), .second, .val (.int za), .val (.int zd), .val (.int zb), .val (.int zs), .val (.int zx), .val (.long zq), .second, .val (.int zm), .val (.ref zo), .unset, .unset, .unset] [(.ref zo)])
              refine own_go (fun t k => XS.lload X10.here hx rfl (hb hby at_135) rfl  k) ?_
              show own_WP _ _ _ _ T10 (mkF m 137 #[.val (.int zc), .val (.int zx0), .val (.long zh), .second, .val (.long zq0), .second, .val (.long zq1), .second, .val (.long zq2), .second, .val (.int za), .val (.int zd), .val (.int zb), .val (.int zs), .val (.int zx), .val (.long zq), .second, .val (.int zm), .val (.ref zo), .unset, .unset, .unset] [(.long zq0), (.ref zo)])
              obtain ⟨cq132, kq132, q132a, q132b, q132c⟩ := isOf hZ rfl f11
              obtain ⟨_, _, ⟨T132, L132, k132, n132⟩, -, X132, ⟨Lc132, hQ132, l132, y132, z132⟩, st132⟩ := X10.virtualBack hx (y := (⟨"com/example/ringspan/ringspan/symmetry/Trace", "add", "(J)V"⟩ : MethodName)) (z := (⟨"com/example/ringspan/ringspan/symmetry/Trace", "add", "(J)V"⟩ : MethodName)) hown (mvT hZ (hw _ (List.mem_of_getElem? (i := 19) rfl))) (mvT hZ (hw _ (List.mem_of_getElem? (i := 20) rfl))) (notFace_of_selects (args := #[]) (mvT hZ (hw _ (List.mem_of_getElem? (i := 22) rfl)))) (mvT hZ (hw _ (List.mem_of_getElem? (i := 22) rfl))) (mvT hZ (hw _ (List.mem_of_getElem? (i := 21) rfl))) (by decide) (backOf (W := 0) (rm4 l Z a0 hw [] zo zq0 zr (0 : Int32) zk (List.replicate 8 (0 : Int64)) T10.heap n0 (own_le Z0 K18) f11 f12 f13 f14 g_zo g_zr ne_zo_zr (show ¬ (0 : Int32) < 0 from own_b0 own_z0) (show (0 : Int32) < 8 from own_b8 own_z0 (by decide)) (show (List.replicate 8 (0 : Int64)).length = 8 from rfl)) hZ (hw _ (List.mem_of_getElem? (i := 23) rfl)) (hw _ (List.mem_of_getElem? (i := 2) rfl)) (by decide) (by decide)) q132a q132c (g := (mkF m 137 #[.val (.int zc), .val (.int zx0), .val (.long zh), .second, .val (.long zq0), .second, .val (.long zq1), .second, .val (.long zq2), .second, .val (.int za), .val (.int zd), .val (.int zb), .val (.int zs), .val (.int zx), .val (.long zq), .second, .val (.int zm), .val (.ref zo), .unset, .unset, .unset] [(.long zq0), (.ref zo)])) rfl (by rw [hml]; rfl) (Steps.refl _) (argsL := [(.long zq0)]) (rest := []) (lenOf own_pd99011 rfl) rfl (by show 2 * 0 + _ ≤ _; exact Nat.le_of_eq rfl) (hb hby at_137) (fun _ _ => ⟨rfl, rfl, (by decide : 2 + 0 ≤ _), (by decide : 10 + 0 ≤ _)⟩)
              dsimp only [Pt.U, Pt.locs, Pt.cells, Pt.slots] at X132 l132 y132 z132 st132 hQ132
              subst l132 y132 z132
              obtain ⟨rfl, N132q, Kc132, f133, f134, f135, f136⟩ := hQ132
              have N132 := Fr.app N10 N132q
              refine own_tr st132 ?_
              have f137 : Exa Z T132.heap zo "com/example/ringspan/ringspan/symmetry/Trace" := f11.keep Kc132
              have K141 : Keep h0 T132.heap [] := K18.trans Kc132 (fun x hx => by simp only [List.mem_cons, List.not_mem_nil, or_false] at hx; rcases hx with rfl | rfl <;> first | exact Or.inr sz_zo | exact Or.inr sz_zr)
              show own_WP _ _ _ _ T132 (mkF m 140 #[.val (.int zc), .val (.int zx0), .val (.long zh), .second, .val (.long zq0), .second, .val (.long zq1), .second, .val (.long zq2), .second, .val (.int za), .val (.int zd), .val (.int zb), .val (.int zs), .val (.int zx), .val (.long zq), .second, .val (.int zm), .val (.ref zo), .unset, .unset, .unset] [])
              exact J140 (((0 : Int32) + (1 : Int32))) (((List.replicate 8 (0 : Int64)).set (0 : Int32).toNatClampNeg zq0)) _ _ _ X132 rfl N132 K141 f133 f134 f135 f136 ((if_pos hc130).symm) (own_up (own_z0 : 0 ≤ (0 : Int32).toInt ∧ (0 : Int32).toInt ≤ 0) (by decide)) (by rw [List.length_set]; exact (rfl : (List.replicate 8 (0 : Int64)).length = 8))
            · refine own_go (fun t k => XS.ifYes X10.here hx rfl (pc0 := 130) (pc' := 140) rfl (hb hby at_130) rfl ((if0 _ _).trans (flt hc130).2.2.2) (by decide) (by decide) k) ?_
              show own_WP _ _ _ _ T10 (mkF m 140 #[.val (.int zc), .val (.int zx0), .val (.long zh), .second, .val (.long zq0), .second, .val (.long zq1), .second, .val (.long zq2), .second, .val (.int za), .val (.int zd), .val (.int zb), .val (.int zs), .val (.int zx), .val (.long zq), .second, .val (.int zm), .val (.ref zo), .unset, .unset, .unset] [])
              exact J140 (0 : Int32) ((List.replicate 8 (0 : Int64))) _ _ _ X10 rfl N10 K18 f11 f12 f13 f14 ((if_neg hc130).symm) (⟨(own_z0 : 0 ≤ (0 : Int32).toInt ∧ (0 : Int32).toInt ≤ 0).1, by have q := (own_z0 : 0 ≤ (0 : Int32).toInt ∧ (0 : Int32).toInt ≤ 0).2; omega⟩) ((rfl : (List.replicate 8 (0 : Int64)).length = 8))
          show own_WP _ _ _ _ T4 (mkF m 106 #[.val (.int zc), .val (.int zx0), .val (.long zh), .second, .val (.long zq0), .second, .val (.long zq1), .second, .val (.long zq2), .second, .val (.int za), .val (.int zd), .val (.int zb), .val (.int zs), .val (.int zx), .val (.long zq), .second, .val (.int zm), .unset, .unset, .unset, .unset] [])
          refine own_go (fun t k => XS.iload X4.here hx rfl (hb hby at_106) rfl  k) ?_
          show own_WP _ _ _ _ T4 (mkF m 108 #[.val (.int zc), .val (.int zx0), .val (.long zh), .second, .val (.long zq0), .second, .val (.long zq1), .second, .val (.long zq2), .second, .val (.int za), .val (.int zd), .val (.int zb), .val (.int zs), .val (.int zx), .val (.long zq), .second, .val (.int zm), .unset, .unset, .unset, .unset] [(.int zm)])
          by_cases hc108 : zm = (0 : Int32)
          · refine own_go (fun t k => XS.ifNo X4.here hx rfl (hb hby at_108) rfl ((if0 _ _).trans (teq hc108).2) k) ?_
            show own_WP _ _ _ _ T4 (mkF m 111 #[.val (.int zc), .val (.int zx0), .val (.long zh), .second, .val (.long zq0), .second, .val (.long zq1), .second, .val (.long zq2), .second, .val (.int za), .val (.int zd), .val (.int zb), .val (.int zs), .val (.int zx), .val (.long zq), .second, .val (.int zm), .unset, .unset, .unset, .unset] [])
            refine own_go (fun t k => XS.iload X4.here hx rfl (hb hby at_111) rfl  k) ?_
            show own_WP _ _ _ _ T4 (mkF m 113 #[.val (.int zc), .val (.int zx0), .val (.long zh), .second, .val (.long zq0), .second, .val (.long zq1), .second, .val (.long zq2), .second, .val (.int za), .val (.int zd), .val (.int zb), .val (.int zs), .val (.int zx), .val (.long zq), .second, .val (.int zm), .unset, .unset, .unset, .unset] [(.int zx)])
            refine own_go (fun t k => XS.iconst X4.here hx rfl (hb hby at_113) k) ?_
            show own_WP _ _ _ _ T4 (mkF m 114 #[.val (.int zc), .val (.int zx0), .val (.long zh), .second, .val (.long zq0), .second, .val (.long zq1), .second, .val (.long zq2), .second, .val (.int za), .val (.int zd), .val (.int zb), .val (.int zs), .val (.int zx), .val (.long zq), .second, .val (.int zm), .unset, .unset, .unset, .unset] [(.int (-1 : Int32)), (.int zx)])
            by_cases hc114 : zx = (-1 : Int32)
            · refine own_go (fun t k => XS.icmpNo X4.here hx rfl (hb hby at_114) rfl (teq hc114).2 k) ?_
              show own_WP _ _ _ _ T4 (mkF m 117 #[.val (.int zc), .val (.int zx0), .val (.long zh), .second, .val (.long zq0), .second, .val (.long zq1), .second, .val (.long zq2), .second, .val (.int za), .val (.int zd), .val (.int zb), .val (.int zs), .val (.int zx), .val (.long zq), .second, .val (.int zm), .unset, .unset, .unset, .unset] [])
              refine own_go (fun t k => XS.iconst X4.here hx rfl (hb hby at_117) k) ?_
              show own_WP _ _ _ _ T4 (mkF m 118 #[.val (.int zc), .val (.int zx0), .val (.long zh), .second, .val (.long zq0), .second, .val (.long zq1), .second, .val (.long zq2), .second, .val (.int za), .val (.int zd), .val (.int zb), .val (.int zs), .val (.int zx), .val (.long zq), .second, .val (.int zm), .unset, .unset, .unset, .unset] [(.int (1 : Int32))])
              refine own_retN X4 hx Bd.notSynchronized (t := .boolean) (by simp) Bd.returns (hb hby at_118) (by decide) (by decide) ?_
              rw [e4]
              exact ⟨rfl, N4⟩
            · refine own_go (fun t k => XS.icmpYes X4.here hx rfl (pc0 := 114) (pc' := 119) rfl (hb hby at_114) rfl (feq hc114).2 (by decide) (by decide) k) ?_
              show own_WP _ _ _ _ T4 (mkF m 119 #[.val (.int zc), .val (.int zx0), .val (.long zh), .second, .val (.long zq0), .second, .val (.long zq1), .second, .val (.long zq2), .second, .val (.int za), .val (.int zd), .val (.int zb), .val (.int zs), .val (.int zx), .val (.long zq), .second, .val (.int zm), .unset, .unset, .unset, .unset] [])
              exact J119  _ _ _ X4 e4 N4 K4j  (fun z => hc114 z.2)
          · refine own_go (fun t k => XS.ifYes X4.here hx rfl (pc0 := 108) (pc' := 119) rfl (hb hby at_108) rfl ((if0 _ _).trans (feq hc108).2) (by decide) (by decide) k) ?_
            show own_WP _ _ _ _ T4 (mkF m 119 #[.val (.int zc), .val (.int zx0), .val (.long zh), .second, .val (.long zq0), .second, .val (.long zq1), .second, .val (.long zq2), .second, .val (.int za), .val (.int zd), .val (.int zb), .val (.int zs), .val (.int zx), .val (.long zq), .second, .val (.int zm), .unset, .unset, .unset, .unset] [])
            exact J119  _ _ _ X4 e4 N4 K4j  (fun z => hc108 z.1)
        show own_WP _ _ _ _ T3 (mkF m 90 #[.val (.int zc), .val (.int zx0), .val (.long zh), .second, .val (.long zq0), .second, .val (.long zq1), .second, .val (.long zq2), .second, .val (.int za), .val (.int zd), .val (.int zb), .val (.int zs), .val (.int zx), .val (.long zq), .second, .unset, .unset, .unset, .unset, .unset] [])
        refine own_go (fun t k => XS.iload X3.here hx rfl (hb hby at_90) rfl  k) ?_
        show own_WP _ _ _ _ T3 (mkF m 92 #[.val (.int zc), .val (.int zx0), .val (.long zh), .second, .val (.long zq0), .second, .val (.long zq1), .second, .val (.long zq2), .second, .val (.int za), .val (.int zd), .val (.int zb), .val (.int zs), .val (.int zx), .val (.long zq), .second, .unset, .unset, .unset, .unset, .unset] [(.int zd)])
        by_cases hc92 : zd = (0 : Int32)
        · refine own_go (fun t k => XS.ifYes X3.here hx rfl (pc0 := 92) (pc' := 99) rfl (hb hby at_92) rfl ((if0 _ _).trans (teq hc92).1) (by decide) (by decide) k) ?_
          show own_WP _ _ _ _ T3 (mkF m 99 #[.val (.int zc), .val (.int zx0), .val (.long zh), .second, .val (.long zq0), .second, .val (.long zq1), .second, .val (.long zq2), .second, .val (.int za), .val (.int zd), .val (.int zb), .val (.int zs), .val (.int zx), .val (.long zq), .second, .unset, .unset, .unset, .unset, .unset] [])
          refine own_go (fun t k => XS.iload X3.here hx rfl (hb hby at_99) rfl  k) ?_
          show own_WP _ _ _ _ T3 (mkF m 101 #[.val (.int zc), .val (.int zx0), .val (.long zh), .second, .val (.long zq0), .second, .val (.long zq1), .second, .val (.long zq2), .second, .val (.int za), .val (.int zd), .val (.int zb), .val (.int zs), .val (.int zx), .val (.long zq), .second, .unset, .unset, .unset, .unset, .unset] [(.int za)])
          refine own_go (fun t k => XS.iload X3.here hx rfl (hb hby at_101) rfl  k) ?_
          show own_WP _ _ _ _ T3 (mkF m 103 #[.val (.int zc), .val (.int zx0), .val (.long zh), .second, .val (.long zq0), .second, .val (.long zq1), .second, .val (.long zq2), .second, .val (.int za), .val (.int zd), .val (.int zb), .val (.int zs), .val (.int zx), .val (.long zq), .second, .unset, .unset, .unset, .unset, .unset] [(.int zb), (.int za)])
          refine own_go (fun t k => XS.iadd X3.here hx rfl (hb hby at_103) rfl k) ?_
          show own_WP _ _ _ _ T3 (mkF m 104 #[.val (.int zc), .val (.int zx0), .val (.long zh), .second, .val (.long zq0), .second, .val (.long zq1), .second, .val (.long zq2), .second, .val (.int za), .val (.int zd), .val (.int zb), .val (.int zs), .val (.int zx), .val (.long zq), .second, .unset, .unset, .unset, .unset, .unset] [(.int (za + zb))])
          refine own_go (fun t k => XS.istore X3.here hx rfl (hb hby at_104) rfl (l' := #[.val (.int zc), .val (.int zx0), .val (.long zh), .second, .val (.long zq0), .second, .val (.long zq1), .second, .val (.long zq2), .second, .val (.int za), .val (.int zd), .val (.int zb), .val (.int zs), .val (.int zx), .val (.long zq), .second, .val (.int (za + zb)), .unset, .unset, .unset, .unset]) rfl k) ?_
          show own_WP _ _ _ _ T3 (mkF m 106 #[.val (.int zc), .val (.int zx0), .val (.long zh), .second, .val (.long zq0), .second, .val (.long zq1), .second, .val (.long zq2), .second, .val (.int za), .val (.int zd), .val (.int zb), .val (.int zs), .val (.int zx), .val (.long zq), .second, .val (.int (za + zb)), .unset, .unset, .unset, .unset] [])
          exact J106 (za + zb) _ _ _ X3 e3 N3 K3j  (by simp [own_ln, hc92])
        · refine own_go (fun t k => XS.ifNo X3.here hx rfl (hb hby at_92) rfl ((if0 _ _).trans (feq hc92).1) k) ?_
          show own_WP _ _ _ _ T3 (mkF m 95 #[.val (.int zc), .val (.int zx0), .val (.long zh), .second, .val (.long zq0), .second, .val (.long zq1), .second, .val (.long zq2), .second, .val (.int za), .val (.int zd), .val (.int zb), .val (.int zs), .val (.int zx), .val (.long zq), .second, .unset, .unset, .unset, .unset, .unset] [])
          refine own_go (fun t k => XS.iconst X3.here hx rfl (hb hby at_95) k) ?_
          show own_WP _ _ _ _ T3 (mkF m 96 #[.val (.int zc), .val (.int zx0), .val (.long zh), .second, .val (.long zq0), .second, .val (.long zq1), .second, .val (.long zq2), .second, .val (.int za), .val (.int zd), .val (.int zb), .val (.int zs), .val (.int zx), .val (.long zq), .second, .unset, .unset, .unset, .unset, .unset] [(.int (0 : Int32))])
          refine own_go (fun t k => XS.goto X3.here hx rfl (pc0 := 96) (pc' := 101) rfl (hb hby at_96) (by decide) (by decide) k) ?_
          show own_WP _ _ _ _ T3 (mkF m 101 #[.val (.int zc), .val (.int zx0), .val (.long zh), .second, .val (.long zq0), .second, .val (.long zq1), .second, .val (.long zq2), .second, .val (.int za), .val (.int zd), .val (.int zb), .val (.int zs), .val (.int zx), .val (.long zq), .second, .unset, .unset, .unset, .unset, .unset] [(.int (0 : Int32))])
          refine own_go (fun t k => XS.iload X3.here hx rfl (hb hby at_101) rfl  k) ?_
          show own_WP _ _ _ _ T3 (mkF m 103 #[.val (.int zc), .val (.int zx0), .val (.long zh), .second, .val (.long zq0), .second, .val (.long zq1), .second, .val (.long zq2), .second, .val (.int za), .val (.int zd), .val (.int zb), .val (.int zs), .val (.int zx), .val (.long zq), .second, .unset, .unset, .unset, .unset, .unset] [(.int zb), (.int (0 : Int32))])
          refine own_go (fun t k => XS.iadd X3.here hx rfl (hb hby at_103) rfl k) ?_
          show own_WP _ _ _ _ T3 (mkF m 104 #[.val (.int zc), .val (.int zx0), .val (.long zh), .second, .val (.long zq0), .second, .val (.long zq1), .second, .val (.long zq2), .second, .val (.int za), .val (.int zd), .val (.int zb), .val (.int zs), .val (.int zx), .val (.long zq), .second, .unset, .unset, .unset, .unset, .unset] [(.int ((0 : Int32) + zb))])
          refine own_go (fun t k => XS.istore X3.here hx rfl (hb hby at_104) rfl (l' := #[.val (.int zc), .val (.int zx0), .val (.long zh), .second, .val (.long zq0), .second, .val (.long zq1), .second, .val (.long zq2), .second, .val (.int za), .val (.int zd), .val (.int zb), .val (.int zs), .val (.int zx), .val (.long zq), .second, .val (.int ((0 : Int32) + zb)), .unset, .unset, .unset, .unset]) rfl k) ?_
          show own_WP _ _ _ _ T3 (mkF m 106 #[.val (.int zc), .val (.int zx0), .val (.long zh), .second, .val (.long zq0), .second, .val (.long zq1), .second, .val (.long zq2), .second, .val (.int za), .val (.int zd), .val (.int zb), .val (.int zs), .val (.int zx), .val (.long zq), .second, .val (.int ((0 : Int32) + zb)), .unset, .unset, .unset, .unset] [])
          exact J106 (((0 : Int32) + zb)) _ _ _ X3 e3 N3 K3j  (by simp [own_ln, hc92])
      show own_WP _ _ _ _ T2 (mkF m 55 #[.val (.int zc), .val (.int zx0), .val (.long zh), .second, .val (.long zq0), .second, .val (.long zq1), .second, .val (.long zq2), .second, .val (.int za), .val (.int zd), .val (.int zb), .val (.int zs), .val (.int zx), .unset, .unset, .unset, .unset, .unset, .unset, .unset] [])
      refine own_go (fun t k => XS.iload X2.here hx rfl (hb hby at_55) rfl  k) ?_
      show own_WP _ _ _ _ T2 (mkF m 57 #[.val (.int zc), .val (.int zx0), .val (.long zh), .second, .val (.long zq0), .second, .val (.long zq1), .second, .val (.long zq2), .second, .val (.int za), .val (.int zd), .val (.int zb), .val (.int zs), .val (.int zx), .unset, .unset, .unset, .unset, .unset, .unset, .unset] [(.int zs)])
      by_cases hc57 : zs = (0 : Int32)
      · refine own_go (fun t k => XS.ifNo X2.here hx rfl (hb hby at_57) rfl ((if0 _ _).trans (teq hc57).2) k) ?_
        show own_WP _ _ _ _ T2 (mkF m 60 #[.val (.int zc), .val (.int zx0), .val (.long zh), .second, .val (.long zq0), .second, .val (.long zq1), .second, .val (.long zq2), .second, .val (.int za), .val (.int zd), .val (.int zb), .val (.int zs), .val (.int zx), .unset, .unset, .unset, .unset, .unset, .unset, .unset] [])
        refine own_go (fun t k => XS.lloadN X2.here hx rfl (hb hby at_60) rfl  k) ?_
        show own_WP _ _ _ _ T2 (mkF m 61 #[.val (.int zc), .val (.int zx0), .val (.long zh), .second, .val (.long zq0), .second, .val (.long zq1), .second, .val (.long zq2), .second, .val (.int za), .val (.int zd), .val (.int zb), .val (.int zs), .val (.int zx), .unset, .unset, .unset, .unset, .unset, .unset, .unset] [(.long zh)])
        refine own_go (fun t k => XS.goto X2.here hx rfl (pc0 := 61) (pc' := 88) rfl (hb hby at_61) (by decide) (by decide) k) ?_
        show own_WP _ _ _ _ T2 (mkF m 88 #[.val (.int zc), .val (.int zx0), .val (.long zh), .second, .val (.long zq0), .second, .val (.long zq1), .second, .val (.long zq2), .second, .val (.int za), .val (.int zd), .val (.int zb), .val (.int zs), .val (.int zx), .unset, .unset, .unset, .unset, .unset, .unset, .unset] [(.long zh)])
        refine own_go (fun t k => XS.lstore X2.here hx rfl (hb hby at_88) rfl (l' := #[.val (.int zc), .val (.int zx0), .val (.long zh), .second, .val (.long zq0), .second, .val (.long zq1), .second, .val (.long zq2), .second, .val (.int za), .val (.int zd), .val (.int zb), .val (.int zs), .val (.int zx), .val (.long zh), .second, .unset, .unset, .unset, .unset, .unset]) rfl k) ?_
        show own_WP _ _ _ _ T2 (mkF m 90 #[.val (.int zc), .val (.int zx0), .val (.long zh), .second, .val (.long zq0), .second, .val (.long zq1), .second, .val (.long zq2), .second, .val (.int za), .val (.int zd), .val (.int zb), .val (.int zs), .val (.int zx), .val (.long zh), .second, .unset, .unset, .unset, .unset, .unset] [])
        exact J90 zh _ _ _ X2 e2 N2 K2j  
      · refine own_go (fun t k => XS.ifYes X2.here hx rfl (pc0 := 57) (pc' := 64) rfl (hb hby at_57) rfl ((if0 _ _).trans (feq hc57).2) (by decide) (by decide) k) ?_
        show own_WP _ _ _ _ T2 (mkF m 64 #[.val (.int zc), .val (.int zx0), .val (.long zh), .second, .val (.long zq0), .second, .val (.long zq1), .second, .val (.long zq2), .second, .val (.int za), .val (.int zd), .val (.int zb), .val (.int zs), .val (.int zx), .unset, .unset, .unset, .unset, .unset, .unset, .unset] [])
        refine own_go (fun t k => XS.iload X2.here hx rfl (hb hby at_64) rfl  k) ?_
        show own_WP _ _ _ _ T2 (mkF m 66 #[.val (.int zc), .val (.int zx0), .val (.long zh), .second, .val (.long zq0), .second, .val (.long zq1), .second, .val (.long zq2), .second, .val (.int za), .val (.int zd), .val (.int zb), .val (.int zs), .val (.int zx), .unset, .unset, .unset, .unset, .unset, .unset, .unset] [(.int zs)])
        refine own_go (fun t k => XS.iconst X2.here hx rfl (hb hby at_66) k) ?_
        show own_WP _ _ _ _ T2 (mkF m 67 #[.val (.int zc), .val (.int zx0), .val (.long zh), .second, .val (.long zq0), .second, .val (.long zq1), .second, .val (.long zq2), .second, .val (.int za), .val (.int zd), .val (.int zb), .val (.int zs), .val (.int zx), .unset, .unset, .unset, .unset, .unset, .unset, .unset] [(.int (1 : Int32)), (.int zs)])
        by_cases hc67 : zs = (1 : Int32)
        · refine own_go (fun t k => XS.icmpNo X2.here hx rfl (hb hby at_67) rfl (teq hc67).2 k) ?_
          show own_WP _ _ _ _ T2 (mkF m 70 #[.val (.int zc), .val (.int zx0), .val (.long zh), .second, .val (.long zq0), .second, .val (.long zq1), .second, .val (.long zq2), .second, .val (.int za), .val (.int zd), .val (.int zb), .val (.int zs), .val (.int zx), .unset, .unset, .unset, .unset, .unset, .unset, .unset] [])
          refine own_go (fun t k => XS.lload X2.here hx rfl (hb hby at_70) rfl  k) ?_
          show own_WP _ _ _ _ T2 (mkF m 72 #[.val (.int zc), .val (.int zx0), .val (.long zh), .second, .val (.long zq0), .second, .val (.long zq1), .second, .val (.long zq2), .second, .val (.int za), .val (.int zd), .val (.int zb), .val (.int zs), .val (.int zx), .unset, .unset, .unset, .unset, .unset, .unset, .unset] [(.long zq0)])
          refine own_go (fun t k => XS.goto X2.here hx rfl (pc0 := 72) (pc' := 88) rfl (hb hby at_72) (by decide) (by decide) k) ?_
          show own_WP _ _ _ _ T2 (mkF m 88 #[.val (.int zc), .val (.int zx0), .val (.long zh), .second, .val (.long zq0), .second, .val (.long zq1), .second, .val (.long zq2), .second, .val (.int za), .val (.int zd), .val (.int zb), .val (.int zs), .val (.int zx), .unset, .unset, .unset, .unset, .unset, .unset, .unset] [(.long zq0)])
          refine own_go (fun t k => XS.lstore X2.here hx rfl (hb hby at_88) rfl (l' := #[.val (.int zc), .val (.int zx0), .val (.long zh), .second, .val (.long zq0), .second, .val (.long zq1), .second, .val (.long zq2), .second, .val (.int za), .val (.int zd), .val (.int zb), .val (.int zs), .val (.int zx), .val (.long zq0), .second, .unset, .unset, .unset, .unset, .unset]) rfl k) ?_
          show own_WP _ _ _ _ T2 (mkF m 90 #[.val (.int zc), .val (.int zx0), .val (.long zh), .second, .val (.long zq0), .second, .val (.long zq1), .second, .val (.long zq2), .second, .val (.int za), .val (.int zd), .val (.int zb), .val (.int zs), .val (.int zx), .val (.long zq0), .second, .unset, .unset, .unset, .unset, .unset] [])
          exact J90 zq0 _ _ _ X2 e2 N2 K2j  
        · refine own_go (fun t k => XS.icmpYes X2.here hx rfl (pc0 := 67) (pc' := 75) rfl (hb hby at_67) rfl (feq hc67).2 (by decide) (by decide) k) ?_
          show own_WP _ _ _ _ T2 (mkF m 75 #[.val (.int zc), .val (.int zx0), .val (.long zh), .second, .val (.long zq0), .second, .val (.long zq1), .second, .val (.long zq2), .second, .val (.int za), .val (.int zd), .val (.int zb), .val (.int zs), .val (.int zx), .unset, .unset, .unset, .unset, .unset, .unset, .unset] [])
          refine own_go (fun t k => XS.iload X2.here hx rfl (hb hby at_75) rfl  k) ?_
          show own_WP _ _ _ _ T2 (mkF m 77 #[.val (.int zc), .val (.int zx0), .val (.long zh), .second, .val (.long zq0), .second, .val (.long zq1), .second, .val (.long zq2), .second, .val (.int za), .val (.int zd), .val (.int zb), .val (.int zs), .val (.int zx), .unset, .unset, .unset, .unset, .unset, .unset, .unset] [(.int zs)])
          refine own_go (fun t k => XS.iconst X2.here hx rfl (hb hby at_77) k) ?_
          show own_WP _ _ _ _ T2 (mkF m 78 #[.val (.int zc), .val (.int zx0), .val (.long zh), .second, .val (.long zq0), .second, .val (.long zq1), .second, .val (.long zq2), .second, .val (.int za), .val (.int zd), .val (.int zb), .val (.int zs), .val (.int zx), .unset, .unset, .unset, .unset, .unset, .unset, .unset] [(.int (2 : Int32)), (.int zs)])
          by_cases hc78 : zs = (2 : Int32)
          · refine own_go (fun t k => XS.icmpNo X2.here hx rfl (hb hby at_78) rfl (teq hc78).2 k) ?_
            show own_WP _ _ _ _ T2 (mkF m 81 #[.val (.int zc), .val (.int zx0), .val (.long zh), .second, .val (.long zq0), .second, .val (.long zq1), .second, .val (.long zq2), .second, .val (.int za), .val (.int zd), .val (.int zb), .val (.int zs), .val (.int zx), .unset, .unset, .unset, .unset, .unset, .unset, .unset] [])
            refine own_go (fun t k => XS.lload X2.here hx rfl (hb hby at_81) rfl  k) ?_
            show own_WP _ _ _ _ T2 (mkF m 83 #[.val (.int zc), .val (.int zx0), .val (.long zh), .second, .val (.long zq0), .second, .val (.long zq1), .second, .val (.long zq2), .second, .val (.int za), .val (.int zd), .val (.int zb), .val (.int zs), .val (.int zx), .unset, .unset, .unset, .unset, .unset, .unset, .unset] [(.long zq1)])
            refine own_go (fun t k => XS.goto X2.here hx rfl (pc0 := 83) (pc' := 88) rfl (hb hby at_83) (by decide) (by decide) k) ?_
            show own_WP _ _ _ _ T2 (mkF m 88 #[.val (.int zc), .val (.int zx0), .val (.long zh), .second, .val (.long zq0), .second, .val (.long zq1), .second, .val (.long zq2), .second, .val (.int za), .val (.int zd), .val (.int zb), .val (.int zs), .val (.int zx), .unset, .unset, .unset, .unset, .unset, .unset, .unset] [(.long zq1)])
            refine own_go (fun t k => XS.lstore X2.here hx rfl (hb hby at_88) rfl (l' := #[.val (.int zc), .val (.int zx0), .val (.long zh), .second, .val (.long zq0), .second, .val (.long zq1), .second, .val (.long zq2), .second, .val (.int za), .val (.int zd), .val (.int zb), .val (.int zs), .val (.int zx), .val (.long zq1), .second, .unset, .unset, .unset, .unset, .unset]) rfl k) ?_
            show own_WP _ _ _ _ T2 (mkF m 90 #[.val (.int zc), .val (.int zx0), .val (.long zh), .second, .val (.long zq0), .second, .val (.long zq1), .second, .val (.long zq2), .second, .val (.int za), .val (.int zd), .val (.int zb), .val (.int zs), .val (.int zx), .val (.long zq1), .second, .unset, .unset, .unset, .unset, .unset] [])
            exact J90 zq1 _ _ _ X2 e2 N2 K2j  
          · refine own_go (fun t k => XS.icmpYes X2.here hx rfl (pc0 := 78) (pc' := 86) rfl (hb hby at_78) rfl (feq hc78).2 (by decide) (by decide) k) ?_
            show own_WP _ _ _ _ T2 (mkF m 86 #[.val (.int zc), .val (.int zx0), .val (.long zh), .second, .val (.long zq0), .second, .val (.long zq1), .second, .val (.long zq2), .second, .val (.int za), .val (.int zd), .val (.int zb), .val (.int zs), .val (.int zx), .unset, .unset, .unset, .unset, .unset, .unset, .unset] [])
            refine own_go (fun t k => XS.lload X2.here hx rfl (hb hby at_86) rfl  k) ?_
            show own_WP _ _ _ _ T2 (mkF m 88 #[.val (.int zc), .val (.int zx0), .val (.long zh), .second, .val (.long zq0), .second, .val (.long zq1), .second, .val (.long zq2), .second, .val (.int za), .val (.int zd), .val (.int zb), .val (.int zs), .val (.int zx), .unset, .unset, .unset, .unset, .unset, .unset, .unset] [(.long zq2)])
            refine own_go (fun t k => XS.lstore X2.here hx rfl (hb hby at_88) rfl (l' := #[.val (.int zc), .val (.int zx0), .val (.long zh), .second, .val (.long zq0), .second, .val (.long zq1), .second, .val (.long zq2), .second, .val (.int za), .val (.int zd), .val (.int zb), .val (.int zs), .val (.int zx), .val (.long zq2), .second, .unset, .unset, .unset, .unset, .unset]) rfl k) ?_
            show own_WP _ _ _ _ T2 (mkF m 90 #[.val (.int zc), .val (.int zx0), .val (.long zh), .second, .val (.long zq0), .second, .val (.long zq1), .second, .val (.long zq2), .second, .val (.int za), .val (.int zd), .val (.int zb), .val (.int zs), .val (.int zx), .val (.long zq2), .second, .unset, .unset, .unset, .unset, .unset] [])
            exact J90 zq2 _ _ _ X2 e2 N2 K2j  
    show own_WP _ _ _ _ T1 (mkF m 34 #[.val (.int zc), .val (.int zx0), .val (.long zh), .second, .val (.long zq0), .second, .val (.long zq1), .second, .val (.long zq2), .second, .val (.int za), .val (.int zd), .val (.int zb), .val (.int zs), .unset, .unset, .unset, .unset, .unset, .unset, .unset, .unset] [])
    refine own_go (fun t k => XS.iloadN X1.here hx rfl (hb hby at_34) rfl  k) ?_
    show own_WP _ _ _ _ T1 (mkF m 35 #[.val (.int zc), .val (.int zx0), .val (.long zh), .second, .val (.long zq0), .second, .val (.long zq1), .second, .val (.long zq2), .second, .val (.int za), .val (.int zd), .val (.int zb), .val (.int zs), .unset, .unset, .unset, .unset, .unset, .unset, .unset, .unset] [(.int zc)])
    refine own_go (fun t k => XS.bipush X1.here hx rfl (hb hby at_35) k) ?_
    show own_WP _ _ _ _ T1 (mkF m 37 #[.val (.int zc), .val (.int zx0), .val (.long zh), .second, .val (.long zq0), .second, .val (.long zq1), .second, .val (.long zq2), .second, .val (.int za), .val (.int zd), .val (.int zb), .val (.int zs), .unset, .unset, .unset, .unset, .unset, .unset, .unset, .unset] [(.int (7 : Int32)), (.int zc)])
    refine own_go (fun t k => XS.ishr X1.here hx rfl (hb hby at_37) rfl k) ?_
    show own_WP _ _ _ _ T1 (mkF m 38 #[.val (.int zc), .val (.int zx0), .val (.long zh), .second, .val (.long zq0), .second, .val (.long zq1), .second, .val (.long zq2), .second, .val (.int za), .val (.int zd), .val (.int zb), .val (.int zs), .unset, .unset, .unset, .unset, .unset, .unset, .unset, .unset] [(.int (zc >>> ((7 : Int32) &&& 31)))])
    refine own_go (fun t k => XS.iconst X1.here hx rfl (hb hby at_38) k) ?_
    show own_WP _ _ _ _ T1 (mkF m 39 #[.val (.int zc), .val (.int zx0), .val (.long zh), .second, .val (.long zq0), .second, .val (.long zq1), .second, .val (.long zq2), .second, .val (.int za), .val (.int zd), .val (.int zb), .val (.int zs), .unset, .unset, .unset, .unset, .unset, .unset, .unset, .unset] [(.int (1 : Int32)), (.int (zc >>> ((7 : Int32) &&& 31)))])
    refine own_go (fun t k => XS.iand X1.here hx rfl (hb hby at_39) rfl k) ?_
    show own_WP _ _ _ _ T1 (mkF m 40 #[.val (.int zc), .val (.int zx0), .val (.long zh), .second, .val (.long zq0), .second, .val (.long zq1), .second, .val (.long zq2), .second, .val (.int za), .val (.int zd), .val (.int zb), .val (.int zs), .unset, .unset, .unset, .unset, .unset, .unset, .unset, .unset] [(.int ((zc >>> ((7 : Int32) &&& 31)) &&& (1 : Int32)))])
    by_cases hc40 : ((zc >>> ((7 : Int32) &&& 31)) &&& (1 : Int32)) = (0 : Int32)
    · refine own_go (fun t k => XS.ifYes X1.here hx rfl (pc0 := 40) (pc' := 47) rfl (hb hby at_40) rfl ((if0 _ _).trans (teq hc40).1) (by decide) (by decide) k) ?_
      show own_WP _ _ _ _ T1 (mkF m 47 #[.val (.int zc), .val (.int zx0), .val (.long zh), .second, .val (.long zq0), .second, .val (.long zq1), .second, .val (.long zq2), .second, .val (.int za), .val (.int zd), .val (.int zb), .val (.int zs), .unset, .unset, .unset, .unset, .unset, .unset, .unset, .unset] [])
      refine own_go (fun t k => XS.iloadN X1.here hx rfl (hb hby at_47) rfl  k) ?_
      show own_WP _ _ _ _ T1 (mkF m 48 #[.val (.int zc), .val (.int zx0), .val (.long zh), .second, .val (.long zq0), .second, .val (.long zq1), .second, .val (.long zq2), .second, .val (.int za), .val (.int zd), .val (.int zb), .val (.int zs), .unset, .unset, .unset, .unset, .unset, .unset, .unset, .unset] [(.int zx0)])
      refine own_go (fun t k => XS.bipush X1.here hx rfl (hb hby at_48) k) ?_
      show own_WP _ _ _ _ T1 (mkF m 50 #[.val (.int zc), .val (.int zx0), .val (.long zh), .second, .val (.long zq0), .second, .val (.long zq1), .second, .val (.long zq2), .second, .val (.int za), .val (.int zd), .val (.int zb), .val (.int zs), .unset, .unset, .unset, .unset, .unset, .unset, .unset, .unset] [(.int (7 : Int32)), (.int zx0)])
      refine own_go (fun t k => XS.iand X1.here hx rfl (hb hby at_50) rfl k) ?_
      show own_WP _ _ _ _ T1 (mkF m 51 #[.val (.int zc), .val (.int zx0), .val (.long zh), .second, .val (.long zq0), .second, .val (.long zq1), .second, .val (.long zq2), .second, .val (.int za), .val (.int zd), .val (.int zb), .val (.int zs), .unset, .unset, .unset, .unset, .unset, .unset, .unset, .unset] [(.int (zx0 &&& (7 : Int32)))])
      refine own_go (fun t k => XS.iconst X1.here hx rfl (hb hby at_51) k) ?_
      show own_WP _ _ _ _ T1 (mkF m 52 #[.val (.int zc), .val (.int zx0), .val (.long zh), .second, .val (.long zq0), .second, .val (.long zq1), .second, .val (.long zq2), .second, .val (.int za), .val (.int zd), .val (.int zb), .val (.int zs), .unset, .unset, .unset, .unset, .unset, .unset, .unset, .unset] [(.int (1 : Int32)), (.int (zx0 &&& (7 : Int32)))])
      refine own_go (fun t k => XS.isub X1.here hx rfl (hb hby at_52) rfl k) ?_
      show own_WP _ _ _ _ T1 (mkF m 53 #[.val (.int zc), .val (.int zx0), .val (.long zh), .second, .val (.long zq0), .second, .val (.long zq1), .second, .val (.long zq2), .second, .val (.int za), .val (.int zd), .val (.int zb), .val (.int zs), .unset, .unset, .unset, .unset, .unset, .unset, .unset, .unset] [(.int ((zx0 &&& (7 : Int32)) - (1 : Int32)))])
      refine own_go (fun t k => XS.istore X1.here hx rfl (hb hby at_53) rfl (l' := #[.val (.int zc), .val (.int zx0), .val (.long zh), .second, .val (.long zq0), .second, .val (.long zq1), .second, .val (.long zq2), .second, .val (.int za), .val (.int zd), .val (.int zb), .val (.int zs), .val (.int ((zx0 &&& (7 : Int32)) - (1 : Int32))), .unset, .unset, .unset, .unset, .unset, .unset, .unset]) rfl k) ?_
      show own_WP _ _ _ _ T1 (mkF m 55 #[.val (.int zc), .val (.int zx0), .val (.long zh), .second, .val (.long zq0), .second, .val (.long zq1), .second, .val (.long zq2), .second, .val (.int za), .val (.int zd), .val (.int zb), .val (.int zs), .val (.int ((zx0 &&& (7 : Int32)) - (1 : Int32))), .unset, .unset, .unset, .unset, .unset, .unset, .unset] [])
      exact J55 (((zx0 &&& (7 : Int32)) - (1 : Int32))) _ _ _ X1 e1 N1 K1j  
    · refine own_go (fun t k => XS.ifNo X1.here hx rfl (hb hby at_40) rfl ((if0 _ _).trans (feq hc40).1) k) ?_
      show own_WP _ _ _ _ T1 (mkF m 43 #[.val (.int zc), .val (.int zx0), .val (.long zh), .second, .val (.long zq0), .second, .val (.long zq1), .second, .val (.long zq2), .second, .val (.int za), .val (.int zd), .val (.int zb), .val (.int zs), .unset, .unset, .unset, .unset, .unset, .unset, .unset, .unset] [])
      refine own_go (fun t k => XS.iloadN X1.here hx rfl (hb hby at_43) rfl  k) ?_
      show own_WP _ _ _ _ T1 (mkF m 44 #[.val (.int zc), .val (.int zx0), .val (.long zh), .second, .val (.long zq0), .second, .val (.long zq1), .second, .val (.long zq2), .second, .val (.int za), .val (.int zd), .val (.int zb), .val (.int zs), .unset, .unset, .unset, .unset, .unset, .unset, .unset, .unset] [(.int zx0)])
      refine own_go (fun t k => XS.goto X1.here hx rfl (pc0 := 44) (pc' := 53) rfl (hb hby at_44) (by decide) (by decide) k) ?_
      show own_WP _ _ _ _ T1 (mkF m 53 #[.val (.int zc), .val (.int zx0), .val (.long zh), .second, .val (.long zq0), .second, .val (.long zq1), .second, .val (.long zq2), .second, .val (.int za), .val (.int zd), .val (.int zb), .val (.int zs), .unset, .unset, .unset, .unset, .unset, .unset, .unset, .unset] [(.int zx0)])
      refine own_go (fun t k => XS.istore X1.here hx rfl (hb hby at_53) rfl (l' := #[.val (.int zc), .val (.int zx0), .val (.long zh), .second, .val (.long zq0), .second, .val (.long zq1), .second, .val (.long zq2), .second, .val (.int za), .val (.int zd), .val (.int zb), .val (.int zs), .val (.int zx0), .unset, .unset, .unset, .unset, .unset, .unset, .unset]) rfl k) ?_
      show own_WP _ _ _ _ T1 (mkF m 55 #[.val (.int zc), .val (.int zx0), .val (.long zh), .second, .val (.long zq0), .second, .val (.long zq1), .second, .val (.long zq2), .second, .val (.int za), .val (.int zd), .val (.int zb), .val (.int zs), .val (.int zx0), .unset, .unset, .unset, .unset, .unset, .unset, .unset] [])
      exact J55 zx0 _ _ _ X1 e1 N1 K1j  
  show own_WP _ _ _ _ s₁ (mkF m 5 #[.val (.int zc), .val (.int zx0), .val (.long zh), .second, .val (.long zq0), .second, .val (.long zq1), .second, .val (.long zq2), .second, .val (.int za), .unset, .unset, .unset, .unset, .unset, .unset, .unset, .unset, .unset, .unset, .unset] [])
  refine own_go (fun t k => XS.iloadN X0.here hx rfl (hb hby at_5) rfl  k) ?_
  show own_WP _ _ _ _ s₁ (mkF m 6 #[.val (.int zc), .val (.int zx0), .val (.long zh), .second, .val (.long zq0), .second, .val (.long zq1), .second, .val (.long zq2), .second, .val (.int za), .unset, .unset, .unset, .unset, .unset, .unset, .unset, .unset, .unset, .unset, .unset] [(.int zc)])
  refine own_go (fun t k => XS.iconst X0.here hx rfl (hb hby at_6) k) ?_
  show own_WP _ _ _ _ s₁ (mkF m 7 #[.val (.int zc), .val (.int zx0), .val (.long zh), .second, .val (.long zq0), .second, .val (.long zq1), .second, .val (.long zq2), .second, .val (.int za), .unset, .unset, .unset, .unset, .unset, .unset, .unset, .unset, .unset, .unset, .unset] [(.int (2 : Int32)), (.int zc)])
  refine own_go (fun t k => XS.ishr X0.here hx rfl (hb hby at_7) rfl k) ?_
  show own_WP _ _ _ _ s₁ (mkF m 8 #[.val (.int zc), .val (.int zx0), .val (.long zh), .second, .val (.long zq0), .second, .val (.long zq1), .second, .val (.long zq2), .second, .val (.int za), .unset, .unset, .unset, .unset, .unset, .unset, .unset, .unset, .unset, .unset, .unset] [(.int (zc >>> ((2 : Int32) &&& 31)))])
  refine own_go (fun t k => XS.iconst X0.here hx rfl (hb hby at_8) k) ?_
  show own_WP _ _ _ _ s₁ (mkF m 9 #[.val (.int zc), .val (.int zx0), .val (.long zh), .second, .val (.long zq0), .second, .val (.long zq1), .second, .val (.long zq2), .second, .val (.int za), .unset, .unset, .unset, .unset, .unset, .unset, .unset, .unset, .unset, .unset, .unset] [(.int (1 : Int32)), (.int (zc >>> ((2 : Int32) &&& 31)))])
  refine own_go (fun t k => XS.iand X0.here hx rfl (hb hby at_9) rfl k) ?_
  show own_WP _ _ _ _ s₁ (mkF m 10 #[.val (.int zc), .val (.int zx0), .val (.long zh), .second, .val (.long zq0), .second, .val (.long zq1), .second, .val (.long zq2), .second, .val (.int za), .unset, .unset, .unset, .unset, .unset, .unset, .unset, .unset, .unset, .unset, .unset] [(.int ((zc >>> ((2 : Int32) &&& 31)) &&& (1 : Int32)))])
  by_cases hc10 : ((zc >>> ((2 : Int32) &&& 31)) &&& (1 : Int32)) = (0 : Int32)
  · refine own_go (fun t k => XS.ifYes X0.here hx rfl (pc0 := 10) (pc' := 17) rfl (hb hby at_10) rfl ((if0 _ _).trans (teq hc10).1) (by decide) (by decide) k) ?_
    show own_WP _ _ _ _ s₁ (mkF m 17 #[.val (.int zc), .val (.int zx0), .val (.long zh), .second, .val (.long zq0), .second, .val (.long zq1), .second, .val (.long zq2), .second, .val (.int za), .unset, .unset, .unset, .unset, .unset, .unset, .unset, .unset, .unset, .unset, .unset] [])
    refine own_go (fun t k => XS.iconst X0.here hx rfl (hb hby at_17) k) ?_
    show own_WP _ _ _ _ s₁ (mkF m 18 #[.val (.int zc), .val (.int zx0), .val (.long zh), .second, .val (.long zq0), .second, .val (.long zq1), .second, .val (.long zq2), .second, .val (.int za), .unset, .unset, .unset, .unset, .unset, .unset, .unset, .unset, .unset, .unset, .unset] [(.int (0 : Int32))])
    refine own_go (fun t k => XS.istore X0.here hx rfl (hb hby at_18) rfl (l' := #[.val (.int zc), .val (.int zx0), .val (.long zh), .second, .val (.long zq0), .second, .val (.long zq1), .second, .val (.long zq2), .second, .val (.int za), .val (.int (0 : Int32)), .unset, .unset, .unset, .unset, .unset, .unset, .unset, .unset, .unset, .unset]) rfl k) ?_
    show own_WP _ _ _ _ s₁ (mkF m 20 #[.val (.int zc), .val (.int zx0), .val (.long zh), .second, .val (.long zq0), .second, .val (.long zq1), .second, .val (.long zq2), .second, .val (.int za), .val (.int (0 : Int32)), .unset, .unset, .unset, .unset, .unset, .unset, .unset, .unset, .unset, .unset] [])
    exact J20 (0 : Int32) _ _ _ X0 e0 N0 K0  
  · refine own_go (fun t k => XS.ifNo X0.here hx rfl (hb hby at_10) rfl ((if0 _ _).trans (feq hc10).1) k) ?_
    show own_WP _ _ _ _ s₁ (mkF m 13 #[.val (.int zc), .val (.int zx0), .val (.long zh), .second, .val (.long zq0), .second, .val (.long zq1), .second, .val (.long zq2), .second, .val (.int za), .unset, .unset, .unset, .unset, .unset, .unset, .unset, .unset, .unset, .unset, .unset] [])
    refine own_go (fun t k => XS.iconst X0.here hx rfl (hb hby at_13) k) ?_
    show own_WP _ _ _ _ s₁ (mkF m 14 #[.val (.int zc), .val (.int zx0), .val (.long zh), .second, .val (.long zq0), .second, .val (.long zq1), .second, .val (.long zq2), .second, .val (.int za), .unset, .unset, .unset, .unset, .unset, .unset, .unset, .unset, .unset, .unset, .unset] [(.int (1 : Int32))])
    refine own_go (fun t k => XS.goto X0.here hx rfl (pc0 := 14) (pc' := 18) rfl (hb hby at_14) (by decide) (by decide) k) ?_
    show own_WP _ _ _ _ s₁ (mkF m 18 #[.val (.int zc), .val (.int zx0), .val (.long zh), .second, .val (.long zq0), .second, .val (.long zq1), .second, .val (.long zq2), .second, .val (.int za), .unset, .unset, .unset, .unset, .unset, .unset, .unset, .unset, .unset, .unset, .unset] [(.int (1 : Int32))])
    refine own_go (fun t k => XS.istore X0.here hx rfl (hb hby at_18) rfl (l' := #[.val (.int zc), .val (.int zx0), .val (.long zh), .second, .val (.long zq0), .second, .val (.long zq1), .second, .val (.long zq2), .second, .val (.int za), .val (.int (1 : Int32)), .unset, .unset, .unset, .unset, .unset, .unset, .unset, .unset, .unset, .unset]) rfl k) ?_
    show own_WP _ _ _ _ s₁ (mkF m 20 #[.val (.int zc), .val (.int zx0), .val (.long zh), .second, .val (.long zq0), .second, .val (.long zq1), .second, .val (.long zq2), .second, .val (.int za), .val (.int (1 : Int32)), .unset, .unset, .unset, .unset, .unset, .unset, .unset, .unset, .unset, .unset] [])
    exact J20 (1 : Int32) _ _ _ X0 e0 N0 K0  
set_option maxRecDepth 65536 in
set_option maxHeartbeats 40000000 in
theorem comes_1 {Post : Tables → Env → Array Value → State → Outcome → State → Prop} (hpost : ∀ tb e args s v u, (limb_1_1.after args s (.returned v) u = true ∧ limb_1_2.after args s (.returned v) u = true ∧ True) → FrameEnd s (.returned v) u (Jvm.fieldLocs frame_1_writes args s ++ Jvm.arrayLocs frame_1_arrays args s ++ Jvm.staticLocs frame_1_statics s) 16 128 → Post tb e args s (.returned v) u) :
    ArmFor flags0 classFile x code maxLocals ret World_1 tables_1 room_1 Calls_1 rest_1 Pre_1 Post := by
  intro l hfl _ _ p e ha hc hk s m args below hf hA hF happ hP
  obtain ⟨hcalls, hrest, hpre⟩ := hP
  obtain ⟨-, -, -, hnamed, -, -, -, hat⟩ := (Spec.applies_iff hf).mp happ
  obtain ⟨hg, hn⟩ := and_e (Cond.before_iff.mp (show (Jvm.Cond.and given_1 narrow_1).before args s = true from hpre))
  obtain ⟨u0, v0⟩ := and_e hg
  obtain ⟨u1, v1⟩ := and_e v0
  obtain ⟨u2, v2⟩ := and_e v1
  obtain ⟨u3, v3⟩ := and_e v2
  obtain ⟨u4, v4⟩ := and_e v3
  obtain ⟨u5, v5⟩ := and_e v4
  obtain ⟨w0, w1, w2, w3, w4, w5, rfl⟩ : ∃ w0 w1 w2 w3 w4 w5 : Value, args = #[w0, w1, w2, w3, w4, w5] := by
    have hs : args.size = 6 := by simpa [Cond.value, given_1] using u0
    obtain ⟨L⟩ := args
    match L, hs with
    | [w0, w1, w2, w3, w4, w5], _ => exact ⟨w0, w1, w2, w3, w4, w5, rfl⟩
  have hw := fun d (hd : d ∈ tables_1) => atoms_spec (ws := Jvm.Cond.code x code maxLocals ret :: tables_1) hat d (List.mem_cons_of_mem _ hd)
  obtain ⟨i0, ei0⟩ := is_v u1
  obtain rfl : w0 = (.int i0) := Option.some.inj ei0
  obtain ⟨i1, ei1⟩ := is_v u2
  obtain rfl : w1 = (.int i1) := Option.some.inj ei1
  obtain ⟨i2, ei2⟩ := isL_v u3
  obtain rfl : w2 = (.long i2) := Option.some.inj ei2
  obtain ⟨i3, ei3⟩ := isL_v u4
  obtain rfl : w3 = (.long i3) := Option.some.inj ei3
  obtain ⟨i4, ei4⟩ := isL_v u5
  obtain rfl : w4 = (.long i4) := Option.some.inj ei4
  obtain ⟨i5, ei5⟩ := isL_v v5
  obtain rfl : w5 = (.long i5) := Option.some.inj ei5
  obtain ⟨n, o, h1, h2, h3, _, L, rfl, ⟨rfl, N⟩, hq⟩ := rm0 l s _ hw tables_1 i0 i1 i2 i3 i4 i5  s.heap s.heap.size (Nat.le_refl _)  p e ha hc hk s m _ below hf ((Spec.applies_iff_loose hf).mp happ).1 ⟨rfl, State.Warmed39.refl s, rfl⟩ trivial
  refine ⟨n, _, h1, h2, h3, hpost _ _ _ _ _ _ ⟨Cond.after_iff.mpr rfl, Cond.after_iff.mpr (eq_i res_at (Term.int_eval (1)) rfl), trivial⟩ ⟨hq.1, hq.2.1, (hq.2.2.sift fun y hy => Or.inr (N y hy)).mono (by decide) (by decide)⟩⟩
theorem main_1_1 : Claimed_1_1 := comes_1 fun _ _ _ _ _ _ h hF => ⟨h.1, hF⟩
theorem main_1_2 : Claimed_1_2 := comes_1 fun _ _ _ _ _ _ h hF => ⟨h.2.1, hF⟩
end Jvm.Pilot.@@N@@
namespace Jvm.Pilot.@@N@@
open Jvm Jvm.ClassFile Sem Op Lib Jvm.Free Jvm.Stand Jvm.Pilot.@@N@@.Jvm.D
/-! MADE BY PROGRAM (witnessworld.py) out of the Statement's table words and the real class files: 11 classes; the members and pool entries that the words name. The judged class is class 1, her method 1. -/
namespace start1
open Jvm.ClassFile
def u (s : String) : CpInfo := .utf8 (stringToUtf16 s)
/-- a pool by its gaps: so many unusable entries, then the entry; so many at the end -/
def gap : Nat → List CpInfo → List CpInfo
  | 0, r => r
  | n + 1, r => .unusable :: gap n r
def poolList (es : List (Nat × CpInfo)) (last : Nat) : List CpInfo := es.foldr (fun e r => gap e.1 (e.2 :: r)) (gap last [])
def pool (es : List (Nat × CpInfo)) (last : Nat) : Array CpInfo := ⟨poolList es last⟩
def fileOf (pool : Array CpInfo) (this : Nat) (attrs : Array Attribute := #[]) (ms : Array MethodInfo := #[]) (fl : Nat := 33) (sup : Nat := 0) (ifs : Array Nat := #[]) (fds : Array FieldInfo := #[]) : ClassFile where
  minorVersion := 0
  majorVersion := 65
  constantPool := pool
  accessFlags := fl
  thisClass := this
  superClass := sup
  interfaces := ifs
  fields := fds
  methods := ms
  attributes := attrs
def plain (name : String) (sup : Option ClassId) : Class where
  name := name
  kind := .ordinary
  loader := none
  accessFlags := 33
  super := sup
  interfaces := #[]
  cf := none
  fields := #[]
  methods := #[]
  instanceTypes := #[]
  staticTypes := #[]
  resolved := #[]
  callSites := []
  init := .initialized
  statics := none
  mirror := none

def pool0 : Array CpInfo := pool [(5, u "<init>"), (0, u "()V"), (1, .class_ 10), (1, u "java/lang/Object")] 113

def k0c0 : Code := { maxStack := 0, maxLocals := 1, code := object_method_1_code, exceptionTable := #[], attributes := #[] }
def k0m0 : Method := { name := "<init>", desc := "()V", sig := { parameters := [], returnType := none }, accessFlags := 1, code := some k0c0 }
/-- java/lang/Object -/
def k0 : Class := { plain "java/lang/Object" none with
  accessFlags := 33
  interfaces := #[]
  cf := some (fileOf pool0 8 #[] #[{ accessFlags := 1, nameIndex := 5, descriptorIndex := 6, attributes := #[] }] 33 0 #[] #[])
  fields := #[]
  methods := #[k0m0]
  instanceTypes := #[]
  staticTypes := #[]
  resolved := Array.replicate 124 none
  statics := none }

def pool1 : Array CpInfo := pool [(2, .class_ 4), (0, .nameAndType 5 6), (0, u "java/lang/Object"), (0, u "<init>"), (0, u "()V"), (0, .class_ 8), (0, u "com/example/ringspan/ringspan/symmetry/Trace"), (0, .methodref 7 3), (0, .methodref 7 11), (0, .nameAndType 12 13), (0, u "add"), (0, u "(J)V"), (0, .methodref 7 15), (0, .nameAndType 16 6), (0, u "clear"), (0, .methodref 7 18), (0, .nameAndType 19 20), (0, u "endsWith"), (0, u "(IJ)Z"), (0, .class_ 22), (0, u "com/example/ringspan/ringspan/symmetry/TraceEndsWithPinLaw"), (2, u "law"), (0, u "(IIJJJJ)Z")] 3

def k1m0 : Method := { name := "<init>", desc := "()V", sig := { parameters := [], returnType := none }, accessFlags := 1, code := none }
def k1c1 : Code := { maxStack := 4, maxLocals := 22, code := code, exceptionTable := #[], attributes := #[] }
def k1m1 : Method := { name := "law", desc := "(IIJJJJ)Z", sig := { parameters := [.int, .int, .long, .long, .long, .long], returnType := some .boolean }, accessFlags := 9, code := some k1c1 }
/-- com/example/ringspan/ringspan/symmetry/TraceEndsWithPinLaw -/
def k1 : Class := { plain "com/example/ringspan/ringspan/symmetry/TraceEndsWithPinLaw" (some 0) with
  accessFlags := 49
  interfaces := #[]
  cf := some (fileOf pool1 21 #[] #[{ accessFlags := 1, nameIndex := 5, descriptorIndex := 6, attributes := #[] }, { accessFlags := 9, nameIndex := 25, descriptorIndex := 26, attributes := #[] }] 49 2 #[] #[])
  fields := #[]
  methods := #[k1m0, k1m1]
  instanceTypes := #[]
  staticTypes := #[]
  resolved := Array.replicate 30 none
  statics := none }

def pool2 : Array CpInfo := pool [(1, .methodref 2 3), (0, .class_ 4), (0, .nameAndType 5 6), (0, u "java/lang/Object"), (0, u "<init>"), (0, u "()V"), (0, .fieldref 8 9), (0, .class_ 10), (0, .nameAndType 11 12), (0, u "com/example/ringspan/ringspan/symmetry/Trace"), (0, u "hashes"), (0, u "[J"), (0, .fieldref 8 14), (0, .nameAndType 15 16), (0, u "length"), (0, u "I"), (8, u "clear"), (0, u "add"), (0, u "(J)V"), (2, u "(IJ)Z"), (0, u "endsWith")] 2

def k2c0 : Code := { maxStack := 2, maxLocals := 1, code := prog_75_method_1_code, exceptionTable := #[], attributes := #[] }
def k2m0 : Method := { name := "<init>", desc := "()V", sig := { parameters := [], returnType := none }, accessFlags := 0, code := some k2c0 }
def k2c1 : Code := { maxStack := 2, maxLocals := 1, code := prog_75_method_2_code, exceptionTable := #[], attributes := #[] }
def k2m1 : Method := { name := "clear", desc := "()V", sig := { parameters := [], returnType := none }, accessFlags := 0, code := some k2c1 }
def k2c2 : Code := { maxStack := 5, maxLocals := 3, code := prog_75_method_3_code, exceptionTable := #[], attributes := #[] }
def k2m2 : Method := { name := "add", desc := "(J)V", sig := { parameters := [.long], returnType := none }, accessFlags := 0, code := some k2c2 }
def k2c3 : Code := { maxStack := 4, maxLocals := 4, code := prog_75_method_5_code, exceptionTable := #[], attributes := #[] }
def k2m3 : Method := { name := "endsWith", desc := "(IJ)Z", sig := { parameters := [.int, .long], returnType := some .boolean }, accessFlags := 0, code := some k2c3 }
/-- com/example/ringspan/ringspan/symmetry/Trace -/
def k2 : Class := { plain "com/example/ringspan/ringspan/symmetry/Trace" (some 0) with
  accessFlags := 48
  interfaces := #[]
  cf := some (fileOf pool2 8 #[] #[{ accessFlags := 0, nameIndex := 5, descriptorIndex := 6, attributes := #[] }, { accessFlags := 0, nameIndex := 25, descriptorIndex := 6, attributes := #[] }, { accessFlags := 0, nameIndex := 26, descriptorIndex := 27, attributes := #[] }, { accessFlags := 0, nameIndex := 31, descriptorIndex := 30, attributes := #[] }] 48 2 #[] #[{ accessFlags := 2, nameIndex := 11, descriptorIndex := 12, attributes := #[] }, { accessFlags := 2, nameIndex := 15, descriptorIndex := 16, attributes := #[] }])
  fields := #[{ name := "hashes", type := (.array .long), accessFlags := 2, slot := 0, constantValue := 0 }, { name := "length", type := .int, accessFlags := 2, slot := 1, constantValue := 0 }]
  methods := #[k2m0, k2m1, k2m2, k2m3]
  instanceTypes := #[(.array .long), .int]
  staticTypes := #[]
  resolved := Array.replicate 34 none
  statics := none }

def pool3 : Array CpInfo := pool [(1, u "java/lang/Cloneable"), (0, .class_ 1), (0, u "java/lang/Object"), (0, .class_ 3)] 3

/-- java/lang/Cloneable -/
def k3 : Class := { plain "java/lang/Cloneable" (some 0) with
  accessFlags := 1537
  interfaces := #[]
  cf := some (fileOf pool3 2 #[] #[] 1537 4 #[] #[])
  fields := #[]
  methods := #[]
  instanceTypes := #[]
  staticTypes := #[]
  resolved := Array.replicate 8 none
  statics := none }

def pool4 : Array CpInfo := pool [(1, u "java/io/Serializable"), (0, .class_ 1), (0, u "java/lang/Object"), (0, .class_ 3)] 3

/-- java/io/Serializable -/
def k4 : Class := { plain "java/io/Serializable" (some 0) with
  accessFlags := 1537
  interfaces := #[]
  cf := some (fileOf pool4 2 #[] #[] 1537 4 #[] #[])
  fields := #[]
  methods := #[]
  instanceTypes := #[]
  staticTypes := #[]
  resolved := Array.replicate 8 none
  statics := none }

/-- the primitive byte -/
def k5 : Class := { plain "byte" none with kind := .primitive 'B', accessFlags := 0x411 }
/-- [B -/
def k6 : Class := { plain "[B" (some 0) with kind := .array 5 .byte, interfaces := #[3, 4], accessFlags := 1041 }

/-- the primitive int -/
def k7 : Class := { plain "int" none with kind := .primitive 'I', accessFlags := 0x411 }
/-- [I -/
def k8 : Class := { plain "[I" (some 0) with kind := .array 7 .int, interfaces := #[3, 4], accessFlags := 1041 }

/-- the primitive long -/
def k9 : Class := { plain "long" none with kind := .primitive 'J', accessFlags := 0x411 }
/-- [J -/
def k10 : Class := { plain "[J" (some 0) with kind := .array 9 .long, interfaces := #[3, 4], accessFlags := 1041 }

def heap : Heap := #[]
def classes : Array Class := #[k0, k1, k2, k3, k4, k5, k6, k7, k8, k9, k10]
def interned : List (Array UInt16 × Addr) := []
def slotsUsed : Nat := 0
def theMethod : MethodId := ⟨1, 1⟩
def args0 : Array Value := #[.int 5, .int 9, .long 3, .long 2, .long 1, .long 0]
def aboutOver (below : List Frame) : State where
  vm := { classes := classes, interned := interned.toArray }
  heap := heap
  slotsUsed := slotsUsed
  threads := #[{ frames := .invoking theMethod args0 :: below }]
def below0 : List Frame := [.native { method := ⟨0, 0⟩, args := #[] }]
def about1 : State := aboutOver below0
def p0 : Program := .bare "" "" ""
def e0 : Env := launch0.env 0 0 0
theorem w_frames : about1.frames = Frame.invoking theMethod args0 :: below0 := rfl
set_option maxRecDepth 65536 in
theorem w_args : argsFit about1.vm theMethod args0 = true := by decide +kernel
set_option maxRecDepth 65536 in
theorem w_heap : heapFits about1 = true := by decide +kernel
set_option maxRecDepth 65536 in
theorem w_runnable : about1.curStatus? = some .runnable := by decide +kernel
set_option maxRecDepth 65536 in
theorem w_alone : about1.alone = true := by decide +kernel
set_option maxRecDepth 65536 in
theorem w_named : about1.methodNamed? x = some theMethod := by decide +kernel
set_option maxRecDepth 65536 in
theorem w_hears : about1.hears theMethod below0 = true := by decide +kernel
set_option maxRecDepth 65536 in
theorem w_ripe : about1.ripe theMethod args0 below0 = true := by decide +kernel
theorem w_running : about1.status = .running := rfl
set_option maxRecDepth 65536 in
theorem w_room : about1.hasRoom e0.platform room_1 = true :=
  launch0.hasRoom_least _ room_1 (by decide +kernel) (by decide +kernel) (by decide +kernel) (by decide +kernel) (by decide +kernel) (by decide +kernel)
theorem allAtoms_all (ts : List Jvm.Cond) (a : Array Jvm.Value) (st : Jvm.State) : (allAtoms ts).before a st = ts.all (fun c => c.before a st) := by
  induction ts with
  | nil => rfl
  | cons c t ih =>
    show (Jvm.Cond.and c (allAtoms t)).before a st = _
    rw [Jvm.Cond.before_and, ih, List.all_cons]
def words1 : List Jvm.Cond := Jvm.Cond.code x code maxLocals ret :: tables_1
/-- a 'code' word, met by the world's own term for the bytes: nothing is compared byte by byte -/
theorem code_word {y : MethodName} {bytes : ByteArray} {mx : Nat} {rt : Option FieldType} {a : Array Value} {s : State} {m : MethodId} {meth : Method} {c : Code} (h1 : s.methodNamed? y = some m) (h2 : s.vm.method? m = some meth) (h3 : meth.code = some c) (h4 : c.code = bytes)
    (h5 : (c.maxLocals == mx && c.exceptionTable.isEmpty && decide (c.maxStack ≤ mostOperands) && decide (meth.sig.returnType = rt) && !meth.locks && decide (parseMethodDescriptor y.desc = some meth.sig)) = true) : (Jvm.Cond.code y bytes mx rt).before a s = true := by
  simp only [Bool.and_eq_true, beq_iff_eq, Bool.not_eq_true', decide_eq_true_eq] at h5
  obtain ⟨⟨⟨⟨⟨g1, g2⟩, g3⟩, g4⟩, g5⟩, g6⟩ := h5
  simp [Cond.before, Cond.holds, Cond.value, h1, h2, h3, h4, g1, g2, g3, g4, g5, g6]
def isCode : Jvm.Cond → Bool
  | .code _ _ _ _ => true
  | _ => false
theorem all_split {L : List Jvm.Cond} {P : Jvm.Cond → Bool} (h1 : L.all (fun c => isCode c || P c) = true) (h2 : ∀ c ∈ L.filter isCode, P c = true) : L.all P = true := by
  refine List.all_eq_true.mpr fun c hc => ?_
  have h := List.all_eq_true.mp h1 c hc
  rcases Bool.eq_false_or_eq_true (isCode c) with hi | hi
  · exact h2 c (List.mem_filter.mpr ⟨hc, hi⟩)
  · simpa [hi] using h
set_option maxRecDepth 65536 in
theorem w_c0 : (Jvm.Cond.code x code maxLocals ret).before args0 about1 = true := code_word (m := ⟨1, 1⟩) (meth := k1m1) (c := k1c1) (by decide +kernel) rfl rfl rfl (by decide +kernel)
set_option maxRecDepth 65536 in
theorem w_c1 : (Jvm.Cond.code ({ cls := "com/example/ringspan/ringspan/symmetry/Trace", name := "<init>", desc := "()V" } : Jvm.MethodName) prog_75_method_1_code (1 : Nat) (Option.none : Option Jvm.ClassFile.FieldType)).before args0 about1 = true := code_word (m := ⟨2, 0⟩) (meth := k2m0) (c := k2c0) (by decide +kernel) rfl rfl rfl (by decide +kernel)
set_option maxRecDepth 65536 in
theorem w_c2 : (Jvm.Cond.code ({ cls := "java/lang/Object", name := "<init>", desc := "()V" } : Jvm.MethodName) object_method_1_code (1 : Nat) (Option.none : Option Jvm.ClassFile.FieldType)).before args0 about1 = true := code_word (m := ⟨0, 0⟩) (meth := k0m0) (c := k0c0) (by decide +kernel) rfl rfl rfl (by decide +kernel)
set_option maxRecDepth 65536 in
theorem w_c3 : (Jvm.Cond.code ({ cls := "com/example/ringspan/ringspan/symmetry/Trace", name := "endsWith", desc := "(IJ)Z" } : Jvm.MethodName) prog_75_method_5_code (4 : Nat) (Option.some Jvm.ClassFile.FieldType.boolean)).before args0 about1 = true := code_word (m := ⟨2, 3⟩) (meth := k2m3) (c := k2c3) (by decide +kernel) rfl rfl rfl (by decide +kernel)
set_option maxRecDepth 65536 in
theorem w_c4 : (Jvm.Cond.code ({ cls := "com/example/ringspan/ringspan/symmetry/Trace", name := "add", desc := "(J)V" } : Jvm.MethodName) prog_75_method_3_code (3 : Nat) (Option.none : Option Jvm.ClassFile.FieldType)).before args0 about1 = true := code_word (m := ⟨2, 2⟩) (meth := k2m2) (c := k2c2) (by decide +kernel) rfl rfl rfl (by decide +kernel)
set_option maxRecDepth 65536 in
theorem w_c5 : (Jvm.Cond.code ({ cls := "com/example/ringspan/ringspan/symmetry/Trace", name := "clear", desc := "()V" } : Jvm.MethodName) prog_75_method_2_code (1 : Nat) (Option.none : Option Jvm.ClassFile.FieldType)).before args0 about1 = true := code_word (m := ⟨2, 1⟩) (meth := k2m1) (c := k2c1) (by decide +kernel) rfl rfl rfl (by decide +kernel)
def codes1 : List Jvm.Cond := [Jvm.Cond.code x code maxLocals ret, Jvm.Cond.code ({ cls := "com/example/ringspan/ringspan/symmetry/Trace", name := "<init>", desc := "()V" } : Jvm.MethodName) prog_75_method_1_code (1 : Nat) (Option.none : Option Jvm.ClassFile.FieldType), Jvm.Cond.code ({ cls := "java/lang/Object", name := "<init>", desc := "()V" } : Jvm.MethodName) object_method_1_code (1 : Nat) (Option.none : Option Jvm.ClassFile.FieldType), Jvm.Cond.code ({ cls := "com/example/ringspan/ringspan/symmetry/Trace", name := "endsWith", desc := "(IJ)Z" } : Jvm.MethodName) prog_75_method_5_code (4 : Nat) (Option.some Jvm.ClassFile.FieldType.boolean), Jvm.Cond.code ({ cls := "com/example/ringspan/ringspan/symmetry/Trace", name := "add", desc := "(J)V" } : Jvm.MethodName) prog_75_method_3_code (3 : Nat) (Option.none : Option Jvm.ClassFile.FieldType), Jvm.Cond.code ({ cls := "com/example/ringspan/ringspan/symmetry/Trace", name := "clear", desc := "()V" } : Jvm.MethodName) prog_75_method_2_code (1 : Nat) (Option.none : Option Jvm.ClassFile.FieldType)]
set_option maxRecDepth 65536 in
theorem codes_eq : words1.filter isCode = codes1 := rfl
theorem w_codes : ∀ c ∈ words1.filter isCode, c.before args0 about1 = true := by
  rw [codes_eq]
  intro c hc
  simp only [codes1, List.mem_cons, List.not_mem_nil, or_false] at hc
  rcases hc with rfl | rfl | rfl | rfl | rfl | rfl
  · exact w_c0
  · exact w_c1
  · exact w_c2
  · exact w_c3
  · exact w_c4
  · exact w_c5
set_option maxRecDepth 65536 in
theorem w_t1 : (words1.take 24).all (fun c => isCode c || c.before args0 about1) = true := by decide +kernel
set_option maxRecDepth 65536 in
theorem w_t2 : (words1.drop 24).all (fun c => isCode c || c.before args0 about1) = true := by decide +kernel
theorem w_tables : (allAtoms (Jvm.Cond.code x code maxLocals ret :: tables_1)).before args0 about1 = true := by
  rw [allAtoms_all]
  show words1.all (fun c => c.before args0 about1) = true
  refine all_split ?_ w_codes
  rw [← List.take_append_drop 24 words1, List.all_append, w_t1, w_t2]
  rfl
set_option maxRecDepth 65536 in
theorem w_case : (Jvm.Cond.and given_1 narrow_1).before args0 about1 = true := by decide +kernel
theorem w_applies : (headSpec (Jvm.Cond.code x code maxLocals ret :: tables_1) room_1).applies x e0.platform about1 = true :=
  (Spec.applies_iff w_frames).mpr ⟨w_running, w_runnable, w_alone, w_named, w_hears, w_ripe, w_room, w_tables⟩
theorem atStart : AtStart classFile x code maxLocals ret World_1 tables_1 room_1 Calls_1 rest_1 Pre_1 launch0 p0 e0 about1 theMethod args0 below0 :=
  ⟨lists_1, trivial, launch0.admits_env _ _ _, launch0.least_env, fairChoices_fair.cas, fairChoices_fair.clock, w_frames, w_args, w_heap, w_applies, trivial, trivial, w_case⟩
end start1
theorem witness_1 : WitnessClaimed_1 := ⟨start1.p0, start1.e0, start1.about1, start1.theMethod, start1.args0, start1.below0, start1.atStart⟩
end Jvm.Pilot.@@N@@
