import JvmDerived
import JvmDerived.Pilot.@@N@@Statement
import JvmDerived.Pilot.@@N@@Code
set_option linter.unusedVariables false
set_option linter.unusedSimpArgs false
@@BLOCK:NumsL.lean.txt@@
namespace Jvm.Pilot.@@N@@
open Jvm Jvm.ClassFile Sem Op Lib Jvm.Free Jvm.Stand Jvm.LawKit Jvm.RoadKit Bundle Jvm.Pilot.@@N@@.Jvm.D
section OwnKit
variable {p : Program} {l : Launch} {e : Env} {R : Room} {s : State} {m : MethodId} {args : Array Value} {below : List Frame} {meth : Method} {c : Code} {T T' : State} {locs : List Loc} {cells slots : Nat} {Z : State} {h : Heap} {a0 : Array Value}
/-- from the state T with the frame g on top the method comes to its end, and what it leaves meets E -/
def own_WP (p : Program) (e : Env) (below : List Frame) (E : Outcome → State → Prop) (T : State) (g : JFrame) : Prop :=
  ∃ s₂ o, Steps p.tables e below (T.setTop g) s₂ ∧ s₂.status = .running ∧ Ended s₂ below o ∧ E o s₂
/-- it returns, and what it leaves meets Q within K cells and N slots -/
def own_E (s : State) (Q : Option Value → Heap → List Loc → Prop) (K N : Nat) (o : Outcome) (t : State) : Prop := ∃ v L, o = .returned v ∧ Q v t.heap L ∧ FrameEnd s o t L K N
variable {Q : Option Value → Heap → List Loc → Prop} {K N : Nat} {g g' : JFrame} {E : Outcome → State → Prop}
theorem own_go (h : ∀ t, Steps p.tables e below (T'.setTop g') t → Steps p.tables e below (T.setTop g) t) (k : own_WP p e below E T' g') : own_WP p e below E T g := by
  obtain ⟨s₂, o, h1, h2⟩ := k
  exact ⟨s₂, o, h s₂ h1, h2⟩
theorem own_tr (h : Steps p.tables e below (T.setTop g) (T'.setTop g')) (k : own_WP p e below E T' g') : own_WP p e below E T g := by
  obtain ⟨s₂, o, h1, h2⟩ := k
  exact ⟨s₂, o, h.trans h1, h2⟩
theorem own_end (X : Stand p l e R s m args below meth c T locs cells slots) (hlk : meth.locks = false) {v : Option Value} (hv : meth.sig.returnType = none → v = none)
    (hs : ∀ fs, (∀ (f : JFrame) (acts : List Action), f.method = m → f.locked = none → f.entered = [] → (doReturn e (T.setTop f) acts v).1 = T.setFrames fs) → Steps p.tables e below (T.setTop g) (T.setFrames fs))
    (hk : cells ≤ K) (hn : slots ≤ N) (hq : Q v T.heap locs) : own_WP p e below (own_E s Q K N) T g := by
  obtain ⟨fs, hr, hrun, hended, hW, hsame⟩ := X.leave hv hlk
  exact ⟨_, _, hs fs hr, hrun, hended, _, _, rfl, hq, ⟨_, rfl⟩, hW, hsame.mono hk hn⟩
theorem own_retV (X : Stand p l e R s m args below meth c T locs cells slots) (hx : p.tables.exec = Jvm.exec) (hlk : meth.locks = false) {pc : Nat} {Ls : Array Slot} (hret : meth.sig.returnType = none) (hd : decode c.code pc = .ok (.return_, 1))
    (hk : cells ≤ K) (hn : slots ≤ N) (hq : Q none T.heap locs) : own_WP p e below (own_E s Q K N) T (mkF m pc Ls []) :=
  own_end X hlk (fun _ => rfl) (fun fs hr => X.returnOut hx hret hd hr) hk hn hq
theorem own_retI (X : Stand p l e R s m args below meth c T locs cells slots) (hx : p.tables.exec = Jvm.exec) (hlk : meth.locks = false) {pc : Nat} {Ls : Array Slot} {z : Int32} (hret : meth.sig.returnType = some .int) (hd : decode c.code pc = .ok (.ireturn, 1))
    (hk : cells ≤ K) (hn : slots ≤ N) (hq : Q (some (.int z)) T.heap locs) : own_WP p e below (own_E s Q K N) T (mkF m pc Ls [.int z]) :=
  own_end X hlk (fun h => by rw [hret] at h; cases h) (fun fs hr => retOut X hx hret rfl (Or.inl ⟨rfl, Or.inl rfl, z, rfl⟩) hd hr) hk hn hq
theorem own_retJ (X : Stand p l e R s m args below meth c T locs cells slots) (hx : p.tables.exec = Jvm.exec) (hlk : meth.locks = false) {pc : Nat} {Ls : Array Slot} {z : Int64} (hret : meth.sig.returnType = some .long) (hd : decode c.code pc = .ok (.lreturn, 1))
    (hk : cells ≤ K) (hn : slots ≤ N) (hq : Q (some (.long z)) T.heap locs) : own_WP p e below (own_E s Q K N) T (mkF m pc Ls [.long z]) :=
  own_end X hlk (fun h => by rw [hret] at h; cases h) (fun fs hr => X.lreturnOut hx hret hd hr) hk hn hq
theorem own_retA (X : Stand p l e R s m args below meth c T locs cells slots) (hx : p.tables.exec = Jvm.exec) (hlk : meth.locks = false) {pc : Nat} {Ls : Array Slot} {w : Value} (hw : w.isRef = true) {t : FieldType} (ht : t.isReference = true) (hret : meth.sig.returnType = some t) (hd : decode c.code pc = .ok (.areturn, 1))
    (hk : cells ≤ K) (hn : slots ≤ N) (hq : Q (some w) T.heap locs) : own_WP p e below (own_E s Q K N) T (mkF m pc Ls [w]) :=
  own_end X hlk (fun h => by rw [hret] at h; cases h) (fun fs hr => X.areturnOut hx hw hret ht hd hr) hk hn hq
theorem own_retN (X : Stand p l e R s m args below meth c T locs cells slots) (hx : p.tables.exec = Jvm.exec) (hlk : meth.locks = false) {pc : Nat} {Ls : Array Slot} {z : Int32} {t : FieldType} (ht : t = .boolean ∨ t = .byte ∨ t = .char ∨ t = .short) (hret : meth.sig.returnType = some t) (hd : decode c.code pc = .ok (.ireturn, 1))
    (hk : cells ≤ K) (hn : slots ≤ N) (hq : Q (some (.int (nar t z))) T.heap locs) : own_WP p e below (own_E s Q K N) T (mkF m pc Ls [.int z]) :=
  own_end X hlk (fun h => by rw [hret] at h; cases h) (fun fs hr => retN X hx hret ht hd hr) hk hn hq
theorem own_len (X : Stand p l e R s m args below meth c T locs cells slots) (hx : p.tables.exec = Jvm.exec) (hZ : Z.Warmed39 s.vm) (eT : T.heap = h) {a : Addr} {k : ClassId} {ty : FieldType} {n : Int32} {vs : List Value} {d : Value} (V : Arv Z h a k ty n vs d)
    {pc : Nat} {Ls : Array Slot} {S : List Value} (hd : decode c.code pc = .ok (.arraylength, 1)) (kk : own_WP p e below E T (mkF m (pc + 1) Ls (.int n :: S))) : own_WP p e below E T (mkF m pc Ls (.ref a :: S)) := by
  obtain ⟨cl, A, q, S1, M, H, G⟩ := V
  refine own_go (fun t k => X.arraylength hx (by rw [eT]; exact A.1) (State.isArrayOf_alike hZ.alike A.2.1) (g := mkF m pc Ls (.ref a :: S)) rfl rfl hd t k) ?_
  rw [len_of S1 M]
  exact kk
theorem own_at {cl : Cell} {n j : Int32} {vs : List Value} {d w : Value} (S1 : cl.slots.size = n.toNatClampNeg) (H : Has cl vs d) (hj : ¬ j < 0 ∧ j < n) (hv : vs.getD j.toNatClampNeg d = w) : cl.slots[j.toNatClampNeg]? = some w :=
  H.at (inb_of S1 hj) hv
theorem own_ldI (X : Stand p l e R s m args below meth c T locs cells slots) (hx : p.tables.exec = Jvm.exec) (hZ : Z.Warmed39 s.vm) (eT : T.heap = h) {a : Addr} {k : ClassId} {n j w : Int32} {vs : List Value} {d : Value} (V : Arv Z h a k .int n vs d) (hj : ¬ j < 0 ∧ j < n) (hv : vs.getD j.toNatClampNeg d = .int w)
    {pc : Nat} {Ls : Array Slot} {S : List Value} (hd : decode c.code pc = .ok (.iaload, 1)) (kk : own_WP p e below E T (mkF m (pc + 1) Ls (.int w :: S))) : own_WP p e below E T (mkF m pc Ls (.int j :: .ref a :: S)) := by
  obtain ⟨cl, A, q, S1, M, H, G⟩ := V
  exact own_go (fun t k => X.iaload hx (j := j) (v := .int w) (by rw [eT]; exact A.1) (State.isArrayOf_alike hZ.alike A.2.1) A.2.2 (inb_of S1 hj) (own_at S1 H hj hv) (g := mkF m pc Ls (.int j :: .ref a :: S)) rfl rfl hd t k) kk
theorem own_ldJ (X : Stand p l e R s m args below meth c T locs cells slots) (hx : p.tables.exec = Jvm.exec) (hZ : Z.Warmed39 s.vm) (eT : T.heap = h) {a : Addr} {k : ClassId} {n j : Int32} {w : Int64} {vs : List Value} {d : Value} (V : Arv Z h a k .long n vs d) (hj : ¬ j < 0 ∧ j < n) (hv : vs.getD j.toNatClampNeg d = .long w)
    {pc : Nat} {Ls : Array Slot} {S : List Value} (hd : decode c.code pc = .ok (.laload, 1)) (kk : own_WP p e below E T (mkF m (pc + 1) Ls (.long w :: S))) : own_WP p e below E T (mkF m pc Ls (.int j :: .ref a :: S)) := by
  obtain ⟨cl, A, q, S1, M, H, G⟩ := V
  exact own_go (fun t k => X.laload hx (j := j) (v := .long w) (by rw [eT]; exact A.1) (State.isArrayOf_alike hZ.alike A.2.1) A.2.2 (inb_of S1 hj) (own_at S1 H hj hv) (g := mkF m pc Ls (.int j :: .ref a :: S)) rfl rfl hd t k) kk
theorem own_ldB (X : Stand p l e R s m args below meth c T locs cells slots) (hx : p.tables.exec = Jvm.exec) (hZ : Z.Warmed39 s.vm) (eT : T.heap = h) {a : Addr} {k : ClassId} {n j w : Int32} {vs : List Value} {d : Value} (V : Arv Z h a k .byte n vs d) (hj : ¬ j < 0 ∧ j < n) (hv : vs.getD j.toNatClampNeg d = .int w)
    {pc : Nat} {Ls : Array Slot} {S : List Value} (hd : decode c.code pc = .ok (.baload, 1)) (kk : own_WP p e below E T (mkF m (pc + 1) Ls (.int w :: S))) : own_WP p e below E T (mkF m pc Ls (.int j :: .ref a :: S)) := by
  obtain ⟨cl, A, q, S1, M, H, G⟩ := V
  exact own_go (fun t k => X.baloadBytes hx (j := j) (v := .int w) (by rw [eT]; exact A.1) (State.isArrayOf_alike hZ.alike A.2.1) A.2.2 (inb_of S1 hj) (own_at S1 H hj hv) (g := mkF m pc Ls (.int j :: .ref a :: S)) rfl rfl hd t k) kk
theorem own_ldR (X : Stand p l e R s m args below meth c T locs cells slots) (hx : p.tables.exec = Jvm.exec) (hZ : Z.Warmed39 s.vm) (eT : T.heap = h) {a : Addr} {k : ClassId} {ty : FieldType} (hty : ty.isReference = true) {n j : Int32} {w : Value} {vs : List Value} {d : Value} (V : Arv Z h a k ty n vs d) (hj : ¬ j < 0 ∧ j < n) (hv : vs.getD j.toNatClampNeg d = w)
    {pc : Nat} {Ls : Array Slot} {S : List Value} (hd : decode c.code pc = .ok (.aaload, 1)) (kk : own_WP p e below E T (mkF m (pc + 1) Ls (w :: S))) : own_WP p e below E T (mkF m pc Ls (.int j :: .ref a :: S)) := by
  obtain ⟨cl, A, q, S1, M, H, G⟩ := V
  exact own_go (fun t k => X.aaload hx (j := j) (v := w) (by rw [eT]; exact A.1) (State.isArrayOf_alike hZ.alike A.2.1) hty A.2.2 (inb_of S1 hj) (own_at S1 H hj hv) (g := mkF m pc Ls (.int j :: .ref a :: S)) rfl rfl hd t k) kk
theorem own_stI (X : Stand p l e R s m args below meth c T locs cells slots) (hx : p.tables.exec = Jvm.exec) (hZ : Z.Warmed39 s.vm) (eT : T.heap = h) {a : Addr} {k : ClassId} {n j x : Int32} {vs : List Value} {d : Value} (V : Arv Z h a k .int n vs d) (hj : ¬ j < 0 ∧ j < n) {i : Nat} (hji : j.toNatClampNeg = i) (hi : i < vs.length)
    {pc : Nat} {Ls : Array Slot} {S : List Value} (hd : decode c.code pc = .ok (.iastore, 1))
    (kk : ∀ T' h', Stand p l e R s m args below meth c T' (locs ++ [⟨a, j.toNatClampNeg⟩]) cells slots → T'.heap = h' → Wr h h' a j.toNatClampNeg (.int x) → Arv Z h' a k .int n (vs.set i (.int x)) d → own_WP p e below E T' (mkF m (pc + 1) Ls S)) : own_WP p e below E T (mkF m pc Ls (.int x :: .int j :: .ref a :: S)) := by
  obtain ⟨cl, A, q, S1, M, H, G⟩ := V
  obtain ⟨T', h', X', e', W', st⟩ := stI X hx hZ eT A (j := j) (inb_of S1 hj) (g := mkF m pc Ls (.int x :: .int j :: .ref a :: S)) rfl rfl hd
  exact own_go st (kk T' h' X' e' W' (Arv.set A q S1 M H G rfl W' i hji hi))
theorem own_stJ (X : Stand p l e R s m args below meth c T locs cells slots) (hx : p.tables.exec = Jvm.exec) (hZ : Z.Warmed39 s.vm) (eT : T.heap = h) {a : Addr} {k : ClassId} {n j : Int32} {x : Int64} {vs : List Value} {d : Value} (V : Arv Z h a k .long n vs d) (hj : ¬ j < 0 ∧ j < n) {i : Nat} (hji : j.toNatClampNeg = i) (hi : i < vs.length)
    {pc : Nat} {Ls : Array Slot} {S : List Value} (hd : decode c.code pc = .ok (.lastore, 1))
    (kk : ∀ T' h', Stand p l e R s m args below meth c T' (locs ++ [⟨a, j.toNatClampNeg⟩]) cells slots → T'.heap = h' → Wr h h' a j.toNatClampNeg (.long x) → Arv Z h' a k .long n (vs.set i (.long x)) d → own_WP p e below E T' (mkF m (pc + 1) Ls S)) : own_WP p e below E T (mkF m pc Ls (.long x :: .int j :: .ref a :: S)) := by
  obtain ⟨cl, A, q, S1, M, H, G⟩ := V
  obtain ⟨T', h', X', e', W', st⟩ := stJ X hx hZ eT A (j := j) (inb_of S1 hj) (g := mkF m pc Ls (.long x :: .int j :: .ref a :: S)) rfl rfl hd
  exact own_go st (kk T' h' X' e' W' (Arv.set A q S1 M H G rfl W' i hji hi))
theorem own_stB (X : Stand p l e R s m args below meth c T locs cells slots) (hx : p.tables.exec = Jvm.exec) (hZ : Z.Warmed39 s.vm) (eT : T.heap = h) {a : Addr} {k : ClassId} {n j x : Int32} {vs : List Value} {d : Value} (V : Arv Z h a k .byte n vs d) (hj : ¬ j < 0 ∧ j < n) {i : Nat} (hji : j.toNatClampNeg = i) (hi : i < vs.length)
    {pc : Nat} {Ls : Array Slot} {S : List Value} (hd : decode c.code pc = .ok (.bastore, 1))
    (kk : ∀ T' h', Stand p l e R s m args below meth c T' (locs ++ [⟨a, j.toNatClampNeg⟩]) cells slots → T'.heap = h' → Wr h h' a j.toNatClampNeg (.int (nar .byte x)) → Arv Z h' a k .byte n (vs.set i (.int (nar .byte x))) d → own_WP p e below E T' (mkF m (pc + 1) Ls S)) : own_WP p e below E T (mkF m pc Ls (.int x :: .int j :: .ref a :: S)) := by
  obtain ⟨cl, A, q, S1, M, H, G⟩ := V
  obtain ⟨T', h', X', e', W', st⟩ := stB X hx hZ eT A (j := j) (inb_of S1 hj) (g := mkF m pc Ls (.int x :: .int j :: .ref a :: S)) rfl rfl hd
  exact own_go st (kk T' h' X' e' W' (Arv.set A q S1 M H G (fits_nar_byte x) W' i hji hi))
theorem own_nm {x a : Addr} (h : x ≠ a) : x ∉ [a] := fun q => h (List.mem_singleton.mp q)
theorem own_nm0 {x : Addr} : x ∉ ([] : List Addr) := List.not_mem_nil
theorem own_nm2 {x a b : Addr} (h : x ≠ a) (h' : x ≠ b) : x ∉ [a, b] := fun q => by
  rcases List.mem_cons.mp q with r | r
  · exact h r
  · exact h' (List.mem_singleton.mp r)
theorem own_le {h0 h : Heap} {n0 : Nat} {ws : List Addr} (Z0 : n0 ≤ h0.size) (K : Keep h0 h ws) : n0 ≤ h.size := Nat.le_trans Z0 K.1
end OwnKit
def own_ad (w : Int64) : Int32 := if (0 : Int64) < w then 1 else 0
def own_aw (w : Int64) : Int64 := if (0 : Int64) < w then w - 1 else w
def own_max (a b : Int32) : Int32 := if a < b then b else a
def own_ex (i w p : Int32) (g : Int64) : Int32 := if i < p then (if i < w then 1 else 0) else if i.toInt64 < (own_max p w).toInt64 + g then 1 else 0
def own_S (w p : Int32) (g : Int64) : Nat → Int64
  | 0 => w.toInt64
  | k + 1 => own_aw (if p = Int32.ofNat k then own_S w p g k + g else own_S w p g k)
theorem own_Ss (w p : Int32) (g : Int64) (k : Nat) : own_S w p g (k + 1) = own_aw (if p = Int32.ofNat k then own_S w p g k + g else own_S w p g k) := rfl
def own_T (w p : Int32) (g : Int64) (k : Nat) : Int64 := if p = Int32.ofNat k then own_S w p g k + g else own_S w p g k
open Jvm.Kit in
theorem own_awI (w : Int64) (h : 0 ≤ w.toInt) : (own_aw w).toInt = if 0 < w.toInt then w.toInt - 1 else 0 := by
  have e0 : (0 : Int64).toInt = 0 := rfl
  have e1 : (1 : Int64).toInt = 1 := rfl
  have b := w.toInt_lt
  unfold own_aw
  by_cases c : (0 : Int64) < w
  · rw [if_pos c, i64_sub (by omega) (by omega)]
    rw [Int64.lt_iff_toInt_lt] at c
    rw [if_pos (by omega)]; omega
  · rw [if_neg c]
    rw [Int64.lt_iff_toInt_lt] at c
    rw [if_neg (by omega)]; omega
theorem own_eqk (p : Int32) (k : Nat) (hk : k < 8) : p = Int32.ofNat k ↔ p.toInt = k := by
  have e : (Int32.ofNat k).toInt = k := Int32.toInt_ofNat_of_lt (by show k < 2 ^ 31; omega)
  constructor
  · intro h; rw [h, e]
  · intro h; exact Int32.toInt_inj.mp (by rw [e, h])
open Jvm.Kit in
theorem own_inv (w p : Int32) (g : Int64) (hw : 0 ≤ w.toInt) (hp : 0 ≤ p.toInt) (hp2 : p.toInt < 8) (hg : 0 ≤ g.toInt) (hg2 : g.toInt < 4294967296) (A : Int) (hA : (w.toInt < p.toInt ∧ A = 0) ∨ (p.toInt ≤ w.toInt ∧ A = w.toInt - p.toInt)) (k : Nat) (hk : k < 8) :
    ((k : Int) ≤ p.toInt → (own_S w p g k).toInt = if w.toInt < k then 0 else w.toInt - k) ∧
    (p.toInt < k → (own_S w p g k).toInt = if A + g.toInt < k - p.toInt then 0 else A + g.toInt - (k - p.toInt)) := by
  have w2 := w.toInt_lt
  induction k with
  | zero =>
    have e : (own_S w p g 0).toInt = w.toInt := i64_of_i32 w
    rw [e]
    constructor
    · intro _; rw [if_neg (by omega)]; omega
    · intro h; omega
  | succ k ih =>
    obtain ⟨i1, i2⟩ := ih (by omega)
    have q := own_eqk p k (by omega)
    by_cases c : p.toInt = k
    · have e : own_S w p g (k + 1) = own_aw (own_S w p g k + g) := by rw [own_Ss, if_pos (q.mpr c)]
      have i3 := i1 (by omega)
      have b1 : 0 ≤ (own_S w p g k).toInt ∧ (own_S w p g k).toInt < 2147483648 := by rw [i3]; split <;> omega
      have s : (own_S w p g k + g).toInt = (own_S w p g k).toInt + g.toInt := i64_add (by omega) (by omega)
      rw [e, own_awI _ (by omega), s, i3]
      constructor
      · intro h; omega
      · intro h
        (repeat' split) <;> omega
    · have e : own_S w p g (k + 1) = own_aw (own_S w p g k) := by rw [own_Ss, if_neg (fun z => c (q.mp z))]
      rw [e]
      constructor
      · intro h
        have i3 := i1 (by omega)
        have b1 : 0 ≤ (own_S w p g k).toInt := by rw [i3]; split <;> omega
        rw [own_awI _ b1, i3]
        (repeat' split) <;> omega
      · intro h
        have i3 := i2 (by omega)
        have b1 : 0 ≤ (own_S w p g k).toInt := by rw [i3]; split <;> omega
        rw [own_awI _ b1, i3]
        (repeat' split) <;> omega
open Jvm.Kit in
theorem own_key (w p : Int32) (g : Int64) (hw : 0 ≤ w.toInt) (hp : 0 ≤ p.toInt) (hp2 : p.toInt < 8) (hg : 0 ≤ g.toInt) (hg2 : g.toInt < 4294967296) (k : Nat) (hk : k < 7) : own_ad (own_T w p g k) = own_ex (Int32.ofNat k) w p g := by
  obtain ⟨A, hA⟩ : ∃ A : Int, (w.toInt < p.toInt ∧ A = 0) ∨ (p.toInt ≤ w.toInt ∧ A = w.toInt - p.toInt) := by
    by_cases c : w.toInt < p.toInt
    · exact ⟨0, Or.inl ⟨c, rfl⟩⟩
    · exact ⟨_, Or.inr ⟨by omega, rfl⟩⟩
  obtain ⟨i1, i2⟩ := own_inv w p g hw hp hp2 hg hg2 A hA k (by omega)
  have w2 := w.toInt_lt
  have q := own_eqk p k (by omega)
  have ek : (Int32.ofNat k).toInt = k := Int32.toInt_ofNat_of_lt (by show k < 2 ^ 31; omega)
  have ek2 : (Int32.ofNat k).toInt64.toInt = k := by rw [i64_of_i32, ek]
  have e0 : (0 : Int64).toInt = 0 := rfl
  have em : (own_max p w).toInt64.toInt = if p.toInt < w.toInt then w.toInt else p.toInt := by
    rw [i64_of_i32]; unfold own_max
    by_cases c : p < w
    · rw [if_pos c]; rw [Int32.lt_iff_toInt_lt] at c; rw [if_pos c]
    · rw [if_neg c]; rw [Int32.lt_iff_toInt_lt] at c; rw [if_neg c]
  have es : ((own_max p w).toInt64 + g).toInt = (if p.toInt < w.toInt then w.toInt else p.toInt) + g.toInt := by
    rw [i64_add (by rw [em]; split <;> omega) (by rw [em]; split <;> omega), em]
  have tv : (own_T w p g k).toInt = if k < p.toInt then (if w.toInt < k then 0 else w.toInt - k) else (if A + g.toInt < k - p.toInt then 0 else A + g.toInt - (k - p.toInt)) := by
    unfold own_T
    by_cases c : p.toInt = k
    · rw [if_pos (q.mpr c)]
      have i3 := i1 (by omega)
      have b1 : 0 ≤ (own_S w p g k).toInt ∧ (own_S w p g k).toInt < 2147483648 := by rw [i3]; split <;> omega
      rw [i64_add (by omega) (by omega), i3]
      (repeat' split) <;> omega
    · rw [if_neg (fun z => c (q.mp z))]
      by_cases d : (k : Int) < p.toInt
      · rw [if_pos d, i1 (by omega)]
      · rw [if_neg d, i2 (by omega)]
  unfold own_ad own_ex
  by_cases c1 : Int32.ofNat k < p
  · rw [if_pos c1]
    rw [Int32.lt_iff_toInt_lt, ek] at c1
    rw [if_pos c1] at tv
    by_cases c2 : Int32.ofNat k < w
    · rw [if_pos c2]
      rw [Int32.lt_iff_toInt_lt, ek] at c2
      rw [if_pos]
      rw [Int64.lt_iff_toInt_lt, e0, tv]; split <;> omega
    · rw [if_neg c2]
      rw [Int32.lt_iff_toInt_lt, ek] at c2
      rw [if_neg]
      rw [Int64.lt_iff_toInt_lt, e0, tv]; split <;> omega
  · rw [if_neg c1]
    rw [Int32.lt_iff_toInt_lt, ek] at c1
    rw [if_neg c1] at tv
    by_cases c2 : (Int32.ofNat k).toInt64 < (own_max p w).toInt64 + g
    · rw [if_pos c2]
      rw [Int64.lt_iff_toInt_lt, ek2, es] at c2
      rw [if_pos]
      rw [Int64.lt_iff_toInt_lt, e0, tv]
      revert c2
      (repeat' split) <;> omega
    · rw [if_neg c2]
      rw [Int64.lt_iff_toInt_lt, ek2, es] at c2
      rw [if_neg]
      rw [Int64.lt_iff_toInt_lt, e0, tv]
      revert c2
      (repeat' split) <;> omega

open Jvm.Kit in
theorem own_mod8 (a : Int32) : 0 ≤ ((a &&& 2147483647) % 8).toInt ∧ ((a &&& 2147483647) % 8).toInt < 8 := by
  have e1 : (a &&& 2147483647).toInt = a.toInt % 2 ^ 31 := i32_mask a 2147483647 (k := 31) (by decide) (by decide)
  have e2 : ((a &&& 2147483647) % 8).toInt = (a &&& 2147483647).toInt % (8 : Int32).toInt := i32_rem_nonneg (by omega)
  have e3 : (8 : Int32).toInt = 8 := rfl
  rw [e2, e3]
  omega
theorem own_nn {a : Int32} (h : 0 ≤ a.toInt) : ¬ a < 0 := by
  rw [Int32.lt_iff_toInt_lt]
  show ¬ a.toInt < 0
  omega
theorem d3_0 : decode prog_5_method_2_code 0 = .ok (.iload_n 0, 1) := by decide +kernel
theorem d3_1 : decode prog_5_method_2_code 1 = .ok (.ifCond .ge 17, 3) := by decide +kernel
theorem d3_18 : decode prog_5_method_2_code 18 = .ok (.return_, 1) := by decide +kernel
theorem own_pn39678 : plainName "com/example/soak/soak/control/EdgeWindow" = true := by first | (simp [plainName, overriddenIn]; done) | decide +kernel
theorem ef_3 (m : MethodId) (zi : Int32) : entryFrame m #[(.int zi)] 1 = mkF m 0 #[.val (.int zi)] [] := by first | (simp [entryFrame, mkF, argsToLocals, Value.category]; done) | rfl
def Q3 (Z : State) (zi : Int32) (h0 : Heap) (n0 : Nat) (v : Option Value) (h : Heap) (L : List Loc) : Prop := v = none ∧ Fr n0 L ∧ h = h0
set_option maxRecDepth 65536 in
set_option maxHeartbeats 40000000 in
theorem rm3 (l : Launch) (Z : State) (a0 : Array Value) (hw : ∀ d ∈ tables_1, d.before a0 Z = true) (ws : List Jvm.Cond) (zi : Int32) (h0 : Heap) (n0 : Nat) (Z0 : n0 ≤ h0.size) (hnn : ¬ zi < 0) :
    MetFree l (⟨"com/example/soak/soak/control/EdgeWindow", "checkInitialWindow", "(I)V"⟩ : MethodName) (head1 (Jvm.Cond.code (⟨"com/example/soak/soak/control/EdgeWindow", "checkInitialWindow", "(I)V"⟩ : MethodName) prog_5_method_2_code 1 none :: ws) ({ frames := 0, cells := 0, slots := 0, locals := 0 } : Room)) (fun a U => a = #[(.int zi)] ∧ Z.Warmed39 U.vm ∧ U.heap = h0) (fun _ _ _ _ _ => True) (fun _ U o U' => ∃ v L, o = .returned v ∧ Q3 Z zi h0 n0 v U'.heap L ∧ FrameEnd U o U' L ({ frames := 0, cells := 0, slots := 0, locals := 0 } : Room).cells ({ frames := 0, cells := 0, slots := 0, locals := 0 } : Room).slots) := by
  refine MetFree.of_bodySF (plainFor_of_name own_pn39678) hisR ?_
  intro p e s m args below meth c s₁ Bd hml0 hP hK
  obtain ⟨rfl, hZ, hh⟩ := hP
  have hx := Bd.exec
  have hby := Bd.bytes
  have hml : c.maxLocals = 1 := hml0
  have hown : s.vm.findClass "com/example/soak/soak/control/EdgeWindow" = some m.cls := findClass_of_methodNamed Bd.named
  have hnm := (name_of_methodNamed Bd.named Bd.method).1
  have X0 : Stand p l e ({ frames := 0, cells := 0, slots := 0, locals := 0 } : Room) s m #[(.int zi)] below meth c s₁ [] 0 0 := Stand.of_body Bd
  have e0 : s₁.heap = h0 := by rw [← hh, Bd.state]; rfl
  have N0 := Fr.nil n0
  have K0 := Keep.refl h0 ([] : List Addr)
  show own_WP p e below (own_E s (Q3 Z zi h0 n0) 0 0) s₁ (entryFrame m #[(.int zi)] 1)
  rw [ef_3 m zi]
  show own_WP _ _ _ _ s₁ (mkF m 0 #[.val (.int zi)] [])
  refine own_go (fun t k => XS.iloadN X0.here hx rfl (hb hby d3_0) rfl  k) ?_
  show own_WP _ _ _ _ s₁ (mkF m 1 #[.val (.int zi)] [(.int zi)])
  have hc1 : ¬ (zi < (0 : Int32)) := by
    exact hnn
  refine own_go (fun t k => XS.ifYes X0.here hx rfl (pc0 := 1) (pc' := 18) rfl (hb hby d3_1) rfl ((if0 _ _).trans (flt hc1).2.1) (by decide) (by decide) k) ?_
  show own_WP _ _ _ _ s₁ (mkF m 18 #[.val (.int zi)] [])
  refine own_retV X0 hx Bd.notSynchronized Bd.returns (hb hby d3_18) (by decide) (by decide) ?_
  rw [e0]
  exact ⟨rfl, N0, rfl⟩
theorem own_pd81850 : parseMethodDescriptor "(I)V" = some ⟨[.int], none⟩ := by decide +kernel
theorem d1_0 : decode prog_5_method_1_code 0 = .ok (.aload_n 0, 1) := by decide +kernel
theorem d1_1 : decode prog_5_method_1_code 1 = .ok (.invokespecial 1, 3) := by decide +kernel
theorem d1_4 : decode prog_5_method_1_code 4 = .ok (.iload_n 1, 1) := by decide +kernel
theorem d1_5 : decode prog_5_method_1_code 5 = .ok (.invokestatic 7, 3) := by decide +kernel
theorem d1_8 : decode prog_5_method_1_code 8 = .ok (.aload_n 0, 1) := by decide +kernel
theorem d1_9 : decode prog_5_method_1_code 9 = .ok (.iload_n 1, 1) := by decide +kernel
theorem d1_10 : decode prog_5_method_1_code 10 = .ok (.i2l, 1) := by decide +kernel
theorem d1_11 : decode prog_5_method_1_code 11 = .ok (.putfield 13, 3) := by decide +kernel
theorem d1_14 : decode prog_5_method_1_code 14 = .ok (.return_, 1) := by decide +kernel
theorem ef_1 (m : MethodId) (zo : Addr) (zi : Int32) : entryFrame m #[(.ref zo), (.int zi)] 2 = mkF m 0 #[.val (.ref zo), .val (.int zi)] [] := by first | (simp [entryFrame, mkF, argsToLocals, Value.category]; done) | rfl
def Q1 (Z : State) (zo : Addr) (zi : Int32) (u0 : Value) (h0 : Heap) (n0 : Nat) (v : Option Value) (h : Heap) (L : List Loc) : Prop := v = none ∧ Fr n0 L ∧ Keep h0 h [zo] ∧ Exa Z h zo "com/example/soak/soak/control/EdgeWindow" ∧ Fld Z h zo "com/example/soak/soak/control/EdgeWindow" "window" "J" (.long (zi.toInt64))
set_option maxRecDepth 65536 in
set_option maxHeartbeats 40000000 in
theorem rm1 (l : Launch) (Z : State) (a0 : Array Value) (hw : ∀ d ∈ tables_1, d.before a0 Z = true) (ws : List Jvm.Cond) (zo : Addr) (zi : Int32) (u0 : Value) (h0 : Heap) (n0 : Nat) (Z0 : n0 ≤ h0.size) (P0 : Exa Z h0 zo "com/example/soak/soak/control/EdgeWindow") (P1 : Fld Z h0 zo "com/example/soak/soak/control/EdgeWindow" "window" "J" u0) (g_zo : n0 ≤ zo) (hnn : ¬ zi < 0) :
    MetFree l (⟨"com/example/soak/soak/control/EdgeWindow", "<init>", "(I)V"⟩ : MethodName) (head1 (Jvm.Cond.code (⟨"com/example/soak/soak/control/EdgeWindow", "<init>", "(I)V"⟩ : MethodName) prog_5_method_1_code 2 none :: ws) ({ frames := 1, cells := 0, slots := 0, locals := 12 } : Room)) (fun a U => a = #[(.ref zo), (.int zi)] ∧ Z.Warmed39 U.vm ∧ U.heap = h0) (fun _ _ _ _ _ => True) (fun _ U o U' => ∃ v L, o = .returned v ∧ Q1 Z zo zi u0 h0 n0 v U'.heap L ∧ FrameEnd U o U' L ({ frames := 1, cells := 0, slots := 0, locals := 12 } : Room).cells ({ frames := 1, cells := 0, slots := 0, locals := 12 } : Room).slots) := by
  refine MetFree.of_bodySF (plainFor_of_name own_pn39678) hisR ?_
  intro p e s m args below meth c s₁ Bd hml0 hP hK
  obtain ⟨rfl, hZ, hh⟩ := hP
  have hx := Bd.exec
  have hby := Bd.bytes
  have hml : c.maxLocals = 2 := hml0
  have hown : s.vm.findClass "com/example/soak/soak/control/EdgeWindow" = some m.cls := findClass_of_methodNamed Bd.named
  have hnm := (name_of_methodNamed Bd.named Bd.method).1
  have X0 : Stand p l e ({ frames := 1, cells := 0, slots := 0, locals := 12 } : Room) s m #[(.ref zo), (.int zi)] below meth c s₁ [] 0 0 := Stand.of_body Bd
  have e0 : s₁.heap = h0 := by rw [← hh, Bd.state]; rfl
  have N0 := Fr.nil n0
  have K0 := Keep.refl h0 [zo]
  show own_WP p e below (own_E s (Q1 Z zo zi u0 h0 n0) 0 0) s₁ (entryFrame m #[(.ref zo), (.int zi)] 2)
  rw [ef_1 m zo zi]
  show own_WP _ _ _ _ s₁ (mkF m 0 #[.val (.ref zo), .val (.int zi)] [])
  refine own_go (fun t k => XS.aloadN X0.here hx rfl (hb hby d1_0) rfl rfl  k) ?_
  show own_WP _ _ _ _ s₁ (mkF m 1 #[.val (.ref zo), .val (.int zi)] [(.ref zo)])
  obtain ⟨T1, X1, e1, st1⟩ := initO X0 hx hZ hown (hw _ (List.mem_of_getElem? (i := 8) rfl)) (hw _ (List.mem_of_getElem? (i := 9) rfl)) (hw _ (List.mem_of_getElem? (i := 10) rfl)) e0 (g := (mkF m 1 #[.val (.ref zo), .val (.int zi)] [(.ref zo)])) rfl (by rw [hml]; rfl) rfl (hb hby d1_1) (by decide) (W := 0) (by show 2 * 0 + _ ≤ _; exact Nat.le_of_eq rfl) (by decide)
  refine own_go st1 ?_
  show own_WP _ _ _ _ T1 (mkF m 4 #[.val (.ref zo), .val (.int zi)] [])
  refine own_go (fun t k => XS.iloadN X1.here hx rfl (hb hby d1_4) rfl  k) ?_
  show own_WP _ _ _ _ T1 (mkF m 5 #[.val (.ref zo), .val (.int zi)] [(.int zi)])
  obtain ⟨_, _, ⟨T2, L2, k2, n2⟩, -, X2, ⟨Lc2, hQ2, l2, y2, z2⟩, st2⟩ := Jvm.LawKit.callS X1 hx (y := (⟨"com/example/soak/soak/control/EdgeWindow", "checkInitialWindow", "(I)V"⟩ : MethodName)) hown (mvT hZ (hw _ (List.mem_of_getElem? (i := 11) rfl))) (mvT hZ (hw _ (List.mem_of_getElem? (i := 12) rfl))) (mvT hZ (hw _ (List.mem_of_getElem? (i := 4) rfl))) (mvT hZ (hw _ (List.mem_of_getElem? (i := 13) rfl))) (by decide) (backOf (W := 0) (rm3 l Z a0 hw [] zi  h0 n0 (own_le Z0 K0) (show ¬ zi < 0 from by assumption)) hZ (hw _ (List.mem_of_getElem? (i := 13) rfl)) (hw _ (List.mem_of_getElem? (i := 4) rfl)) (by decide) (by decide)) (g := (mkF m 5 #[.val (.ref zo), .val (.int zi)] [(.int zi)])) rfl (by rw [hml]; rfl) (argsL := [(.int zi)]) (rest := []) (lenOf own_pd81850 rfl) rfl (by show 2 * 0 + _ ≤ _; exact Nat.le_of_eq rfl) (hb hby d1_5) (fun _ _ => ⟨rfl, e1, (by decide : 0 + 0 ≤ _), (by decide : 0 + 0 ≤ _)⟩)
  dsimp only [Pt.U, Pt.locs, Pt.cells, Pt.slots] at X2 l2 y2 z2 st2 hQ2
  subst l2 y2 z2
  obtain ⟨rfl, N2q, eq2⟩ := hQ2
  have N2 := Fr.app N0 N2q
  refine own_go st2 ?_
  show own_WP _ _ _ _ T2 (mkF m 8 #[.val (.ref zo), .val (.int zi)] [])
  refine own_go (fun t k => XS.aloadN X2.here hx rfl (hb hby d1_8) rfl rfl  k) ?_
  show own_WP _ _ _ _ T2 (mkF m 9 #[.val (.ref zo), .val (.int zi)] [(.ref zo)])
  refine own_go (fun t k => XS.iloadN X2.here hx rfl (hb hby d1_9) rfl  k) ?_
  show own_WP _ _ _ _ T2 (mkF m 10 #[.val (.ref zo), .val (.int zi)] [(.int zi), (.ref zo)])
  refine own_go (fun t k => XS.i2l X2.here hx rfl (hb hby d1_10) rfl k) ?_
  show own_WP _ _ _ _ T2 (mkF m 11 #[.val (.ref zo), .val (.int zi)] [(.long (zi.toInt64)), (.ref zo)])
  obtain ⟨T3, h3, X3, e3, W3, st3⟩ := putF X2 hx hZ hown (host := "") (Or.inl (hw _ (List.mem_of_getElem? (i := 14) rfl))) Via.refl eq2 P1 P0 (Or.inl (hw _ (List.mem_of_getElem? (i := 15) rfl))) (hw _ (List.mem_of_getElem? (i := 3) rfl)) (ty := .long) (by decide) rfl rfl (g := (mkF m 11 #[.val (.ref zo), .val (.int zi)] [(.long (zi.toInt64)), (.ref zo)])) rfl rfl (hb hby d1_11)
  refine own_go st3 ?_
  have f4 : Fld Z h3 zo "com/example/soak/soak/control/EdgeWindow" "window" "J" (.long (zi.toInt64)) := P1.same W3
  have f5 : Exa Z h3 zo "com/example/soak/soak/control/EdgeWindow" := P0.wr W3
  have K7 : Keep h0 h3 [zo] := K0.wr W3 (Or.inl (List.mem_of_getElem? (i := 0) rfl))
  have N8 := Fr.snoc X3 N2 g_zo
  show own_WP _ _ _ _ T3 (mkF m 14 #[.val (.ref zo), .val (.int zi)] [])
  refine own_retV X3 hx Bd.notSynchronized Bd.returns (hb hby d1_14) (by decide) (by decide) ?_
  rw [e3]
  exact ⟨rfl, N8, K7, f5, f4⟩
theorem d4_0 : decode prog_5_method_3_code 0 = .ok (.aload_n 0, 1) := by decide +kernel
theorem d4_1 : decode prog_5_method_3_code 1 = .ok (.getfield 13, 3) := by decide +kernel
theorem d4_4 : decode prog_5_method_3_code 4 = .ok (.lconst 0, 1) := by decide +kernel
theorem d4_5 : decode prog_5_method_3_code 5 = .ok (.lcmp, 1) := by decide +kernel
theorem d4_6 : decode prog_5_method_3_code 6 = .ok (.ifCond .le 7, 3) := by decide +kernel
theorem d4_9 : decode prog_5_method_3_code 9 = .ok (.iconst 1, 1) := by decide +kernel
theorem d4_10 : decode prog_5_method_3_code 10 = .ok (.goto 4, 3) := by decide +kernel
theorem d4_13 : decode prog_5_method_3_code 13 = .ok (.iconst 0, 1) := by decide +kernel
theorem d4_14 : decode prog_5_method_3_code 14 = .ok (.istore_n 1, 1) := by decide +kernel
theorem d4_15 : decode prog_5_method_3_code 15 = .ok (.iload_n 1, 1) := by decide +kernel
theorem d4_16 : decode prog_5_method_3_code 16 = .ok (.ifCond .eq 13, 3) := by decide +kernel
theorem d4_19 : decode prog_5_method_3_code 19 = .ok (.aload_n 0, 1) := by decide +kernel
theorem d4_20 : decode prog_5_method_3_code 20 = .ok (.dup, 1) := by decide +kernel
theorem d4_21 : decode prog_5_method_3_code 21 = .ok (.getfield 13, 3) := by decide +kernel
theorem d4_24 : decode prog_5_method_3_code 24 = .ok (.lconst 1, 1) := by decide +kernel
theorem d4_25 : decode prog_5_method_3_code 25 = .ok (.lsub, 1) := by decide +kernel
theorem d4_26 : decode prog_5_method_3_code 26 = .ok (.putfield 13, 3) := by decide +kernel
theorem d4_29 : decode prog_5_method_3_code 29 = .ok (.iload_n 1, 1) := by decide +kernel
theorem d4_30 : decode prog_5_method_3_code 30 = .ok (.ireturn, 1) := by decide +kernel
theorem ef_4 (m : MethodId) (zo : Addr) : entryFrame m #[(.ref zo)] 2 = mkF m 0 #[.val (.ref zo), .unset] [] := by first | (simp [entryFrame, mkF, argsToLocals, Value.category]; done) | rfl
def Q4 (Z : State) (zo : Addr) (zw : Int64) (h0 : Heap) (n0 : Nat) (v : Option Value) (h : Heap) (L : List Loc) : Prop := v = some (.int (own_ad zw)) ∧ Fr n0 L ∧ Keep h0 h [zo] ∧ Exa Z h zo "com/example/soak/soak/control/EdgeWindow" ∧ Fld Z h zo "com/example/soak/soak/control/EdgeWindow" "window" "J" (.long (own_aw zw))
set_option maxRecDepth 65536 in
set_option maxHeartbeats 40000000 in
theorem rm4 (l : Launch) (Z : State) (a0 : Array Value) (hw : ∀ d ∈ tables_1, d.before a0 Z = true) (ws : List Jvm.Cond) (zo : Addr) (zw : Int64) (h0 : Heap) (n0 : Nat) (Z0 : n0 ≤ h0.size) (P0 : Exa Z h0 zo "com/example/soak/soak/control/EdgeWindow") (P1 : Fld Z h0 zo "com/example/soak/soak/control/EdgeWindow" "window" "J" (.long zw)) (g_zo : n0 ≤ zo) :
    MetFree l (⟨"com/example/soak/soak/control/EdgeWindow", "admitNewCall", "()Z"⟩ : MethodName) (head1 (Jvm.Cond.code (⟨"com/example/soak/soak/control/EdgeWindow", "admitNewCall", "()Z"⟩ : MethodName) prog_5_method_3_code 2 (some .boolean) :: ws) ({ frames := 0, cells := 0, slots := 0, locals := 0 } : Room)) (fun a U => a = #[(.ref zo)] ∧ Z.Warmed39 U.vm ∧ U.heap = h0) (fun _ _ _ _ _ => True) (fun _ U o U' => ∃ v L, o = .returned v ∧ Q4 Z zo zw h0 n0 v U'.heap L ∧ FrameEnd U o U' L ({ frames := 0, cells := 0, slots := 0, locals := 0 } : Room).cells ({ frames := 0, cells := 0, slots := 0, locals := 0 } : Room).slots) := by
  refine MetFree.of_bodySF (plainFor_of_name own_pn39678) hisR ?_
  intro p e s m args below meth c s₁ Bd hml0 hP hK
  obtain ⟨rfl, hZ, hh⟩ := hP
  have hx := Bd.exec
  have hby := Bd.bytes
  have hml : c.maxLocals = 2 := hml0
  have hown : s.vm.findClass "com/example/soak/soak/control/EdgeWindow" = some m.cls := findClass_of_methodNamed Bd.named
  have hnm := (name_of_methodNamed Bd.named Bd.method).1
  have X0 : Stand p l e ({ frames := 0, cells := 0, slots := 0, locals := 0 } : Room) s m #[(.ref zo)] below meth c s₁ [] 0 0 := Stand.of_body Bd
  have e0 : s₁.heap = h0 := by rw [← hh, Bd.state]; rfl
  have N0 := Fr.nil n0
  have K0 := Keep.refl h0 [zo]
  show own_WP p e below (own_E s (Q4 Z zo zw h0 n0) 0 0) s₁ (entryFrame m #[(.ref zo)] 2)
  rw [ef_4 m zo]
  show own_WP _ _ _ _ s₁ (mkF m 0 #[.val (.ref zo), .unset] [])
  refine own_go (fun t k => XS.aloadN X0.here hx rfl (hb hby d4_0) rfl rfl  k) ?_
  show own_WP _ _ _ _ s₁ (mkF m 1 #[.val (.ref zo), .unset] [(.ref zo)])
  obtain ⟨T1, X1, e1, st1⟩ := getF X0 hx hZ hown (host := "") (Or.inl (hw _ (List.mem_of_getElem? (i := 14) rfl))) Via.refl e0 P1 (g := (mkF m 1 #[.val (.ref zo), .unset] [(.ref zo)])) rfl rfl (hb hby d4_1)
  refine own_go st1 ?_
  show own_WP _ _ _ _ T1 (mkF m 4 #[.val (.ref zo), .unset] [(.long zw)])
  refine own_go (fun t k => XS.lconst X1.here hx rfl (hb hby d4_4) k) ?_
  show own_WP _ _ _ _ T1 (mkF m 5 #[.val (.ref zo), .unset] [(.long (0 : Int64)), (.long zw)])
  refine own_go (fun t k => XS.lcmp X1.here hx rfl (hb hby d4_5) rfl k) ?_
  show own_WP _ _ _ _ T1 (mkF m 6 #[.val (.ref zo), .unset] [(.int (lcmpW zw (0 : Int64)))])
  by_cases hc6 : (0 : Int64) < zw
  · refine own_go (fun t k => XS.ifNo X1.here hx rfl (hb hby d4_6) rfl ((if0 _ _).trans (tlt ((lw_gt zw (0 : Int64)).mpr hc6)).2.2.2) k) ?_
    show own_WP _ _ _ _ T1 (mkF m 9 #[.val (.ref zo), .unset] [])
    refine own_go (fun t k => XS.iconst X1.here hx rfl (hb hby d4_9) k) ?_
    show own_WP _ _ _ _ T1 (mkF m 10 #[.val (.ref zo), .unset] [(.int (1 : Int32))])
    refine own_go (fun t k => XS.goto X1.here hx rfl (pc0 := 10) (pc' := 14) rfl (hb hby d4_10) (by decide) (by decide) k) ?_
    show own_WP _ _ _ _ T1 (mkF m 14 #[.val (.ref zo), .unset] [(.int (1 : Int32))])
    refine own_go (fun t k => XS.istoreN X1.here hx rfl (hb hby d4_14) rfl (l' := #[.val (.ref zo), .val (.int (1 : Int32))]) rfl k) ?_
    show own_WP _ _ _ _ T1 (mkF m 15 #[.val (.ref zo), .val (.int (1 : Int32))] [])
    refine own_go (fun t k => XS.iloadN X1.here hx rfl (hb hby d4_15) rfl  k) ?_
    show own_WP _ _ _ _ T1 (mkF m 16 #[.val (.ref zo), .val (.int (1 : Int32))] [(.int (1 : Int32))])
    have hc16 : ¬ ((1 : Int32) = (0 : Int32)) := by decide
    refine own_go (fun t k => XS.ifNo X1.here hx rfl (hb hby d4_16) rfl ((if0 _ _).trans (feq hc16).1) k) ?_
    show own_WP _ _ _ _ T1 (mkF m 19 #[.val (.ref zo), .val (.int (1 : Int32))] [])
    refine own_go (fun t k => XS.aloadN X1.here hx rfl (hb hby d4_19) rfl rfl  k) ?_
    show own_WP _ _ _ _ T1 (mkF m 20 #[.val (.ref zo), .val (.int (1 : Int32))] [(.ref zo)])
    refine own_go (fun t k => XS.dup X1.here hx rfl (hb hby d4_20) rfl rfl k) ?_
    show own_WP _ _ _ _ T1 (mkF m 21 #[.val (.ref zo), .val (.int (1 : Int32))] [(.ref zo), (.ref zo)])
    obtain ⟨T2, X2, e2, st2⟩ := getF X1 hx hZ hown (host := "") (Or.inl (hw _ (List.mem_of_getElem? (i := 14) rfl))) Via.refl e1 P1 (g := (mkF m 21 #[.val (.ref zo), .val (.int (1 : Int32))] [(.ref zo), (.ref zo)])) rfl rfl (hb hby d4_21)
    refine own_go st2 ?_
    show own_WP _ _ _ _ T2 (mkF m 24 #[.val (.ref zo), .val (.int (1 : Int32))] [(.long zw), (.ref zo)])
    refine own_go (fun t k => XS.lconst X2.here hx rfl (hb hby d4_24) k) ?_
    show own_WP _ _ _ _ T2 (mkF m 25 #[.val (.ref zo), .val (.int (1 : Int32))] [(.long (1 : Int64)), (.long zw), (.ref zo)])
    refine own_go (fun t k => XS.lsub X2.here hx rfl (hb hby d4_25) rfl k) ?_
    show own_WP _ _ _ _ T2 (mkF m 26 #[.val (.ref zo), .val (.int (1 : Int32))] [(.long (zw - (1 : Int64))), (.ref zo)])
    obtain ⟨T3, h3, X3, e3, W3, st3⟩ := putF X2 hx hZ hown (host := "") (Or.inl (hw _ (List.mem_of_getElem? (i := 14) rfl))) Via.refl e2 P1 P0 (Or.inl (hw _ (List.mem_of_getElem? (i := 15) rfl))) (hw _ (List.mem_of_getElem? (i := 3) rfl)) (ty := .long) (by decide) rfl rfl (g := (mkF m 26 #[.val (.ref zo), .val (.int (1 : Int32))] [(.long (zw - (1 : Int64))), (.ref zo)])) rfl rfl (hb hby d4_26)
    refine own_go st3 ?_
    have f4 : Fld Z h3 zo "com/example/soak/soak/control/EdgeWindow" "window" "J" (.long (zw - (1 : Int64))) := P1.same W3
    have f5 : Exa Z h3 zo "com/example/soak/soak/control/EdgeWindow" := P0.wr W3
    have K7 : Keep h0 h3 [zo] := K0.wr W3 (Or.inl (List.mem_of_getElem? (i := 0) rfl))
    have N8 := Fr.snoc X3 N0 g_zo
    show own_WP _ _ _ _ T3 (mkF m 29 #[.val (.ref zo), .val (.int (1 : Int32))] [])
    refine own_go (fun t k => XS.iloadN X3.here hx rfl (hb hby d4_29) rfl  k) ?_
    show own_WP _ _ _ _ T3 (mkF m 30 #[.val (.ref zo), .val (.int (1 : Int32))] [(.int (1 : Int32))])
    refine own_retN X3 hx Bd.notSynchronized (t := .boolean) (by simp) Bd.returns (hb hby d4_30) (by decide) (by decide) ?_
    rw [e3]
    exact ⟨(congrArg (fun z => some (Value.int z)) (show (nar .boolean (1 : Int32)) = (own_ad zw) from by first | (simp [nar, own_ad, own_aw, hc6]; done) | (simp only [if_true, if_false, eq_self, ↓reduceIte, own_ad, own_aw, hc6]; first | done | rfl | decide))), N8, K7, f5, ((show ((.long (zw - (1 : Int64))) : Value) = (.long (own_aw zw)) from by first | (simp [nar, own_ad, own_aw, hc6]; done) | (simp only [if_true, if_false, eq_self, ↓reduceIte, own_ad, own_aw, hc6]; first | done | rfl | decide)) ▸ f4)⟩
  · refine own_go (fun t k => XS.ifYes X1.here hx rfl (pc0 := 6) (pc' := 13) rfl (hb hby d4_6) rfl ((if0 _ _).trans (flt (fun z => hc6 ((lw_gt zw (0 : Int64)).mp z))).2.2.2) (by decide) (by decide) k) ?_
    show own_WP _ _ _ _ T1 (mkF m 13 #[.val (.ref zo), .unset] [])
    refine own_go (fun t k => XS.iconst X1.here hx rfl (hb hby d4_13) k) ?_
    show own_WP _ _ _ _ T1 (mkF m 14 #[.val (.ref zo), .unset] [(.int (0 : Int32))])
    refine own_go (fun t k => XS.istoreN X1.here hx rfl (hb hby d4_14) rfl (l' := #[.val (.ref zo), .val (.int (0 : Int32))]) rfl k) ?_
    show own_WP _ _ _ _ T1 (mkF m 15 #[.val (.ref zo), .val (.int (0 : Int32))] [])
    refine own_go (fun t k => XS.iloadN X1.here hx rfl (hb hby d4_15) rfl  k) ?_
    show own_WP _ _ _ _ T1 (mkF m 16 #[.val (.ref zo), .val (.int (0 : Int32))] [(.int (0 : Int32))])
    have hc16 : (0 : Int32) = (0 : Int32) := rfl
    refine own_go (fun t k => XS.ifYes X1.here hx rfl (pc0 := 16) (pc' := 29) rfl (hb hby d4_16) rfl ((if0 _ _).trans (teq hc16).1) (by decide) (by decide) k) ?_
    show own_WP _ _ _ _ T1 (mkF m 29 #[.val (.ref zo), .val (.int (0 : Int32))] [])
    refine own_go (fun t k => XS.iloadN X1.here hx rfl (hb hby d4_29) rfl  k) ?_
    show own_WP _ _ _ _ T1 (mkF m 30 #[.val (.ref zo), .val (.int (0 : Int32))] [(.int (0 : Int32))])
    refine own_retN X1 hx Bd.notSynchronized (t := .boolean) (by simp) Bd.returns (hb hby d4_30) (by decide) (by decide) ?_
    rw [e1]
    exact ⟨(congrArg (fun z => some (Value.int z)) (show (nar .boolean (0 : Int32)) = (own_ad zw) from by first | (simp [nar, own_ad, own_aw, hc6]; done) | (simp only [if_true, if_false, eq_self, ↓reduceIte, own_ad, own_aw, hc6]; first | done | rfl | decide))), N0, K0, P0, ((show ((.long zw) : Value) = (.long (own_aw zw)) from by first | (simp [nar, own_ad, own_aw, hc6]; done) | (simp only [if_true, if_false, eq_self, ↓reduceIte, own_ad, own_aw, hc6]; first | done | rfl | decide)) ▸ P1)⟩
theorem d6_0 : decode prog_5_method_4_code 0 = .ok (.aload_n 0, 1) := by decide +kernel
theorem d6_1 : decode prog_5_method_4_code 1 = .ok (.dup, 1) := by decide +kernel
theorem d6_2 : decode prog_5_method_4_code 2 = .ok (.getfield 13, 3) := by decide +kernel
theorem d6_5 : decode prog_5_method_4_code 5 = .ok (.lload_n 1, 1) := by decide +kernel
theorem d6_6 : decode prog_5_method_4_code 6 = .ok (.ladd, 1) := by decide +kernel
theorem d6_7 : decode prog_5_method_4_code 7 = .ok (.putfield 13, 3) := by decide +kernel
theorem d6_10 : decode prog_5_method_4_code 10 = .ok (.return_, 1) := by decide +kernel
theorem ef_6 (m : MethodId) (zo : Addr) (zq : Int64) : entryFrame m #[(.ref zo), (.long zq)] 3 = mkF m 0 #[.val (.ref zo), .val (.long zq), .second] [] := by first | (simp [entryFrame, mkF, argsToLocals, Value.category]; done) | rfl
def Q6 (Z : State) (zo : Addr) (zq : Int64) (zw : Int64) (h0 : Heap) (n0 : Nat) (v : Option Value) (h : Heap) (L : List Loc) : Prop := v = none ∧ Fr n0 L ∧ Keep h0 h [zo] ∧ Exa Z h zo "com/example/soak/soak/control/EdgeWindow" ∧ Fld Z h zo "com/example/soak/soak/control/EdgeWindow" "window" "J" (.long (zw + zq))
set_option maxRecDepth 65536 in
set_option maxHeartbeats 40000000 in
theorem rm6 (l : Launch) (Z : State) (a0 : Array Value) (hw : ∀ d ∈ tables_1, d.before a0 Z = true) (ws : List Jvm.Cond) (zo : Addr) (zq : Int64) (zw : Int64) (h0 : Heap) (n0 : Nat) (Z0 : n0 ≤ h0.size) (P0 : Exa Z h0 zo "com/example/soak/soak/control/EdgeWindow") (P1 : Fld Z h0 zo "com/example/soak/soak/control/EdgeWindow" "window" "J" (.long zw)) (g_zo : n0 ≤ zo) :
    MetFree l (⟨"com/example/soak/soak/control/EdgeWindow", "grant", "(J)V"⟩ : MethodName) (head1 (Jvm.Cond.code (⟨"com/example/soak/soak/control/EdgeWindow", "grant", "(J)V"⟩ : MethodName) prog_5_method_4_code 3 none :: ws) ({ frames := 0, cells := 0, slots := 0, locals := 0 } : Room)) (fun a U => a = #[(.ref zo), (.long zq)] ∧ Z.Warmed39 U.vm ∧ U.heap = h0) (fun _ _ _ _ _ => True) (fun _ U o U' => ∃ v L, o = .returned v ∧ Q6 Z zo zq zw h0 n0 v U'.heap L ∧ FrameEnd U o U' L ({ frames := 0, cells := 0, slots := 0, locals := 0 } : Room).cells ({ frames := 0, cells := 0, slots := 0, locals := 0 } : Room).slots) := by
  refine MetFree.of_bodySF (plainFor_of_name own_pn39678) hisR ?_
  intro p e s m args below meth c s₁ Bd hml0 hP hK
  obtain ⟨rfl, hZ, hh⟩ := hP
  have hx := Bd.exec
  have hby := Bd.bytes
  have hml : c.maxLocals = 3 := hml0
  have hown : s.vm.findClass "com/example/soak/soak/control/EdgeWindow" = some m.cls := findClass_of_methodNamed Bd.named
  have hnm := (name_of_methodNamed Bd.named Bd.method).1
  have X0 : Stand p l e ({ frames := 0, cells := 0, slots := 0, locals := 0 } : Room) s m #[(.ref zo), (.long zq)] below meth c s₁ [] 0 0 := Stand.of_body Bd
  have e0 : s₁.heap = h0 := by rw [← hh, Bd.state]; rfl
  have N0 := Fr.nil n0
  have K0 := Keep.refl h0 [zo]
  show own_WP p e below (own_E s (Q6 Z zo zq zw h0 n0) 0 0) s₁ (entryFrame m #[(.ref zo), (.long zq)] 3)
  rw [ef_6 m zo zq]
  show own_WP _ _ _ _ s₁ (mkF m 0 #[.val (.ref zo), .val (.long zq), .second] [])
  refine own_go (fun t k => XS.aloadN X0.here hx rfl (hb hby d6_0) rfl rfl  k) ?_
  show own_WP _ _ _ _ s₁ (mkF m 1 #[.val (.ref zo), .val (.long zq), .second] [(.ref zo)])
  refine own_go (fun t k => XS.dup X0.here hx rfl (hb hby d6_1) rfl rfl k) ?_
  show own_WP _ _ _ _ s₁ (mkF m 2 #[.val (.ref zo), .val (.long zq), .second] [(.ref zo), (.ref zo)])
  obtain ⟨T1, X1, e1, st1⟩ := getF X0 hx hZ hown (host := "") (Or.inl (hw _ (List.mem_of_getElem? (i := 14) rfl))) Via.refl e0 P1 (g := (mkF m 2 #[.val (.ref zo), .val (.long zq), .second] [(.ref zo), (.ref zo)])) rfl rfl (hb hby d6_2)
  refine own_go st1 ?_
  show own_WP _ _ _ _ T1 (mkF m 5 #[.val (.ref zo), .val (.long zq), .second] [(.long zw), (.ref zo)])
  refine own_go (fun t k => XS.lloadN X1.here hx rfl (hb hby d6_5) rfl  k) ?_
  show own_WP _ _ _ _ T1 (mkF m 6 #[.val (.ref zo), .val (.long zq), .second] [(.long zq), (.long zw), (.ref zo)])
  refine own_go (fun t k => XS.ladd X1.here hx rfl (hb hby d6_6) rfl k) ?_
  show own_WP _ _ _ _ T1 (mkF m 7 #[.val (.ref zo), .val (.long zq), .second] [(.long (zw + zq)), (.ref zo)])
  obtain ⟨T2, h2, X2, e2, W2, st2⟩ := putF X1 hx hZ hown (host := "") (Or.inl (hw _ (List.mem_of_getElem? (i := 14) rfl))) Via.refl e1 P1 P0 (Or.inl (hw _ (List.mem_of_getElem? (i := 15) rfl))) (hw _ (List.mem_of_getElem? (i := 3) rfl)) (ty := .long) (by decide) rfl rfl (g := (mkF m 7 #[.val (.ref zo), .val (.long zq), .second] [(.long (zw + zq)), (.ref zo)])) rfl rfl (hb hby d6_7)
  refine own_go st2 ?_
  have f3 : Fld Z h2 zo "com/example/soak/soak/control/EdgeWindow" "window" "J" (.long (zw + zq)) := P1.same W2
  have f4 : Exa Z h2 zo "com/example/soak/soak/control/EdgeWindow" := P0.wr W2
  have K6 : Keep h0 h2 [zo] := K0.wr W2 (Or.inl (List.mem_of_getElem? (i := 0) rfl))
  have N7 := Fr.snoc X2 N0 g_zo
  show own_WP _ _ _ _ T2 (mkF m 10 #[.val (.ref zo), .val (.long zq), .second] [])
  refine own_retV X2 hx Bd.notSynchronized Bd.returns (hb hby d6_10) (by decide) (by decide) ?_
  rw [e2]
  exact ⟨rfl, N7, K6, f4, f3⟩
theorem d7_0 : decode jdk_29_method_65_code 0 = .ok (.iload_n 0, 1) := by decide +kernel
theorem d7_1 : decode jdk_29_method_65_code 1 = .ok (.iload_n 1, 1) := by decide +kernel
theorem d7_2 : decode jdk_29_method_65_code 2 = .ok (.if_icmp .lt 7, 3) := by decide +kernel
theorem d7_5 : decode jdk_29_method_65_code 5 = .ok (.iload_n 0, 1) := by decide +kernel
theorem d7_6 : decode jdk_29_method_65_code 6 = .ok (.goto 4, 3) := by decide +kernel
theorem d7_9 : decode jdk_29_method_65_code 9 = .ok (.iload_n 1, 1) := by decide +kernel
theorem d7_10 : decode jdk_29_method_65_code 10 = .ok (.ireturn, 1) := by decide +kernel
theorem ef_7 (m : MethodId) (za : Int32) (zb : Int32) : entryFrame m #[(.int za), (.int zb)] 2 = mkF m 0 #[.val (.int za), .val (.int zb)] [] := by first | (simp [entryFrame, mkF, argsToLocals, Value.category]; done) | rfl
def Q7 (Z : State) (za : Int32) (zb : Int32) (h0 : Heap) (n0 : Nat) (v : Option Value) (h : Heap) (L : List Loc) : Prop := v = some (.int (own_max za zb)) ∧ Fr n0 L ∧ h = h0
set_option maxRecDepth 65536 in
set_option maxHeartbeats 40000000 in
theorem rm7 (l : Launch) (Z : State) (a0 : Array Value) (hw : ∀ d ∈ tables_1, d.before a0 Z = true) (ws : List Jvm.Cond) (za : Int32) (zb : Int32) (h0 : Heap) (n0 : Nat) (Z0 : n0 ≤ h0.size)  :
    MetFree l (⟨"java/lang/Math", "max", "(II)I"⟩ : MethodName) (head1 (Jvm.Cond.code (⟨"java/lang/Math", "max", "(II)I"⟩ : MethodName) jdk_29_method_65_code 2 (some .int) :: ws) ({ frames := 0, cells := 0, slots := 0, locals := 0 } : Room)) (fun a U => a = #[(.int za), (.int zb)] ∧ Z.Warmed39 U.vm ∧ U.heap = h0) (fun _ _ _ _ _ => True) (fun _ U o U' => ∃ v L, o = .returned v ∧ Q7 Z za zb h0 n0 v U'.heap L ∧ FrameEnd U o U' L ({ frames := 0, cells := 0, slots := 0, locals := 0 } : Room).cells ({ frames := 0, cells := 0, slots := 0, locals := 0 } : Room).slots) := by
  refine MetFree.of_bodySF (Jvm.Free.JP.mathPlain rfl (by decide +kernel)) hisR ?_
  intro p e s m args below meth c s₁ Bd hml0 hP hK
  obtain ⟨rfl, hZ, hh⟩ := hP
  have hx := Bd.exec
  have hby := Bd.bytes
  have hml : c.maxLocals = 2 := hml0
  have hown : s.vm.findClass "java/lang/Math" = some m.cls := findClass_of_methodNamed Bd.named
  have hnm := (name_of_methodNamed Bd.named Bd.method).1
  have X0 : Stand p l e ({ frames := 0, cells := 0, slots := 0, locals := 0 } : Room) s m #[(.int za), (.int zb)] below meth c s₁ [] 0 0 := Stand.of_body Bd
  have e0 : s₁.heap = h0 := by rw [← hh, Bd.state]; rfl
  have N0 := Fr.nil n0
  have K0 := Keep.refl h0 ([] : List Addr)
  show own_WP p e below (own_E s (Q7 Z za zb h0 n0) 0 0) s₁ (entryFrame m #[(.int za), (.int zb)] 2)
  rw [ef_7 m za zb]
  show own_WP _ _ _ _ s₁ (mkF m 0 #[.val (.int za), .val (.int zb)] [])
  refine own_go (fun t k => XS.iloadN X0.here hx rfl (hb hby d7_0) rfl  k) ?_
  show own_WP _ _ _ _ s₁ (mkF m 1 #[.val (.int za), .val (.int zb)] [(.int za)])
  refine own_go (fun t k => XS.iloadN X0.here hx rfl (hb hby d7_1) rfl  k) ?_
  show own_WP _ _ _ _ s₁ (mkF m 2 #[.val (.int za), .val (.int zb)] [(.int zb), (.int za)])
  by_cases hc2 : za < zb
  · refine own_go (fun t k => XS.icmpYes X0.here hx rfl (pc0 := 2) (pc' := 9) rfl (hb hby d7_2) rfl (tlt hc2).1 (by decide) (by decide) k) ?_
    show own_WP _ _ _ _ s₁ (mkF m 9 #[.val (.int za), .val (.int zb)] [])
    refine own_go (fun t k => XS.iloadN X0.here hx rfl (hb hby d7_9) rfl  k) ?_
    show own_WP _ _ _ _ s₁ (mkF m 10 #[.val (.int za), .val (.int zb)] [(.int zb)])
    refine own_retI X0 hx Bd.notSynchronized Bd.returns (hb hby d7_10) (by decide) (by decide) ?_
    rw [e0]
    exact ⟨(congrArg (fun z => some (Value.int z)) (show zb = (own_max za zb) from by first | (simp [nar, own_max, hc2]; done) | (simp only [if_true, if_false, eq_self, ↓reduceIte, own_max, hc2]; first | done | rfl | decide))), N0, rfl⟩
  · refine own_go (fun t k => XS.icmpNo X0.here hx rfl (hb hby d7_2) rfl (flt hc2).1 k) ?_
    show own_WP _ _ _ _ s₁ (mkF m 5 #[.val (.int za), .val (.int zb)] [])
    refine own_go (fun t k => XS.iloadN X0.here hx rfl (hb hby d7_5) rfl  k) ?_
    show own_WP _ _ _ _ s₁ (mkF m 6 #[.val (.int za), .val (.int zb)] [(.int za)])
    refine own_go (fun t k => XS.goto X0.here hx rfl (pc0 := 6) (pc' := 10) rfl (hb hby d7_6) (by decide) (by decide) k) ?_
    show own_WP _ _ _ _ s₁ (mkF m 10 #[.val (.int za), .val (.int zb)] [(.int za)])
    refine own_retI X0 hx Bd.notSynchronized Bd.returns (hb hby d7_10) (by decide) (by decide) ?_
    rw [e0]
    exact ⟨(congrArg (fun z => some (Value.int z)) (show za = (own_max za zb) from by first | (simp [nar, own_max, hc2]; done) | (simp only [if_true, if_false, eq_self, ↓reduceIte, own_max, hc2]; first | done | rfl | decide))), N0, rfl⟩
theorem own_pd31088 : parseMethodDescriptor "(II)I" = some ⟨[.int, .int], some .int⟩ := by decide +kernel
theorem d5_0 : decode method_2_code 0 = .ok (.iload_n 0, 1) := by decide +kernel
theorem d5_1 : decode method_2_code 1 = .ok (.iload_n 2, 1) := by decide +kernel
theorem d5_2 : decode method_2_code 2 = .ok (.if_icmp .ge 14, 3) := by decide +kernel
theorem d5_5 : decode method_2_code 5 = .ok (.iload_n 0, 1) := by decide +kernel
theorem d5_6 : decode method_2_code 6 = .ok (.iload_n 1, 1) := by decide +kernel
theorem d5_7 : decode method_2_code 7 = .ok (.if_icmp .ge 7, 3) := by decide +kernel
theorem d5_10 : decode method_2_code 10 = .ok (.iconst 1, 1) := by decide +kernel
theorem d5_11 : decode method_2_code 11 = .ok (.goto 4, 3) := by decide +kernel
theorem d5_14 : decode method_2_code 14 = .ok (.iconst 0, 1) := by decide +kernel
theorem d5_15 : decode method_2_code 15 = .ok (.ireturn, 1) := by decide +kernel
theorem d5_16 : decode method_2_code 16 = .ok (.iload_n 0, 1) := by decide +kernel
theorem d5_17 : decode method_2_code 17 = .ok (.i2l, 1) := by decide +kernel
theorem d5_18 : decode method_2_code 18 = .ok (.iload_n 2, 1) := by decide +kernel
theorem d5_19 : decode method_2_code 19 = .ok (.iload_n 1, 1) := by decide +kernel
theorem d5_20 : decode method_2_code 20 = .ok (.invokestatic 7, 3) := by decide +kernel
theorem d5_23 : decode method_2_code 23 = .ok (.i2l, 1) := by decide +kernel
theorem d5_24 : decode method_2_code 24 = .ok (.lload_n 3, 1) := by decide +kernel
theorem d5_25 : decode method_2_code 25 = .ok (.ladd, 1) := by decide +kernel
theorem d5_26 : decode method_2_code 26 = .ok (.lcmp, 1) := by decide +kernel
theorem d5_27 : decode method_2_code 27 = .ok (.ifCond .ge 7, 3) := by decide +kernel
theorem d5_30 : decode method_2_code 30 = .ok (.iconst 1, 1) := by decide +kernel
theorem d5_31 : decode method_2_code 31 = .ok (.goto 4, 3) := by decide +kernel
theorem d5_34 : decode method_2_code 34 = .ok (.iconst 0, 1) := by decide +kernel
theorem d5_35 : decode method_2_code 35 = .ok (.ireturn, 1) := by decide +kernel
theorem own_pn9608 : plainName "com/example/soak/soak/control/EdgeWindowAdmitNewCallPinLaw" = true := by first | (simp [plainName, overriddenIn]; done) | decide +kernel
theorem ef_5 (m : MethodId) (zi : Int32) (zw : Int32) (zp : Int32) (zg : Int64) : entryFrame m #[(.int zi), (.int zw), (.int zp), (.long zg)] 5 = mkF m 0 #[.val (.int zi), .val (.int zw), .val (.int zp), .val (.long zg), .second] [] := by first | (simp [entryFrame, mkF, argsToLocals, Value.category]; done) | rfl
def Q5 (Z : State) (zi : Int32) (zw : Int32) (zp : Int32) (zg : Int64) (h0 : Heap) (n0 : Nat) (v : Option Value) (h : Heap) (L : List Loc) : Prop := v = some (.int (own_ex zi zw zp zg)) ∧ Fr n0 L ∧ h = h0
set_option maxRecDepth 65536 in
set_option maxHeartbeats 40000000 in
theorem rm5 (l : Launch) (Z : State) (a0 : Array Value) (hw : ∀ d ∈ tables_1, d.before a0 Z = true) (ws : List Jvm.Cond) (zi : Int32) (zw : Int32) (zp : Int32) (zg : Int64) (h0 : Heap) (n0 : Nat) (Z0 : n0 ≤ h0.size)  :
    MetFree l (⟨"com/example/soak/soak/control/EdgeWindowAdmitNewCallPinLaw", "expected", "(IIIJ)Z"⟩ : MethodName) (head1 (Jvm.Cond.code (⟨"com/example/soak/soak/control/EdgeWindowAdmitNewCallPinLaw", "expected", "(IIIJ)Z"⟩ : MethodName) method_2_code 5 (some .boolean) :: ws) ({ frames := 1, cells := 0, slots := 0, locals := 15 } : Room)) (fun a U => a = #[(.int zi), (.int zw), (.int zp), (.long zg)] ∧ Z.Warmed39 U.vm ∧ U.heap = h0) (fun _ _ _ _ _ => True) (fun _ U o U' => ∃ v L, o = .returned v ∧ Q5 Z zi zw zp zg h0 n0 v U'.heap L ∧ FrameEnd U o U' L ({ frames := 1, cells := 0, slots := 0, locals := 15 } : Room).cells ({ frames := 1, cells := 0, slots := 0, locals := 15 } : Room).slots) := by
  refine MetFree.of_bodySF (plainFor_of_name own_pn9608) hisR ?_
  intro p e s m args below meth c s₁ Bd hml0 hP hK
  obtain ⟨rfl, hZ, hh⟩ := hP
  have hx := Bd.exec
  have hby := Bd.bytes
  have hml : c.maxLocals = 5 := hml0
  have hown : s.vm.findClass "com/example/soak/soak/control/EdgeWindowAdmitNewCallPinLaw" = some m.cls := findClass_of_methodNamed Bd.named
  have hnm := (name_of_methodNamed Bd.named Bd.method).1
  have X0 : Stand p l e ({ frames := 1, cells := 0, slots := 0, locals := 15 } : Room) s m #[(.int zi), (.int zw), (.int zp), (.long zg)] below meth c s₁ [] 0 0 := Stand.of_body Bd
  have e0 : s₁.heap = h0 := by rw [← hh, Bd.state]; rfl
  have N0 := Fr.nil n0
  have K0 := Keep.refl h0 ([] : List Addr)
  show own_WP p e below (own_E s (Q5 Z zi zw zp zg h0 n0) 0 0) s₁ (entryFrame m #[(.int zi), (.int zw), (.int zp), (.long zg)] 5)
  rw [ef_5 m zi zw zp zg]
  show own_WP _ _ _ _ s₁ (mkF m 0 #[.val (.int zi), .val (.int zw), .val (.int zp), .val (.long zg), .second] [])
  refine own_go (fun t k => XS.iloadN X0.here hx rfl (hb hby d5_0) rfl  k) ?_
  show own_WP _ _ _ _ s₁ (mkF m 1 #[.val (.int zi), .val (.int zw), .val (.int zp), .val (.long zg), .second] [(.int zi)])
  refine own_go (fun t k => XS.iloadN X0.here hx rfl (hb hby d5_1) rfl  k) ?_
  show own_WP _ _ _ _ s₁ (mkF m 2 #[.val (.int zi), .val (.int zw), .val (.int zp), .val (.long zg), .second] [(.int zp), (.int zi)])
  by_cases hc2 : zi < zp
  · refine own_go (fun t k => XS.icmpNo X0.here hx rfl (hb hby d5_2) rfl (tlt hc2).2.1 k) ?_
    show own_WP _ _ _ _ s₁ (mkF m 5 #[.val (.int zi), .val (.int zw), .val (.int zp), .val (.long zg), .second] [])
    refine own_go (fun t k => XS.iloadN X0.here hx rfl (hb hby d5_5) rfl  k) ?_
    show own_WP _ _ _ _ s₁ (mkF m 6 #[.val (.int zi), .val (.int zw), .val (.int zp), .val (.long zg), .second] [(.int zi)])
    refine own_go (fun t k => XS.iloadN X0.here hx rfl (hb hby d5_6) rfl  k) ?_
    show own_WP _ _ _ _ s₁ (mkF m 7 #[.val (.int zi), .val (.int zw), .val (.int zp), .val (.long zg), .second] [(.int zw), (.int zi)])
    by_cases hc7 : zi < zw
    · refine own_go (fun t k => XS.icmpNo X0.here hx rfl (hb hby d5_7) rfl (tlt hc7).2.1 k) ?_
      show own_WP _ _ _ _ s₁ (mkF m 10 #[.val (.int zi), .val (.int zw), .val (.int zp), .val (.long zg), .second] [])
      refine own_go (fun t k => XS.iconst X0.here hx rfl (hb hby d5_10) k) ?_
      show own_WP _ _ _ _ s₁ (mkF m 11 #[.val (.int zi), .val (.int zw), .val (.int zp), .val (.long zg), .second] [(.int (1 : Int32))])
      refine own_go (fun t k => XS.goto X0.here hx rfl (pc0 := 11) (pc' := 15) rfl (hb hby d5_11) (by decide) (by decide) k) ?_
      show own_WP _ _ _ _ s₁ (mkF m 15 #[.val (.int zi), .val (.int zw), .val (.int zp), .val (.long zg), .second] [(.int (1 : Int32))])
      refine own_retN X0 hx Bd.notSynchronized (t := .boolean) (by simp) Bd.returns (hb hby d5_15) (by decide) (by decide) ?_
      rw [e0]
      exact ⟨(congrArg (fun z => some (Value.int z)) (show (nar .boolean (1 : Int32)) = (own_ex zi zw zp zg) from by first | (simp [nar, own_ex, hc2, hc7]; done) | (simp only [if_true, if_false, eq_self, ↓reduceIte, own_ex, hc2, hc7]; first | done | rfl | decide))), N0, rfl⟩
    · refine own_go (fun t k => XS.icmpYes X0.here hx rfl (pc0 := 7) (pc' := 14) rfl (hb hby d5_7) rfl (flt hc7).2.1 (by decide) (by decide) k) ?_
      show own_WP _ _ _ _ s₁ (mkF m 14 #[.val (.int zi), .val (.int zw), .val (.int zp), .val (.long zg), .second] [])
      refine own_go (fun t k => XS.iconst X0.here hx rfl (hb hby d5_14) k) ?_
      show own_WP _ _ _ _ s₁ (mkF m 15 #[.val (.int zi), .val (.int zw), .val (.int zp), .val (.long zg), .second] [(.int (0 : Int32))])
      refine own_retN X0 hx Bd.notSynchronized (t := .boolean) (by simp) Bd.returns (hb hby d5_15) (by decide) (by decide) ?_
      rw [e0]
      exact ⟨(congrArg (fun z => some (Value.int z)) (show (nar .boolean (0 : Int32)) = (own_ex zi zw zp zg) from by first | (simp [nar, own_ex, hc2, hc7]; done) | (simp only [if_true, if_false, eq_self, ↓reduceIte, own_ex, hc2, hc7]; first | done | rfl | decide))), N0, rfl⟩
  · refine own_go (fun t k => XS.icmpYes X0.here hx rfl (pc0 := 2) (pc' := 16) rfl (hb hby d5_2) rfl (flt hc2).2.1 (by decide) (by decide) k) ?_
    show own_WP _ _ _ _ s₁ (mkF m 16 #[.val (.int zi), .val (.int zw), .val (.int zp), .val (.long zg), .second] [])
    refine own_go (fun t k => XS.iloadN X0.here hx rfl (hb hby d5_16) rfl  k) ?_
    show own_WP _ _ _ _ s₁ (mkF m 17 #[.val (.int zi), .val (.int zw), .val (.int zp), .val (.long zg), .second] [(.int zi)])
    refine own_go (fun t k => XS.i2l X0.here hx rfl (hb hby d5_17) rfl k) ?_
    show own_WP _ _ _ _ s₁ (mkF m 18 #[.val (.int zi), .val (.int zw), .val (.int zp), .val (.long zg), .second] [(.long (zi.toInt64))])
    refine own_go (fun t k => XS.iloadN X0.here hx rfl (hb hby d5_18) rfl  k) ?_
    show own_WP _ _ _ _ s₁ (mkF m 19 #[.val (.int zi), .val (.int zw), .val (.int zp), .val (.long zg), .second] [(.int zp), (.long (zi.toInt64))])
    refine own_go (fun t k => XS.iloadN X0.here hx rfl (hb hby d5_19) rfl  k) ?_
    show own_WP _ _ _ _ s₁ (mkF m 20 #[.val (.int zi), .val (.int zw), .val (.int zp), .val (.long zg), .second] [(.int zw), (.int zp), (.long (zi.toInt64))])
    obtain ⟨_, _, ⟨T1, L1, k1, n1⟩, -, X1, ⟨Lc1, hQ1, l1, y1, z1⟩, st1⟩ := Jvm.LawKit.callS X0 hx (y := (⟨"java/lang/Math", "max", "(II)I"⟩ : MethodName)) hown (mvT hZ (hw _ (List.mem_of_getElem? (i := 30) rfl))) (mvT hZ (hw _ (List.mem_of_getElem? (i := 31) rfl))) (mvT hZ (hw _ (List.mem_of_getElem? (i := 32) rfl))) (mvT hZ (hw _ (List.mem_of_getElem? (i := 33) rfl))) (by decide) (backOf (W := 2) (rm7 l Z a0 hw [] zp zw  h0 n0 (own_le Z0 K0) ) hZ (hw _ (List.mem_of_getElem? (i := 33) rfl)) (hw _ (List.mem_of_getElem? (i := 32) rfl)) (by decide) (by decide)) (g := (mkF m 20 #[.val (.int zi), .val (.int zw), .val (.int zp), .val (.long zg), .second] [(.int zw), (.int zp), (.long (zi.toInt64))])) rfl (by rw [hml]; rfl) (argsL := [(.int zp), (.int zw)]) (rest := [(.long (zi.toInt64))]) (lenOf own_pd31088 rfl) rfl (by show 2 * 0 + _ ≤ _; exact Nat.le_of_eq rfl) (hb hby d5_20) (fun _ _ => ⟨rfl, e0, (by decide : 0 + 0 ≤ _), (by decide : 0 + 0 ≤ _)⟩)
    dsimp only [Pt.U, Pt.locs, Pt.cells, Pt.slots] at X1 l1 y1 z1 st1 hQ1
    subst l1 y1 z1
    obtain ⟨rfl, N1q, eq1⟩ := hQ1
    have N1 := Fr.app N0 N1q
    refine own_go st1 ?_
    show own_WP _ _ _ _ T1 (mkF m 23 #[.val (.int zi), .val (.int zw), .val (.int zp), .val (.long zg), .second] [(.int (own_max zp zw)), (.long (zi.toInt64))])
    refine own_go (fun t k => XS.i2l X1.here hx rfl (hb hby d5_23) rfl k) ?_
    show own_WP _ _ _ _ T1 (mkF m 24 #[.val (.int zi), .val (.int zw), .val (.int zp), .val (.long zg), .second] [(.long ((own_max zp zw).toInt64)), (.long (zi.toInt64))])
    refine own_go (fun t k => XS.lloadN X1.here hx rfl (hb hby d5_24) rfl  k) ?_
    show own_WP _ _ _ _ T1 (mkF m 25 #[.val (.int zi), .val (.int zw), .val (.int zp), .val (.long zg), .second] [(.long zg), (.long ((own_max zp zw).toInt64)), (.long (zi.toInt64))])
    refine own_go (fun t k => XS.ladd X1.here hx rfl (hb hby d5_25) rfl k) ?_
    show own_WP _ _ _ _ T1 (mkF m 26 #[.val (.int zi), .val (.int zw), .val (.int zp), .val (.long zg), .second] [(.long (((own_max zp zw).toInt64) + zg)), (.long (zi.toInt64))])
    refine own_go (fun t k => XS.lcmp X1.here hx rfl (hb hby d5_26) rfl k) ?_
    show own_WP _ _ _ _ T1 (mkF m 27 #[.val (.int zi), .val (.int zw), .val (.int zp), .val (.long zg), .second] [(.int (lcmpW (zi.toInt64) (((own_max zp zw).toInt64) + zg)))])
    by_cases hc27 : (zi.toInt64) < (((own_max zp zw).toInt64) + zg)
    · refine own_go (fun t k => XS.ifNo X1.here hx rfl (hb hby d5_27) rfl ((if0 _ _).trans (tlt ((lw_lt (zi.toInt64) (((own_max zp zw).toInt64) + zg)).mpr hc27)).2.1) k) ?_
      show own_WP _ _ _ _ T1 (mkF m 30 #[.val (.int zi), .val (.int zw), .val (.int zp), .val (.long zg), .second] [])
      refine own_go (fun t k => XS.iconst X1.here hx rfl (hb hby d5_30) k) ?_
      show own_WP _ _ _ _ T1 (mkF m 31 #[.val (.int zi), .val (.int zw), .val (.int zp), .val (.long zg), .second] [(.int (1 : Int32))])
      refine own_go (fun t k => XS.goto X1.here hx rfl (pc0 := 31) (pc' := 35) rfl (hb hby d5_31) (by decide) (by decide) k) ?_
      show own_WP _ _ _ _ T1 (mkF m 35 #[.val (.int zi), .val (.int zw), .val (.int zp), .val (.long zg), .second] [(.int (1 : Int32))])
      refine own_retN X1 hx Bd.notSynchronized (t := .boolean) (by simp) Bd.returns (hb hby d5_35) (by decide) (by decide) ?_
      rw [eq1]
      exact ⟨(congrArg (fun z => some (Value.int z)) (show (nar .boolean (1 : Int32)) = (own_ex zi zw zp zg) from by first | (simp [nar, own_ex, hc2, hc27]; done) | (simp only [if_true, if_false, eq_self, ↓reduceIte, own_ex, hc2, hc27]; first | done | rfl | decide))), N1, rfl⟩
    · refine own_go (fun t k => XS.ifYes X1.here hx rfl (pc0 := 27) (pc' := 34) rfl (hb hby d5_27) rfl ((if0 _ _).trans (flt (fun z => hc27 ((lw_lt (zi.toInt64) (((own_max zp zw).toInt64) + zg)).mp z))).2.1) (by decide) (by decide) k) ?_
      show own_WP _ _ _ _ T1 (mkF m 34 #[.val (.int zi), .val (.int zw), .val (.int zp), .val (.long zg), .second] [])
      refine own_go (fun t k => XS.iconst X1.here hx rfl (hb hby d5_34) k) ?_
      show own_WP _ _ _ _ T1 (mkF m 35 #[.val (.int zi), .val (.int zw), .val (.int zp), .val (.long zg), .second] [(.int (0 : Int32))])
      refine own_retN X1 hx Bd.notSynchronized (t := .boolean) (by simp) Bd.returns (hb hby d5_35) (by decide) (by decide) ?_
      rw [eq1]
      exact ⟨(congrArg (fun z => some (Value.int z)) (show (nar .boolean (0 : Int32)) = (own_ex zi zw zp zg) from by first | (simp [nar, own_ex, hc2, hc27]; done) | (simp only [if_true, if_false, eq_self, ↓reduceIte, own_ex, hc2, hc27]; first | done | rfl | decide))), N1, rfl⟩
theorem own_pd91901 : parseMethodDescriptor "()Z" = some ⟨[], some .boolean⟩ := by decide +kernel
theorem own_pd92526 : parseMethodDescriptor "(IIIJ)Z" = some ⟨[.int, .int, .int, .long], some .boolean⟩ := by decide +kernel
theorem own_pd99011 : parseMethodDescriptor "(J)V" = some ⟨[.long], none⟩ := by decide +kernel
theorem ef_0 (m : MethodId) (za : Int32) (zb : Int64) (zc : Int32) (zm : Int32) : entryFrame m #[(.int za), (.long zb), (.int zc), (.int zm)] maxLocals = mkF m 0 #[.val (.int za), .val (.long zb), .second, .val (.int zc), .val (.int zm), .unset, .unset, .unset, .unset, .unset, .unset, .unset, .unset, .unset, .unset, .unset, .unset, .unset, .unset] [] := by first | (simp [entryFrame, mkF, argsToLocals, Value.category, maxLocals]; done) | rfl
def Q0 (Z : State) (za : Int32) (zb : Int64) (zc : Int32) (zm : Int32) (h0 : Heap) (n0 : Nat) (v : Option Value) (h : Heap) (L : List Loc) : Prop := v = some (.int 1) ∧ Fr n0 L
set_option maxRecDepth 65536 in
set_option maxHeartbeats 40000000 in
theorem rm0 (l : Launch) (Z : State) (a0 : Array Value) (hw : ∀ d ∈ tables_1, d.before a0 Z = true) (ws : List Jvm.Cond) (za : Int32) (zb : Int64) (zc : Int32) (zm : Int32) (h0 : Heap) (n0 : Nat) (Z0 : n0 ≤ h0.size)  :
    MetFree l x (head1 (Jvm.Cond.code x code maxLocals ret :: ws) room_1) (fun a U => a = #[(.int za), (.long zb), (.int zc), (.int zm)] ∧ Z.Warmed39 U.vm ∧ U.heap = h0) (fun _ _ _ _ _ => True) (fun _ U o U' => ∃ v L, o = .returned v ∧ Q0 Z za zb zc zm h0 n0 v U'.heap L ∧ FrameEnd U o U' L 1 1) := by
  refine MetFree.of_bodySF (plainFor_of_name own_pn9608) hisR ?_
  intro p e s m args below meth c s₁ Bd hml0 hP hK
  obtain ⟨rfl, hZ, hh⟩ := hP
  have hx := Bd.exec
  have hby := Bd.bytes
  have hml : c.maxLocals = 19 := hml0
  have hown : s.vm.findClass "com/example/soak/soak/control/EdgeWindowAdmitNewCallPinLaw" = some m.cls := findClass_of_methodNamed Bd.named
  have hnm := (name_of_methodNamed Bd.named Bd.method).1
  have X0 : Stand p l e room_1 s m #[(.int za), (.long zb), (.int zc), (.int zm)] below meth c s₁ [] 0 0 := Stand.of_body Bd
  have e0 : s₁.heap = h0 := by rw [← hh, Bd.state]; rfl
  have N0 := Fr.nil n0
  have K0 := Keep.refl h0 ([] : List Addr)
  show own_WP p e below (own_E s (Q0 Z za zb zc zm h0 n0) 1 1) s₁ (entryFrame m #[(.int za), (.long zb), (.int zc), (.int zm)] maxLocals)
  rw [ef_0 m za zb zc zm]
  have J52 : ∀ (zsm : Int32) (zw : Int32) (zg : Int64) (T1 : State) (h1 : Heap) (L1 : List Loc), Stand p l e room_1 s m #[(.int za), (.long zb), (.int zc), (.int zm)] below meth c T1 L1 0 0 → T1.heap = h1 → Fr n0 L1 → Keep h0 h1 [] → (0 ≤ zw.toInt) → (0 ≤ zg.toInt) → (zg.toInt < 4294967296) → own_WP p e below (own_E s (Q0 Z za zb zc zm h0 n0) 1 1) T1 (mkF m 52 #[.val (.int za), .val (.long zb), .second, .val (.int zc), .val (.int zm), .val (.int zsm), .val (.int zw), .val (.long zg), .second, .unset, .unset, .unset, .unset, .unset, .unset, .unset, .unset, .unset, .unset] []) := by
    intro zsm zw zg T1 h1 L1 X1 e1 N1 K1j hw1 hg1 hg2
    show own_WP _ _ _ _ T1 (mkF m 52 #[.val (.int za), .val (.long zb), .second, .val (.int zc), .val (.int zm), .val (.int zsm), .val (.int zw), .val (.long zg), .second, .unset, .unset, .unset, .unset, .unset, .unset, .unset, .unset, .unset, .unset] [])
    refine own_go (fun t k => XS.iloadN X1.here hx rfl (hb hby at_52) rfl  k) ?_
    show own_WP _ _ _ _ T1 (mkF m 53 #[.val (.int za), .val (.long zb), .second, .val (.int zc), .val (.int zm), .val (.int zsm), .val (.int zw), .val (.long zg), .second, .unset, .unset, .unset, .unset, .unset, .unset, .unset, .unset, .unset, .unset] [(.int zc)])
    refine own_go (fun t k => X1.ldcInt hx hown (mvT hZ (hw _ (List.mem_of_getElem? (i := 0) rfl))) (g := (mkF m 53 #[.val (.int za), .val (.long zb), .second, .val (.int zc), .val (.int zm), .val (.int zsm), .val (.int zw), .val (.long zg), .second, .unset, .unset, .unset, .unset, .unset, .unset, .unset, .unset, .unset, .unset] [(.int zc)])) rfl (hb hby at_53) t k) ?_
    show own_WP _ _ _ _ T1 (mkF m 55 #[.val (.int za), .val (.long zb), .second, .val (.int zc), .val (.int zm), .val (.int zsm), .val (.int zw), .val (.long zg), .second, .unset, .unset, .unset, .unset, .unset, .unset, .unset, .unset, .unset, .unset] [(.int (2147483647 : Int32)), (.int zc)])
    refine own_go (fun t k => XS.iand X1.here hx rfl (hb hby at_55) rfl k) ?_
    show own_WP _ _ _ _ T1 (mkF m 56 #[.val (.int za), .val (.long zb), .second, .val (.int zc), .val (.int zm), .val (.int zsm), .val (.int zw), .val (.long zg), .second, .unset, .unset, .unset, .unset, .unset, .unset, .unset, .unset, .unset, .unset] [(.int (zc &&& (2147483647 : Int32)))])
    refine own_go (fun t k => XS.bipush X1.here hx rfl (hb hby at_56) k) ?_
    show own_WP _ _ _ _ T1 (mkF m 58 #[.val (.int za), .val (.long zb), .second, .val (.int zc), .val (.int zm), .val (.int zsm), .val (.int zw), .val (.long zg), .second, .unset, .unset, .unset, .unset, .unset, .unset, .unset, .unset, .unset, .unset] [(.int (8 : Int32)), (.int (zc &&& (2147483647 : Int32)))])
    have hnz58 : (8 : Int32) ≠ 0 := by decide
    refine own_go (fun t k => iremM X1 hx rfl (hb hby at_58) rfl hnz58 k) ?_
    show own_WP _ _ _ _ T1 (mkF m 59 #[.val (.int za), .val (.long zb), .second, .val (.int zc), .val (.int zm), .val (.int zsm), .val (.int zw), .val (.long zg), .second, .unset, .unset, .unset, .unset, .unset, .unset, .unset, .unset, .unset, .unset] [(.int ((zc &&& (2147483647 : Int32)) % (8 : Int32)))])
    generalize d_zp : ((zc &&& (2147483647 : Int32)) % (8 : Int32)) = zp
    refine own_go (fun t k => XS.istore X1.here hx rfl (hb hby at_59) rfl (l' := #[.val (.int za), .val (.long zb), .second, .val (.int zc), .val (.int zm), .val (.int zsm), .val (.int zw), .val (.long zg), .second, .val (.int zp), .unset, .unset, .unset, .unset, .unset, .unset, .unset, .unset, .unset]) rfl k) ?_
    have hp1 := own_mod8 zc
    rw [d_zp] at hp1
    show own_WP _ _ _ _ T1 (mkF m 61 #[.val (.int za), .val (.long zb), .second, .val (.int zc), .val (.int zm), .val (.int zsm), .val (.int zw), .val (.long zg), .second, .val (.int zp), .unset, .unset, .unset, .unset, .unset, .unset, .unset, .unset, .unset] [])
    obtain ⟨T2, h2, X2, e2, E2, A2, D2, -, st2⟩ := newO X1 hx hZ hown (hw _ (List.mem_of_getElem? (i := 2) rfl)) (hw _ (List.mem_of_getElem? (i := 3) rfl)) (hw _ (List.mem_of_getElem? (i := 4) rfl)) e1 (g := (mkF m 61 #[.val (.int za), .val (.long zb), .second, .val (.int zc), .val (.int zm), .val (.int zsm), .val (.int zw), .val (.long zg), .second, .val (.int zp), .unset, .unset, .unset, .unset, .unset, .unset, .unset, .unset, .unset] [])) rfl (hb hby at_61) (by decide) (by decide)
    obtain ⟨zo, q2⟩ : ∃ z, z = h1.size := ⟨_, rfl⟩
    rw [← q2] at A2 D2 st2
    refine own_go st2 ?_
    have g_zo : n0 ≤ zo := Nat.le_trans (own_le Z0 K1j) (Nat.le_of_eq q2.symm)
    have sz_zo : h0.size ≤ zo := Nat.le_trans K1j.1 (Nat.le_of_eq q2.symm)
    have K3 : Keep h0 h2 [] := K1j.ext E2
    have f4 : Fld Z h2 zo "com/example/soak/soak/control/EdgeWindow" "window" "J" (.long (0 : Int64)) := D2 (Or.inl (hw _ (List.mem_of_getElem? (i := 15) rfl))) (ty := .long) (by decide)
    show own_WP _ _ _ _ T2 (mkF m 64 #[.val (.int za), .val (.long zb), .second, .val (.int zc), .val (.int zm), .val (.int zsm), .val (.int zw), .val (.long zg), .second, .val (.int zp), .unset, .unset, .unset, .unset, .unset, .unset, .unset, .unset, .unset] [(.ref zo)])
    refine own_go (fun t k => XS.dup X2.here hx rfl (hb hby at_64) rfl rfl k) ?_
    show own_WP _ _ _ _ T2 (mkF m 65 #[.val (.int za), .val (.long zb), .second, .val (.int zc), .val (.int zm), .val (.int zsm), .val (.int zw), .val (.long zg), .second, .val (.int zp), .unset, .unset, .unset, .unset, .unset, .unset, .unset, .unset, .unset] [(.ref zo), (.ref zo)])
    refine own_go (fun t k => XS.iload X2.here hx rfl (hb hby at_65) rfl  k) ?_
    show own_WP _ _ _ _ T2 (mkF m 67 #[.val (.int za), .val (.long zb), .second, .val (.int zc), .val (.int zm), .val (.int zsm), .val (.int zw), .val (.long zg), .second, .val (.int zp), .unset, .unset, .unset, .unset, .unset, .unset, .unset, .unset, .unset] [(.int zw), (.ref zo), (.ref zo)])
    obtain ⟨_, _, ⟨T5, L5, k5, n5⟩, -, X5, ⟨Lc5, hQ5, l5, y5, z5⟩, st5⟩ := X2.specialBack hx (y := (⟨"com/example/soak/soak/control/EdgeWindow", "<init>", "(I)V"⟩ : MethodName)) rfl hown (mvT hZ (hw _ (List.mem_of_getElem? (i := 5) rfl))) (mvT hZ (hw _ (List.mem_of_getElem? (i := 6) rfl))) (mvT hZ (hw _ (List.mem_of_getElem? (i := 7) rfl))) (by decide) (backOf (W := 1) (rm1 l Z a0 hw [] zo zw (.long (0 : Int64)) h2 n0 (own_le Z0 K3) A2 f4 g_zo (show ¬ zw < 0 from own_nn hw1)) hZ (hw _ (List.mem_of_getElem? (i := 7) rfl)) (hw _ (List.mem_of_getElem? (i := 4) rfl)) (by decide) (by decide)) (g := (mkF m 67 #[.val (.int za), .val (.long zb), .second, .val (.int zc), .val (.int zm), .val (.int zsm), .val (.int zw), .val (.long zg), .second, .val (.int zp), .unset, .unset, .unset, .unset, .unset, .unset, .unset, .unset, .unset] [(.int zw), (.ref zo), (.ref zo)])) rfl (by rw [hml]; rfl) (Steps.refl _) (a := zo) (argsL := [(.int zw)]) (rest := [(.ref zo)]) (lenOf own_pd81850 rfl) rfl (by show 2 * 0 + _ ≤ _; exact Nat.le_of_eq rfl) (hb hby at_67) (fun _ _ => ⟨rfl, e2, (by decide : 1 + 0 ≤ _), (by decide : 1 + 0 ≤ _)⟩)
    dsimp only [Pt.U, Pt.locs, Pt.cells, Pt.slots] at X5 l5 y5 z5 st5 hQ5
    subst l5 y5 z5
    obtain ⟨rfl, N5q, Kc5, f6, f7⟩ := hQ5
    have N5 := Fr.app N1 N5q
    refine own_tr st5 ?_
    have f8 : Exa Z T5.heap zo "com/example/soak/soak/control/EdgeWindow" := A2.keep Kc5
    have K10 : Keep h0 T5.heap [] := K3.trans Kc5 (fun x hx => by cases List.mem_singleton.mp hx; exact Or.inr sz_zo)
    show own_WP _ _ _ _ T5 (mkF m 70 #[.val (.int za), .val (.long zb), .second, .val (.int zc), .val (.int zm), .val (.int zsm), .val (.int zw), .val (.long zg), .second, .val (.int zp), .unset, .unset, .unset, .unset, .unset, .unset, .unset, .unset, .unset] [(.ref zo)])
    refine own_go (fun t k => XS.astore X5.here hx rfl (hb hby at_70) rfl rfl (l' := #[.val (.int za), .val (.long zb), .second, .val (.int zc), .val (.int zm), .val (.int zsm), .val (.int zw), .val (.long zg), .second, .val (.int zp), .val (.ref zo), .unset, .unset, .unset, .unset, .unset, .unset, .unset, .unset]) rfl k) ?_
    show own_WP _ _ _ _ T5 (mkF m 72 #[.val (.int za), .val (.long zb), .second, .val (.int zc), .val (.int zm), .val (.int zsm), .val (.int zw), .val (.long zg), .second, .val (.int zp), .val (.ref zo), .unset, .unset, .unset, .unset, .unset, .unset, .unset, .unset] [])
    refine own_go (fun t k => XS.iconst X5.here hx rfl (hb hby at_72) k) ?_
    show own_WP _ _ _ _ T5 (mkF m 73 #[.val (.int za), .val (.long zb), .second, .val (.int zc), .val (.int zm), .val (.int zsm), .val (.int zw), .val (.long zg), .second, .val (.int zp), .val (.ref zo), .unset, .unset, .unset, .unset, .unset, .unset, .unset, .unset] [(.int (1 : Int32))])
    refine own_go (fun t k => XS.istore X5.here hx rfl (hb hby at_73) rfl (l' := #[.val (.int za), .val (.long zb), .second, .val (.int zc), .val (.int zm), .val (.int zsm), .val (.int zw), .val (.long zg), .second, .val (.int zp), .val (.ref zo), .val (.int (1 : Int32)), .unset, .unset, .unset, .unset, .unset, .unset, .unset]) rfl k) ?_
    have J87 : ∀  (T11 : State) (h11 : Heap) (L11 : List Loc), Stand p l e room_1 s m #[(.int za), (.long zb), (.int zc), (.int zm)] below meth c T11 L11 1 1 → T11.heap = h11 → Fr n0 L11 → Keep h0 h11 [] → Exa Z h11 zo "com/example/soak/soak/control/EdgeWindow" → Fld Z h11 zo "com/example/soak/soak/control/EdgeWindow" "window" "J" (.long (own_T zw zp zg 0)) → own_WP p e below (own_E s (Q0 Z za zb zc zm h0 n0) 1 1) T11 (mkF m 87 #[.val (.int za), .val (.long zb), .second, .val (.int zc), .val (.int zm), .val (.int zsm), .val (.int zw), .val (.long zg), .second, .val (.int zp), .val (.ref zo), .val (.int (1 : Int32)), .unset, .unset, .unset, .unset, .unset, .unset, .unset] []) := by
      intro T11 h11 L11 X11 e11 N11 K11j f12 f13
      show own_WP _ _ _ _ T11 (mkF m 87 #[.val (.int za), .val (.long zb), .second, .val (.int zc), .val (.int zm), .val (.int zsm), .val (.int zw), .val (.long zg), .second, .val (.int zp), .val (.ref zo), .val (.int (1 : Int32)), .unset, .unset, .unset, .unset, .unset, .unset, .unset] [])
      refine own_go (fun t k => XS.aload X11.here hx rfl (hb hby at_87) rfl rfl  k) ?_
      show own_WP _ _ _ _ T11 (mkF m 89 #[.val (.int za), .val (.long zb), .second, .val (.int zc), .val (.int zm), .val (.int zsm), .val (.int zw), .val (.long zg), .second, .val (.int zp), .val (.ref zo), .val (.int (1 : Int32)), .unset, .unset, .unset, .unset, .unset, .unset, .unset] [(.ref zo)])
      obtain ⟨cq14, kq14, q14a, q14b, q14c⟩ := isOf hZ e11 f12
      obtain ⟨_, _, ⟨T14, L14, k14, n14⟩, -, X14, ⟨Lc14, hQ14, l14, y14, z14⟩, st14⟩ := X11.virtualBack hx (y := (⟨"com/example/soak/soak/control/EdgeWindow", "admitNewCall", "()Z"⟩ : MethodName)) (z := (⟨"com/example/soak/soak/control/EdgeWindow", "admitNewCall", "()Z"⟩ : MethodName)) hown (mvT hZ (hw _ (List.mem_of_getElem? (i := 16) rfl))) (mvT hZ (hw _ (List.mem_of_getElem? (i := 17) rfl))) (notFace_of_selects (args := #[]) (mvT hZ (hw _ (List.mem_of_getElem? (i := 19) rfl)))) (mvT hZ (hw _ (List.mem_of_getElem? (i := 19) rfl))) (mvT hZ (hw _ (List.mem_of_getElem? (i := 18) rfl))) (by decide) (backOf (W := 0) (rm4 l Z a0 hw [] zo (own_T zw zp zg 0) h11 n0 (own_le Z0 K11j) f12 f13 g_zo) hZ (hw _ (List.mem_of_getElem? (i := 20) rfl)) (hw _ (List.mem_of_getElem? (i := 4) rfl)) (by decide) (by decide)) q14a q14c (g := (mkF m 89 #[.val (.int za), .val (.long zb), .second, .val (.int zc), .val (.int zm), .val (.int zsm), .val (.int zw), .val (.long zg), .second, .val (.int zp), .val (.ref zo), .val (.int (1 : Int32)), .unset, .unset, .unset, .unset, .unset, .unset, .unset] [(.ref zo)])) rfl (by rw [hml]; rfl) (Steps.refl _) (argsL := []) (rest := []) (lenOf own_pd91901 rfl) rfl (by show 2 * 0 + _ ≤ _; exact Nat.le_of_eq rfl) (hb hby at_89) (fun _ _ => ⟨rfl, e11, (by decide : 1 + 0 ≤ _), (by decide : 1 + 0 ≤ _)⟩)
      dsimp only [Pt.U, Pt.locs, Pt.cells, Pt.slots] at X14 l14 y14 z14 st14 hQ14
      subst l14 y14 z14
      obtain ⟨rfl, N14q, Kc14, f15, f16⟩ := hQ14
      have N14 := Fr.app N11 N14q
      refine own_tr st14 ?_
      have f17 : Exa Z T14.heap zo "com/example/soak/soak/control/EdgeWindow" := f12.keep Kc14
      have K19 : Keep h0 T14.heap [] := K11j.trans Kc14 (fun x hx => by cases List.mem_singleton.mp hx; exact Or.inr sz_zo)
      show own_WP _ _ _ _ T14 (mkF m 92 #[.val (.int za), .val (.long zb), .second, .val (.int zc), .val (.int zm), .val (.int zsm), .val (.int zw), .val (.long zg), .second, .val (.int zp), .val (.ref zo), .val (.int (1 : Int32)), .unset, .unset, .unset, .unset, .unset, .unset, .unset] [(.int (own_ad (own_T zw zp zg 0)))])
      refine own_go (fun t k => XS.istore X14.here hx rfl (hb hby at_92) rfl (l' := #[.val (.int za), .val (.long zb), .second, .val (.int zc), .val (.int zm), .val (.int zsm), .val (.int zw), .val (.long zg), .second, .val (.int zp), .val (.ref zo), .val (.int (1 : Int32)), .val (.int (own_ad (own_T zw zp zg 0))), .unset, .unset, .unset, .unset, .unset, .unset]) rfl k) ?_
      show own_WP _ _ _ _ T14 (mkF m 94 #[.val (.int za), .val (.long zb), .second, .val (.int zc), .val (.int zm), .val (.int zsm), .val (.int zw), .val (.long zg), .second, .val (.int zp), .val (.ref zo), .val (.int (1 : Int32)), .val (.int (own_ad (own_T zw zp zg 0))), .unset, .unset, .unset, .unset, .unset, .unset] [])
      refine own_go (fun t k => XS.iload X14.here hx rfl (hb hby at_94) rfl  k) ?_
      show own_WP _ _ _ _ T14 (mkF m 96 #[.val (.int za), .val (.long zb), .second, .val (.int zc), .val (.int zm), .val (.int zsm), .val (.int zw), .val (.long zg), .second, .val (.int zp), .val (.ref zo), .val (.int (1 : Int32)), .val (.int (own_ad (own_T zw zp zg 0))), .unset, .unset, .unset, .unset, .unset, .unset] [(.int (1 : Int32))])
      have hc96 : ¬ ((1 : Int32) = (0 : Int32)) := by decide
      refine own_go (fun t k => XS.ifNo X14.here hx rfl (hb hby at_96) rfl ((if0 _ _).trans (feq hc96).1) k) ?_
      show own_WP _ _ _ _ T14 (mkF m 99 #[.val (.int za), .val (.long zb), .second, .val (.int zc), .val (.int zm), .val (.int zsm), .val (.int zw), .val (.long zg), .second, .val (.int zp), .val (.ref zo), .val (.int (1 : Int32)), .val (.int (own_ad (own_T zw zp zg 0))), .unset, .unset, .unset, .unset, .unset, .unset] [])
      refine own_go (fun t k => XS.iload X14.here hx rfl (hb hby at_99) rfl  k) ?_
      show own_WP _ _ _ _ T14 (mkF m 101 #[.val (.int za), .val (.long zb), .second, .val (.int zc), .val (.int zm), .val (.int zsm), .val (.int zw), .val (.long zg), .second, .val (.int zp), .val (.ref zo), .val (.int (1 : Int32)), .val (.int (own_ad (own_T zw zp zg 0))), .unset, .unset, .unset, .unset, .unset, .unset] [(.int (own_ad (own_T zw zp zg 0)))])
      refine own_go (fun t k => XS.iconst X14.here hx rfl (hb hby at_101) k) ?_
      show own_WP _ _ _ _ T14 (mkF m 102 #[.val (.int za), .val (.long zb), .second, .val (.int zc), .val (.int zm), .val (.int zsm), .val (.int zw), .val (.long zg), .second, .val (.int zp), .val (.ref zo), .val (.int (1 : Int32)), .val (.int (own_ad (own_T zw zp zg 0))), .unset, .unset, .unset, .unset, .unset, .unset] [(.int (0 : Int32)), (.int (own_ad (own_T zw zp zg 0)))])
      refine own_go (fun t k => XS.iload X14.here hx rfl (hb hby at_102) rfl  k) ?_
      show own_WP _ _ _ _ T14 (mkF m 104 #[.val (.int za), .val (.long zb), .second, .val (.int zc), .val (.int zm), .val (.int zsm), .val (.int zw), .val (.long zg), .second, .val (.int zp), .val (.ref zo), .val (.int (1 : Int32)), .val (.int (own_ad (own_T zw zp zg 0))), .unset, .unset, .unset, .unset, .unset, .unset] [(.int zw), (.int (0 : Int32)), (.int (own_ad (own_T zw zp zg 0)))])
      refine own_go (fun t k => XS.iload X14.here hx rfl (hb hby at_104) rfl  k) ?_
      show own_WP _ _ _ _ T14 (mkF m 106 #[.val (.int za), .val (.long zb), .second, .val (.int zc), .val (.int zm), .val (.int zsm), .val (.int zw), .val (.long zg), .second, .val (.int zp), .val (.ref zo), .val (.int (1 : Int32)), .val (.int (own_ad (own_T zw zp zg 0))), .unset, .unset, .unset, .unset, .unset, .unset] [(.int zp), (.int zw), (.int (0 : Int32)), (.int (own_ad (own_T zw zp zg 0)))])
      refine own_go (fun t k => XS.lload X14.here hx rfl (hb hby at_106) rfl  k) ?_
      show own_WP _ _ _ _ T14 (mkF m 108 #[.val (.int za), .val (.long zb), .second, .val (.int zc), .val (.int zm), .val (.int zsm), .val (.int zw), .val (.long zg), .second, .val (.int zp), .val (.ref zo), .val (.int (1 : Int32)), .val (.int (own_ad (own_T zw zp zg 0))), .unset, .unset, .unset, .unset, .unset, .unset] [(.long zg), (.int zp), (.int zw), (.int (0 : Int32)), (.int (own_ad (own_T zw zp zg 0)))])
      obtain ⟨_, _, ⟨T20, L20, k20, n20⟩, -, X20, ⟨Lc20, hQ20, l20, y20, z20⟩, st20⟩ := Jvm.LawKit.callS X14 hx (y := (⟨"com/example/soak/soak/control/EdgeWindowAdmitNewCallPinLaw", "expected", "(IIIJ)Z"⟩ : MethodName)) hown (mvT hZ (hw _ (List.mem_of_getElem? (i := 21) rfl))) (mvT hZ (hw _ (List.mem_of_getElem? (i := 22) rfl))) (mvT hZ (hw _ (List.mem_of_getElem? (i := 23) rfl))) (mvT hZ (hw _ (List.mem_of_getElem? (i := 24) rfl))) (by decide) (backOf (W := 1) (rm5 l Z a0 hw [] (0 : Int32) zw zp zg  T14.heap n0 (own_le Z0 K19) ) hZ (hw _ (List.mem_of_getElem? (i := 24) rfl)) (hw _ (List.mem_of_getElem? (i := 23) rfl)) (by decide) (by decide)) (g := (mkF m 108 #[.val (.int za), .val (.long zb), .second, .val (.int zc), .val (.int zm), .val (.int zsm), .val (.int zw), .val (.long zg), .second, .val (.int zp), .val (.ref zo), .val (.int (1 : Int32)), .val (.int (own_ad (own_T zw zp zg 0))), .unset, .unset, .unset, .unset, .unset, .unset] [(.long zg), (.int zp), (.int zw), (.int (0 : Int32)), (.int (own_ad (own_T zw zp zg 0)))])) rfl (by rw [hml]; rfl) (argsL := [(.int (0 : Int32)), (.int zw), (.int zp), (.long zg)]) (rest := [(.int (own_ad (own_T zw zp zg 0)))]) (lenOf own_pd92526 rfl) rfl (by show 2 * 0 + _ ≤ _; exact Nat.le_of_eq rfl) (hb hby at_108) (fun _ _ => ⟨rfl, rfl, (by decide : 1 + 0 ≤ _), (by decide : 1 + 0 ≤ _)⟩)
      dsimp only [Pt.U, Pt.locs, Pt.cells, Pt.slots] at X20 l20 y20 z20 st20 hQ20
      subst l20 y20 z20
      obtain ⟨rfl, N20q, eq20⟩ := hQ20
      have N20 := Fr.app N14 N20q
      refine own_go st20 ?_
      show own_WP _ _ _ _ T20 (mkF m 111 #[.val (.int za), .val (.long zb), .second, .val (.int zc), .val (.int zm), .val (.int zsm), .val (.int zw), .val (.long zg), .second, .val (.int zp), .val (.ref zo), .val (.int (1 : Int32)), .val (.int (own_ad (own_T zw zp zg 0))), .unset, .unset, .unset, .unset, .unset, .unset] [(.int (own_ex (0 : Int32) zw zp zg)), (.int (own_ad (own_T zw zp zg 0)))])
      have hc111 : (own_ad (own_T zw zp zg 0)) = (own_ex (0 : Int32) zw zp zg) := by
        exact own_key zw zp zg hw1 hp1.1 hp1.2 hg1 hg2 0 (by decide)
      refine own_go (fun t k => XS.icmpNo X20.here hx rfl (hb hby at_111) rfl (teq hc111).2 k) ?_
      show own_WP _ _ _ _ T20 (mkF m 114 #[.val (.int za), .val (.long zb), .second, .val (.int zc), .val (.int zm), .val (.int zsm), .val (.int zw), .val (.long zg), .second, .val (.int zp), .val (.ref zo), .val (.int (1 : Int32)), .val (.int (own_ad (own_T zw zp zg 0))), .unset, .unset, .unset, .unset, .unset, .unset] [])
      refine own_go (fun t k => XS.iconst X20.here hx rfl (hb hby at_114) k) ?_
      show own_WP _ _ _ _ T20 (mkF m 115 #[.val (.int za), .val (.long zb), .second, .val (.int zc), .val (.int zm), .val (.int zsm), .val (.int zw), .val (.long zg), .second, .val (.int zp), .val (.ref zo), .val (.int (1 : Int32)), .val (.int (own_ad (own_T zw zp zg 0))), .unset, .unset, .unset, .unset, .unset, .unset] [(.int (1 : Int32))])
      refine own_go (fun t k => XS.goto X20.here hx rfl (pc0 := 115) (pc' := 119) rfl (hb hby at_115) (by decide) (by decide) k) ?_
      show own_WP _ _ _ _ T20 (mkF m 119 #[.val (.int za), .val (.long zb), .second, .val (.int zc), .val (.int zm), .val (.int zsm), .val (.int zw), .val (.long zg), .second, .val (.int zp), .val (.ref zo), .val (.int (1 : Int32)), .val (.int (own_ad (own_T zw zp zg 0))), .unset, .unset, .unset, .unset, .unset, .unset] [(.int (1 : Int32))])
      refine own_go (fun t k => XS.istore X20.here hx rfl (hb hby at_119) rfl (l' := #[.val (.int za), .val (.long zb), .second, .val (.int zc), .val (.int zm), .val (.int zsm), .val (.int zw), .val (.long zg), .second, .val (.int zp), .val (.ref zo), .val (.int (1 : Int32)), .val (.int (own_ad (own_T zw zp zg 0))), .unset, .unset, .unset, .unset, .unset, .unset]) rfl k) ?_
      have J134 : ∀  (T21 : State) (h21 : Heap) (L21 : List Loc), Stand p l e room_1 s m #[(.int za), (.long zb), (.int zc), (.int zm)] below meth c T21 L21 1 1 → T21.heap = h21 → Fr n0 L21 → Keep h0 h21 [] → Exa Z h21 zo "com/example/soak/soak/control/EdgeWindow" → Fld Z h21 zo "com/example/soak/soak/control/EdgeWindow" "window" "J" (.long (own_T zw zp zg 1)) → own_WP p e below (own_E s (Q0 Z za zb zc zm h0 n0) 1 1) T21 (mkF m 134 #[.val (.int za), .val (.long zb), .second, .val (.int zc), .val (.int zm), .val (.int zsm), .val (.int zw), .val (.long zg), .second, .val (.int zp), .val (.ref zo), .val (.int (1 : Int32)), .val (.int (own_ad (own_T zw zp zg 0))), .unset, .unset, .unset, .unset, .unset, .unset] []) := by
        intro T21 h21 L21 X21 e21 N21 K21j f22 f23
        show own_WP _ _ _ _ T21 (mkF m 134 #[.val (.int za), .val (.long zb), .second, .val (.int zc), .val (.int zm), .val (.int zsm), .val (.int zw), .val (.long zg), .second, .val (.int zp), .val (.ref zo), .val (.int (1 : Int32)), .val (.int (own_ad (own_T zw zp zg 0))), .unset, .unset, .unset, .unset, .unset, .unset] [])
        refine own_go (fun t k => XS.aload X21.here hx rfl (hb hby at_134) rfl rfl  k) ?_
        show own_WP _ _ _ _ T21 (mkF m 136 #[.val (.int za), .val (.long zb), .second, .val (.int zc), .val (.int zm), .val (.int zsm), .val (.int zw), .val (.long zg), .second, .val (.int zp), .val (.ref zo), .val (.int (1 : Int32)), .val (.int (own_ad (own_T zw zp zg 0))), .unset, .unset, .unset, .unset, .unset, .unset] [(.ref zo)])
        obtain ⟨cq24, kq24, q24a, q24b, q24c⟩ := isOf hZ e21 f22
        obtain ⟨_, _, ⟨T24, L24, k24, n24⟩, -, X24, ⟨Lc24, hQ24, l24, y24, z24⟩, st24⟩ := X21.virtualBack hx (y := (⟨"com/example/soak/soak/control/EdgeWindow", "admitNewCall", "()Z"⟩ : MethodName)) (z := (⟨"com/example/soak/soak/control/EdgeWindow", "admitNewCall", "()Z"⟩ : MethodName)) hown (mvT hZ (hw _ (List.mem_of_getElem? (i := 16) rfl))) (mvT hZ (hw _ (List.mem_of_getElem? (i := 17) rfl))) (notFace_of_selects (args := #[]) (mvT hZ (hw _ (List.mem_of_getElem? (i := 19) rfl)))) (mvT hZ (hw _ (List.mem_of_getElem? (i := 19) rfl))) (mvT hZ (hw _ (List.mem_of_getElem? (i := 18) rfl))) (by decide) (backOf (W := 0) (rm4 l Z a0 hw [] zo (own_T zw zp zg 1) h21 n0 (own_le Z0 K21j) f22 f23 g_zo) hZ (hw _ (List.mem_of_getElem? (i := 20) rfl)) (hw _ (List.mem_of_getElem? (i := 4) rfl)) (by decide) (by decide)) q24a q24c (g := (mkF m 136 #[.val (.int za), .val (.long zb), .second, .val (.int zc), .val (.int zm), .val (.int zsm), .val (.int zw), .val (.long zg), .second, .val (.int zp), .val (.ref zo), .val (.int (1 : Int32)), .val (.int (own_ad (own_T zw zp zg 0))), .unset, .unset, .unset, .unset, .unset, .unset] [(.ref zo)])) rfl (by rw [hml]; rfl) (Steps.refl _) (argsL := []) (rest := []) (lenOf own_pd91901 rfl) rfl (by show 2 * 0 + _ ≤ _; exact Nat.le_of_eq rfl) (hb hby at_136) (fun _ _ => ⟨rfl, e21, (by decide : 1 + 0 ≤ _), (by decide : 1 + 0 ≤ _)⟩)
        dsimp only [Pt.U, Pt.locs, Pt.cells, Pt.slots] at X24 l24 y24 z24 st24 hQ24
        subst l24 y24 z24
        obtain ⟨rfl, N24q, Kc24, f25, f26⟩ := hQ24
        have N24 := Fr.app N21 N24q
        refine own_tr st24 ?_
        have f27 : Exa Z T24.heap zo "com/example/soak/soak/control/EdgeWindow" := f22.keep Kc24
        have K29 : Keep h0 T24.heap [] := K21j.trans Kc24 (fun x hx => by cases List.mem_singleton.mp hx; exact Or.inr sz_zo)
        show own_WP _ _ _ _ T24 (mkF m 139 #[.val (.int za), .val (.long zb), .second, .val (.int zc), .val (.int zm), .val (.int zsm), .val (.int zw), .val (.long zg), .second, .val (.int zp), .val (.ref zo), .val (.int (1 : Int32)), .val (.int (own_ad (own_T zw zp zg 0))), .unset, .unset, .unset, .unset, .unset, .unset] [(.int (own_ad (own_T zw zp zg 1)))])
        refine own_go (fun t k => XS.istore X24.here hx rfl (hb hby at_139) rfl (l' := #[.val (.int za), .val (.long zb), .second, .val (.int zc), .val (.int zm), .val (.int zsm), .val (.int zw), .val (.long zg), .second, .val (.int zp), .val (.ref zo), .val (.int (1 : Int32)), .val (.int (own_ad (own_T zw zp zg 0))), .val (.int (own_ad (own_T zw zp zg 1))), .unset, .unset, .unset, .unset, .unset]) rfl k) ?_
        show own_WP _ _ _ _ T24 (mkF m 141 #[.val (.int za), .val (.long zb), .second, .val (.int zc), .val (.int zm), .val (.int zsm), .val (.int zw), .val (.long zg), .second, .val (.int zp), .val (.ref zo), .val (.int (1 : Int32)), .val (.int (own_ad (own_T zw zp zg 0))), .val (.int (own_ad (own_T zw zp zg 1))), .unset, .unset, .unset, .unset, .unset] [])
        refine own_go (fun t k => XS.iload X24.here hx rfl (hb hby at_141) rfl  k) ?_
        show own_WP _ _ _ _ T24 (mkF m 143 #[.val (.int za), .val (.long zb), .second, .val (.int zc), .val (.int zm), .val (.int zsm), .val (.int zw), .val (.long zg), .second, .val (.int zp), .val (.ref zo), .val (.int (1 : Int32)), .val (.int (own_ad (own_T zw zp zg 0))), .val (.int (own_ad (own_T zw zp zg 1))), .unset, .unset, .unset, .unset, .unset] [(.int (1 : Int32))])
        have hc143 : ¬ ((1 : Int32) = (0 : Int32)) := by decide
        refine own_go (fun t k => XS.ifNo X24.here hx rfl (hb hby at_143) rfl ((if0 _ _).trans (feq hc143).1) k) ?_
        show own_WP _ _ _ _ T24 (mkF m 146 #[.val (.int za), .val (.long zb), .second, .val (.int zc), .val (.int zm), .val (.int zsm), .val (.int zw), .val (.long zg), .second, .val (.int zp), .val (.ref zo), .val (.int (1 : Int32)), .val (.int (own_ad (own_T zw zp zg 0))), .val (.int (own_ad (own_T zw zp zg 1))), .unset, .unset, .unset, .unset, .unset] [])
        refine own_go (fun t k => XS.iload X24.here hx rfl (hb hby at_146) rfl  k) ?_
        show own_WP _ _ _ _ T24 (mkF m 148 #[.val (.int za), .val (.long zb), .second, .val (.int zc), .val (.int zm), .val (.int zsm), .val (.int zw), .val (.long zg), .second, .val (.int zp), .val (.ref zo), .val (.int (1 : Int32)), .val (.int (own_ad (own_T zw zp zg 0))), .val (.int (own_ad (own_T zw zp zg 1))), .unset, .unset, .unset, .unset, .unset] [(.int (own_ad (own_T zw zp zg 1)))])
        refine own_go (fun t k => XS.iconst X24.here hx rfl (hb hby at_148) k) ?_
        show own_WP _ _ _ _ T24 (mkF m 149 #[.val (.int za), .val (.long zb), .second, .val (.int zc), .val (.int zm), .val (.int zsm), .val (.int zw), .val (.long zg), .second, .val (.int zp), .val (.ref zo), .val (.int (1 : Int32)), .val (.int (own_ad (own_T zw zp zg 0))), .val (.int (own_ad (own_T zw zp zg 1))), .unset, .unset, .unset, .unset, .unset] [(.int (1 : Int32)), (.int (own_ad (own_T zw zp zg 1)))])
        refine own_go (fun t k => XS.iload X24.here hx rfl (hb hby at_149) rfl  k) ?_
        show own_WP _ _ _ _ T24 (mkF m 151 #[.val (.int za), .val (.long zb), .second, .val (.int zc), .val (.int zm), .val (.int zsm), .val (.int zw), .val (.long zg), .second, .val (.int zp), .val (.ref zo), .val (.int (1 : Int32)), .val (.int (own_ad (own_T zw zp zg 0))), .val (.int (own_ad (own_T zw zp zg 1))), .unset, .unset, .unset, .unset, .unset] [(.int zw), (.int (1 : Int32)), (.int (own_ad (own_T zw zp zg 1)))])
        refine own_go (fun t k => XS.iload X24.here hx rfl (hb hby at_151) rfl  k) ?_
        show own_WP _ _ _ _ T24 (mkF m 153 #[.val (.int za), .val (.long zb), .second, .val (.int zc), .val (.int zm), .val (.int zsm), .val (.int zw), .val (.long zg), .second, .val (.int zp), .val (.ref zo), .val (.int (1 : Int32)), .val (.int (own_ad (own_T zw zp zg 0))), .val (.int (own_ad (own_T zw zp zg 1))), .unset, .unset, .unset, .unset, .unset] [(.int zp), (.int zw), (.int (1 : Int32)), (.int (own_ad (own_T zw zp zg 1)))])
        refine own_go (fun t k => XS.lload X24.here hx rfl (hb hby at_153) rfl  k) ?_
        show own_WP _ _ _ _ T24 (mkF m 155 #[.val (.int za), .val (.long zb), .second, .val (.int zc), .val (.int zm), .val (.int zsm), .val (.int zw), .val (.long zg), .second, .val (.int zp), .val (.ref zo), .val (.int (1 : Int32)), .val (.int (own_ad (own_T zw zp zg 0))), .val (.int (own_ad (own_T zw zp zg 1))), .unset, .unset, .unset, .unset, .unset] [(.long zg), (.int zp), (.int zw), (.int (1 : Int32)), (.int (own_ad (own_T zw zp zg 1)))])
        obtain ⟨_, _, ⟨T30, L30, k30, n30⟩, -, X30, ⟨Lc30, hQ30, l30, y30, z30⟩, st30⟩ := Jvm.LawKit.callS X24 hx (y := (⟨"com/example/soak/soak/control/EdgeWindowAdmitNewCallPinLaw", "expected", "(IIIJ)Z"⟩ : MethodName)) hown (mvT hZ (hw _ (List.mem_of_getElem? (i := 21) rfl))) (mvT hZ (hw _ (List.mem_of_getElem? (i := 22) rfl))) (mvT hZ (hw _ (List.mem_of_getElem? (i := 23) rfl))) (mvT hZ (hw _ (List.mem_of_getElem? (i := 24) rfl))) (by decide) (backOf (W := 1) (rm5 l Z a0 hw [] (1 : Int32) zw zp zg  T24.heap n0 (own_le Z0 K29) ) hZ (hw _ (List.mem_of_getElem? (i := 24) rfl)) (hw _ (List.mem_of_getElem? (i := 23) rfl)) (by decide) (by decide)) (g := (mkF m 155 #[.val (.int za), .val (.long zb), .second, .val (.int zc), .val (.int zm), .val (.int zsm), .val (.int zw), .val (.long zg), .second, .val (.int zp), .val (.ref zo), .val (.int (1 : Int32)), .val (.int (own_ad (own_T zw zp zg 0))), .val (.int (own_ad (own_T zw zp zg 1))), .unset, .unset, .unset, .unset, .unset] [(.long zg), (.int zp), (.int zw), (.int (1 : Int32)), (.int (own_ad (own_T zw zp zg 1)))])) rfl (by rw [hml]; rfl) (argsL := [(.int (1 : Int32)), (.int zw), (.int zp), (.long zg)]) (rest := [(.int (own_ad (own_T zw zp zg 1)))]) (lenOf own_pd92526 rfl) rfl (by show 2 * 0 + _ ≤ _; exact Nat.le_of_eq rfl) (hb hby at_155) (fun _ _ => ⟨rfl, rfl, (by decide : 1 + 0 ≤ _), (by decide : 1 + 0 ≤ _)⟩)
        dsimp only [Pt.U, Pt.locs, Pt.cells, Pt.slots] at X30 l30 y30 z30 st30 hQ30
        subst l30 y30 z30
        obtain ⟨rfl, N30q, eq30⟩ := hQ30
        have N30 := Fr.app N24 N30q
        refine own_go st30 ?_
        show own_WP _ _ _ _ T30 (mkF m 158 #[.val (.int za), .val (.long zb), .second, .val (.int zc), .val (.int zm), .val (.int zsm), .val (.int zw), .val (.long zg), .second, .val (.int zp), .val (.ref zo), .val (.int (1 : Int32)), .val (.int (own_ad (own_T zw zp zg 0))), .val (.int (own_ad (own_T zw zp zg 1))), .unset, .unset, .unset, .unset, .unset] [(.int (own_ex (1 : Int32) zw zp zg)), (.int (own_ad (own_T zw zp zg 1)))])
        have hc158 : (own_ad (own_T zw zp zg 1)) = (own_ex (1 : Int32) zw zp zg) := by
          exact own_key zw zp zg hw1 hp1.1 hp1.2 hg1 hg2 1 (by decide)
        refine own_go (fun t k => XS.icmpNo X30.here hx rfl (hb hby at_158) rfl (teq hc158).2 k) ?_
        show own_WP _ _ _ _ T30 (mkF m 161 #[.val (.int za), .val (.long zb), .second, .val (.int zc), .val (.int zm), .val (.int zsm), .val (.int zw), .val (.long zg), .second, .val (.int zp), .val (.ref zo), .val (.int (1 : Int32)), .val (.int (own_ad (own_T zw zp zg 0))), .val (.int (own_ad (own_T zw zp zg 1))), .unset, .unset, .unset, .unset, .unset] [])
        refine own_go (fun t k => XS.iconst X30.here hx rfl (hb hby at_161) k) ?_
        show own_WP _ _ _ _ T30 (mkF m 162 #[.val (.int za), .val (.long zb), .second, .val (.int zc), .val (.int zm), .val (.int zsm), .val (.int zw), .val (.long zg), .second, .val (.int zp), .val (.ref zo), .val (.int (1 : Int32)), .val (.int (own_ad (own_T zw zp zg 0))), .val (.int (own_ad (own_T zw zp zg 1))), .unset, .unset, .unset, .unset, .unset] [(.int (1 : Int32))])
        refine own_go (fun t k => XS.goto X30.here hx rfl (pc0 := 162) (pc' := 166) rfl (hb hby at_162) (by decide) (by decide) k) ?_
        show own_WP _ _ _ _ T30 (mkF m 166 #[.val (.int za), .val (.long zb), .second, .val (.int zc), .val (.int zm), .val (.int zsm), .val (.int zw), .val (.long zg), .second, .val (.int zp), .val (.ref zo), .val (.int (1 : Int32)), .val (.int (own_ad (own_T zw zp zg 0))), .val (.int (own_ad (own_T zw zp zg 1))), .unset, .unset, .unset, .unset, .unset] [(.int (1 : Int32))])
        refine own_go (fun t k => XS.istore X30.here hx rfl (hb hby at_166) rfl (l' := #[.val (.int za), .val (.long zb), .second, .val (.int zc), .val (.int zm), .val (.int zsm), .val (.int zw), .val (.long zg), .second, .val (.int zp), .val (.ref zo), .val (.int (1 : Int32)), .val (.int (own_ad (own_T zw zp zg 0))), .val (.int (own_ad (own_T zw zp zg 1))), .unset, .unset, .unset, .unset, .unset]) rfl k) ?_
        have J181 : ∀  (T31 : State) (h31 : Heap) (L31 : List Loc), Stand p l e room_1 s m #[(.int za), (.long zb), (.int zc), (.int zm)] below meth c T31 L31 1 1 → T31.heap = h31 → Fr n0 L31 → Keep h0 h31 [] → Exa Z h31 zo "com/example/soak/soak/control/EdgeWindow" → Fld Z h31 zo "com/example/soak/soak/control/EdgeWindow" "window" "J" (.long (own_T zw zp zg 2)) → own_WP p e below (own_E s (Q0 Z za zb zc zm h0 n0) 1 1) T31 (mkF m 181 #[.val (.int za), .val (.long zb), .second, .val (.int zc), .val (.int zm), .val (.int zsm), .val (.int zw), .val (.long zg), .second, .val (.int zp), .val (.ref zo), .val (.int (1 : Int32)), .val (.int (own_ad (own_T zw zp zg 0))), .val (.int (own_ad (own_T zw zp zg 1))), .unset, .unset, .unset, .unset, .unset] []) := by
          intro T31 h31 L31 X31 e31 N31 K31j f32 f33
          show own_WP _ _ _ _ T31 (mkF m 181 #[.val (.int za), .val (.long zb), .second, .val (.int zc), .val (.int zm), .val (.int zsm), .val (.int zw), .val (.long zg), .second, .val (.int zp), .val (.ref zo), .val (.int (1 : Int32)), .val (.int (own_ad (own_T zw zp zg 0))), .val (.int (own_ad (own_T zw zp zg 1))), .unset, .unset, .unset, .unset, .unset] [])
          refine own_go (fun t k => XS.aload X31.here hx rfl (hb hby at_181) rfl rfl  k) ?_
          show own_WP _ _ _ _ T31 (mkF m 183 #[.val (.int za), .val (.long zb), .second, .val (.int zc), .val (.int zm), .val (.int zsm), .val (.int zw), .val (.long zg), .second, .val (.int zp), .val (.ref zo), .val (.int (1 : Int32)), .val (.int (own_ad (own_T zw zp zg 0))), .val (.int (own_ad (own_T zw zp zg 1))), .unset, .unset, .unset, .unset, .unset] [(.ref zo)])
          obtain ⟨cq34, kq34, q34a, q34b, q34c⟩ := isOf hZ e31 f32
          obtain ⟨_, _, ⟨T34, L34, k34, n34⟩, -, X34, ⟨Lc34, hQ34, l34, y34, z34⟩, st34⟩ := X31.virtualBack hx (y := (⟨"com/example/soak/soak/control/EdgeWindow", "admitNewCall", "()Z"⟩ : MethodName)) (z := (⟨"com/example/soak/soak/control/EdgeWindow", "admitNewCall", "()Z"⟩ : MethodName)) hown (mvT hZ (hw _ (List.mem_of_getElem? (i := 16) rfl))) (mvT hZ (hw _ (List.mem_of_getElem? (i := 17) rfl))) (notFace_of_selects (args := #[]) (mvT hZ (hw _ (List.mem_of_getElem? (i := 19) rfl)))) (mvT hZ (hw _ (List.mem_of_getElem? (i := 19) rfl))) (mvT hZ (hw _ (List.mem_of_getElem? (i := 18) rfl))) (by decide) (backOf (W := 0) (rm4 l Z a0 hw [] zo (own_T zw zp zg 2) h31 n0 (own_le Z0 K31j) f32 f33 g_zo) hZ (hw _ (List.mem_of_getElem? (i := 20) rfl)) (hw _ (List.mem_of_getElem? (i := 4) rfl)) (by decide) (by decide)) q34a q34c (g := (mkF m 183 #[.val (.int za), .val (.long zb), .second, .val (.int zc), .val (.int zm), .val (.int zsm), .val (.int zw), .val (.long zg), .second, .val (.int zp), .val (.ref zo), .val (.int (1 : Int32)), .val (.int (own_ad (own_T zw zp zg 0))), .val (.int (own_ad (own_T zw zp zg 1))), .unset, .unset, .unset, .unset, .unset] [(.ref zo)])) rfl (by rw [hml]; rfl) (Steps.refl _) (argsL := []) (rest := []) (lenOf own_pd91901 rfl) rfl (by show 2 * 0 + _ ≤ _; exact Nat.le_of_eq rfl) (hb hby at_183) (fun _ _ => ⟨rfl, e31, (by decide : 1 + 0 ≤ _), (by decide : 1 + 0 ≤ _)⟩)
          dsimp only [Pt.U, Pt.locs, Pt.cells, Pt.slots] at X34 l34 y34 z34 st34 hQ34
          subst l34 y34 z34
          obtain ⟨rfl, N34q, Kc34, f35, f36⟩ := hQ34
          have N34 := Fr.app N31 N34q
          refine own_tr st34 ?_
          have f37 : Exa Z T34.heap zo "com/example/soak/soak/control/EdgeWindow" := f32.keep Kc34
          have K39 : Keep h0 T34.heap [] := K31j.trans Kc34 (fun x hx => by cases List.mem_singleton.mp hx; exact Or.inr sz_zo)
          show own_WP _ _ _ _ T34 (mkF m 186 #[.val (.int za), .val (.long zb), .second, .val (.int zc), .val (.int zm), .val (.int zsm), .val (.int zw), .val (.long zg), .second, .val (.int zp), .val (.ref zo), .val (.int (1 : Int32)), .val (.int (own_ad (own_T zw zp zg 0))), .val (.int (own_ad (own_T zw zp zg 1))), .unset, .unset, .unset, .unset, .unset] [(.int (own_ad (own_T zw zp zg 2)))])
          refine own_go (fun t k => XS.istore X34.here hx rfl (hb hby at_186) rfl (l' := #[.val (.int za), .val (.long zb), .second, .val (.int zc), .val (.int zm), .val (.int zsm), .val (.int zw), .val (.long zg), .second, .val (.int zp), .val (.ref zo), .val (.int (1 : Int32)), .val (.int (own_ad (own_T zw zp zg 0))), .val (.int (own_ad (own_T zw zp zg 1))), .val (.int (own_ad (own_T zw zp zg 2))), .unset, .unset, .unset, .unset]) rfl k) ?_
          show own_WP _ _ _ _ T34 (mkF m 188 #[.val (.int za), .val (.long zb), .second, .val (.int zc), .val (.int zm), .val (.int zsm), .val (.int zw), .val (.long zg), .second, .val (.int zp), .val (.ref zo), .val (.int (1 : Int32)), .val (.int (own_ad (own_T zw zp zg 0))), .val (.int (own_ad (own_T zw zp zg 1))), .val (.int (own_ad (own_T zw zp zg 2))), .unset, .unset, .unset, .unset] [])
          refine own_go (fun t k => XS.iload X34.here hx rfl (hb hby at_188) rfl  k) ?_
          show own_WP _ _ _ _ T34 (mkF m 190 #[.val (.int za), .val (.long zb), .second, .val (.int zc), .val (.int zm), .val (.int zsm), .val (.int zw), .val (.long zg), .second, .val (.int zp), .val (.ref zo), .val (.int (1 : Int32)), .val (.int (own_ad (own_T zw zp zg 0))), .val (.int (own_ad (own_T zw zp zg 1))), .val (.int (own_ad (own_T zw zp zg 2))), .unset, .unset, .unset, .unset] [(.int (1 : Int32))])
          have hc190 : ¬ ((1 : Int32) = (0 : Int32)) := by decide
          refine own_go (fun t k => XS.ifNo X34.here hx rfl (hb hby at_190) rfl ((if0 _ _).trans (feq hc190).1) k) ?_
          show own_WP _ _ _ _ T34 (mkF m 193 #[.val (.int za), .val (.long zb), .second, .val (.int zc), .val (.int zm), .val (.int zsm), .val (.int zw), .val (.long zg), .second, .val (.int zp), .val (.ref zo), .val (.int (1 : Int32)), .val (.int (own_ad (own_T zw zp zg 0))), .val (.int (own_ad (own_T zw zp zg 1))), .val (.int (own_ad (own_T zw zp zg 2))), .unset, .unset, .unset, .unset] [])
          refine own_go (fun t k => XS.iload X34.here hx rfl (hb hby at_193) rfl  k) ?_
          show own_WP _ _ _ _ T34 (mkF m 195 #[.val (.int za), .val (.long zb), .second, .val (.int zc), .val (.int zm), .val (.int zsm), .val (.int zw), .val (.long zg), .second, .val (.int zp), .val (.ref zo), .val (.int (1 : Int32)), .val (.int (own_ad (own_T zw zp zg 0))), .val (.int (own_ad (own_T zw zp zg 1))), .val (.int (own_ad (own_T zw zp zg 2))), .unset, .unset, .unset, .unset] [(.int (own_ad (own_T zw zp zg 2)))])
          refine own_go (fun t k => XS.iconst X34.here hx rfl (hb hby at_195) k) ?_
          show own_WP _ _ _ _ T34 (mkF m 196 #[.val (.int za), .val (.long zb), .second, .val (.int zc), .val (.int zm), .val (.int zsm), .val (.int zw), .val (.long zg), .second, .val (.int zp), .val (.ref zo), .val (.int (1 : Int32)), .val (.int (own_ad (own_T zw zp zg 0))), .val (.int (own_ad (own_T zw zp zg 1))), .val (.int (own_ad (own_T zw zp zg 2))), .unset, .unset, .unset, .unset] [(.int (2 : Int32)), (.int (own_ad (own_T zw zp zg 2)))])
          refine own_go (fun t k => XS.iload X34.here hx rfl (hb hby at_196) rfl  k) ?_
          show own_WP _ _ _ _ T34 (mkF m 198 #[.val (.int za), .val (.long zb), .second, .val (.int zc), .val (.int zm), .val (.int zsm), .val (.int zw), .val (.long zg), .second, .val (.int zp), .val (.ref zo), .val (.int (1 : Int32)), .val (.int (own_ad (own_T zw zp zg 0))), .val (.int (own_ad (own_T zw zp zg 1))), .val (.int (own_ad (own_T zw zp zg 2))), .unset, .unset, .unset, .unset] [(.int zw), (.int (2 : Int32)), (.int (own_ad (own_T zw zp zg 2)))])
          refine own_go (fun t k => XS.iload X34.here hx rfl (hb hby at_198) rfl  k) ?_
          show own_WP _ _ _ _ T34 (mkF m 200 #[.val (.int za), .val (.long zb), .second, .val (.int zc), .val (.int zm), .val (.int zsm), .val (.int zw), .val (.long zg), .second, .val (.int zp), .val (.ref zo), .val (.int (1 : Int32)), .val (.int (own_ad (own_T zw zp zg 0))), .val (.int (own_ad (own_T zw zp zg 1))), .val (.int (own_ad (own_T zw zp zg 2))), .unset, .unset, .unset, .unset] [(.int zp), (.int zw), (.int (2 : Int32)), (.int (own_ad (own_T zw zp zg 2)))])
          refine own_go (fun t k => XS.lload X34.here hx rfl (hb hby at_200) rfl  k) ?_
          show own_WP _ _ _ _ T34 (mkF m 202 #[.val (.int za), .val (.long zb), .second, .val (.int zc), .val (.int zm), .val (.int zsm), .val (.int zw), .val (.long zg), .second, .val (.int zp), .val (.ref zo), .val (.int (1 : Int32)), .val (.int (own_ad (own_T zw zp zg 0))), .val (.int (own_ad (own_T zw zp zg 1))), .val (.int (own_ad (own_T zw zp zg 2))), .unset, .unset, .unset, .unset] [(.long zg), (.int zp), (.int zw), (.int (2 : Int32)), (.int (own_ad (own_T zw zp zg 2)))])
          obtain ⟨_, _, ⟨T40, L40, k40, n40⟩, -, X40, ⟨Lc40, hQ40, l40, y40, z40⟩, st40⟩ := Jvm.LawKit.callS X34 hx (y := (⟨"com/example/soak/soak/control/EdgeWindowAdmitNewCallPinLaw", "expected", "(IIIJ)Z"⟩ : MethodName)) hown (mvT hZ (hw _ (List.mem_of_getElem? (i := 21) rfl))) (mvT hZ (hw _ (List.mem_of_getElem? (i := 22) rfl))) (mvT hZ (hw _ (List.mem_of_getElem? (i := 23) rfl))) (mvT hZ (hw _ (List.mem_of_getElem? (i := 24) rfl))) (by decide) (backOf (W := 1) (rm5 l Z a0 hw [] (2 : Int32) zw zp zg  T34.heap n0 (own_le Z0 K39) ) hZ (hw _ (List.mem_of_getElem? (i := 24) rfl)) (hw _ (List.mem_of_getElem? (i := 23) rfl)) (by decide) (by decide)) (g := (mkF m 202 #[.val (.int za), .val (.long zb), .second, .val (.int zc), .val (.int zm), .val (.int zsm), .val (.int zw), .val (.long zg), .second, .val (.int zp), .val (.ref zo), .val (.int (1 : Int32)), .val (.int (own_ad (own_T zw zp zg 0))), .val (.int (own_ad (own_T zw zp zg 1))), .val (.int (own_ad (own_T zw zp zg 2))), .unset, .unset, .unset, .unset] [(.long zg), (.int zp), (.int zw), (.int (2 : Int32)), (.int (own_ad (own_T zw zp zg 2)))])) rfl (by rw [hml]; rfl) (argsL := [(.int (2 : Int32)), (.int zw), (.int zp), (.long zg)]) (rest := [(.int (own_ad (own_T zw zp zg 2)))]) (lenOf own_pd92526 rfl) rfl (by show 2 * 0 + _ ≤ _; exact Nat.le_of_eq rfl) (hb hby at_202) (fun _ _ => ⟨rfl, rfl, (by decide : 1 + 0 ≤ _), (by decide : 1 + 0 ≤ _)⟩)
          dsimp only [Pt.U, Pt.locs, Pt.cells, Pt.slots] at X40 l40 y40 z40 st40 hQ40
          subst l40 y40 z40
          obtain ⟨rfl, N40q, eq40⟩ := hQ40
          have N40 := Fr.app N34 N40q
          refine own_go st40 ?_
          show own_WP _ _ _ _ T40 (mkF m 205 #[.val (.int za), .val (.long zb), .second, .val (.int zc), .val (.int zm), .val (.int zsm), .val (.int zw), .val (.long zg), .second, .val (.int zp), .val (.ref zo), .val (.int (1 : Int32)), .val (.int (own_ad (own_T zw zp zg 0))), .val (.int (own_ad (own_T zw zp zg 1))), .val (.int (own_ad (own_T zw zp zg 2))), .unset, .unset, .unset, .unset] [(.int (own_ex (2 : Int32) zw zp zg)), (.int (own_ad (own_T zw zp zg 2)))])
          have hc205 : (own_ad (own_T zw zp zg 2)) = (own_ex (2 : Int32) zw zp zg) := by
            exact own_key zw zp zg hw1 hp1.1 hp1.2 hg1 hg2 2 (by decide)
          refine own_go (fun t k => XS.icmpNo X40.here hx rfl (hb hby at_205) rfl (teq hc205).2 k) ?_
          show own_WP _ _ _ _ T40 (mkF m 208 #[.val (.int za), .val (.long zb), .second, .val (.int zc), .val (.int zm), .val (.int zsm), .val (.int zw), .val (.long zg), .second, .val (.int zp), .val (.ref zo), .val (.int (1 : Int32)), .val (.int (own_ad (own_T zw zp zg 0))), .val (.int (own_ad (own_T zw zp zg 1))), .val (.int (own_ad (own_T zw zp zg 2))), .unset, .unset, .unset, .unset] [])
          refine own_go (fun t k => XS.iconst X40.here hx rfl (hb hby at_208) k) ?_
          show own_WP _ _ _ _ T40 (mkF m 209 #[.val (.int za), .val (.long zb), .second, .val (.int zc), .val (.int zm), .val (.int zsm), .val (.int zw), .val (.long zg), .second, .val (.int zp), .val (.ref zo), .val (.int (1 : Int32)), .val (.int (own_ad (own_T zw zp zg 0))), .val (.int (own_ad (own_T zw zp zg 1))), .val (.int (own_ad (own_T zw zp zg 2))), .unset, .unset, .unset, .unset] [(.int (1 : Int32))])
          refine own_go (fun t k => XS.goto X40.here hx rfl (pc0 := 209) (pc' := 213) rfl (hb hby at_209) (by decide) (by decide) k) ?_
          show own_WP _ _ _ _ T40 (mkF m 213 #[.val (.int za), .val (.long zb), .second, .val (.int zc), .val (.int zm), .val (.int zsm), .val (.int zw), .val (.long zg), .second, .val (.int zp), .val (.ref zo), .val (.int (1 : Int32)), .val (.int (own_ad (own_T zw zp zg 0))), .val (.int (own_ad (own_T zw zp zg 1))), .val (.int (own_ad (own_T zw zp zg 2))), .unset, .unset, .unset, .unset] [(.int (1 : Int32))])
          refine own_go (fun t k => XS.istore X40.here hx rfl (hb hby at_213) rfl (l' := #[.val (.int za), .val (.long zb), .second, .val (.int zc), .val (.int zm), .val (.int zsm), .val (.int zw), .val (.long zg), .second, .val (.int zp), .val (.ref zo), .val (.int (1 : Int32)), .val (.int (own_ad (own_T zw zp zg 0))), .val (.int (own_ad (own_T zw zp zg 1))), .val (.int (own_ad (own_T zw zp zg 2))), .unset, .unset, .unset, .unset]) rfl k) ?_
          have J228 : ∀  (T41 : State) (h41 : Heap) (L41 : List Loc), Stand p l e room_1 s m #[(.int za), (.long zb), (.int zc), (.int zm)] below meth c T41 L41 1 1 → T41.heap = h41 → Fr n0 L41 → Keep h0 h41 [] → Exa Z h41 zo "com/example/soak/soak/control/EdgeWindow" → Fld Z h41 zo "com/example/soak/soak/control/EdgeWindow" "window" "J" (.long (own_T zw zp zg 3)) → own_WP p e below (own_E s (Q0 Z za zb zc zm h0 n0) 1 1) T41 (mkF m 228 #[.val (.int za), .val (.long zb), .second, .val (.int zc), .val (.int zm), .val (.int zsm), .val (.int zw), .val (.long zg), .second, .val (.int zp), .val (.ref zo), .val (.int (1 : Int32)), .val (.int (own_ad (own_T zw zp zg 0))), .val (.int (own_ad (own_T zw zp zg 1))), .val (.int (own_ad (own_T zw zp zg 2))), .unset, .unset, .unset, .unset] []) := by
            intro T41 h41 L41 X41 e41 N41 K41j f42 f43
            show own_WP _ _ _ _ T41 (mkF m 228 #[.val (.int za), .val (.long zb), .second, .val (.int zc), .val (.int zm), .val (.int zsm), .val (.int zw), .val (.long zg), .second, .val (.int zp), .val (.ref zo), .val (.int (1 : Int32)), .val (.int (own_ad (own_T zw zp zg 0))), .val (.int (own_ad (own_T zw zp zg 1))), .val (.int (own_ad (own_T zw zp zg 2))), .unset, .unset, .unset, .unset] [])
            refine own_go (fun t k => XS.aload X41.here hx rfl (hb hby at_228) rfl rfl  k) ?_
            show own_WP _ _ _ _ T41 (mkF m 230 #[.val (.int za), .val (.long zb), .second, .val (.int zc), .val (.int zm), .val (.int zsm), .val (.int zw), .val (.long zg), .second, .val (.int zp), .val (.ref zo), .val (.int (1 : Int32)), .val (.int (own_ad (own_T zw zp zg 0))), .val (.int (own_ad (own_T zw zp zg 1))), .val (.int (own_ad (own_T zw zp zg 2))), .unset, .unset, .unset, .unset] [(.ref zo)])
            obtain ⟨cq44, kq44, q44a, q44b, q44c⟩ := isOf hZ e41 f42
            obtain ⟨_, _, ⟨T44, L44, k44, n44⟩, -, X44, ⟨Lc44, hQ44, l44, y44, z44⟩, st44⟩ := X41.virtualBack hx (y := (⟨"com/example/soak/soak/control/EdgeWindow", "admitNewCall", "()Z"⟩ : MethodName)) (z := (⟨"com/example/soak/soak/control/EdgeWindow", "admitNewCall", "()Z"⟩ : MethodName)) hown (mvT hZ (hw _ (List.mem_of_getElem? (i := 16) rfl))) (mvT hZ (hw _ (List.mem_of_getElem? (i := 17) rfl))) (notFace_of_selects (args := #[]) (mvT hZ (hw _ (List.mem_of_getElem? (i := 19) rfl)))) (mvT hZ (hw _ (List.mem_of_getElem? (i := 19) rfl))) (mvT hZ (hw _ (List.mem_of_getElem? (i := 18) rfl))) (by decide) (backOf (W := 0) (rm4 l Z a0 hw [] zo (own_T zw zp zg 3) h41 n0 (own_le Z0 K41j) f42 f43 g_zo) hZ (hw _ (List.mem_of_getElem? (i := 20) rfl)) (hw _ (List.mem_of_getElem? (i := 4) rfl)) (by decide) (by decide)) q44a q44c (g := (mkF m 230 #[.val (.int za), .val (.long zb), .second, .val (.int zc), .val (.int zm), .val (.int zsm), .val (.int zw), .val (.long zg), .second, .val (.int zp), .val (.ref zo), .val (.int (1 : Int32)), .val (.int (own_ad (own_T zw zp zg 0))), .val (.int (own_ad (own_T zw zp zg 1))), .val (.int (own_ad (own_T zw zp zg 2))), .unset, .unset, .unset, .unset] [(.ref zo)])) rfl (by rw [hml]; rfl) (Steps.refl _) (argsL := []) (rest := []) (lenOf own_pd91901 rfl) rfl (by show 2 * 0 + _ ≤ _; exact Nat.le_of_eq rfl) (hb hby at_230) (fun _ _ => ⟨rfl, e41, (by decide : 1 + 0 ≤ _), (by decide : 1 + 0 ≤ _)⟩)
            dsimp only [Pt.U, Pt.locs, Pt.cells, Pt.slots] at X44 l44 y44 z44 st44 hQ44
            subst l44 y44 z44
            obtain ⟨rfl, N44q, Kc44, f45, f46⟩ := hQ44
            have N44 := Fr.app N41 N44q
            refine own_tr st44 ?_
            have f47 : Exa Z T44.heap zo "com/example/soak/soak/control/EdgeWindow" := f42.keep Kc44
            have K49 : Keep h0 T44.heap [] := K41j.trans Kc44 (fun x hx => by cases List.mem_singleton.mp hx; exact Or.inr sz_zo)
            show own_WP _ _ _ _ T44 (mkF m 233 #[.val (.int za), .val (.long zb), .second, .val (.int zc), .val (.int zm), .val (.int zsm), .val (.int zw), .val (.long zg), .second, .val (.int zp), .val (.ref zo), .val (.int (1 : Int32)), .val (.int (own_ad (own_T zw zp zg 0))), .val (.int (own_ad (own_T zw zp zg 1))), .val (.int (own_ad (own_T zw zp zg 2))), .unset, .unset, .unset, .unset] [(.int (own_ad (own_T zw zp zg 3)))])
            refine own_go (fun t k => XS.istore X44.here hx rfl (hb hby at_233) rfl (l' := #[.val (.int za), .val (.long zb), .second, .val (.int zc), .val (.int zm), .val (.int zsm), .val (.int zw), .val (.long zg), .second, .val (.int zp), .val (.ref zo), .val (.int (1 : Int32)), .val (.int (own_ad (own_T zw zp zg 0))), .val (.int (own_ad (own_T zw zp zg 1))), .val (.int (own_ad (own_T zw zp zg 2))), .val (.int (own_ad (own_T zw zp zg 3))), .unset, .unset, .unset]) rfl k) ?_
            show own_WP _ _ _ _ T44 (mkF m 235 #[.val (.int za), .val (.long zb), .second, .val (.int zc), .val (.int zm), .val (.int zsm), .val (.int zw), .val (.long zg), .second, .val (.int zp), .val (.ref zo), .val (.int (1 : Int32)), .val (.int (own_ad (own_T zw zp zg 0))), .val (.int (own_ad (own_T zw zp zg 1))), .val (.int (own_ad (own_T zw zp zg 2))), .val (.int (own_ad (own_T zw zp zg 3))), .unset, .unset, .unset] [])
            refine own_go (fun t k => XS.iload X44.here hx rfl (hb hby at_235) rfl  k) ?_
            show own_WP _ _ _ _ T44 (mkF m 237 #[.val (.int za), .val (.long zb), .second, .val (.int zc), .val (.int zm), .val (.int zsm), .val (.int zw), .val (.long zg), .second, .val (.int zp), .val (.ref zo), .val (.int (1 : Int32)), .val (.int (own_ad (own_T zw zp zg 0))), .val (.int (own_ad (own_T zw zp zg 1))), .val (.int (own_ad (own_T zw zp zg 2))), .val (.int (own_ad (own_T zw zp zg 3))), .unset, .unset, .unset] [(.int (1 : Int32))])
            have hc237 : ¬ ((1 : Int32) = (0 : Int32)) := by decide
            refine own_go (fun t k => XS.ifNo X44.here hx rfl (hb hby at_237) rfl ((if0 _ _).trans (feq hc237).1) k) ?_
            show own_WP _ _ _ _ T44 (mkF m 240 #[.val (.int za), .val (.long zb), .second, .val (.int zc), .val (.int zm), .val (.int zsm), .val (.int zw), .val (.long zg), .second, .val (.int zp), .val (.ref zo), .val (.int (1 : Int32)), .val (.int (own_ad (own_T zw zp zg 0))), .val (.int (own_ad (own_T zw zp zg 1))), .val (.int (own_ad (own_T zw zp zg 2))), .val (.int (own_ad (own_T zw zp zg 3))), .unset, .unset, .unset] [])
            refine own_go (fun t k => XS.iload X44.here hx rfl (hb hby at_240) rfl  k) ?_
            show own_WP _ _ _ _ T44 (mkF m 242 #[.val (.int za), .val (.long zb), .second, .val (.int zc), .val (.int zm), .val (.int zsm), .val (.int zw), .val (.long zg), .second, .val (.int zp), .val (.ref zo), .val (.int (1 : Int32)), .val (.int (own_ad (own_T zw zp zg 0))), .val (.int (own_ad (own_T zw zp zg 1))), .val (.int (own_ad (own_T zw zp zg 2))), .val (.int (own_ad (own_T zw zp zg 3))), .unset, .unset, .unset] [(.int (own_ad (own_T zw zp zg 3)))])
            refine own_go (fun t k => XS.iconst X44.here hx rfl (hb hby at_242) k) ?_
            show own_WP _ _ _ _ T44 (mkF m 243 #[.val (.int za), .val (.long zb), .second, .val (.int zc), .val (.int zm), .val (.int zsm), .val (.int zw), .val (.long zg), .second, .val (.int zp), .val (.ref zo), .val (.int (1 : Int32)), .val (.int (own_ad (own_T zw zp zg 0))), .val (.int (own_ad (own_T zw zp zg 1))), .val (.int (own_ad (own_T zw zp zg 2))), .val (.int (own_ad (own_T zw zp zg 3))), .unset, .unset, .unset] [(.int (3 : Int32)), (.int (own_ad (own_T zw zp zg 3)))])
            refine own_go (fun t k => XS.iload X44.here hx rfl (hb hby at_243) rfl  k) ?_
            show own_WP _ _ _ _ T44 (mkF m 245 #[.val (.int za), .val (.long zb), .second, .val (.int zc), .val (.int zm), .val (.int zsm), .val (.int zw), .val (.long zg), .second, .val (.int zp), .val (.ref zo), .val (.int (1 : Int32)), .val (.int (own_ad (own_T zw zp zg 0))), .val (.int (own_ad (own_T zw zp zg 1))), .val (.int (own_ad (own_T zw zp zg 2))), .val (.int (own_ad (own_T zw zp zg 3))), .unset, .unset, .unset] [(.int zw), (.int (3 : Int32)), (.int (own_ad (own_T zw zp zg 3)))])
            refine own_go (fun t k => XS.iload X44.here hx rfl (hb hby at_245) rfl  k) ?_
            show own_WP _ _ _ _ T44 (mkF m 247 #[.val (.int za), .val (.long zb), .second, .val (.int zc), .val (.int zm), .val (.int zsm), .val (.int zw), .val (.long zg), .second, .val (.int zp), .val (.ref zo), .val (.int (1 : Int32)), .val (.int (own_ad (own_T zw zp zg 0))), .val (.int (own_ad (own_T zw zp zg 1))), .val (.int (own_ad (own_T zw zp zg 2))), .val (.int (own_ad (own_T zw zp zg 3))), .unset, .unset, .unset] [(.int zp), (.int zw), (.int (3 : Int32)), (.int (own_ad (own_T zw zp zg 3)))])
            refine own_go (fun t k => XS.lload X44.here hx rfl (hb hby at_247) rfl  k) ?_
            show own_WP _ _ _ _ T44 (mkF m 249 #[.val (.int za), .val (.long zb), .second, .val (.int zc), .val (.int zm), .val (.int zsm), .val (.int zw), .val (.long zg), .second, .val (.int zp), .val (.ref zo), .val (.int (1 : Int32)), .val (.int (own_ad (own_T zw zp zg 0))), .val (.int (own_ad (own_T zw zp zg 1))), .val (.int (own_ad (own_T zw zp zg 2))), .val (.int (own_ad (own_T zw zp zg 3))), .unset, .unset, .unset] [(.long zg), (.int zp), (.int zw), (.int (3 : Int32)), (.int (own_ad (own_T zw zp zg 3)))])
            obtain ⟨_, _, ⟨T50, L50, k50, n50⟩, -, X50, ⟨Lc50, hQ50, l50, y50, z50⟩, st50⟩ := Jvm.LawKit.callS X44 hx (y := (⟨"com/example/soak/soak/control/EdgeWindowAdmitNewCallPinLaw", "expected", "(IIIJ)Z"⟩ : MethodName)) hown (mvT hZ (hw _ (List.mem_of_getElem? (i := 21) rfl))) (mvT hZ (hw _ (List.mem_of_getElem? (i := 22) rfl))) (mvT hZ (hw _ (List.mem_of_getElem? (i := 23) rfl))) (mvT hZ (hw _ (List.mem_of_getElem? (i := 24) rfl))) (by decide) (backOf (W := 1) (rm5 l Z a0 hw [] (3 : Int32) zw zp zg  T44.heap n0 (own_le Z0 K49) ) hZ (hw _ (List.mem_of_getElem? (i := 24) rfl)) (hw _ (List.mem_of_getElem? (i := 23) rfl)) (by decide) (by decide)) (g := (mkF m 249 #[.val (.int za), .val (.long zb), .second, .val (.int zc), .val (.int zm), .val (.int zsm), .val (.int zw), .val (.long zg), .second, .val (.int zp), .val (.ref zo), .val (.int (1 : Int32)), .val (.int (own_ad (own_T zw zp zg 0))), .val (.int (own_ad (own_T zw zp zg 1))), .val (.int (own_ad (own_T zw zp zg 2))), .val (.int (own_ad (own_T zw zp zg 3))), .unset, .unset, .unset] [(.long zg), (.int zp), (.int zw), (.int (3 : Int32)), (.int (own_ad (own_T zw zp zg 3)))])) rfl (by rw [hml]; rfl) (argsL := [(.int (3 : Int32)), (.int zw), (.int zp), (.long zg)]) (rest := [(.int (own_ad (own_T zw zp zg 3)))]) (lenOf own_pd92526 rfl) rfl (by show 2 * 0 + _ ≤ _; exact Nat.le_of_eq rfl) (hb hby at_249) (fun _ _ => ⟨rfl, rfl, (by decide : 1 + 0 ≤ _), (by decide : 1 + 0 ≤ _)⟩)
            dsimp only [Pt.U, Pt.locs, Pt.cells, Pt.slots] at X50 l50 y50 z50 st50 hQ50
            subst l50 y50 z50
            obtain ⟨rfl, N50q, eq50⟩ := hQ50
            have N50 := Fr.app N44 N50q
            refine own_go st50 ?_
            show own_WP _ _ _ _ T50 (mkF m 252 #[.val (.int za), .val (.long zb), .second, .val (.int zc), .val (.int zm), .val (.int zsm), .val (.int zw), .val (.long zg), .second, .val (.int zp), .val (.ref zo), .val (.int (1 : Int32)), .val (.int (own_ad (own_T zw zp zg 0))), .val (.int (own_ad (own_T zw zp zg 1))), .val (.int (own_ad (own_T zw zp zg 2))), .val (.int (own_ad (own_T zw zp zg 3))), .unset, .unset, .unset] [(.int (own_ex (3 : Int32) zw zp zg)), (.int (own_ad (own_T zw zp zg 3)))])
            have hc252 : (own_ad (own_T zw zp zg 3)) = (own_ex (3 : Int32) zw zp zg) := by
              exact own_key zw zp zg hw1 hp1.1 hp1.2 hg1 hg2 3 (by decide)
            refine own_go (fun t k => XS.icmpNo X50.here hx rfl (hb hby at_252) rfl (teq hc252).2 k) ?_
            show own_WP _ _ _ _ T50 (mkF m 255 #[.val (.int za), .val (.long zb), .second, .val (.int zc), .val (.int zm), .val (.int zsm), .val (.int zw), .val (.long zg), .second, .val (.int zp), .val (.ref zo), .val (.int (1 : Int32)), .val (.int (own_ad (own_T zw zp zg 0))), .val (.int (own_ad (own_T zw zp zg 1))), .val (.int (own_ad (own_T zw zp zg 2))), .val (.int (own_ad (own_T zw zp zg 3))), .unset, .unset, .unset] [])
            refine own_go (fun t k => XS.iconst X50.here hx rfl (hb hby at_255) k) ?_
            show own_WP _ _ _ _ T50 (mkF m 256 #[.val (.int za), .val (.long zb), .second, .val (.int zc), .val (.int zm), .val (.int zsm), .val (.int zw), .val (.long zg), .second, .val (.int zp), .val (.ref zo), .val (.int (1 : Int32)), .val (.int (own_ad (own_T zw zp zg 0))), .val (.int (own_ad (own_T zw zp zg 1))), .val (.int (own_ad (own_T zw zp zg 2))), .val (.int (own_ad (own_T zw zp zg 3))), .unset, .unset, .unset] [(.int (1 : Int32))])
            refine own_go (fun t k => XS.goto X50.here hx rfl (pc0 := 256) (pc' := 260) rfl (hb hby at_256) (by decide) (by decide) k) ?_
            show own_WP _ _ _ _ T50 (mkF m 260 #[.val (.int za), .val (.long zb), .second, .val (.int zc), .val (.int zm), .val (.int zsm), .val (.int zw), .val (.long zg), .second, .val (.int zp), .val (.ref zo), .val (.int (1 : Int32)), .val (.int (own_ad (own_T zw zp zg 0))), .val (.int (own_ad (own_T zw zp zg 1))), .val (.int (own_ad (own_T zw zp zg 2))), .val (.int (own_ad (own_T zw zp zg 3))), .unset, .unset, .unset] [(.int (1 : Int32))])
            refine own_go (fun t k => XS.istore X50.here hx rfl (hb hby at_260) rfl (l' := #[.val (.int za), .val (.long zb), .second, .val (.int zc), .val (.int zm), .val (.int zsm), .val (.int zw), .val (.long zg), .second, .val (.int zp), .val (.ref zo), .val (.int (1 : Int32)), .val (.int (own_ad (own_T zw zp zg 0))), .val (.int (own_ad (own_T zw zp zg 1))), .val (.int (own_ad (own_T zw zp zg 2))), .val (.int (own_ad (own_T zw zp zg 3))), .unset, .unset, .unset]) rfl k) ?_
            have J275 : ∀  (T51 : State) (h51 : Heap) (L51 : List Loc), Stand p l e room_1 s m #[(.int za), (.long zb), (.int zc), (.int zm)] below meth c T51 L51 1 1 → T51.heap = h51 → Fr n0 L51 → Keep h0 h51 [] → Exa Z h51 zo "com/example/soak/soak/control/EdgeWindow" → Fld Z h51 zo "com/example/soak/soak/control/EdgeWindow" "window" "J" (.long (own_T zw zp zg 4)) → own_WP p e below (own_E s (Q0 Z za zb zc zm h0 n0) 1 1) T51 (mkF m 275 #[.val (.int za), .val (.long zb), .second, .val (.int zc), .val (.int zm), .val (.int zsm), .val (.int zw), .val (.long zg), .second, .val (.int zp), .val (.ref zo), .val (.int (1 : Int32)), .val (.int (own_ad (own_T zw zp zg 0))), .val (.int (own_ad (own_T zw zp zg 1))), .val (.int (own_ad (own_T zw zp zg 2))), .val (.int (own_ad (own_T zw zp zg 3))), .unset, .unset, .unset] []) := by
              intro T51 h51 L51 X51 e51 N51 K51j f52 f53
              show own_WP _ _ _ _ T51 (mkF m 275 #[.val (.int za), .val (.long zb), .second, .val (.int zc), .val (.int zm), .val (.int zsm), .val (.int zw), .val (.long zg), .second, .val (.int zp), .val (.ref zo), .val (.int (1 : Int32)), .val (.int (own_ad (own_T zw zp zg 0))), .val (.int (own_ad (own_T zw zp zg 1))), .val (.int (own_ad (own_T zw zp zg 2))), .val (.int (own_ad (own_T zw zp zg 3))), .unset, .unset, .unset] [])
              refine own_go (fun t k => XS.aload X51.here hx rfl (hb hby at_275) rfl rfl  k) ?_
              show own_WP _ _ _ _ T51 (mkF m 277 #[.val (.int za), .val (.long zb), .second, .val (.int zc), .val (.int zm), .val (.int zsm), .val (.int zw), .val (.long zg), .second, .val (.int zp), .val (.ref zo), .val (.int (1 : Int32)), .val (.int (own_ad (own_T zw zp zg 0))), .val (.int (own_ad (own_T zw zp zg 1))), .val (.int (own_ad (own_T zw zp zg 2))), .val (.int (own_ad (own_T zw zp zg 3))), .unset, .unset, .unset] [(.ref zo)])
              obtain ⟨cq54, kq54, q54a, q54b, q54c⟩ := isOf hZ e51 f52
              obtain ⟨_, _, ⟨T54, L54, k54, n54⟩, -, X54, ⟨Lc54, hQ54, l54, y54, z54⟩, st54⟩ := X51.virtualBack hx (y := (⟨"com/example/soak/soak/control/EdgeWindow", "admitNewCall", "()Z"⟩ : MethodName)) (z := (⟨"com/example/soak/soak/control/EdgeWindow", "admitNewCall", "()Z"⟩ : MethodName)) hown (mvT hZ (hw _ (List.mem_of_getElem? (i := 16) rfl))) (mvT hZ (hw _ (List.mem_of_getElem? (i := 17) rfl))) (notFace_of_selects (args := #[]) (mvT hZ (hw _ (List.mem_of_getElem? (i := 19) rfl)))) (mvT hZ (hw _ (List.mem_of_getElem? (i := 19) rfl))) (mvT hZ (hw _ (List.mem_of_getElem? (i := 18) rfl))) (by decide) (backOf (W := 0) (rm4 l Z a0 hw [] zo (own_T zw zp zg 4) h51 n0 (own_le Z0 K51j) f52 f53 g_zo) hZ (hw _ (List.mem_of_getElem? (i := 20) rfl)) (hw _ (List.mem_of_getElem? (i := 4) rfl)) (by decide) (by decide)) q54a q54c (g := (mkF m 277 #[.val (.int za), .val (.long zb), .second, .val (.int zc), .val (.int zm), .val (.int zsm), .val (.int zw), .val (.long zg), .second, .val (.int zp), .val (.ref zo), .val (.int (1 : Int32)), .val (.int (own_ad (own_T zw zp zg 0))), .val (.int (own_ad (own_T zw zp zg 1))), .val (.int (own_ad (own_T zw zp zg 2))), .val (.int (own_ad (own_T zw zp zg 3))), .unset, .unset, .unset] [(.ref zo)])) rfl (by rw [hml]; rfl) (Steps.refl _) (argsL := []) (rest := []) (lenOf own_pd91901 rfl) rfl (by show 2 * 0 + _ ≤ _; exact Nat.le_of_eq rfl) (hb hby at_277) (fun _ _ => ⟨rfl, e51, (by decide : 1 + 0 ≤ _), (by decide : 1 + 0 ≤ _)⟩)
              dsimp only [Pt.U, Pt.locs, Pt.cells, Pt.slots] at X54 l54 y54 z54 st54 hQ54
              subst l54 y54 z54
              obtain ⟨rfl, N54q, Kc54, f55, f56⟩ := hQ54
              have N54 := Fr.app N51 N54q
              refine own_tr st54 ?_
              have f57 : Exa Z T54.heap zo "com/example/soak/soak/control/EdgeWindow" := f52.keep Kc54
              have K59 : Keep h0 T54.heap [] := K51j.trans Kc54 (fun x hx => by cases List.mem_singleton.mp hx; exact Or.inr sz_zo)
              show own_WP _ _ _ _ T54 (mkF m 280 #[.val (.int za), .val (.long zb), .second, .val (.int zc), .val (.int zm), .val (.int zsm), .val (.int zw), .val (.long zg), .second, .val (.int zp), .val (.ref zo), .val (.int (1 : Int32)), .val (.int (own_ad (own_T zw zp zg 0))), .val (.int (own_ad (own_T zw zp zg 1))), .val (.int (own_ad (own_T zw zp zg 2))), .val (.int (own_ad (own_T zw zp zg 3))), .unset, .unset, .unset] [(.int (own_ad (own_T zw zp zg 4)))])
              refine own_go (fun t k => XS.istore X54.here hx rfl (hb hby at_280) rfl (l' := #[.val (.int za), .val (.long zb), .second, .val (.int zc), .val (.int zm), .val (.int zsm), .val (.int zw), .val (.long zg), .second, .val (.int zp), .val (.ref zo), .val (.int (1 : Int32)), .val (.int (own_ad (own_T zw zp zg 0))), .val (.int (own_ad (own_T zw zp zg 1))), .val (.int (own_ad (own_T zw zp zg 2))), .val (.int (own_ad (own_T zw zp zg 3))), .val (.int (own_ad (own_T zw zp zg 4))), .unset, .unset]) rfl k) ?_
              show own_WP _ _ _ _ T54 (mkF m 282 #[.val (.int za), .val (.long zb), .second, .val (.int zc), .val (.int zm), .val (.int zsm), .val (.int zw), .val (.long zg), .second, .val (.int zp), .val (.ref zo), .val (.int (1 : Int32)), .val (.int (own_ad (own_T zw zp zg 0))), .val (.int (own_ad (own_T zw zp zg 1))), .val (.int (own_ad (own_T zw zp zg 2))), .val (.int (own_ad (own_T zw zp zg 3))), .val (.int (own_ad (own_T zw zp zg 4))), .unset, .unset] [])
              refine own_go (fun t k => XS.iload X54.here hx rfl (hb hby at_282) rfl  k) ?_
              show own_WP _ _ _ _ T54 (mkF m 284 #[.val (.int za), .val (.long zb), .second, .val (.int zc), .val (.int zm), .val (.int zsm), .val (.int zw), .val (.long zg), .second, .val (.int zp), .val (.ref zo), .val (.int (1 : Int32)), .val (.int (own_ad (own_T zw zp zg 0))), .val (.int (own_ad (own_T zw zp zg 1))), .val (.int (own_ad (own_T zw zp zg 2))), .val (.int (own_ad (own_T zw zp zg 3))), .val (.int (own_ad (own_T zw zp zg 4))), .unset, .unset] [(.int (1 : Int32))])
              have hc284 : ¬ ((1 : Int32) = (0 : Int32)) := by decide
              refine own_go (fun t k => XS.ifNo X54.here hx rfl (hb hby at_284) rfl ((if0 _ _).trans (feq hc284).1) k) ?_
              show own_WP _ _ _ _ T54 (mkF m 287 #[.val (.int za), .val (.long zb), .second, .val (.int zc), .val (.int zm), .val (.int zsm), .val (.int zw), .val (.long zg), .second, .val (.int zp), .val (.ref zo), .val (.int (1 : Int32)), .val (.int (own_ad (own_T zw zp zg 0))), .val (.int (own_ad (own_T zw zp zg 1))), .val (.int (own_ad (own_T zw zp zg 2))), .val (.int (own_ad (own_T zw zp zg 3))), .val (.int (own_ad (own_T zw zp zg 4))), .unset, .unset] [])
              refine own_go (fun t k => XS.iload X54.here hx rfl (hb hby at_287) rfl  k) ?_
              show own_WP _ _ _ _ T54 (mkF m 289 #[.val (.int za), .val (.long zb), .second, .val (.int zc), .val (.int zm), .val (.int zsm), .val (.int zw), .val (.long zg), .second, .val (.int zp), .val (.ref zo), .val (.int (1 : Int32)), .val (.int (own_ad (own_T zw zp zg 0))), .val (.int (own_ad (own_T zw zp zg 1))), .val (.int (own_ad (own_T zw zp zg 2))), .val (.int (own_ad (own_T zw zp zg 3))), .val (.int (own_ad (own_T zw zp zg 4))), .unset, .unset] [(.int (own_ad (own_T zw zp zg 4)))])
              refine own_go (fun t k => XS.iconst X54.here hx rfl (hb hby at_289) k) ?_
              show own_WP _ _ _ _ T54 (mkF m 290 #[.val (.int za), .val (.long zb), .second, .val (.int zc), .val (.int zm), .val (.int zsm), .val (.int zw), .val (.long zg), .second, .val (.int zp), .val (.ref zo), .val (.int (1 : Int32)), .val (.int (own_ad (own_T zw zp zg 0))), .val (.int (own_ad (own_T zw zp zg 1))), .val (.int (own_ad (own_T zw zp zg 2))), .val (.int (own_ad (own_T zw zp zg 3))), .val (.int (own_ad (own_T zw zp zg 4))), .unset, .unset] [(.int (4 : Int32)), (.int (own_ad (own_T zw zp zg 4)))])
              refine own_go (fun t k => XS.iload X54.here hx rfl (hb hby at_290) rfl  k) ?_
              show own_WP _ _ _ _ T54 (mkF m 292 #[.val (.int za), .val (.long zb), .second, .val (.int zc), .val (.int zm), .val (.int zsm), .val (.int zw), .val (.long zg), .second, .val (.int zp), .val (.ref zo), .val (.int (1 : Int32)), .val (.int (own_ad (own_T zw zp zg 0))), .val (.int (own_ad (own_T zw zp zg 1))), .val (.int (own_ad (own_T zw zp zg 2))), .val (.int (own_ad (own_T zw zp zg 3))), .val (.int (own_ad (own_T zw zp zg 4))), .unset, .unset] [(.int zw), (.int (4 : Int32)), (.int (own_ad (own_T zw zp zg 4)))])
              refine own_go (fun t k => XS.iload X54.here hx rfl (hb hby at_292) rfl  k) ?_
              show own_WP _ _ _ _ T54 (mkF m 294 #[.val (.int za), .val (.long zb), .second, .val (.int zc), .val (.int zm), .val (.int zsm), .val (.int zw), .val (.long zg), .second, .val (.int zp), .val (.ref zo), .val (.int (1 : Int32)), .val (.int (own_ad (own_T zw zp zg 0))), .val (.int (own_ad (own_T zw zp zg 1))), .val (.int (own_ad (own_T zw zp zg 2))), .val (.int (own_ad (own_T zw zp zg 3))), .val (.int (own_ad (own_T zw zp zg 4))), .unset, .unset] [(.int zp), (.int zw), (.int (4 : Int32)), (.int (own_ad (own_T zw zp zg 4)))])
              refine own_go (fun t k => XS.lload X54.here hx rfl (hb hby at_294) rfl  k) ?_
              show own_WP _ _ _ _ T54 (mkF m 296 #[.val (.int za), .val (.long zb), .second, .val (.int zc), .val (.int zm), .val (.int zsm), .val (.int zw), .val (.long zg), .second, .val (.int zp), .val (.ref zo), .val (.int (1 : Int32)), .val (.int (own_ad (own_T zw zp zg 0))), .val (.int (own_ad (own_T zw zp zg 1))), .val (.int (own_ad (own_T zw zp zg 2))), .val (.int (own_ad (own_T zw zp zg 3))), .val (.int (own_ad (own_T zw zp zg 4))), .unset, .unset] [(.long zg), (.int zp), (.int zw), (.int (4 : Int32)), (.int (own_ad (own_T zw zp zg 4)))])
              obtain ⟨_, _, ⟨T60, L60, k60, n60⟩, -, X60, ⟨Lc60, hQ60, l60, y60, z60⟩, st60⟩ := Jvm.LawKit.callS X54 hx (y := (⟨"com/example/soak/soak/control/EdgeWindowAdmitNewCallPinLaw", "expected", "(IIIJ)Z"⟩ : MethodName)) hown (mvT hZ (hw _ (List.mem_of_getElem? (i := 21) rfl))) (mvT hZ (hw _ (List.mem_of_getElem? (i := 22) rfl))) (mvT hZ (hw _ (List.mem_of_getElem? (i := 23) rfl))) (mvT hZ (hw _ (List.mem_of_getElem? (i := 24) rfl))) (by decide) (backOf (W := 1) (rm5 l Z a0 hw [] (4 : Int32) zw zp zg  T54.heap n0 (own_le Z0 K59) ) hZ (hw _ (List.mem_of_getElem? (i := 24) rfl)) (hw _ (List.mem_of_getElem? (i := 23) rfl)) (by decide) (by decide)) (g := (mkF m 296 #[.val (.int za), .val (.long zb), .second, .val (.int zc), .val (.int zm), .val (.int zsm), .val (.int zw), .val (.long zg), .second, .val (.int zp), .val (.ref zo), .val (.int (1 : Int32)), .val (.int (own_ad (own_T zw zp zg 0))), .val (.int (own_ad (own_T zw zp zg 1))), .val (.int (own_ad (own_T zw zp zg 2))), .val (.int (own_ad (own_T zw zp zg 3))), .val (.int (own_ad (own_T zw zp zg 4))), .unset, .unset] [(.long zg), (.int zp), (.int zw), (.int (4 : Int32)), (.int (own_ad (own_T zw zp zg 4)))])) rfl (by rw [hml]; rfl) (argsL := [(.int (4 : Int32)), (.int zw), (.int zp), (.long zg)]) (rest := [(.int (own_ad (own_T zw zp zg 4)))]) (lenOf own_pd92526 rfl) rfl (by show 2 * 0 + _ ≤ _; exact Nat.le_of_eq rfl) (hb hby at_296) (fun _ _ => ⟨rfl, rfl, (by decide : 1 + 0 ≤ _), (by decide : 1 + 0 ≤ _)⟩)
              dsimp only [Pt.U, Pt.locs, Pt.cells, Pt.slots] at X60 l60 y60 z60 st60 hQ60
              subst l60 y60 z60
              obtain ⟨rfl, N60q, eq60⟩ := hQ60
              have N60 := Fr.app N54 N60q
              refine own_go st60 ?_
              show own_WP _ _ _ _ T60 (mkF m 299 #[.val (.int za), .val (.long zb), .second, .val (.int zc), .val (.int zm), .val (.int zsm), .val (.int zw), .val (.long zg), .second, .val (.int zp), .val (.ref zo), .val (.int (1 : Int32)), .val (.int (own_ad (own_T zw zp zg 0))), .val (.int (own_ad (own_T zw zp zg 1))), .val (.int (own_ad (own_T zw zp zg 2))), .val (.int (own_ad (own_T zw zp zg 3))), .val (.int (own_ad (own_T zw zp zg 4))), .unset, .unset] [(.int (own_ex (4 : Int32) zw zp zg)), (.int (own_ad (own_T zw zp zg 4)))])
              have hc299 : (own_ad (own_T zw zp zg 4)) = (own_ex (4 : Int32) zw zp zg) := by
                exact own_key zw zp zg hw1 hp1.1 hp1.2 hg1 hg2 4 (by decide)
              refine own_go (fun t k => XS.icmpNo X60.here hx rfl (hb hby at_299) rfl (teq hc299).2 k) ?_
              show own_WP _ _ _ _ T60 (mkF m 302 #[.val (.int za), .val (.long zb), .second, .val (.int zc), .val (.int zm), .val (.int zsm), .val (.int zw), .val (.long zg), .second, .val (.int zp), .val (.ref zo), .val (.int (1 : Int32)), .val (.int (own_ad (own_T zw zp zg 0))), .val (.int (own_ad (own_T zw zp zg 1))), .val (.int (own_ad (own_T zw zp zg 2))), .val (.int (own_ad (own_T zw zp zg 3))), .val (.int (own_ad (own_T zw zp zg 4))), .unset, .unset] [])
              refine own_go (fun t k => XS.iconst X60.here hx rfl (hb hby at_302) k) ?_
              show own_WP _ _ _ _ T60 (mkF m 303 #[.val (.int za), .val (.long zb), .second, .val (.int zc), .val (.int zm), .val (.int zsm), .val (.int zw), .val (.long zg), .second, .val (.int zp), .val (.ref zo), .val (.int (1 : Int32)), .val (.int (own_ad (own_T zw zp zg 0))), .val (.int (own_ad (own_T zw zp zg 1))), .val (.int (own_ad (own_T zw zp zg 2))), .val (.int (own_ad (own_T zw zp zg 3))), .val (.int (own_ad (own_T zw zp zg 4))), .unset, .unset] [(.int (1 : Int32))])
              refine own_go (fun t k => XS.goto X60.here hx rfl (pc0 := 303) (pc' := 307) rfl (hb hby at_303) (by decide) (by decide) k) ?_
              show own_WP _ _ _ _ T60 (mkF m 307 #[.val (.int za), .val (.long zb), .second, .val (.int zc), .val (.int zm), .val (.int zsm), .val (.int zw), .val (.long zg), .second, .val (.int zp), .val (.ref zo), .val (.int (1 : Int32)), .val (.int (own_ad (own_T zw zp zg 0))), .val (.int (own_ad (own_T zw zp zg 1))), .val (.int (own_ad (own_T zw zp zg 2))), .val (.int (own_ad (own_T zw zp zg 3))), .val (.int (own_ad (own_T zw zp zg 4))), .unset, .unset] [(.int (1 : Int32))])
              refine own_go (fun t k => XS.istore X60.here hx rfl (hb hby at_307) rfl (l' := #[.val (.int za), .val (.long zb), .second, .val (.int zc), .val (.int zm), .val (.int zsm), .val (.int zw), .val (.long zg), .second, .val (.int zp), .val (.ref zo), .val (.int (1 : Int32)), .val (.int (own_ad (own_T zw zp zg 0))), .val (.int (own_ad (own_T zw zp zg 1))), .val (.int (own_ad (own_T zw zp zg 2))), .val (.int (own_ad (own_T zw zp zg 3))), .val (.int (own_ad (own_T zw zp zg 4))), .unset, .unset]) rfl k) ?_
              have J322 : ∀  (T61 : State) (h61 : Heap) (L61 : List Loc), Stand p l e room_1 s m #[(.int za), (.long zb), (.int zc), (.int zm)] below meth c T61 L61 1 1 → T61.heap = h61 → Fr n0 L61 → Keep h0 h61 [] → Exa Z h61 zo "com/example/soak/soak/control/EdgeWindow" → Fld Z h61 zo "com/example/soak/soak/control/EdgeWindow" "window" "J" (.long (own_T zw zp zg 5)) → own_WP p e below (own_E s (Q0 Z za zb zc zm h0 n0) 1 1) T61 (mkF m 322 #[.val (.int za), .val (.long zb), .second, .val (.int zc), .val (.int zm), .val (.int zsm), .val (.int zw), .val (.long zg), .second, .val (.int zp), .val (.ref zo), .val (.int (1 : Int32)), .val (.int (own_ad (own_T zw zp zg 0))), .val (.int (own_ad (own_T zw zp zg 1))), .val (.int (own_ad (own_T zw zp zg 2))), .val (.int (own_ad (own_T zw zp zg 3))), .val (.int (own_ad (own_T zw zp zg 4))), .unset, .unset] []) := by
                intro T61 h61 L61 X61 e61 N61 K61j f62 f63
                show own_WP _ _ _ _ T61 (mkF m 322 #[.val (.int za), .val (.long zb), .second, .val (.int zc), .val (.int zm), .val (.int zsm), .val (.int zw), .val (.long zg), .second, .val (.int zp), .val (.ref zo), .val (.int (1 : Int32)), .val (.int (own_ad (own_T zw zp zg 0))), .val (.int (own_ad (own_T zw zp zg 1))), .val (.int (own_ad (own_T zw zp zg 2))), .val (.int (own_ad (own_T zw zp zg 3))), .val (.int (own_ad (own_T zw zp zg 4))), .unset, .unset] [])
                refine own_go (fun t k => XS.aload X61.here hx rfl (hb hby at_322) rfl rfl  k) ?_
                show own_WP _ _ _ _ T61 (mkF m 324 #[.val (.int za), .val (.long zb), .second, .val (.int zc), .val (.int zm), .val (.int zsm), .val (.int zw), .val (.long zg), .second, .val (.int zp), .val (.ref zo), .val (.int (1 : Int32)), .val (.int (own_ad (own_T zw zp zg 0))), .val (.int (own_ad (own_T zw zp zg 1))), .val (.int (own_ad (own_T zw zp zg 2))), .val (.int (own_ad (own_T zw zp zg 3))), .val (.int (own_ad (own_T zw zp zg 4))), .unset, .unset] [(.ref zo)])
                obtain ⟨cq64, kq64, q64a, q64b, q64c⟩ := isOf hZ e61 f62
                obtain ⟨_, _, ⟨T64, L64, k64, n64⟩, -, X64, ⟨Lc64, hQ64, l64, y64, z64⟩, st64⟩ := X61.virtualBack hx (y := (⟨"com/example/soak/soak/control/EdgeWindow", "admitNewCall", "()Z"⟩ : MethodName)) (z := (⟨"com/example/soak/soak/control/EdgeWindow", "admitNewCall", "()Z"⟩ : MethodName)) hown (mvT hZ (hw _ (List.mem_of_getElem? (i := 16) rfl))) (mvT hZ (hw _ (List.mem_of_getElem? (i := 17) rfl))) (notFace_of_selects (args := #[]) (mvT hZ (hw _ (List.mem_of_getElem? (i := 19) rfl)))) (mvT hZ (hw _ (List.mem_of_getElem? (i := 19) rfl))) (mvT hZ (hw _ (List.mem_of_getElem? (i := 18) rfl))) (by decide) (backOf (W := 0) (rm4 l Z a0 hw [] zo (own_T zw zp zg 5) h61 n0 (own_le Z0 K61j) f62 f63 g_zo) hZ (hw _ (List.mem_of_getElem? (i := 20) rfl)) (hw _ (List.mem_of_getElem? (i := 4) rfl)) (by decide) (by decide)) q64a q64c (g := (mkF m 324 #[.val (.int za), .val (.long zb), .second, .val (.int zc), .val (.int zm), .val (.int zsm), .val (.int zw), .val (.long zg), .second, .val (.int zp), .val (.ref zo), .val (.int (1 : Int32)), .val (.int (own_ad (own_T zw zp zg 0))), .val (.int (own_ad (own_T zw zp zg 1))), .val (.int (own_ad (own_T zw zp zg 2))), .val (.int (own_ad (own_T zw zp zg 3))), .val (.int (own_ad (own_T zw zp zg 4))), .unset, .unset] [(.ref zo)])) rfl (by rw [hml]; rfl) (Steps.refl _) (argsL := []) (rest := []) (lenOf own_pd91901 rfl) rfl (by show 2 * 0 + _ ≤ _; exact Nat.le_of_eq rfl) (hb hby at_324) (fun _ _ => ⟨rfl, e61, (by decide : 1 + 0 ≤ _), (by decide : 1 + 0 ≤ _)⟩)
                dsimp only [Pt.U, Pt.locs, Pt.cells, Pt.slots] at X64 l64 y64 z64 st64 hQ64
                subst l64 y64 z64
                obtain ⟨rfl, N64q, Kc64, f65, f66⟩ := hQ64
                have N64 := Fr.app N61 N64q
                refine own_tr st64 ?_
                have f67 : Exa Z T64.heap zo "com/example/soak/soak/control/EdgeWindow" := f62.keep Kc64
                have K69 : Keep h0 T64.heap [] := K61j.trans Kc64 (fun x hx => by cases List.mem_singleton.mp hx; exact Or.inr sz_zo)
                show own_WP _ _ _ _ T64 (mkF m 327 #[.val (.int za), .val (.long zb), .second, .val (.int zc), .val (.int zm), .val (.int zsm), .val (.int zw), .val (.long zg), .second, .val (.int zp), .val (.ref zo), .val (.int (1 : Int32)), .val (.int (own_ad (own_T zw zp zg 0))), .val (.int (own_ad (own_T zw zp zg 1))), .val (.int (own_ad (own_T zw zp zg 2))), .val (.int (own_ad (own_T zw zp zg 3))), .val (.int (own_ad (own_T zw zp zg 4))), .unset, .unset] [(.int (own_ad (own_T zw zp zg 5)))])
                refine own_go (fun t k => XS.istore X64.here hx rfl (hb hby at_327) rfl (l' := #[.val (.int za), .val (.long zb), .second, .val (.int zc), .val (.int zm), .val (.int zsm), .val (.int zw), .val (.long zg), .second, .val (.int zp), .val (.ref zo), .val (.int (1 : Int32)), .val (.int (own_ad (own_T zw zp zg 0))), .val (.int (own_ad (own_T zw zp zg 1))), .val (.int (own_ad (own_T zw zp zg 2))), .val (.int (own_ad (own_T zw zp zg 3))), .val (.int (own_ad (own_T zw zp zg 4))), .val (.int (own_ad (own_T zw zp zg 5))), .unset]) rfl k) ?_
                show own_WP _ _ _ _ T64 (mkF m 329 #[.val (.int za), .val (.long zb), .second, .val (.int zc), .val (.int zm), .val (.int zsm), .val (.int zw), .val (.long zg), .second, .val (.int zp), .val (.ref zo), .val (.int (1 : Int32)), .val (.int (own_ad (own_T zw zp zg 0))), .val (.int (own_ad (own_T zw zp zg 1))), .val (.int (own_ad (own_T zw zp zg 2))), .val (.int (own_ad (own_T zw zp zg 3))), .val (.int (own_ad (own_T zw zp zg 4))), .val (.int (own_ad (own_T zw zp zg 5))), .unset] [])
                refine own_go (fun t k => XS.iload X64.here hx rfl (hb hby at_329) rfl  k) ?_
                show own_WP _ _ _ _ T64 (mkF m 331 #[.val (.int za), .val (.long zb), .second, .val (.int zc), .val (.int zm), .val (.int zsm), .val (.int zw), .val (.long zg), .second, .val (.int zp), .val (.ref zo), .val (.int (1 : Int32)), .val (.int (own_ad (own_T zw zp zg 0))), .val (.int (own_ad (own_T zw zp zg 1))), .val (.int (own_ad (own_T zw zp zg 2))), .val (.int (own_ad (own_T zw zp zg 3))), .val (.int (own_ad (own_T zw zp zg 4))), .val (.int (own_ad (own_T zw zp zg 5))), .unset] [(.int (1 : Int32))])
                have hc331 : ¬ ((1 : Int32) = (0 : Int32)) := by decide
                refine own_go (fun t k => XS.ifNo X64.here hx rfl (hb hby at_331) rfl ((if0 _ _).trans (feq hc331).1) k) ?_
                show own_WP _ _ _ _ T64 (mkF m 334 #[.val (.int za), .val (.long zb), .second, .val (.int zc), .val (.int zm), .val (.int zsm), .val (.int zw), .val (.long zg), .second, .val (.int zp), .val (.ref zo), .val (.int (1 : Int32)), .val (.int (own_ad (own_T zw zp zg 0))), .val (.int (own_ad (own_T zw zp zg 1))), .val (.int (own_ad (own_T zw zp zg 2))), .val (.int (own_ad (own_T zw zp zg 3))), .val (.int (own_ad (own_T zw zp zg 4))), .val (.int (own_ad (own_T zw zp zg 5))), .unset] [])
                refine own_go (fun t k => XS.iload X64.here hx rfl (hb hby at_334) rfl  k) ?_
                show own_WP _ _ _ _ T64 (mkF m 336 #[.val (.int za), .val (.long zb), .second, .val (.int zc), .val (.int zm), .val (.int zsm), .val (.int zw), .val (.long zg), .second, .val (.int zp), .val (.ref zo), .val (.int (1 : Int32)), .val (.int (own_ad (own_T zw zp zg 0))), .val (.int (own_ad (own_T zw zp zg 1))), .val (.int (own_ad (own_T zw zp zg 2))), .val (.int (own_ad (own_T zw zp zg 3))), .val (.int (own_ad (own_T zw zp zg 4))), .val (.int (own_ad (own_T zw zp zg 5))), .unset] [(.int (own_ad (own_T zw zp zg 5)))])
                refine own_go (fun t k => XS.iconst X64.here hx rfl (hb hby at_336) k) ?_
                show own_WP _ _ _ _ T64 (mkF m 337 #[.val (.int za), .val (.long zb), .second, .val (.int zc), .val (.int zm), .val (.int zsm), .val (.int zw), .val (.long zg), .second, .val (.int zp), .val (.ref zo), .val (.int (1 : Int32)), .val (.int (own_ad (own_T zw zp zg 0))), .val (.int (own_ad (own_T zw zp zg 1))), .val (.int (own_ad (own_T zw zp zg 2))), .val (.int (own_ad (own_T zw zp zg 3))), .val (.int (own_ad (own_T zw zp zg 4))), .val (.int (own_ad (own_T zw zp zg 5))), .unset] [(.int (5 : Int32)), (.int (own_ad (own_T zw zp zg 5)))])
                refine own_go (fun t k => XS.iload X64.here hx rfl (hb hby at_337) rfl  k) ?_
                show own_WP _ _ _ _ T64 (mkF m 339 #[.val (.int za), .val (.long zb), .second, .val (.int zc), .val (.int zm), .val (.int zsm), .val (.int zw), .val (.long zg), .second, .val (.int zp), .val (.ref zo), .val (.int (1 : Int32)), .val (.int (own_ad (own_T zw zp zg 0))), .val (.int (own_ad (own_T zw zp zg 1))), .val (.int (own_ad (own_T zw zp zg 2))), .val (.int (own_ad (own_T zw zp zg 3))), .val (.int (own_ad (own_T zw zp zg 4))), .val (.int (own_ad (own_T zw zp zg 5))), .unset] [(.int zw), (.int (5 : Int32)), (.int (own_ad (own_T zw zp zg 5)))])
                refine own_go (fun t k => XS.iload X64.here hx rfl (hb hby at_339) rfl  k) ?_
                show own_WP _ _ _ _ T64 (mkF m 341 #[.val (.int za), .val (.long zb), .second, .val (.int zc), .val (.int zm), .val (.int zsm), .val (.int zw), .val (.long zg), .second, .val (.int zp), .val (.ref zo), .val (.int (1 : Int32)), .val (.int (own_ad (own_T zw zp zg 0))), .val (.int (own_ad (own_T zw zp zg 1))), .val (.int (own_ad (own_T zw zp zg 2))), .val (.int (own_ad (own_T zw zp zg 3))), .val (.int (own_ad (own_T zw zp zg 4))), .val (.int (own_ad (own_T zw zp zg 5))), .unset] [(.int zp), (.int zw), (.int (5 : Int32)), (.int (own_ad (own_T zw zp zg 5)))])
                refine own_go (fun t k => XS.lload X64.here hx rfl (hb hby at_341) rfl  k) ?_
                show own_WP _ _ _ _ T64 (mkF m 343 #[.val (.int za), .val (.long zb), .second, .val (.int zc), .val (.int zm), .val (.int zsm), .val (.int zw), .val (.long zg), .second, .val (.int zp), .val (.ref zo), .val (.int (1 : Int32)), .val (.int (own_ad (own_T zw zp zg 0))), .val (.int (own_ad (own_T zw zp zg 1))), .val (.int (own_ad (own_T zw zp zg 2))), .val (.int (own_ad (own_T zw zp zg 3))), .val (.int (own_ad (own_T zw zp zg 4))), .val (.int (own_ad (own_T zw zp zg 5))), .unset] [(.long zg), (.int zp), (.int zw), (.int (5 : Int32)), (.int (own_ad (own_T zw zp zg 5)))])
                obtain ⟨_, _, ⟨T70, L70, k70, n70⟩, -, X70, ⟨Lc70, hQ70, l70, y70, z70⟩, st70⟩ := Jvm.LawKit.callS X64 hx (y := (⟨"com/example/soak/soak/control/EdgeWindowAdmitNewCallPinLaw", "expected", "(IIIJ)Z"⟩ : MethodName)) hown (mvT hZ (hw _ (List.mem_of_getElem? (i := 21) rfl))) (mvT hZ (hw _ (List.mem_of_getElem? (i := 22) rfl))) (mvT hZ (hw _ (List.mem_of_getElem? (i := 23) rfl))) (mvT hZ (hw _ (List.mem_of_getElem? (i := 24) rfl))) (by decide) (backOf (W := 1) (rm5 l Z a0 hw [] (5 : Int32) zw zp zg  T64.heap n0 (own_le Z0 K69) ) hZ (hw _ (List.mem_of_getElem? (i := 24) rfl)) (hw _ (List.mem_of_getElem? (i := 23) rfl)) (by decide) (by decide)) (g := (mkF m 343 #[.val (.int za), .val (.long zb), .second, .val (.int zc), .val (.int zm), .val (.int zsm), .val (.int zw), .val (.long zg), .second, .val (.int zp), .val (.ref zo), .val (.int (1 : Int32)), .val (.int (own_ad (own_T zw zp zg 0))), .val (.int (own_ad (own_T zw zp zg 1))), .val (.int (own_ad (own_T zw zp zg 2))), .val (.int (own_ad (own_T zw zp zg 3))), .val (.int (own_ad (own_T zw zp zg 4))), .val (.int (own_ad (own_T zw zp zg 5))), .unset] [(.long zg), (.int zp), (.int zw), (.int (5 : Int32)), (.int (own_ad (own_T zw zp zg 5)))])) rfl (by rw [hml]; rfl) (argsL := [(.int (5 : Int32)), (.int zw), (.int zp), (.long zg)]) (rest := [(.int (own_ad (own_T zw zp zg 5)))]) (lenOf own_pd92526 rfl) rfl (by show 2 * 0 + _ ≤ _; exact Nat.le_of_eq rfl) (hb hby at_343) (fun _ _ => ⟨rfl, rfl, (by decide : 1 + 0 ≤ _), (by decide : 1 + 0 ≤ _)⟩)
                dsimp only [Pt.U, Pt.locs, Pt.cells, Pt.slots] at X70 l70 y70 z70 st70 hQ70
                subst l70 y70 z70
                obtain ⟨rfl, N70q, eq70⟩ := hQ70
                have N70 := Fr.app N64 N70q
                refine own_go st70 ?_
                show own_WP _ _ _ _ T70 (mkF m 346 #[.val (.int za), .val (.long zb), .second, .val (.int zc), .val (.int zm), .val (.int zsm), .val (.int zw), .val (.long zg), .second, .val (.int zp), .val (.ref zo), .val (.int (1 : Int32)), .val (.int (own_ad (own_T zw zp zg 0))), .val (.int (own_ad (own_T zw zp zg 1))), .val (.int (own_ad (own_T zw zp zg 2))), .val (.int (own_ad (own_T zw zp zg 3))), .val (.int (own_ad (own_T zw zp zg 4))), .val (.int (own_ad (own_T zw zp zg 5))), .unset] [(.int (own_ex (5 : Int32) zw zp zg)), (.int (own_ad (own_T zw zp zg 5)))])
                have hc346 : (own_ad (own_T zw zp zg 5)) = (own_ex (5 : Int32) zw zp zg) := by
                  exact own_key zw zp zg hw1 hp1.1 hp1.2 hg1 hg2 5 (by decide)
                refine own_go (fun t k => XS.icmpNo X70.here hx rfl (hb hby at_346) rfl (teq hc346).2 k) ?_
                show own_WP _ _ _ _ T70 (mkF m 349 #[.val (.int za), .val (.long zb), .second, .val (.int zc), .val (.int zm), .val (.int zsm), .val (.int zw), .val (.long zg), .second, .val (.int zp), .val (.ref zo), .val (.int (1 : Int32)), .val (.int (own_ad (own_T zw zp zg 0))), .val (.int (own_ad (own_T zw zp zg 1))), .val (.int (own_ad (own_T zw zp zg 2))), .val (.int (own_ad (own_T zw zp zg 3))), .val (.int (own_ad (own_T zw zp zg 4))), .val (.int (own_ad (own_T zw zp zg 5))), .unset] [])
                refine own_go (fun t k => XS.iconst X70.here hx rfl (hb hby at_349) k) ?_
                show own_WP _ _ _ _ T70 (mkF m 350 #[.val (.int za), .val (.long zb), .second, .val (.int zc), .val (.int zm), .val (.int zsm), .val (.int zw), .val (.long zg), .second, .val (.int zp), .val (.ref zo), .val (.int (1 : Int32)), .val (.int (own_ad (own_T zw zp zg 0))), .val (.int (own_ad (own_T zw zp zg 1))), .val (.int (own_ad (own_T zw zp zg 2))), .val (.int (own_ad (own_T zw zp zg 3))), .val (.int (own_ad (own_T zw zp zg 4))), .val (.int (own_ad (own_T zw zp zg 5))), .unset] [(.int (1 : Int32))])
                refine own_go (fun t k => XS.goto X70.here hx rfl (pc0 := 350) (pc' := 354) rfl (hb hby at_350) (by decide) (by decide) k) ?_
                show own_WP _ _ _ _ T70 (mkF m 354 #[.val (.int za), .val (.long zb), .second, .val (.int zc), .val (.int zm), .val (.int zsm), .val (.int zw), .val (.long zg), .second, .val (.int zp), .val (.ref zo), .val (.int (1 : Int32)), .val (.int (own_ad (own_T zw zp zg 0))), .val (.int (own_ad (own_T zw zp zg 1))), .val (.int (own_ad (own_T zw zp zg 2))), .val (.int (own_ad (own_T zw zp zg 3))), .val (.int (own_ad (own_T zw zp zg 4))), .val (.int (own_ad (own_T zw zp zg 5))), .unset] [(.int (1 : Int32))])
                refine own_go (fun t k => XS.istore X70.here hx rfl (hb hby at_354) rfl (l' := #[.val (.int za), .val (.long zb), .second, .val (.int zc), .val (.int zm), .val (.int zsm), .val (.int zw), .val (.long zg), .second, .val (.int zp), .val (.ref zo), .val (.int (1 : Int32)), .val (.int (own_ad (own_T zw zp zg 0))), .val (.int (own_ad (own_T zw zp zg 1))), .val (.int (own_ad (own_T zw zp zg 2))), .val (.int (own_ad (own_T zw zp zg 3))), .val (.int (own_ad (own_T zw zp zg 4))), .val (.int (own_ad (own_T zw zp zg 5))), .unset]) rfl k) ?_
                have J370 : ∀  (T71 : State) (h71 : Heap) (L71 : List Loc), Stand p l e room_1 s m #[(.int za), (.long zb), (.int zc), (.int zm)] below meth c T71 L71 1 1 → T71.heap = h71 → Fr n0 L71 → Keep h0 h71 [] → Exa Z h71 zo "com/example/soak/soak/control/EdgeWindow" → Fld Z h71 zo "com/example/soak/soak/control/EdgeWindow" "window" "J" (.long (own_T zw zp zg 6)) → own_WP p e below (own_E s (Q0 Z za zb zc zm h0 n0) 1 1) T71 (mkF m 370 #[.val (.int za), .val (.long zb), .second, .val (.int zc), .val (.int zm), .val (.int zsm), .val (.int zw), .val (.long zg), .second, .val (.int zp), .val (.ref zo), .val (.int (1 : Int32)), .val (.int (own_ad (own_T zw zp zg 0))), .val (.int (own_ad (own_T zw zp zg 1))), .val (.int (own_ad (own_T zw zp zg 2))), .val (.int (own_ad (own_T zw zp zg 3))), .val (.int (own_ad (own_T zw zp zg 4))), .val (.int (own_ad (own_T zw zp zg 5))), .unset] []) := by
                  intro T71 h71 L71 X71 e71 N71 K71j f72 f73
                  show own_WP _ _ _ _ T71 (mkF m 370 #[.val (.int za), .val (.long zb), .second, .val (.int zc), .val (.int zm), .val (.int zsm), .val (.int zw), .val (.long zg), .second, .val (.int zp), .val (.ref zo), .val (.int (1 : Int32)), .val (.int (own_ad (own_T zw zp zg 0))), .val (.int (own_ad (own_T zw zp zg 1))), .val (.int (own_ad (own_T zw zp zg 2))), .val (.int (own_ad (own_T zw zp zg 3))), .val (.int (own_ad (own_T zw zp zg 4))), .val (.int (own_ad (own_T zw zp zg 5))), .unset] [])
                  refine own_go (fun t k => XS.aload X71.here hx rfl (hb hby at_370) rfl rfl  k) ?_
                  show own_WP _ _ _ _ T71 (mkF m 372 #[.val (.int za), .val (.long zb), .second, .val (.int zc), .val (.int zm), .val (.int zsm), .val (.int zw), .val (.long zg), .second, .val (.int zp), .val (.ref zo), .val (.int (1 : Int32)), .val (.int (own_ad (own_T zw zp zg 0))), .val (.int (own_ad (own_T zw zp zg 1))), .val (.int (own_ad (own_T zw zp zg 2))), .val (.int (own_ad (own_T zw zp zg 3))), .val (.int (own_ad (own_T zw zp zg 4))), .val (.int (own_ad (own_T zw zp zg 5))), .unset] [(.ref zo)])
                  obtain ⟨cq74, kq74, q74a, q74b, q74c⟩ := isOf hZ e71 f72
                  obtain ⟨_, _, ⟨T74, L74, k74, n74⟩, -, X74, ⟨Lc74, hQ74, l74, y74, z74⟩, st74⟩ := X71.virtualBack hx (y := (⟨"com/example/soak/soak/control/EdgeWindow", "admitNewCall", "()Z"⟩ : MethodName)) (z := (⟨"com/example/soak/soak/control/EdgeWindow", "admitNewCall", "()Z"⟩ : MethodName)) hown (mvT hZ (hw _ (List.mem_of_getElem? (i := 16) rfl))) (mvT hZ (hw _ (List.mem_of_getElem? (i := 17) rfl))) (notFace_of_selects (args := #[]) (mvT hZ (hw _ (List.mem_of_getElem? (i := 19) rfl)))) (mvT hZ (hw _ (List.mem_of_getElem? (i := 19) rfl))) (mvT hZ (hw _ (List.mem_of_getElem? (i := 18) rfl))) (by decide) (backOf (W := 0) (rm4 l Z a0 hw [] zo (own_T zw zp zg 6) h71 n0 (own_le Z0 K71j) f72 f73 g_zo) hZ (hw _ (List.mem_of_getElem? (i := 20) rfl)) (hw _ (List.mem_of_getElem? (i := 4) rfl)) (by decide) (by decide)) q74a q74c (g := (mkF m 372 #[.val (.int za), .val (.long zb), .second, .val (.int zc), .val (.int zm), .val (.int zsm), .val (.int zw), .val (.long zg), .second, .val (.int zp), .val (.ref zo), .val (.int (1 : Int32)), .val (.int (own_ad (own_T zw zp zg 0))), .val (.int (own_ad (own_T zw zp zg 1))), .val (.int (own_ad (own_T zw zp zg 2))), .val (.int (own_ad (own_T zw zp zg 3))), .val (.int (own_ad (own_T zw zp zg 4))), .val (.int (own_ad (own_T zw zp zg 5))), .unset] [(.ref zo)])) rfl (by rw [hml]; rfl) (Steps.refl _) (argsL := []) (rest := []) (lenOf own_pd91901 rfl) rfl (by show 2 * 0 + _ ≤ _; exact Nat.le_of_eq rfl) (hb hby at_372) (fun _ _ => ⟨rfl, e71, (by decide : 1 + 0 ≤ _), (by decide : 1 + 0 ≤ _)⟩)
                  dsimp only [Pt.U, Pt.locs, Pt.cells, Pt.slots] at X74 l74 y74 z74 st74 hQ74
                  subst l74 y74 z74
                  obtain ⟨rfl, N74q, Kc74, f75, f76⟩ := hQ74
                  have N74 := Fr.app N71 N74q
                  refine own_tr st74 ?_
                  have f77 : Exa Z T74.heap zo "com/example/soak/soak/control/EdgeWindow" := f72.keep Kc74
                  have K79 : Keep h0 T74.heap [] := K71j.trans Kc74 (fun x hx => by cases List.mem_singleton.mp hx; exact Or.inr sz_zo)
                  show own_WP _ _ _ _ T74 (mkF m 375 #[.val (.int za), .val (.long zb), .second, .val (.int zc), .val (.int zm), .val (.int zsm), .val (.int zw), .val (.long zg), .second, .val (.int zp), .val (.ref zo), .val (.int (1 : Int32)), .val (.int (own_ad (own_T zw zp zg 0))), .val (.int (own_ad (own_T zw zp zg 1))), .val (.int (own_ad (own_T zw zp zg 2))), .val (.int (own_ad (own_T zw zp zg 3))), .val (.int (own_ad (own_T zw zp zg 4))), .val (.int (own_ad (own_T zw zp zg 5))), .unset] [(.int (own_ad (own_T zw zp zg 6)))])
                  refine own_go (fun t k => XS.istore X74.here hx rfl (hb hby at_375) rfl (l' := #[.val (.int za), .val (.long zb), .second, .val (.int zc), .val (.int zm), .val (.int zsm), .val (.int zw), .val (.long zg), .second, .val (.int zp), .val (.ref zo), .val (.int (1 : Int32)), .val (.int (own_ad (own_T zw zp zg 0))), .val (.int (own_ad (own_T zw zp zg 1))), .val (.int (own_ad (own_T zw zp zg 2))), .val (.int (own_ad (own_T zw zp zg 3))), .val (.int (own_ad (own_T zw zp zg 4))), .val (.int (own_ad (own_T zw zp zg 5))), .val (.int (own_ad (own_T zw zp zg 6)))]) rfl k) ?_
                  show own_WP _ _ _ _ T74 (mkF m 377 #[.val (.int za), .val (.long zb), .second, .val (.int zc), .val (.int zm), .val (.int zsm), .val (.int zw), .val (.long zg), .second, .val (.int zp), .val (.ref zo), .val (.int (1 : Int32)), .val (.int (own_ad (own_T zw zp zg 0))), .val (.int (own_ad (own_T zw zp zg 1))), .val (.int (own_ad (own_T zw zp zg 2))), .val (.int (own_ad (own_T zw zp zg 3))), .val (.int (own_ad (own_T zw zp zg 4))), .val (.int (own_ad (own_T zw zp zg 5))), .val (.int (own_ad (own_T zw zp zg 6)))] [])
                  refine own_go (fun t k => XS.iload X74.here hx rfl (hb hby at_377) rfl  k) ?_
                  show own_WP _ _ _ _ T74 (mkF m 379 #[.val (.int za), .val (.long zb), .second, .val (.int zc), .val (.int zm), .val (.int zsm), .val (.int zw), .val (.long zg), .second, .val (.int zp), .val (.ref zo), .val (.int (1 : Int32)), .val (.int (own_ad (own_T zw zp zg 0))), .val (.int (own_ad (own_T zw zp zg 1))), .val (.int (own_ad (own_T zw zp zg 2))), .val (.int (own_ad (own_T zw zp zg 3))), .val (.int (own_ad (own_T zw zp zg 4))), .val (.int (own_ad (own_T zw zp zg 5))), .val (.int (own_ad (own_T zw zp zg 6)))] [(.int (1 : Int32))])
                  have hc379 : ¬ ((1 : Int32) = (0 : Int32)) := by decide
                  refine own_go (fun t k => XS.ifNo X74.here hx rfl (hb hby at_379) rfl ((if0 _ _).trans (feq hc379).1) k) ?_
                  show own_WP _ _ _ _ T74 (mkF m 382 #[.val (.int za), .val (.long zb), .second, .val (.int zc), .val (.int zm), .val (.int zsm), .val (.int zw), .val (.long zg), .second, .val (.int zp), .val (.ref zo), .val (.int (1 : Int32)), .val (.int (own_ad (own_T zw zp zg 0))), .val (.int (own_ad (own_T zw zp zg 1))), .val (.int (own_ad (own_T zw zp zg 2))), .val (.int (own_ad (own_T zw zp zg 3))), .val (.int (own_ad (own_T zw zp zg 4))), .val (.int (own_ad (own_T zw zp zg 5))), .val (.int (own_ad (own_T zw zp zg 6)))] [])
                  refine own_go (fun t k => XS.iload X74.here hx rfl (hb hby at_382) rfl  k) ?_
                  show own_WP _ _ _ _ T74 (mkF m 384 #[.val (.int za), .val (.long zb), .second, .val (.int zc), .val (.int zm), .val (.int zsm), .val (.int zw), .val (.long zg), .second, .val (.int zp), .val (.ref zo), .val (.int (1 : Int32)), .val (.int (own_ad (own_T zw zp zg 0))), .val (.int (own_ad (own_T zw zp zg 1))), .val (.int (own_ad (own_T zw zp zg 2))), .val (.int (own_ad (own_T zw zp zg 3))), .val (.int (own_ad (own_T zw zp zg 4))), .val (.int (own_ad (own_T zw zp zg 5))), .val (.int (own_ad (own_T zw zp zg 6)))] [(.int (own_ad (own_T zw zp zg 6)))])
                  refine own_go (fun t k => XS.bipush X74.here hx rfl (hb hby at_384) k) ?_
                  show own_WP _ _ _ _ T74 (mkF m 386 #[.val (.int za), .val (.long zb), .second, .val (.int zc), .val (.int zm), .val (.int zsm), .val (.int zw), .val (.long zg), .second, .val (.int zp), .val (.ref zo), .val (.int (1 : Int32)), .val (.int (own_ad (own_T zw zp zg 0))), .val (.int (own_ad (own_T zw zp zg 1))), .val (.int (own_ad (own_T zw zp zg 2))), .val (.int (own_ad (own_T zw zp zg 3))), .val (.int (own_ad (own_T zw zp zg 4))), .val (.int (own_ad (own_T zw zp zg 5))), .val (.int (own_ad (own_T zw zp zg 6)))] [(.int (6 : Int32)), (.int (own_ad (own_T zw zp zg 6)))])
                  refine own_go (fun t k => XS.iload X74.here hx rfl (hb hby at_386) rfl  k) ?_
                  show own_WP _ _ _ _ T74 (mkF m 388 #[.val (.int za), .val (.long zb), .second, .val (.int zc), .val (.int zm), .val (.int zsm), .val (.int zw), .val (.long zg), .second, .val (.int zp), .val (.ref zo), .val (.int (1 : Int32)), .val (.int (own_ad (own_T zw zp zg 0))), .val (.int (own_ad (own_T zw zp zg 1))), .val (.int (own_ad (own_T zw zp zg 2))), .val (.int (own_ad (own_T zw zp zg 3))), .val (.int (own_ad (own_T zw zp zg 4))), .val (.int (own_ad (own_T zw zp zg 5))), .val (.int (own_ad (own_T zw zp zg 6)))] [(.int zw), (.int (6 : Int32)), (.int (own_ad (own_T zw zp zg 6)))])
                  refine own_go (fun t k => XS.iload X74.here hx rfl (hb hby at_388) rfl  k) ?_
                  show own_WP _ _ _ _ T74 (mkF m 390 #[.val (.int za), .val (.long zb), .second, .val (.int zc), .val (.int zm), .val (.int zsm), .val (.int zw), .val (.long zg), .second, .val (.int zp), .val (.ref zo), .val (.int (1 : Int32)), .val (.int (own_ad (own_T zw zp zg 0))), .val (.int (own_ad (own_T zw zp zg 1))), .val (.int (own_ad (own_T zw zp zg 2))), .val (.int (own_ad (own_T zw zp zg 3))), .val (.int (own_ad (own_T zw zp zg 4))), .val (.int (own_ad (own_T zw zp zg 5))), .val (.int (own_ad (own_T zw zp zg 6)))] [(.int zp), (.int zw), (.int (6 : Int32)), (.int (own_ad (own_T zw zp zg 6)))])
                  refine own_go (fun t k => XS.lload X74.here hx rfl (hb hby at_390) rfl  k) ?_
                  show own_WP _ _ _ _ T74 (mkF m 392 #[.val (.int za), .val (.long zb), .second, .val (.int zc), .val (.int zm), .val (.int zsm), .val (.int zw), .val (.long zg), .second, .val (.int zp), .val (.ref zo), .val (.int (1 : Int32)), .val (.int (own_ad (own_T zw zp zg 0))), .val (.int (own_ad (own_T zw zp zg 1))), .val (.int (own_ad (own_T zw zp zg 2))), .val (.int (own_ad (own_T zw zp zg 3))), .val (.int (own_ad (own_T zw zp zg 4))), .val (.int (own_ad (own_T zw zp zg 5))), .val (.int (own_ad (own_T zw zp zg 6)))] [(.long zg), (.int zp), (.int zw), (.int (6 : Int32)), (.int (own_ad (own_T zw zp zg 6)))])
                  obtain ⟨_, _, ⟨T80, L80, k80, n80⟩, -, X80, ⟨Lc80, hQ80, l80, y80, z80⟩, st80⟩ := Jvm.LawKit.callS X74 hx (y := (⟨"com/example/soak/soak/control/EdgeWindowAdmitNewCallPinLaw", "expected", "(IIIJ)Z"⟩ : MethodName)) hown (mvT hZ (hw _ (List.mem_of_getElem? (i := 21) rfl))) (mvT hZ (hw _ (List.mem_of_getElem? (i := 22) rfl))) (mvT hZ (hw _ (List.mem_of_getElem? (i := 23) rfl))) (mvT hZ (hw _ (List.mem_of_getElem? (i := 24) rfl))) (by decide) (backOf (W := 1) (rm5 l Z a0 hw [] (6 : Int32) zw zp zg  T74.heap n0 (own_le Z0 K79) ) hZ (hw _ (List.mem_of_getElem? (i := 24) rfl)) (hw _ (List.mem_of_getElem? (i := 23) rfl)) (by decide) (by decide)) (g := (mkF m 392 #[.val (.int za), .val (.long zb), .second, .val (.int zc), .val (.int zm), .val (.int zsm), .val (.int zw), .val (.long zg), .second, .val (.int zp), .val (.ref zo), .val (.int (1 : Int32)), .val (.int (own_ad (own_T zw zp zg 0))), .val (.int (own_ad (own_T zw zp zg 1))), .val (.int (own_ad (own_T zw zp zg 2))), .val (.int (own_ad (own_T zw zp zg 3))), .val (.int (own_ad (own_T zw zp zg 4))), .val (.int (own_ad (own_T zw zp zg 5))), .val (.int (own_ad (own_T zw zp zg 6)))] [(.long zg), (.int zp), (.int zw), (.int (6 : Int32)), (.int (own_ad (own_T zw zp zg 6)))])) rfl (by rw [hml]; rfl) (argsL := [(.int (6 : Int32)), (.int zw), (.int zp), (.long zg)]) (rest := [(.int (own_ad (own_T zw zp zg 6)))]) (lenOf own_pd92526 rfl) rfl (by show 2 * 0 + _ ≤ _; exact Nat.le_of_eq rfl) (hb hby at_392) (fun _ _ => ⟨rfl, rfl, (by decide : 1 + 0 ≤ _), (by decide : 1 + 0 ≤ _)⟩)
                  dsimp only [Pt.U, Pt.locs, Pt.cells, Pt.slots] at X80 l80 y80 z80 st80 hQ80
                  subst l80 y80 z80
                  obtain ⟨rfl, N80q, eq80⟩ := hQ80
                  have N80 := Fr.app N74 N80q
                  refine own_go st80 ?_
                  show own_WP _ _ _ _ T80 (mkF m 395 #[.val (.int za), .val (.long zb), .second, .val (.int zc), .val (.int zm), .val (.int zsm), .val (.int zw), .val (.long zg), .second, .val (.int zp), .val (.ref zo), .val (.int (1 : Int32)), .val (.int (own_ad (own_T zw zp zg 0))), .val (.int (own_ad (own_T zw zp zg 1))), .val (.int (own_ad (own_T zw zp zg 2))), .val (.int (own_ad (own_T zw zp zg 3))), .val (.int (own_ad (own_T zw zp zg 4))), .val (.int (own_ad (own_T zw zp zg 5))), .val (.int (own_ad (own_T zw zp zg 6)))] [(.int (own_ex (6 : Int32) zw zp zg)), (.int (own_ad (own_T zw zp zg 6)))])
                  have hc395 : (own_ad (own_T zw zp zg 6)) = (own_ex (6 : Int32) zw zp zg) := by
                    exact own_key zw zp zg hw1 hp1.1 hp1.2 hg1 hg2 6 (by decide)
                  refine own_go (fun t k => XS.icmpNo X80.here hx rfl (hb hby at_395) rfl (teq hc395).2 k) ?_
                  show own_WP _ _ _ _ T80 (mkF m 398 #[.val (.int za), .val (.long zb), .second, .val (.int zc), .val (.int zm), .val (.int zsm), .val (.int zw), .val (.long zg), .second, .val (.int zp), .val (.ref zo), .val (.int (1 : Int32)), .val (.int (own_ad (own_T zw zp zg 0))), .val (.int (own_ad (own_T zw zp zg 1))), .val (.int (own_ad (own_T zw zp zg 2))), .val (.int (own_ad (own_T zw zp zg 3))), .val (.int (own_ad (own_T zw zp zg 4))), .val (.int (own_ad (own_T zw zp zg 5))), .val (.int (own_ad (own_T zw zp zg 6)))] [])
                  refine own_go (fun t k => XS.iconst X80.here hx rfl (hb hby at_398) k) ?_
                  show own_WP _ _ _ _ T80 (mkF m 399 #[.val (.int za), .val (.long zb), .second, .val (.int zc), .val (.int zm), .val (.int zsm), .val (.int zw), .val (.long zg), .second, .val (.int zp), .val (.ref zo), .val (.int (1 : Int32)), .val (.int (own_ad (own_T zw zp zg 0))), .val (.int (own_ad (own_T zw zp zg 1))), .val (.int (own_ad (own_T zw zp zg 2))), .val (.int (own_ad (own_T zw zp zg 3))), .val (.int (own_ad (own_T zw zp zg 4))), .val (.int (own_ad (own_T zw zp zg 5))), .val (.int (own_ad (own_T zw zp zg 6)))] [(.int (1 : Int32))])
                  refine own_go (fun t k => XS.goto X80.here hx rfl (pc0 := 399) (pc' := 403) rfl (hb hby at_399) (by decide) (by decide) k) ?_
                  show own_WP _ _ _ _ T80 (mkF m 403 #[.val (.int za), .val (.long zb), .second, .val (.int zc), .val (.int zm), .val (.int zsm), .val (.int zw), .val (.long zg), .second, .val (.int zp), .val (.ref zo), .val (.int (1 : Int32)), .val (.int (own_ad (own_T zw zp zg 0))), .val (.int (own_ad (own_T zw zp zg 1))), .val (.int (own_ad (own_T zw zp zg 2))), .val (.int (own_ad (own_T zw zp zg 3))), .val (.int (own_ad (own_T zw zp zg 4))), .val (.int (own_ad (own_T zw zp zg 5))), .val (.int (own_ad (own_T zw zp zg 6)))] [(.int (1 : Int32))])
                  refine own_go (fun t k => XS.istore X80.here hx rfl (hb hby at_403) rfl (l' := #[.val (.int za), .val (.long zb), .second, .val (.int zc), .val (.int zm), .val (.int zsm), .val (.int zw), .val (.long zg), .second, .val (.int zp), .val (.ref zo), .val (.int (1 : Int32)), .val (.int (own_ad (own_T zw zp zg 0))), .val (.int (own_ad (own_T zw zp zg 1))), .val (.int (own_ad (own_T zw zp zg 2))), .val (.int (own_ad (own_T zw zp zg 3))), .val (.int (own_ad (own_T zw zp zg 4))), .val (.int (own_ad (own_T zw zp zg 5))), .val (.int (own_ad (own_T zw zp zg 6)))]) rfl k) ?_
                  show own_WP _ _ _ _ T80 (mkF m 405 #[.val (.int za), .val (.long zb), .second, .val (.int zc), .val (.int zm), .val (.int zsm), .val (.int zw), .val (.long zg), .second, .val (.int zp), .val (.ref zo), .val (.int (1 : Int32)), .val (.int (own_ad (own_T zw zp zg 0))), .val (.int (own_ad (own_T zw zp zg 1))), .val (.int (own_ad (own_T zw zp zg 2))), .val (.int (own_ad (own_T zw zp zg 3))), .val (.int (own_ad (own_T zw zp zg 4))), .val (.int (own_ad (own_T zw zp zg 5))), .val (.int (own_ad (own_T zw zp zg 6)))] [])
                  refine own_go (fun t k => XS.iload X80.here hx rfl (hb hby at_405) rfl  k) ?_
                  show own_WP _ _ _ _ T80 (mkF m 407 #[.val (.int za), .val (.long zb), .second, .val (.int zc), .val (.int zm), .val (.int zsm), .val (.int zw), .val (.long zg), .second, .val (.int zp), .val (.ref zo), .val (.int (1 : Int32)), .val (.int (own_ad (own_T zw zp zg 0))), .val (.int (own_ad (own_T zw zp zg 1))), .val (.int (own_ad (own_T zw zp zg 2))), .val (.int (own_ad (own_T zw zp zg 3))), .val (.int (own_ad (own_T zw zp zg 4))), .val (.int (own_ad (own_T zw zp zg 5))), .val (.int (own_ad (own_T zw zp zg 6)))] [(.int (1 : Int32))])
                  refine own_retN X80 hx Bd.notSynchronized (t := .boolean) (by simp) Bd.returns (hb hby at_407) (by decide) (by decide) ?_
                  rw [eq80]
                  exact ⟨rfl, N80⟩
                show own_WP _ _ _ _ T70 (mkF m 356 #[.val (.int za), .val (.long zb), .second, .val (.int zc), .val (.int zm), .val (.int zsm), .val (.int zw), .val (.long zg), .second, .val (.int zp), .val (.ref zo), .val (.int (1 : Int32)), .val (.int (own_ad (own_T zw zp zg 0))), .val (.int (own_ad (own_T zw zp zg 1))), .val (.int (own_ad (own_T zw zp zg 2))), .val (.int (own_ad (own_T zw zp zg 3))), .val (.int (own_ad (own_T zw zp zg 4))), .val (.int (own_ad (own_T zw zp zg 5))), .unset] [])
                refine own_go (fun t k => XS.iload X70.here hx rfl (hb hby at_356) rfl  k) ?_
                show own_WP _ _ _ _ T70 (mkF m 358 #[.val (.int za), .val (.long zb), .second, .val (.int zc), .val (.int zm), .val (.int zsm), .val (.int zw), .val (.long zg), .second, .val (.int zp), .val (.ref zo), .val (.int (1 : Int32)), .val (.int (own_ad (own_T zw zp zg 0))), .val (.int (own_ad (own_T zw zp zg 1))), .val (.int (own_ad (own_T zw zp zg 2))), .val (.int (own_ad (own_T zw zp zg 3))), .val (.int (own_ad (own_T zw zp zg 4))), .val (.int (own_ad (own_T zw zp zg 5))), .unset] [(.int zp)])
                refine own_go (fun t k => XS.bipush X70.here hx rfl (hb hby at_358) k) ?_
                show own_WP _ _ _ _ T70 (mkF m 360 #[.val (.int za), .val (.long zb), .second, .val (.int zc), .val (.int zm), .val (.int zsm), .val (.int zw), .val (.long zg), .second, .val (.int zp), .val (.ref zo), .val (.int (1 : Int32)), .val (.int (own_ad (own_T zw zp zg 0))), .val (.int (own_ad (own_T zw zp zg 1))), .val (.int (own_ad (own_T zw zp zg 2))), .val (.int (own_ad (own_T zw zp zg 3))), .val (.int (own_ad (own_T zw zp zg 4))), .val (.int (own_ad (own_T zw zp zg 5))), .unset] [(.int (6 : Int32)), (.int zp)])
                by_cases hc360 : zp = (6 : Int32)
                · refine own_go (fun t k => XS.icmpNo X70.here hx rfl (hb hby at_360) rfl (teq hc360).2 k) ?_
                  show own_WP _ _ _ _ T70 (mkF m 363 #[.val (.int za), .val (.long zb), .second, .val (.int zc), .val (.int zm), .val (.int zsm), .val (.int zw), .val (.long zg), .second, .val (.int zp), .val (.ref zo), .val (.int (1 : Int32)), .val (.int (own_ad (own_T zw zp zg 0))), .val (.int (own_ad (own_T zw zp zg 1))), .val (.int (own_ad (own_T zw zp zg 2))), .val (.int (own_ad (own_T zw zp zg 3))), .val (.int (own_ad (own_T zw zp zg 4))), .val (.int (own_ad (own_T zw zp zg 5))), .unset] [])
                  refine own_go (fun t k => XS.aload X70.here hx rfl (hb hby at_363) rfl rfl  k) ?_
                  show own_WP _ _ _ _ T70 (mkF m 365 #[.val (.int za), .val (.long zb), .second, .val (.int zc), .val (.int zm), .val (.int zsm), .val (.int zw), .val (.long zg), .second, .val (.int zp), .val (.ref zo), .val (.int (1 : Int32)), .val (.int (own_ad (own_T zw zp zg 0))), .val (.int (own_ad (own_T zw zp zg 1))), .val (.int (own_ad (own_T zw zp zg 2))), .val (.int (own_ad (own_T zw zp zg 3))), .val (.int (own_ad (own_T zw zp zg 4))), .val (.int (own_ad (own_T zw zp zg 5))), .unset] [(.ref zo)])
                  refine own_go (fun t k => XS.lload X70.here hx rfl (hb hby at_365) rfl  k) ?_
                  show own_WP _ _ _ _ T70 (mkF m 367 #[.val (.int za), .val (.long zb), .second, .val (.int zc), .val (.int zm), .val (.int zsm), .val (.int zw), .val (.long zg), .second, .val (.int zp), .val (.ref zo), .val (.int (1 : Int32)), .val (.int (own_ad (own_T zw zp zg 0))), .val (.int (own_ad (own_T zw zp zg 1))), .val (.int (own_ad (own_T zw zp zg 2))), .val (.int (own_ad (own_T zw zp zg 3))), .val (.int (own_ad (own_T zw zp zg 4))), .val (.int (own_ad (own_T zw zp zg 5))), .unset] [(.long zg), (.ref zo)])
                  obtain ⟨cq81, kq81, q81a, q81b, q81c⟩ := isOf hZ eq70 f65
                  obtain ⟨_, _, ⟨T81, L81, k81, n81⟩, -, X81, ⟨Lc81, hQ81, l81, y81, z81⟩, st81⟩ := X70.virtualBack hx (y := (⟨"com/example/soak/soak/control/EdgeWindow", "grant", "(J)V"⟩ : MethodName)) (z := (⟨"com/example/soak/soak/control/EdgeWindow", "grant", "(J)V"⟩ : MethodName)) hown (mvT hZ (hw _ (List.mem_of_getElem? (i := 25) rfl))) (mvT hZ (hw _ (List.mem_of_getElem? (i := 26) rfl))) (notFace_of_selects (args := #[]) (mvT hZ (hw _ (List.mem_of_getElem? (i := 28) rfl)))) (mvT hZ (hw _ (List.mem_of_getElem? (i := 28) rfl))) (mvT hZ (hw _ (List.mem_of_getElem? (i := 27) rfl))) (by decide) (backOf (W := 0) (rm6 l Z a0 hw [] zo zg (own_aw (own_T zw zp zg 5)) T64.heap n0 (own_le Z0 K69) f65 f66 g_zo) hZ (hw _ (List.mem_of_getElem? (i := 29) rfl)) (hw _ (List.mem_of_getElem? (i := 4) rfl)) (by decide) (by decide)) q81a q81c (g := (mkF m 367 #[.val (.int za), .val (.long zb), .second, .val (.int zc), .val (.int zm), .val (.int zsm), .val (.int zw), .val (.long zg), .second, .val (.int zp), .val (.ref zo), .val (.int (1 : Int32)), .val (.int (own_ad (own_T zw zp zg 0))), .val (.int (own_ad (own_T zw zp zg 1))), .val (.int (own_ad (own_T zw zp zg 2))), .val (.int (own_ad (own_T zw zp zg 3))), .val (.int (own_ad (own_T zw zp zg 4))), .val (.int (own_ad (own_T zw zp zg 5))), .unset] [(.long zg), (.ref zo)])) rfl (by rw [hml]; rfl) (Steps.refl _) (argsL := [(.long zg)]) (rest := []) (lenOf own_pd99011 rfl) rfl (by show 2 * 0 + _ ≤ _; exact Nat.le_of_eq rfl) (hb hby at_367) (fun _ _ => ⟨rfl, eq70, (by decide : 1 + 0 ≤ _), (by decide : 1 + 0 ≤ _)⟩)
                  dsimp only [Pt.U, Pt.locs, Pt.cells, Pt.slots] at X81 l81 y81 z81 st81 hQ81
                  subst l81 y81 z81
                  obtain ⟨rfl, N81q, Kc81, f82, f83⟩ := hQ81
                  have N81 := Fr.app N70 N81q
                  refine own_tr st81 ?_
                  have f84 : Exa Z T81.heap zo "com/example/soak/soak/control/EdgeWindow" := f65.keep Kc81
                  have K86 : Keep h0 T81.heap [] := K69.trans Kc81 (fun x hx => by cases List.mem_singleton.mp hx; exact Or.inr sz_zo)
                  show own_WP _ _ _ _ T81 (mkF m 370 #[.val (.int za), .val (.long zb), .second, .val (.int zc), .val (.int zm), .val (.int zsm), .val (.int zw), .val (.long zg), .second, .val (.int zp), .val (.ref zo), .val (.int (1 : Int32)), .val (.int (own_ad (own_T zw zp zg 0))), .val (.int (own_ad (own_T zw zp zg 1))), .val (.int (own_ad (own_T zw zp zg 2))), .val (.int (own_ad (own_T zw zp zg 3))), .val (.int (own_ad (own_T zw zp zg 4))), .val (.int (own_ad (own_T zw zp zg 5))), .unset] [])
                  exact J370  _ _ _ X81 rfl N81 K86 f82 (by rw [show own_T zw zp zg 6 = own_aw (own_T zw zp zg 5) + zg from if_pos hc360]; exact f83) 
                · refine own_go (fun t k => XS.icmpYes X70.here hx rfl (pc0 := 360) (pc' := 370) rfl (hb hby at_360) rfl (feq hc360).2 (by decide) (by decide) k) ?_
                  show own_WP _ _ _ _ T70 (mkF m 370 #[.val (.int za), .val (.long zb), .second, .val (.int zc), .val (.int zm), .val (.int zsm), .val (.int zw), .val (.long zg), .second, .val (.int zp), .val (.ref zo), .val (.int (1 : Int32)), .val (.int (own_ad (own_T zw zp zg 0))), .val (.int (own_ad (own_T zw zp zg 1))), .val (.int (own_ad (own_T zw zp zg 2))), .val (.int (own_ad (own_T zw zp zg 3))), .val (.int (own_ad (own_T zw zp zg 4))), .val (.int (own_ad (own_T zw zp zg 5))), .unset] [])
                  exact J370  _ _ _ X70 eq70 N70 K69 f65 (by rw [show own_T zw zp zg 6 = own_aw (own_T zw zp zg 5) from if_neg hc360]; exact f66) 
              show own_WP _ _ _ _ T60 (mkF m 309 #[.val (.int za), .val (.long zb), .second, .val (.int zc), .val (.int zm), .val (.int zsm), .val (.int zw), .val (.long zg), .second, .val (.int zp), .val (.ref zo), .val (.int (1 : Int32)), .val (.int (own_ad (own_T zw zp zg 0))), .val (.int (own_ad (own_T zw zp zg 1))), .val (.int (own_ad (own_T zw zp zg 2))), .val (.int (own_ad (own_T zw zp zg 3))), .val (.int (own_ad (own_T zw zp zg 4))), .unset, .unset] [])
              refine own_go (fun t k => XS.iload X60.here hx rfl (hb hby at_309) rfl  k) ?_
              show own_WP _ _ _ _ T60 (mkF m 311 #[.val (.int za), .val (.long zb), .second, .val (.int zc), .val (.int zm), .val (.int zsm), .val (.int zw), .val (.long zg), .second, .val (.int zp), .val (.ref zo), .val (.int (1 : Int32)), .val (.int (own_ad (own_T zw zp zg 0))), .val (.int (own_ad (own_T zw zp zg 1))), .val (.int (own_ad (own_T zw zp zg 2))), .val (.int (own_ad (own_T zw zp zg 3))), .val (.int (own_ad (own_T zw zp zg 4))), .unset, .unset] [(.int zp)])
              refine own_go (fun t k => XS.iconst X60.here hx rfl (hb hby at_311) k) ?_
              show own_WP _ _ _ _ T60 (mkF m 312 #[.val (.int za), .val (.long zb), .second, .val (.int zc), .val (.int zm), .val (.int zsm), .val (.int zw), .val (.long zg), .second, .val (.int zp), .val (.ref zo), .val (.int (1 : Int32)), .val (.int (own_ad (own_T zw zp zg 0))), .val (.int (own_ad (own_T zw zp zg 1))), .val (.int (own_ad (own_T zw zp zg 2))), .val (.int (own_ad (own_T zw zp zg 3))), .val (.int (own_ad (own_T zw zp zg 4))), .unset, .unset] [(.int (5 : Int32)), (.int zp)])
              by_cases hc312 : zp = (5 : Int32)
              · refine own_go (fun t k => XS.icmpNo X60.here hx rfl (hb hby at_312) rfl (teq hc312).2 k) ?_
                show own_WP _ _ _ _ T60 (mkF m 315 #[.val (.int za), .val (.long zb), .second, .val (.int zc), .val (.int zm), .val (.int zsm), .val (.int zw), .val (.long zg), .second, .val (.int zp), .val (.ref zo), .val (.int (1 : Int32)), .val (.int (own_ad (own_T zw zp zg 0))), .val (.int (own_ad (own_T zw zp zg 1))), .val (.int (own_ad (own_T zw zp zg 2))), .val (.int (own_ad (own_T zw zp zg 3))), .val (.int (own_ad (own_T zw zp zg 4))), .unset, .unset] [])
                refine own_go (fun t k => XS.aload X60.here hx rfl (hb hby at_315) rfl rfl  k) ?_
                show own_WP _ _ _ _ T60 (mkF m 317 #[.val (.int za), .val (.long zb), .second, .val (.int zc), .val (.int zm), .val (.int zsm), .val (.int zw), .val (.long zg), .second, .val (.int zp), .val (.ref zo), .val (.int (1 : Int32)), .val (.int (own_ad (own_T zw zp zg 0))), .val (.int (own_ad (own_T zw zp zg 1))), .val (.int (own_ad (own_T zw zp zg 2))), .val (.int (own_ad (own_T zw zp zg 3))), .val (.int (own_ad (own_T zw zp zg 4))), .unset, .unset] [(.ref zo)])
                refine own_go (fun t k => XS.lload X60.here hx rfl (hb hby at_317) rfl  k) ?_
                show own_WP _ _ _ _ T60 (mkF m 319 #[.val (.int za), .val (.long zb), .second, .val (.int zc), .val (.int zm), .val (.int zsm), .val (.int zw), .val (.long zg), .second, .val (.int zp), .val (.ref zo), .val (.int (1 : Int32)), .val (.int (own_ad (own_T zw zp zg 0))), .val (.int (own_ad (own_T zw zp zg 1))), .val (.int (own_ad (own_T zw zp zg 2))), .val (.int (own_ad (own_T zw zp zg 3))), .val (.int (own_ad (own_T zw zp zg 4))), .unset, .unset] [(.long zg), (.ref zo)])
                obtain ⟨cq87, kq87, q87a, q87b, q87c⟩ := isOf hZ eq60 f55
                obtain ⟨_, _, ⟨T87, L87, k87, n87⟩, -, X87, ⟨Lc87, hQ87, l87, y87, z87⟩, st87⟩ := X60.virtualBack hx (y := (⟨"com/example/soak/soak/control/EdgeWindow", "grant", "(J)V"⟩ : MethodName)) (z := (⟨"com/example/soak/soak/control/EdgeWindow", "grant", "(J)V"⟩ : MethodName)) hown (mvT hZ (hw _ (List.mem_of_getElem? (i := 25) rfl))) (mvT hZ (hw _ (List.mem_of_getElem? (i := 26) rfl))) (notFace_of_selects (args := #[]) (mvT hZ (hw _ (List.mem_of_getElem? (i := 28) rfl)))) (mvT hZ (hw _ (List.mem_of_getElem? (i := 28) rfl))) (mvT hZ (hw _ (List.mem_of_getElem? (i := 27) rfl))) (by decide) (backOf (W := 0) (rm6 l Z a0 hw [] zo zg (own_aw (own_T zw zp zg 4)) T54.heap n0 (own_le Z0 K59) f55 f56 g_zo) hZ (hw _ (List.mem_of_getElem? (i := 29) rfl)) (hw _ (List.mem_of_getElem? (i := 4) rfl)) (by decide) (by decide)) q87a q87c (g := (mkF m 319 #[.val (.int za), .val (.long zb), .second, .val (.int zc), .val (.int zm), .val (.int zsm), .val (.int zw), .val (.long zg), .second, .val (.int zp), .val (.ref zo), .val (.int (1 : Int32)), .val (.int (own_ad (own_T zw zp zg 0))), .val (.int (own_ad (own_T zw zp zg 1))), .val (.int (own_ad (own_T zw zp zg 2))), .val (.int (own_ad (own_T zw zp zg 3))), .val (.int (own_ad (own_T zw zp zg 4))), .unset, .unset] [(.long zg), (.ref zo)])) rfl (by rw [hml]; rfl) (Steps.refl _) (argsL := [(.long zg)]) (rest := []) (lenOf own_pd99011 rfl) rfl (by show 2 * 0 + _ ≤ _; exact Nat.le_of_eq rfl) (hb hby at_319) (fun _ _ => ⟨rfl, eq60, (by decide : 1 + 0 ≤ _), (by decide : 1 + 0 ≤ _)⟩)
                dsimp only [Pt.U, Pt.locs, Pt.cells, Pt.slots] at X87 l87 y87 z87 st87 hQ87
                subst l87 y87 z87
                obtain ⟨rfl, N87q, Kc87, f88, f89⟩ := hQ87
                have N87 := Fr.app N60 N87q
                refine own_tr st87 ?_
                have f90 : Exa Z T87.heap zo "com/example/soak/soak/control/EdgeWindow" := f55.keep Kc87
                have K92 : Keep h0 T87.heap [] := K59.trans Kc87 (fun x hx => by cases List.mem_singleton.mp hx; exact Or.inr sz_zo)
                show own_WP _ _ _ _ T87 (mkF m 322 #[.val (.int za), .val (.long zb), .second, .val (.int zc), .val (.int zm), .val (.int zsm), .val (.int zw), .val (.long zg), .second, .val (.int zp), .val (.ref zo), .val (.int (1 : Int32)), .val (.int (own_ad (own_T zw zp zg 0))), .val (.int (own_ad (own_T zw zp zg 1))), .val (.int (own_ad (own_T zw zp zg 2))), .val (.int (own_ad (own_T zw zp zg 3))), .val (.int (own_ad (own_T zw zp zg 4))), .unset, .unset] [])
                exact J322  _ _ _ X87 rfl N87 K92 f88 (by rw [show own_T zw zp zg 5 = own_aw (own_T zw zp zg 4) + zg from if_pos hc312]; exact f89) 
              · refine own_go (fun t k => XS.icmpYes X60.here hx rfl (pc0 := 312) (pc' := 322) rfl (hb hby at_312) rfl (feq hc312).2 (by decide) (by decide) k) ?_
                show own_WP _ _ _ _ T60 (mkF m 322 #[.val (.int za), .val (.long zb), .second, .val (.int zc), .val (.int zm), .val (.int zsm), .val (.int zw), .val (.long zg), .second, .val (.int zp), .val (.ref zo), .val (.int (1 : Int32)), .val (.int (own_ad (own_T zw zp zg 0))), .val (.int (own_ad (own_T zw zp zg 1))), .val (.int (own_ad (own_T zw zp zg 2))), .val (.int (own_ad (own_T zw zp zg 3))), .val (.int (own_ad (own_T zw zp zg 4))), .unset, .unset] [])
                exact J322  _ _ _ X60 eq60 N60 K59 f55 (by rw [show own_T zw zp zg 5 = own_aw (own_T zw zp zg 4) from if_neg hc312]; exact f56) 
            show own_WP _ _ _ _ T50 (mkF m 262 #[.val (.int za), .val (.long zb), .second, .val (.int zc), .val (.int zm), .val (.int zsm), .val (.int zw), .val (.long zg), .second, .val (.int zp), .val (.ref zo), .val (.int (1 : Int32)), .val (.int (own_ad (own_T zw zp zg 0))), .val (.int (own_ad (own_T zw zp zg 1))), .val (.int (own_ad (own_T zw zp zg 2))), .val (.int (own_ad (own_T zw zp zg 3))), .unset, .unset, .unset] [])
            refine own_go (fun t k => XS.iload X50.here hx rfl (hb hby at_262) rfl  k) ?_
            show own_WP _ _ _ _ T50 (mkF m 264 #[.val (.int za), .val (.long zb), .second, .val (.int zc), .val (.int zm), .val (.int zsm), .val (.int zw), .val (.long zg), .second, .val (.int zp), .val (.ref zo), .val (.int (1 : Int32)), .val (.int (own_ad (own_T zw zp zg 0))), .val (.int (own_ad (own_T zw zp zg 1))), .val (.int (own_ad (own_T zw zp zg 2))), .val (.int (own_ad (own_T zw zp zg 3))), .unset, .unset, .unset] [(.int zp)])
            refine own_go (fun t k => XS.iconst X50.here hx rfl (hb hby at_264) k) ?_
            show own_WP _ _ _ _ T50 (mkF m 265 #[.val (.int za), .val (.long zb), .second, .val (.int zc), .val (.int zm), .val (.int zsm), .val (.int zw), .val (.long zg), .second, .val (.int zp), .val (.ref zo), .val (.int (1 : Int32)), .val (.int (own_ad (own_T zw zp zg 0))), .val (.int (own_ad (own_T zw zp zg 1))), .val (.int (own_ad (own_T zw zp zg 2))), .val (.int (own_ad (own_T zw zp zg 3))), .unset, .unset, .unset] [(.int (4 : Int32)), (.int zp)])
            by_cases hc265 : zp = (4 : Int32)
            · refine own_go (fun t k => XS.icmpNo X50.here hx rfl (hb hby at_265) rfl (teq hc265).2 k) ?_
              show own_WP _ _ _ _ T50 (mkF m 268 #[.val (.int za), .val (.long zb), .second, .val (.int zc), .val (.int zm), .val (.int zsm), .val (.int zw), .val (.long zg), .second, .val (.int zp), .val (.ref zo), .val (.int (1 : Int32)), .val (.int (own_ad (own_T zw zp zg 0))), .val (.int (own_ad (own_T zw zp zg 1))), .val (.int (own_ad (own_T zw zp zg 2))), .val (.int (own_ad (own_T zw zp zg 3))), .unset, .unset, .unset] [])
              refine own_go (fun t k => XS.aload X50.here hx rfl (hb hby at_268) rfl rfl  k) ?_
              show own_WP _ _ _ _ T50 (mkF m 270 #[.val (.int za), .val (.long zb), .second, .val (.int zc), .val (.int zm), .val (.int zsm), .val (.int zw), .val (.long zg), .second, .val (.int zp), .val (.ref zo), .val (.int (1 : Int32)), .val (.int (own_ad (own_T zw zp zg 0))), .val (.int (own_ad (own_T zw zp zg 1))), .val (.int (own_ad (own_T zw zp zg 2))), .val (.int (own_ad (own_T zw zp zg 3))), .unset, .unset, .unset] [(.ref zo)])
              refine own_go (fun t k => XS.lload X50.here hx rfl (hb hby at_270) rfl  k) ?_
              show own_WP _ _ _ _ T50 (mkF m 272 #[.val (.int za), .val (.long zb), .second, .val (.int zc), .val (.int zm), .val (.int zsm), .val (.int zw), .val (.long zg), .second, .val (.int zp), .val (.ref zo), .val (.int (1 : Int32)), .val (.int (own_ad (own_T zw zp zg 0))), .val (.int (own_ad (own_T zw zp zg 1))), .val (.int (own_ad (own_T zw zp zg 2))), .val (.int (own_ad (own_T zw zp zg 3))), .unset, .unset, .unset] [(.long zg), (.ref zo)])
              obtain ⟨cq93, kq93, q93a, q93b, q93c⟩ := isOf hZ eq50 f45
              obtain ⟨_, _, ⟨T93, L93, k93, n93⟩, -, X93, ⟨Lc93, hQ93, l93, y93, z93⟩, st93⟩ := X50.virtualBack hx (y := (⟨"com/example/soak/soak/control/EdgeWindow", "grant", "(J)V"⟩ : MethodName)) (z := (⟨"com/example/soak/soak/control/EdgeWindow", "grant", "(J)V"⟩ : MethodName)) hown (mvT hZ (hw _ (List.mem_of_getElem? (i := 25) rfl))) (mvT hZ (hw _ (List.mem_of_getElem? (i := 26) rfl))) (notFace_of_selects (args := #[]) (mvT hZ (hw _ (List.mem_of_getElem? (i := 28) rfl)))) (mvT hZ (hw _ (List.mem_of_getElem? (i := 28) rfl))) (mvT hZ (hw _ (List.mem_of_getElem? (i := 27) rfl))) (by decide) (backOf (W := 0) (rm6 l Z a0 hw [] zo zg (own_aw (own_T zw zp zg 3)) T44.heap n0 (own_le Z0 K49) f45 f46 g_zo) hZ (hw _ (List.mem_of_getElem? (i := 29) rfl)) (hw _ (List.mem_of_getElem? (i := 4) rfl)) (by decide) (by decide)) q93a q93c (g := (mkF m 272 #[.val (.int za), .val (.long zb), .second, .val (.int zc), .val (.int zm), .val (.int zsm), .val (.int zw), .val (.long zg), .second, .val (.int zp), .val (.ref zo), .val (.int (1 : Int32)), .val (.int (own_ad (own_T zw zp zg 0))), .val (.int (own_ad (own_T zw zp zg 1))), .val (.int (own_ad (own_T zw zp zg 2))), .val (.int (own_ad (own_T zw zp zg 3))), .unset, .unset, .unset] [(.long zg), (.ref zo)])) rfl (by rw [hml]; rfl) (Steps.refl _) (argsL := [(.long zg)]) (rest := []) (lenOf own_pd99011 rfl) rfl (by show 2 * 0 + _ ≤ _; exact Nat.le_of_eq rfl) (hb hby at_272) (fun _ _ => ⟨rfl, eq50, (by decide : 1 + 0 ≤ _), (by decide : 1 + 0 ≤ _)⟩)
              dsimp only [Pt.U, Pt.locs, Pt.cells, Pt.slots] at X93 l93 y93 z93 st93 hQ93
              subst l93 y93 z93
              obtain ⟨rfl, N93q, Kc93, f94, f95⟩ := hQ93
              have N93 := Fr.app N50 N93q
              refine own_tr st93 ?_
              have f96 : Exa Z T93.heap zo "com/example/soak/soak/control/EdgeWindow" := f45.keep Kc93
              have K98 : Keep h0 T93.heap [] := K49.trans Kc93 (fun x hx => by cases List.mem_singleton.mp hx; exact Or.inr sz_zo)
              show own_WP _ _ _ _ T93 (mkF m 275 #[.val (.int za), .val (.long zb), .second, .val (.int zc), .val (.int zm), .val (.int zsm), .val (.int zw), .val (.long zg), .second, .val (.int zp), .val (.ref zo), .val (.int (1 : Int32)), .val (.int (own_ad (own_T zw zp zg 0))), .val (.int (own_ad (own_T zw zp zg 1))), .val (.int (own_ad (own_T zw zp zg 2))), .val (.int (own_ad (own_T zw zp zg 3))), .unset, .unset, .unset] [])
              exact J275  _ _ _ X93 rfl N93 K98 f94 (by rw [show own_T zw zp zg 4 = own_aw (own_T zw zp zg 3) + zg from if_pos hc265]; exact f95) 
            · refine own_go (fun t k => XS.icmpYes X50.here hx rfl (pc0 := 265) (pc' := 275) rfl (hb hby at_265) rfl (feq hc265).2 (by decide) (by decide) k) ?_
              show own_WP _ _ _ _ T50 (mkF m 275 #[.val (.int za), .val (.long zb), .second, .val (.int zc), .val (.int zm), .val (.int zsm), .val (.int zw), .val (.long zg), .second, .val (.int zp), .val (.ref zo), .val (.int (1 : Int32)), .val (.int (own_ad (own_T zw zp zg 0))), .val (.int (own_ad (own_T zw zp zg 1))), .val (.int (own_ad (own_T zw zp zg 2))), .val (.int (own_ad (own_T zw zp zg 3))), .unset, .unset, .unset] [])
              exact J275  _ _ _ X50 eq50 N50 K49 f45 (by rw [show own_T zw zp zg 4 = own_aw (own_T zw zp zg 3) from if_neg hc265]; exact f46) 
          show own_WP _ _ _ _ T40 (mkF m 215 #[.val (.int za), .val (.long zb), .second, .val (.int zc), .val (.int zm), .val (.int zsm), .val (.int zw), .val (.long zg), .second, .val (.int zp), .val (.ref zo), .val (.int (1 : Int32)), .val (.int (own_ad (own_T zw zp zg 0))), .val (.int (own_ad (own_T zw zp zg 1))), .val (.int (own_ad (own_T zw zp zg 2))), .unset, .unset, .unset, .unset] [])
          refine own_go (fun t k => XS.iload X40.here hx rfl (hb hby at_215) rfl  k) ?_
          show own_WP _ _ _ _ T40 (mkF m 217 #[.val (.int za), .val (.long zb), .second, .val (.int zc), .val (.int zm), .val (.int zsm), .val (.int zw), .val (.long zg), .second, .val (.int zp), .val (.ref zo), .val (.int (1 : Int32)), .val (.int (own_ad (own_T zw zp zg 0))), .val (.int (own_ad (own_T zw zp zg 1))), .val (.int (own_ad (own_T zw zp zg 2))), .unset, .unset, .unset, .unset] [(.int zp)])
          refine own_go (fun t k => XS.iconst X40.here hx rfl (hb hby at_217) k) ?_
          show own_WP _ _ _ _ T40 (mkF m 218 #[.val (.int za), .val (.long zb), .second, .val (.int zc), .val (.int zm), .val (.int zsm), .val (.int zw), .val (.long zg), .second, .val (.int zp), .val (.ref zo), .val (.int (1 : Int32)), .val (.int (own_ad (own_T zw zp zg 0))), .val (.int (own_ad (own_T zw zp zg 1))), .val (.int (own_ad (own_T zw zp zg 2))), .unset, .unset, .unset, .unset] [(.int (3 : Int32)), (.int zp)])
          by_cases hc218 : zp = (3 : Int32)
          · refine own_go (fun t k => XS.icmpNo X40.here hx rfl (hb hby at_218) rfl (teq hc218).2 k) ?_
            show own_WP _ _ _ _ T40 (mkF m 221 #[.val (.int za), .val (.long zb), .second, .val (.int zc), .val (.int zm), .val (.int zsm), .val (.int zw), .val (.long zg), .second, .val (.int zp), .val (.ref zo), .val (.int (1 : Int32)), .val (.int (own_ad (own_T zw zp zg 0))), .val (.int (own_ad (own_T zw zp zg 1))), .val (.int (own_ad (own_T zw zp zg 2))), .unset, .unset, .unset, .unset] [])
            refine own_go (fun t k => XS.aload X40.here hx rfl (hb hby at_221) rfl rfl  k) ?_
            show own_WP _ _ _ _ T40 (mkF m 223 #[.val (.int za), .val (.long zb), .second, .val (.int zc), .val (.int zm), .val (.int zsm), .val (.int zw), .val (.long zg), .second, .val (.int zp), .val (.ref zo), .val (.int (1 : Int32)), .val (.int (own_ad (own_T zw zp zg 0))), .val (.int (own_ad (own_T zw zp zg 1))), .val (.int (own_ad (own_T zw zp zg 2))), .unset, .unset, .unset, .unset] [(.ref zo)])
            refine own_go (fun t k => XS.lload X40.here hx rfl (hb hby at_223) rfl  k) ?_
            show own_WP _ _ _ _ T40 (mkF m 225 #[.val (.int za), .val (.long zb), .second, .val (.int zc), .val (.int zm), .val (.int zsm), .val (.int zw), .val (.long zg), .second, .val (.int zp), .val (.ref zo), .val (.int (1 : Int32)), .val (.int (own_ad (own_T zw zp zg 0))), .val (.int (own_ad (own_T zw zp zg 1))), .val (.int (own_ad (own_T zw zp zg 2))), .unset, .unset, .unset, .unset] [(.long zg), (.ref zo)])
            obtain ⟨cq99, kq99, q99a, q99b, q99c⟩ := isOf hZ eq40 f35
            obtain ⟨_, _, ⟨T99, L99, k99, n99⟩, -, X99, ⟨Lc99, hQ99, l99, y99, z99⟩, st99⟩ := X40.virtualBack hx (y := (⟨"com/example/soak/soak/control/EdgeWindow", "grant", "(J)V"⟩ : MethodName)) (z := (⟨"com/example/soak/soak/control/EdgeWindow", "grant", "(J)V"⟩ : MethodName)) hown (mvT hZ (hw _ (List.mem_of_getElem? (i := 25) rfl))) (mvT hZ (hw _ (List.mem_of_getElem? (i := 26) rfl))) (notFace_of_selects (args := #[]) (mvT hZ (hw _ (List.mem_of_getElem? (i := 28) rfl)))) (mvT hZ (hw _ (List.mem_of_getElem? (i := 28) rfl))) (mvT hZ (hw _ (List.mem_of_getElem? (i := 27) rfl))) (by decide) (backOf (W := 0) (rm6 l Z a0 hw [] zo zg (own_aw (own_T zw zp zg 2)) T34.heap n0 (own_le Z0 K39) f35 f36 g_zo) hZ (hw _ (List.mem_of_getElem? (i := 29) rfl)) (hw _ (List.mem_of_getElem? (i := 4) rfl)) (by decide) (by decide)) q99a q99c (g := (mkF m 225 #[.val (.int za), .val (.long zb), .second, .val (.int zc), .val (.int zm), .val (.int zsm), .val (.int zw), .val (.long zg), .second, .val (.int zp), .val (.ref zo), .val (.int (1 : Int32)), .val (.int (own_ad (own_T zw zp zg 0))), .val (.int (own_ad (own_T zw zp zg 1))), .val (.int (own_ad (own_T zw zp zg 2))), .unset, .unset, .unset, .unset] [(.long zg), (.ref zo)])) rfl (by rw [hml]; rfl) (Steps.refl _) (argsL := [(.long zg)]) (rest := []) (lenOf own_pd99011 rfl) rfl (by show 2 * 0 + _ ≤ _; exact Nat.le_of_eq rfl) (hb hby at_225) (fun _ _ => ⟨rfl, eq40, (by decide : 1 + 0 ≤ _), (by decide : 1 + 0 ≤ _)⟩)
            dsimp only [Pt.U, Pt.locs, Pt.cells, Pt.slots] at X99 l99 y99 z99 st99 hQ99
            subst l99 y99 z99
            obtain ⟨rfl, N99q, Kc99, f100, f101⟩ := hQ99
            have N99 := Fr.app N40 N99q
            refine own_tr st99 ?_
            have f102 : Exa Z T99.heap zo "com/example/soak/soak/control/EdgeWindow" := f35.keep Kc99
            have K104 : Keep h0 T99.heap [] := K39.trans Kc99 (fun x hx => by cases List.mem_singleton.mp hx; exact Or.inr sz_zo)
            show own_WP _ _ _ _ T99 (mkF m 228 #[.val (.int za), .val (.long zb), .second, .val (.int zc), .val (.int zm), .val (.int zsm), .val (.int zw), .val (.long zg), .second, .val (.int zp), .val (.ref zo), .val (.int (1 : Int32)), .val (.int (own_ad (own_T zw zp zg 0))), .val (.int (own_ad (own_T zw zp zg 1))), .val (.int (own_ad (own_T zw zp zg 2))), .unset, .unset, .unset, .unset] [])
            exact J228  _ _ _ X99 rfl N99 K104 f100 (by rw [show own_T zw zp zg 3 = own_aw (own_T zw zp zg 2) + zg from if_pos hc218]; exact f101) 
          · refine own_go (fun t k => XS.icmpYes X40.here hx rfl (pc0 := 218) (pc' := 228) rfl (hb hby at_218) rfl (feq hc218).2 (by decide) (by decide) k) ?_
            show own_WP _ _ _ _ T40 (mkF m 228 #[.val (.int za), .val (.long zb), .second, .val (.int zc), .val (.int zm), .val (.int zsm), .val (.int zw), .val (.long zg), .second, .val (.int zp), .val (.ref zo), .val (.int (1 : Int32)), .val (.int (own_ad (own_T zw zp zg 0))), .val (.int (own_ad (own_T zw zp zg 1))), .val (.int (own_ad (own_T zw zp zg 2))), .unset, .unset, .unset, .unset] [])
            exact J228  _ _ _ X40 eq40 N40 K39 f35 (by rw [show own_T zw zp zg 3 = own_aw (own_T zw zp zg 2) from if_neg hc218]; exact f36) 
        show own_WP _ _ _ _ T30 (mkF m 168 #[.val (.int za), .val (.long zb), .second, .val (.int zc), .val (.int zm), .val (.int zsm), .val (.int zw), .val (.long zg), .second, .val (.int zp), .val (.ref zo), .val (.int (1 : Int32)), .val (.int (own_ad (own_T zw zp zg 0))), .val (.int (own_ad (own_T zw zp zg 1))), .unset, .unset, .unset, .unset, .unset] [])
        refine own_go (fun t k => XS.iload X30.here hx rfl (hb hby at_168) rfl  k) ?_
        show own_WP _ _ _ _ T30 (mkF m 170 #[.val (.int za), .val (.long zb), .second, .val (.int zc), .val (.int zm), .val (.int zsm), .val (.int zw), .val (.long zg), .second, .val (.int zp), .val (.ref zo), .val (.int (1 : Int32)), .val (.int (own_ad (own_T zw zp zg 0))), .val (.int (own_ad (own_T zw zp zg 1))), .unset, .unset, .unset, .unset, .unset] [(.int zp)])
        refine own_go (fun t k => XS.iconst X30.here hx rfl (hb hby at_170) k) ?_
        show own_WP _ _ _ _ T30 (mkF m 171 #[.val (.int za), .val (.long zb), .second, .val (.int zc), .val (.int zm), .val (.int zsm), .val (.int zw), .val (.long zg), .second, .val (.int zp), .val (.ref zo), .val (.int (1 : Int32)), .val (.int (own_ad (own_T zw zp zg 0))), .val (.int (own_ad (own_T zw zp zg 1))), .unset, .unset, .unset, .unset, .unset] [(.int (2 : Int32)), (.int zp)])
        by_cases hc171 : zp = (2 : Int32)
        · refine own_go (fun t k => XS.icmpNo X30.here hx rfl (hb hby at_171) rfl (teq hc171).2 k) ?_
          show own_WP _ _ _ _ T30 (mkF m 174 #[.val (.int za), .val (.long zb), .second, .val (.int zc), .val (.int zm), .val (.int zsm), .val (.int zw), .val (.long zg), .second, .val (.int zp), .val (.ref zo), .val (.int (1 : Int32)), .val (.int (own_ad (own_T zw zp zg 0))), .val (.int (own_ad (own_T zw zp zg 1))), .unset, .unset, .unset, .unset, .unset] [])
          refine own_go (fun t k => XS.aload X30.here hx rfl (hb hby at_174) rfl rfl  k) ?_
          show own_WP _ _ _ _ T30 (mkF m 176 #[.val (.int za), .val (.long zb), .second, .val (.int zc), .val (.int zm), .val (.int zsm), .val (.int zw), .val (.long zg), .second, .val (.int zp), .val (.ref zo), .val (.int (1 : Int32)), .val (.int (own_ad (own_T zw zp zg 0))), .val (.int (own_ad (own_T zw zp zg 1))), .unset, .unset, .unset, .unset, .unset] [(.ref zo)])
          refine own_go (fun t k => XS.lload X30.here hx rfl (hb hby at_176) rfl  k) ?_
          show own_WP _ _ _ _ T30 (mkF m 178 #[.val (.int za), .val (.long zb), .second, .val (.int zc), .val (.int zm), .val (.int zsm), .val (.int zw), .val (.long zg), .second, .val (.int zp), .val (.ref zo), .val (.int (1 : Int32)), .val (.int (own_ad (own_T zw zp zg 0))), .val (.int (own_ad (own_T zw zp zg 1))), .unset, .unset, .unset, .unset, .unset] [(.long zg), (.ref zo)])
          obtain ⟨cq105, kq105, q105a, q105b, q105c⟩ := isOf hZ eq30 f25
          obtain ⟨_, _, ⟨T105, L105, k105, n105⟩, -, X105, ⟨Lc105, hQ105, l105, y105, z105⟩, st105⟩ := X30.virtualBack hx (y := (⟨"com/example/soak/soak/control/EdgeWindow", "grant", "(J)V"⟩ : MethodName)) (z := (⟨"com/example/soak/soak/control/EdgeWindow", "grant", "(J)V"⟩ : MethodName)) hown (mvT hZ (hw _ (List.mem_of_getElem? (i := 25) rfl))) (mvT hZ (hw _ (List.mem_of_getElem? (i := 26) rfl))) (notFace_of_selects (args := #[]) (mvT hZ (hw _ (List.mem_of_getElem? (i := 28) rfl)))) (mvT hZ (hw _ (List.mem_of_getElem? (i := 28) rfl))) (mvT hZ (hw _ (List.mem_of_getElem? (i := 27) rfl))) (by decide) (backOf (W := 0) (rm6 l Z a0 hw [] zo zg (own_aw (own_T zw zp zg 1)) T24.heap n0 (own_le Z0 K29) f25 f26 g_zo) hZ (hw _ (List.mem_of_getElem? (i := 29) rfl)) (hw _ (List.mem_of_getElem? (i := 4) rfl)) (by decide) (by decide)) q105a q105c (g := (mkF m 178 #[.val (.int za), .val (.long zb), .second, .val (.int zc), .val (.int zm), .val (.int zsm), .val (.int zw), .val (.long zg), .second, .val (.int zp), .val (.ref zo), .val (.int (1 : Int32)), .val (.int (own_ad (own_T zw zp zg 0))), .val (.int (own_ad (own_T zw zp zg 1))), .unset, .unset, .unset, .unset, .unset] [(.long zg), (.ref zo)])) rfl (by rw [hml]; rfl) (Steps.refl _) (argsL := [(.long zg)]) (rest := []) (lenOf own_pd99011 rfl) rfl (by show 2 * 0 + _ ≤ _; exact Nat.le_of_eq rfl) (hb hby at_178) (fun _ _ => ⟨rfl, eq30, (by decide : 1 + 0 ≤ _), (by decide : 1 + 0 ≤ _)⟩)
          dsimp only [Pt.U, Pt.locs, Pt.cells, Pt.slots] at X105 l105 y105 z105 st105 hQ105
          subst l105 y105 z105
          obtain ⟨rfl, N105q, Kc105, f106, f107⟩ := hQ105
          have N105 := Fr.app N30 N105q
          refine own_tr st105 ?_
          have f108 : Exa Z T105.heap zo "com/example/soak/soak/control/EdgeWindow" := f25.keep Kc105
          have K110 : Keep h0 T105.heap [] := K29.trans Kc105 (fun x hx => by cases List.mem_singleton.mp hx; exact Or.inr sz_zo)
          show own_WP _ _ _ _ T105 (mkF m 181 #[.val (.int za), .val (.long zb), .second, .val (.int zc), .val (.int zm), .val (.int zsm), .val (.int zw), .val (.long zg), .second, .val (.int zp), .val (.ref zo), .val (.int (1 : Int32)), .val (.int (own_ad (own_T zw zp zg 0))), .val (.int (own_ad (own_T zw zp zg 1))), .unset, .unset, .unset, .unset, .unset] [])
          exact J181  _ _ _ X105 rfl N105 K110 f106 (by rw [show own_T zw zp zg 2 = own_aw (own_T zw zp zg 1) + zg from if_pos hc171]; exact f107) 
        · refine own_go (fun t k => XS.icmpYes X30.here hx rfl (pc0 := 171) (pc' := 181) rfl (hb hby at_171) rfl (feq hc171).2 (by decide) (by decide) k) ?_
          show own_WP _ _ _ _ T30 (mkF m 181 #[.val (.int za), .val (.long zb), .second, .val (.int zc), .val (.int zm), .val (.int zsm), .val (.int zw), .val (.long zg), .second, .val (.int zp), .val (.ref zo), .val (.int (1 : Int32)), .val (.int (own_ad (own_T zw zp zg 0))), .val (.int (own_ad (own_T zw zp zg 1))), .unset, .unset, .unset, .unset, .unset] [])
          exact J181  _ _ _ X30 eq30 N30 K29 f25 (by rw [show own_T zw zp zg 2 = own_aw (own_T zw zp zg 1) from if_neg hc171]; exact f26) 
      show own_WP _ _ _ _ T20 (mkF m 121 #[.val (.int za), .val (.long zb), .second, .val (.int zc), .val (.int zm), .val (.int zsm), .val (.int zw), .val (.long zg), .second, .val (.int zp), .val (.ref zo), .val (.int (1 : Int32)), .val (.int (own_ad (own_T zw zp zg 0))), .unset, .unset, .unset, .unset, .unset, .unset] [])
      refine own_go (fun t k => XS.iload X20.here hx rfl (hb hby at_121) rfl  k) ?_
      show own_WP _ _ _ _ T20 (mkF m 123 #[.val (.int za), .val (.long zb), .second, .val (.int zc), .val (.int zm), .val (.int zsm), .val (.int zw), .val (.long zg), .second, .val (.int zp), .val (.ref zo), .val (.int (1 : Int32)), .val (.int (own_ad (own_T zw zp zg 0))), .unset, .unset, .unset, .unset, .unset, .unset] [(.int zp)])
      refine own_go (fun t k => XS.iconst X20.here hx rfl (hb hby at_123) k) ?_
      show own_WP _ _ _ _ T20 (mkF m 124 #[.val (.int za), .val (.long zb), .second, .val (.int zc), .val (.int zm), .val (.int zsm), .val (.int zw), .val (.long zg), .second, .val (.int zp), .val (.ref zo), .val (.int (1 : Int32)), .val (.int (own_ad (own_T zw zp zg 0))), .unset, .unset, .unset, .unset, .unset, .unset] [(.int (1 : Int32)), (.int zp)])
      by_cases hc124 : zp = (1 : Int32)
      · refine own_go (fun t k => XS.icmpNo X20.here hx rfl (hb hby at_124) rfl (teq hc124).2 k) ?_
        show own_WP _ _ _ _ T20 (mkF m 127 #[.val (.int za), .val (.long zb), .second, .val (.int zc), .val (.int zm), .val (.int zsm), .val (.int zw), .val (.long zg), .second, .val (.int zp), .val (.ref zo), .val (.int (1 : Int32)), .val (.int (own_ad (own_T zw zp zg 0))), .unset, .unset, .unset, .unset, .unset, .unset] [])
        refine own_go (fun t k => XS.aload X20.here hx rfl (hb hby at_127) rfl rfl  k) ?_
        show own_WP _ _ _ _ T20 (mkF m 129 #[.val (.int za), .val (.long zb), .second, .val (.int zc), .val (.int zm), .val (.int zsm), .val (.int zw), .val (.long zg), .second, .val (.int zp), .val (.ref zo), .val (.int (1 : Int32)), .val (.int (own_ad (own_T zw zp zg 0))), .unset, .unset, .unset, .unset, .unset, .unset] [(.ref zo)])
        refine own_go (fun t k => XS.lload X20.here hx rfl (hb hby at_129) rfl  k) ?_
        show own_WP _ _ _ _ T20 (mkF m 131 #[.val (.int za), .val (.long zb), .second, .val (.int zc), .val (.int zm), .val (.int zsm), .val (.int zw), .val (.long zg), .second, .val (.int zp), .val (.ref zo), .val (.int (1 : Int32)), .val (.int (own_ad (own_T zw zp zg 0))), .unset, .unset, .unset, .unset, .unset, .unset] [(.long zg), (.ref zo)])
        obtain ⟨cq111, kq111, q111a, q111b, q111c⟩ := isOf hZ eq20 f15
        obtain ⟨_, _, ⟨T111, L111, k111, n111⟩, -, X111, ⟨Lc111, hQ111, l111, y111, z111⟩, st111⟩ := X20.virtualBack hx (y := (⟨"com/example/soak/soak/control/EdgeWindow", "grant", "(J)V"⟩ : MethodName)) (z := (⟨"com/example/soak/soak/control/EdgeWindow", "grant", "(J)V"⟩ : MethodName)) hown (mvT hZ (hw _ (List.mem_of_getElem? (i := 25) rfl))) (mvT hZ (hw _ (List.mem_of_getElem? (i := 26) rfl))) (notFace_of_selects (args := #[]) (mvT hZ (hw _ (List.mem_of_getElem? (i := 28) rfl)))) (mvT hZ (hw _ (List.mem_of_getElem? (i := 28) rfl))) (mvT hZ (hw _ (List.mem_of_getElem? (i := 27) rfl))) (by decide) (backOf (W := 0) (rm6 l Z a0 hw [] zo zg (own_aw (own_T zw zp zg 0)) T14.heap n0 (own_le Z0 K19) f15 f16 g_zo) hZ (hw _ (List.mem_of_getElem? (i := 29) rfl)) (hw _ (List.mem_of_getElem? (i := 4) rfl)) (by decide) (by decide)) q111a q111c (g := (mkF m 131 #[.val (.int za), .val (.long zb), .second, .val (.int zc), .val (.int zm), .val (.int zsm), .val (.int zw), .val (.long zg), .second, .val (.int zp), .val (.ref zo), .val (.int (1 : Int32)), .val (.int (own_ad (own_T zw zp zg 0))), .unset, .unset, .unset, .unset, .unset, .unset] [(.long zg), (.ref zo)])) rfl (by rw [hml]; rfl) (Steps.refl _) (argsL := [(.long zg)]) (rest := []) (lenOf own_pd99011 rfl) rfl (by show 2 * 0 + _ ≤ _; exact Nat.le_of_eq rfl) (hb hby at_131) (fun _ _ => ⟨rfl, eq20, (by decide : 1 + 0 ≤ _), (by decide : 1 + 0 ≤ _)⟩)
        dsimp only [Pt.U, Pt.locs, Pt.cells, Pt.slots] at X111 l111 y111 z111 st111 hQ111
        subst l111 y111 z111
        obtain ⟨rfl, N111q, Kc111, f112, f113⟩ := hQ111
        have N111 := Fr.app N20 N111q
        refine own_tr st111 ?_
        have f114 : Exa Z T111.heap zo "com/example/soak/soak/control/EdgeWindow" := f15.keep Kc111
        have K116 : Keep h0 T111.heap [] := K19.trans Kc111 (fun x hx => by cases List.mem_singleton.mp hx; exact Or.inr sz_zo)
        show own_WP _ _ _ _ T111 (mkF m 134 #[.val (.int za), .val (.long zb), .second, .val (.int zc), .val (.int zm), .val (.int zsm), .val (.int zw), .val (.long zg), .second, .val (.int zp), .val (.ref zo), .val (.int (1 : Int32)), .val (.int (own_ad (own_T zw zp zg 0))), .unset, .unset, .unset, .unset, .unset, .unset] [])
        exact J134  _ _ _ X111 rfl N111 K116 f112 (by rw [show own_T zw zp zg 1 = own_aw (own_T zw zp zg 0) + zg from if_pos hc124]; exact f113) 
      · refine own_go (fun t k => XS.icmpYes X20.here hx rfl (pc0 := 124) (pc' := 134) rfl (hb hby at_124) rfl (feq hc124).2 (by decide) (by decide) k) ?_
        show own_WP _ _ _ _ T20 (mkF m 134 #[.val (.int za), .val (.long zb), .second, .val (.int zc), .val (.int zm), .val (.int zsm), .val (.int zw), .val (.long zg), .second, .val (.int zp), .val (.ref zo), .val (.int (1 : Int32)), .val (.int (own_ad (own_T zw zp zg 0))), .unset, .unset, .unset, .unset, .unset, .unset] [])
        exact J134  _ _ _ X20 eq20 N20 K19 f15 (by rw [show own_T zw zp zg 1 = own_aw (own_T zw zp zg 0) from if_neg hc124]; exact f16) 
    show own_WP _ _ _ _ T5 (mkF m 75 #[.val (.int za), .val (.long zb), .second, .val (.int zc), .val (.int zm), .val (.int zsm), .val (.int zw), .val (.long zg), .second, .val (.int zp), .val (.ref zo), .val (.int (1 : Int32)), .unset, .unset, .unset, .unset, .unset, .unset, .unset] [])
    refine own_go (fun t k => XS.iload X5.here hx rfl (hb hby at_75) rfl  k) ?_
    show own_WP _ _ _ _ T5 (mkF m 77 #[.val (.int za), .val (.long zb), .second, .val (.int zc), .val (.int zm), .val (.int zsm), .val (.int zw), .val (.long zg), .second, .val (.int zp), .val (.ref zo), .val (.int (1 : Int32)), .unset, .unset, .unset, .unset, .unset, .unset, .unset] [(.int zp)])
    by_cases hc77 : zp = (0 : Int32)
    · refine own_go (fun t k => XS.ifNo X5.here hx rfl (hb hby at_77) rfl ((if0 _ _).trans (teq hc77).2) k) ?_
      show own_WP _ _ _ _ T5 (mkF m 80 #[.val (.int za), .val (.long zb), .second, .val (.int zc), .val (.int zm), .val (.int zsm), .val (.int zw), .val (.long zg), .second, .val (.int zp), .val (.ref zo), .val (.int (1 : Int32)), .unset, .unset, .unset, .unset, .unset, .unset, .unset] [])
      refine own_go (fun t k => XS.aload X5.here hx rfl (hb hby at_80) rfl rfl  k) ?_
      show own_WP _ _ _ _ T5 (mkF m 82 #[.val (.int za), .val (.long zb), .second, .val (.int zc), .val (.int zm), .val (.int zsm), .val (.int zw), .val (.long zg), .second, .val (.int zp), .val (.ref zo), .val (.int (1 : Int32)), .unset, .unset, .unset, .unset, .unset, .unset, .unset] [(.ref zo)])
      refine own_go (fun t k => XS.lload X5.here hx rfl (hb hby at_82) rfl  k) ?_
      show own_WP _ _ _ _ T5 (mkF m 84 #[.val (.int za), .val (.long zb), .second, .val (.int zc), .val (.int zm), .val (.int zsm), .val (.int zw), .val (.long zg), .second, .val (.int zp), .val (.ref zo), .val (.int (1 : Int32)), .unset, .unset, .unset, .unset, .unset, .unset, .unset] [(.long zg), (.ref zo)])
      obtain ⟨cq117, kq117, q117a, q117b, q117c⟩ := isOf hZ rfl f6
      obtain ⟨_, _, ⟨T117, L117, k117, n117⟩, -, X117, ⟨Lc117, hQ117, l117, y117, z117⟩, st117⟩ := X5.virtualBack hx (y := (⟨"com/example/soak/soak/control/EdgeWindow", "grant", "(J)V"⟩ : MethodName)) (z := (⟨"com/example/soak/soak/control/EdgeWindow", "grant", "(J)V"⟩ : MethodName)) hown (mvT hZ (hw _ (List.mem_of_getElem? (i := 25) rfl))) (mvT hZ (hw _ (List.mem_of_getElem? (i := 26) rfl))) (notFace_of_selects (args := #[]) (mvT hZ (hw _ (List.mem_of_getElem? (i := 28) rfl)))) (mvT hZ (hw _ (List.mem_of_getElem? (i := 28) rfl))) (mvT hZ (hw _ (List.mem_of_getElem? (i := 27) rfl))) (by decide) (backOf (W := 0) (rm6 l Z a0 hw [] zo zg (zw.toInt64) T5.heap n0 (own_le Z0 K10) f6 f7 g_zo) hZ (hw _ (List.mem_of_getElem? (i := 29) rfl)) (hw _ (List.mem_of_getElem? (i := 4) rfl)) (by decide) (by decide)) q117a q117c (g := (mkF m 84 #[.val (.int za), .val (.long zb), .second, .val (.int zc), .val (.int zm), .val (.int zsm), .val (.int zw), .val (.long zg), .second, .val (.int zp), .val (.ref zo), .val (.int (1 : Int32)), .unset, .unset, .unset, .unset, .unset, .unset, .unset] [(.long zg), (.ref zo)])) rfl (by rw [hml]; rfl) (Steps.refl _) (argsL := [(.long zg)]) (rest := []) (lenOf own_pd99011 rfl) rfl (by show 2 * 0 + _ ≤ _; exact Nat.le_of_eq rfl) (hb hby at_84) (fun _ _ => ⟨rfl, rfl, (by decide : 1 + 0 ≤ _), (by decide : 1 + 0 ≤ _)⟩)
      dsimp only [Pt.U, Pt.locs, Pt.cells, Pt.slots] at X117 l117 y117 z117 st117 hQ117
      subst l117 y117 z117
      obtain ⟨rfl, N117q, Kc117, f118, f119⟩ := hQ117
      have N117 := Fr.app N5 N117q
      refine own_tr st117 ?_
      have f120 : Exa Z T117.heap zo "com/example/soak/soak/control/EdgeWindow" := f6.keep Kc117
      have K122 : Keep h0 T117.heap [] := K10.trans Kc117 (fun x hx => by cases List.mem_singleton.mp hx; exact Or.inr sz_zo)
      show own_WP _ _ _ _ T117 (mkF m 87 #[.val (.int za), .val (.long zb), .second, .val (.int zc), .val (.int zm), .val (.int zsm), .val (.int zw), .val (.long zg), .second, .val (.int zp), .val (.ref zo), .val (.int (1 : Int32)), .unset, .unset, .unset, .unset, .unset, .unset, .unset] [])
      exact J87  _ _ _ X117 rfl N117 K122 f118 (by rw [show own_T zw zp zg 0 = zw.toInt64 + zg from if_pos hc77]; exact f119) 
    · refine own_go (fun t k => XS.ifYes X5.here hx rfl (pc0 := 77) (pc' := 87) rfl (hb hby at_77) rfl ((if0 _ _).trans (feq hc77).2) (by decide) (by decide) k) ?_
      show own_WP _ _ _ _ T5 (mkF m 87 #[.val (.int za), .val (.long zb), .second, .val (.int zc), .val (.int zm), .val (.int zsm), .val (.int zw), .val (.long zg), .second, .val (.int zp), .val (.ref zo), .val (.int (1 : Int32)), .unset, .unset, .unset, .unset, .unset, .unset, .unset] [])
      exact J87  _ _ _ X5 rfl N5 K10 f6 (by rw [show own_T zw zp zg 0 = zw.toInt64 from if_neg hc77]; exact f7) 
  show own_WP _ _ _ _ s₁ (mkF m 0 #[.val (.int za), .val (.long zb), .second, .val (.int zc), .val (.int zm), .unset, .unset, .unset, .unset, .unset, .unset, .unset, .unset, .unset, .unset, .unset, .unset, .unset, .unset] [])
  refine own_go (fun t k => XS.iload X0.here hx rfl (hb hby at_0) rfl  k) ?_
  show own_WP _ _ _ _ s₁ (mkF m 2 #[.val (.int za), .val (.long zb), .second, .val (.int zc), .val (.int zm), .unset, .unset, .unset, .unset, .unset, .unset, .unset, .unset, .unset, .unset, .unset, .unset, .unset, .unset] [(.int zm)])
  refine own_go (fun t k => XS.iconst X0.here hx rfl (hb hby at_2) k) ?_
  show own_WP _ _ _ _ s₁ (mkF m 3 #[.val (.int za), .val (.long zb), .second, .val (.int zc), .val (.int zm), .unset, .unset, .unset, .unset, .unset, .unset, .unset, .unset, .unset, .unset, .unset, .unset, .unset, .unset] [(.int (1 : Int32)), (.int zm)])
  refine own_go (fun t k => XS.iand X0.here hx rfl (hb hby at_3) rfl k) ?_
  show own_WP _ _ _ _ s₁ (mkF m 4 #[.val (.int za), .val (.long zb), .second, .val (.int zc), .val (.int zm), .unset, .unset, .unset, .unset, .unset, .unset, .unset, .unset, .unset, .unset, .unset, .unset, .unset, .unset] [(.int (zm &&& (1 : Int32)))])
  by_cases hc4 : (zm &&& (1 : Int32)) = (0 : Int32)
  · refine own_go (fun t k => XS.ifYes X0.here hx rfl (pc0 := 4) (pc' := 11) rfl (hb hby at_4) rfl ((if0 _ _).trans (teq hc4).1) (by decide) (by decide) k) ?_
    show own_WP _ _ _ _ s₁ (mkF m 11 #[.val (.int za), .val (.long zb), .second, .val (.int zc), .val (.int zm), .unset, .unset, .unset, .unset, .unset, .unset, .unset, .unset, .unset, .unset, .unset, .unset, .unset, .unset] [])
    refine own_go (fun t k => XS.iconst X0.here hx rfl (hb hby at_11) k) ?_
    show own_WP _ _ _ _ s₁ (mkF m 12 #[.val (.int za), .val (.long zb), .second, .val (.int zc), .val (.int zm), .unset, .unset, .unset, .unset, .unset, .unset, .unset, .unset, .unset, .unset, .unset, .unset, .unset, .unset] [(.int (0 : Int32))])
    refine own_go (fun t k => XS.istore X0.here hx rfl (hb hby at_12) rfl (l' := #[.val (.int za), .val (.long zb), .second, .val (.int zc), .val (.int zm), .val (.int (0 : Int32)), .unset, .unset, .unset, .unset, .unset, .unset, .unset, .unset, .unset, .unset, .unset, .unset, .unset]) rfl k) ?_
    show own_WP _ _ _ _ s₁ (mkF m 14 #[.val (.int za), .val (.long zb), .second, .val (.int zc), .val (.int zm), .val (.int (0 : Int32)), .unset, .unset, .unset, .unset, .unset, .unset, .unset, .unset, .unset, .unset, .unset, .unset, .unset] [])
    refine own_go (fun t k => XS.iload X0.here hx rfl (hb hby at_14) rfl  k) ?_
    show own_WP _ _ _ _ s₁ (mkF m 16 #[.val (.int za), .val (.long zb), .second, .val (.int zc), .val (.int zm), .val (.int (0 : Int32)), .unset, .unset, .unset, .unset, .unset, .unset, .unset, .unset, .unset, .unset, .unset, .unset, .unset] [(.int (0 : Int32))])
    have hc16 : (0 : Int32) = (0 : Int32) := rfl
    refine own_go (fun t k => XS.ifYes X0.here hx rfl (pc0 := 16) (pc' := 26) rfl (hb hby at_16) rfl ((if0 _ _).trans (teq hc16).1) (by decide) (by decide) k) ?_
    show own_WP _ _ _ _ s₁ (mkF m 26 #[.val (.int za), .val (.long zb), .second, .val (.int zc), .val (.int zm), .val (.int (0 : Int32)), .unset, .unset, .unset, .unset, .unset, .unset, .unset, .unset, .unset, .unset, .unset, .unset, .unset] [])
    refine own_go (fun t k => XS.iloadN X0.here hx rfl (hb hby at_26) rfl  k) ?_
    show own_WP _ _ _ _ s₁ (mkF m 27 #[.val (.int za), .val (.long zb), .second, .val (.int zc), .val (.int zm), .val (.int (0 : Int32)), .unset, .unset, .unset, .unset, .unset, .unset, .unset, .unset, .unset, .unset, .unset, .unset, .unset] [(.int za)])
    refine own_go (fun t k => X0.ldcInt hx hown (mvT hZ (hw _ (List.mem_of_getElem? (i := 0) rfl))) (g := (mkF m 27 #[.val (.int za), .val (.long zb), .second, .val (.int zc), .val (.int zm), .val (.int (0 : Int32)), .unset, .unset, .unset, .unset, .unset, .unset, .unset, .unset, .unset, .unset, .unset, .unset, .unset] [(.int za)])) rfl (hb hby at_27) t k) ?_
    show own_WP _ _ _ _ s₁ (mkF m 29 #[.val (.int za), .val (.long zb), .second, .val (.int zc), .val (.int zm), .val (.int (0 : Int32)), .unset, .unset, .unset, .unset, .unset, .unset, .unset, .unset, .unset, .unset, .unset, .unset, .unset] [(.int (2147483647 : Int32)), (.int za)])
    refine own_go (fun t k => XS.iand X0.here hx rfl (hb hby at_29) rfl k) ?_
    show own_WP _ _ _ _ s₁ (mkF m 30 #[.val (.int za), .val (.long zb), .second, .val (.int zc), .val (.int zm), .val (.int (0 : Int32)), .unset, .unset, .unset, .unset, .unset, .unset, .unset, .unset, .unset, .unset, .unset, .unset, .unset] [(.int (za &&& (2147483647 : Int32)))])
    refine own_go (fun t k => XS.istore X0.here hx rfl (hb hby at_30) rfl (l' := #[.val (.int za), .val (.long zb), .second, .val (.int zc), .val (.int zm), .val (.int (0 : Int32)), .val (.int (za &&& (2147483647 : Int32))), .unset, .unset, .unset, .unset, .unset, .unset, .unset, .unset, .unset, .unset, .unset, .unset]) rfl k) ?_
    show own_WP _ _ _ _ s₁ (mkF m 32 #[.val (.int za), .val (.long zb), .second, .val (.int zc), .val (.int zm), .val (.int (0 : Int32)), .val (.int (za &&& (2147483647 : Int32))), .unset, .unset, .unset, .unset, .unset, .unset, .unset, .unset, .unset, .unset, .unset, .unset] [])
    refine own_go (fun t k => XS.iload X0.here hx rfl (hb hby at_32) rfl  k) ?_
    show own_WP _ _ _ _ s₁ (mkF m 34 #[.val (.int za), .val (.long zb), .second, .val (.int zc), .val (.int zm), .val (.int (0 : Int32)), .val (.int (za &&& (2147483647 : Int32))), .unset, .unset, .unset, .unset, .unset, .unset, .unset, .unset, .unset, .unset, .unset, .unset] [(.int (0 : Int32))])
    have hc34 : (0 : Int32) = (0 : Int32) := rfl
    refine own_go (fun t k => XS.ifYes X0.here hx rfl (pc0 := 34) (pc' := 45) rfl (hb hby at_34) rfl ((if0 _ _).trans (teq hc34).1) (by decide) (by decide) k) ?_
    show own_WP _ _ _ _ s₁ (mkF m 45 #[.val (.int za), .val (.long zb), .second, .val (.int zc), .val (.int zm), .val (.int (0 : Int32)), .val (.int (za &&& (2147483647 : Int32))), .unset, .unset, .unset, .unset, .unset, .unset, .unset, .unset, .unset, .unset, .unset, .unset] [])
    refine own_go (fun t k => XS.lloadN X0.here hx rfl (hb hby at_45) rfl  k) ?_
    show own_WP _ _ _ _ s₁ (mkF m 46 #[.val (.int za), .val (.long zb), .second, .val (.int zc), .val (.int zm), .val (.int (0 : Int32)), .val (.int (za &&& (2147483647 : Int32))), .unset, .unset, .unset, .unset, .unset, .unset, .unset, .unset, .unset, .unset, .unset, .unset] [(.long zb)])
    refine own_go (fun t k => X0.ldc2Long hx hown (mvT hZ (hw _ (List.mem_of_getElem? (i := 1) rfl))) (g := (mkF m 46 #[.val (.int za), .val (.long zb), .second, .val (.int zc), .val (.int zm), .val (.int (0 : Int32)), .val (.int (za &&& (2147483647 : Int32))), .unset, .unset, .unset, .unset, .unset, .unset, .unset, .unset, .unset, .unset, .unset, .unset] [(.long zb)])) rfl (hb hby at_46) t k) ?_
    show own_WP _ _ _ _ s₁ (mkF m 49 #[.val (.int za), .val (.long zb), .second, .val (.int zc), .val (.int zm), .val (.int (0 : Int32)), .val (.int (za &&& (2147483647 : Int32))), .unset, .unset, .unset, .unset, .unset, .unset, .unset, .unset, .unset, .unset, .unset, .unset] [(.long (4294967295 : Int64)), (.long zb)])
    refine own_go (fun t k => XS.land X0.here hx rfl (hb hby at_49) rfl k) ?_
    show own_WP _ _ _ _ s₁ (mkF m 50 #[.val (.int za), .val (.long zb), .second, .val (.int zc), .val (.int zm), .val (.int (0 : Int32)), .val (.int (za &&& (2147483647 : Int32))), .unset, .unset, .unset, .unset, .unset, .unset, .unset, .unset, .unset, .unset, .unset, .unset] [(.long (zb &&& (4294967295 : Int64)))])
    refine own_go (fun t k => XS.lstore X0.here hx rfl (hb hby at_50) rfl (l' := #[.val (.int za), .val (.long zb), .second, .val (.int zc), .val (.int zm), .val (.int (0 : Int32)), .val (.int (za &&& (2147483647 : Int32))), .val (.long (zb &&& (4294967295 : Int64))), .second, .unset, .unset, .unset, .unset, .unset, .unset, .unset, .unset, .unset, .unset]) rfl k) ?_
    show own_WP _ _ _ _ s₁ (mkF m 52 #[.val (.int za), .val (.long zb), .second, .val (.int zc), .val (.int zm), .val (.int (0 : Int32)), .val (.int (za &&& (2147483647 : Int32))), .val (.long (zb &&& (4294967295 : Int64))), .second, .unset, .unset, .unset, .unset, .unset, .unset, .unset, .unset, .unset, .unset] [])
    exact J52 (0 : Int32) ((za &&& (2147483647 : Int32))) ((zb &&& (4294967295 : Int64))) _ _ _ X0 e0 N0 K0  (by rw [Jvm.Kit.i32_mask za 2147483647 (k := 31) (by decide) (by decide)]; omega) (by rw [Jvm.Kit.i64_mask zb 4294967295 (k := 32) (by decide) (by decide)]; omega) (by rw [Jvm.Kit.i64_mask zb 4294967295 (k := 32) (by decide) (by decide)]; omega)
  · refine own_go (fun t k => XS.ifNo X0.here hx rfl (hb hby at_4) rfl ((if0 _ _).trans (feq hc4).1) k) ?_
    show own_WP _ _ _ _ s₁ (mkF m 7 #[.val (.int za), .val (.long zb), .second, .val (.int zc), .val (.int zm), .unset, .unset, .unset, .unset, .unset, .unset, .unset, .unset, .unset, .unset, .unset, .unset, .unset, .unset] [])
    refine own_go (fun t k => XS.iconst X0.here hx rfl (hb hby at_7) k) ?_
    show own_WP _ _ _ _ s₁ (mkF m 8 #[.val (.int za), .val (.long zb), .second, .val (.int zc), .val (.int zm), .unset, .unset, .unset, .unset, .unset, .unset, .unset, .unset, .unset, .unset, .unset, .unset, .unset, .unset] [(.int (1 : Int32))])
    refine own_go (fun t k => XS.goto X0.here hx rfl (pc0 := 8) (pc' := 12) rfl (hb hby at_8) (by decide) (by decide) k) ?_
    show own_WP _ _ _ _ s₁ (mkF m 12 #[.val (.int za), .val (.long zb), .second, .val (.int zc), .val (.int zm), .unset, .unset, .unset, .unset, .unset, .unset, .unset, .unset, .unset, .unset, .unset, .unset, .unset, .unset] [(.int (1 : Int32))])
    refine own_go (fun t k => XS.istore X0.here hx rfl (hb hby at_12) rfl (l' := #[.val (.int za), .val (.long zb), .second, .val (.int zc), .val (.int zm), .val (.int (1 : Int32)), .unset, .unset, .unset, .unset, .unset, .unset, .unset, .unset, .unset, .unset, .unset, .unset, .unset]) rfl k) ?_
    show own_WP _ _ _ _ s₁ (mkF m 14 #[.val (.int za), .val (.long zb), .second, .val (.int zc), .val (.int zm), .val (.int (1 : Int32)), .unset, .unset, .unset, .unset, .unset, .unset, .unset, .unset, .unset, .unset, .unset, .unset, .unset] [])
    refine own_go (fun t k => XS.iload X0.here hx rfl (hb hby at_14) rfl  k) ?_
    show own_WP _ _ _ _ s₁ (mkF m 16 #[.val (.int za), .val (.long zb), .second, .val (.int zc), .val (.int zm), .val (.int (1 : Int32)), .unset, .unset, .unset, .unset, .unset, .unset, .unset, .unset, .unset, .unset, .unset, .unset, .unset] [(.int (1 : Int32))])
    have hc16 : ¬ ((1 : Int32) = (0 : Int32)) := by decide
    refine own_go (fun t k => XS.ifNo X0.here hx rfl (hb hby at_16) rfl ((if0 _ _).trans (feq hc16).1) k) ?_
    show own_WP _ _ _ _ s₁ (mkF m 19 #[.val (.int za), .val (.long zb), .second, .val (.int zc), .val (.int zm), .val (.int (1 : Int32)), .unset, .unset, .unset, .unset, .unset, .unset, .unset, .unset, .unset, .unset, .unset, .unset, .unset] [])
    refine own_go (fun t k => XS.iloadN X0.here hx rfl (hb hby at_19) rfl  k) ?_
    show own_WP _ _ _ _ s₁ (mkF m 20 #[.val (.int za), .val (.long zb), .second, .val (.int zc), .val (.int zm), .val (.int (1 : Int32)), .unset, .unset, .unset, .unset, .unset, .unset, .unset, .unset, .unset, .unset, .unset, .unset, .unset] [(.int za)])
    refine own_go (fun t k => XS.bipush X0.here hx rfl (hb hby at_20) k) ?_
    show own_WP _ _ _ _ s₁ (mkF m 22 #[.val (.int za), .val (.long zb), .second, .val (.int zc), .val (.int zm), .val (.int (1 : Int32)), .unset, .unset, .unset, .unset, .unset, .unset, .unset, .unset, .unset, .unset, .unset, .unset, .unset] [(.int (7 : Int32)), (.int za)])
    refine own_go (fun t k => XS.iand X0.here hx rfl (hb hby at_22) rfl k) ?_
    show own_WP _ _ _ _ s₁ (mkF m 23 #[.val (.int za), .val (.long zb), .second, .val (.int zc), .val (.int zm), .val (.int (1 : Int32)), .unset, .unset, .unset, .unset, .unset, .unset, .unset, .unset, .unset, .unset, .unset, .unset, .unset] [(.int (za &&& (7 : Int32)))])
    refine own_go (fun t k => XS.goto X0.here hx rfl (pc0 := 23) (pc' := 30) rfl (hb hby at_23) (by decide) (by decide) k) ?_
    show own_WP _ _ _ _ s₁ (mkF m 30 #[.val (.int za), .val (.long zb), .second, .val (.int zc), .val (.int zm), .val (.int (1 : Int32)), .unset, .unset, .unset, .unset, .unset, .unset, .unset, .unset, .unset, .unset, .unset, .unset, .unset] [(.int (za &&& (7 : Int32)))])
    refine own_go (fun t k => XS.istore X0.here hx rfl (hb hby at_30) rfl (l' := #[.val (.int za), .val (.long zb), .second, .val (.int zc), .val (.int zm), .val (.int (1 : Int32)), .val (.int (za &&& (7 : Int32))), .unset, .unset, .unset, .unset, .unset, .unset, .unset, .unset, .unset, .unset, .unset, .unset]) rfl k) ?_
    show own_WP _ _ _ _ s₁ (mkF m 32 #[.val (.int za), .val (.long zb), .second, .val (.int zc), .val (.int zm), .val (.int (1 : Int32)), .val (.int (za &&& (7 : Int32))), .unset, .unset, .unset, .unset, .unset, .unset, .unset, .unset, .unset, .unset, .unset, .unset] [])
    refine own_go (fun t k => XS.iload X0.here hx rfl (hb hby at_32) rfl  k) ?_
    show own_WP _ _ _ _ s₁ (mkF m 34 #[.val (.int za), .val (.long zb), .second, .val (.int zc), .val (.int zm), .val (.int (1 : Int32)), .val (.int (za &&& (7 : Int32))), .unset, .unset, .unset, .unset, .unset, .unset, .unset, .unset, .unset, .unset, .unset, .unset] [(.int (1 : Int32))])
    have hc34 : ¬ ((1 : Int32) = (0 : Int32)) := by decide
    refine own_go (fun t k => XS.ifNo X0.here hx rfl (hb hby at_34) rfl ((if0 _ _).trans (feq hc34).1) k) ?_
    show own_WP _ _ _ _ s₁ (mkF m 37 #[.val (.int za), .val (.long zb), .second, .val (.int zc), .val (.int zm), .val (.int (1 : Int32)), .val (.int (za &&& (7 : Int32))), .unset, .unset, .unset, .unset, .unset, .unset, .unset, .unset, .unset, .unset, .unset, .unset] [])
    refine own_go (fun t k => XS.lloadN X0.here hx rfl (hb hby at_37) rfl  k) ?_
    show own_WP _ _ _ _ s₁ (mkF m 38 #[.val (.int za), .val (.long zb), .second, .val (.int zc), .val (.int zm), .val (.int (1 : Int32)), .val (.int (za &&& (7 : Int32))), .unset, .unset, .unset, .unset, .unset, .unset, .unset, .unset, .unset, .unset, .unset, .unset] [(.long zb)])
    refine own_go (fun t k => X0.ldc2Long hx hown (mvT hZ (hw _ (List.mem_of_getElem? (i := 34) rfl))) (g := (mkF m 38 #[.val (.int za), .val (.long zb), .second, .val (.int zc), .val (.int zm), .val (.int (1 : Int32)), .val (.int (za &&& (7 : Int32))), .unset, .unset, .unset, .unset, .unset, .unset, .unset, .unset, .unset, .unset, .unset, .unset] [(.long zb)])) rfl (hb hby at_38) t k) ?_
    show own_WP _ _ _ _ s₁ (mkF m 41 #[.val (.int za), .val (.long zb), .second, .val (.int zc), .val (.int zm), .val (.int (1 : Int32)), .val (.int (za &&& (7 : Int32))), .unset, .unset, .unset, .unset, .unset, .unset, .unset, .unset, .unset, .unset, .unset, .unset] [(.long (3 : Int64)), (.long zb)])
    refine own_go (fun t k => XS.land X0.here hx rfl (hb hby at_41) rfl k) ?_
    show own_WP _ _ _ _ s₁ (mkF m 42 #[.val (.int za), .val (.long zb), .second, .val (.int zc), .val (.int zm), .val (.int (1 : Int32)), .val (.int (za &&& (7 : Int32))), .unset, .unset, .unset, .unset, .unset, .unset, .unset, .unset, .unset, .unset, .unset, .unset] [(.long (zb &&& (3 : Int64)))])
    refine own_go (fun t k => XS.goto X0.here hx rfl (pc0 := 42) (pc' := 50) rfl (hb hby at_42) (by decide) (by decide) k) ?_
    show own_WP _ _ _ _ s₁ (mkF m 50 #[.val (.int za), .val (.long zb), .second, .val (.int zc), .val (.int zm), .val (.int (1 : Int32)), .val (.int (za &&& (7 : Int32))), .unset, .unset, .unset, .unset, .unset, .unset, .unset, .unset, .unset, .unset, .unset, .unset] [(.long (zb &&& (3 : Int64)))])
    refine own_go (fun t k => XS.lstore X0.here hx rfl (hb hby at_50) rfl (l' := #[.val (.int za), .val (.long zb), .second, .val (.int zc), .val (.int zm), .val (.int (1 : Int32)), .val (.int (za &&& (7 : Int32))), .val (.long (zb &&& (3 : Int64))), .second, .unset, .unset, .unset, .unset, .unset, .unset, .unset, .unset, .unset, .unset]) rfl k) ?_
    show own_WP _ _ _ _ s₁ (mkF m 52 #[.val (.int za), .val (.long zb), .second, .val (.int zc), .val (.int zm), .val (.int (1 : Int32)), .val (.int (za &&& (7 : Int32))), .val (.long (zb &&& (3 : Int64))), .second, .unset, .unset, .unset, .unset, .unset, .unset, .unset, .unset, .unset, .unset] [])
    exact J52 (1 : Int32) ((za &&& (7 : Int32))) ((zb &&& (3 : Int64))) _ _ _ X0 e0 N0 K0  (by rw [Jvm.Kit.i32_mask za 7 (k := 3) (by decide) (by decide)]; omega) (by rw [Jvm.Kit.i64_mask zb 3 (k := 2) (by decide) (by decide)]; omega) (by rw [Jvm.Kit.i64_mask zb 3 (k := 2) (by decide) (by decide)]; omega)
set_option maxRecDepth 65536 in
set_option maxHeartbeats 40000000 in
theorem comes_1 {Post : Tables → Env → Array Value → State → Outcome → State → Prop} (hpost : ∀ tb e args s v u, (limb_1_1.after args s (.returned v) u = true ∧ limb_1_2.after args s (.returned v) u = true ∧ True) → FrameEnd s (.returned v) u (Jvm.fieldLocs frame_1_writes args s ++ Jvm.arrayLocs frame_1_arrays args s ++ Jvm.staticLocs frame_1_statics s) 16 128 → Post tb e args s (.returned v) u) :
    ArmFor flags0 classFile x code maxLocals ret World_1 tables_1 room_1 Calls_1 rest_1 Pre_1 Post := by
  intro l hfl _ _ p e ha hc hk s m args below hf hA hF happ hP
  obtain ⟨hcalls, hrest, hpre⟩ := hP
  obtain ⟨-, -, -, hnamed, -, -, -, hat⟩ := (Spec.applies_iff hf).mp happ
  obtain ⟨hg, hn⟩ := and_e (Cond.before_iff.mp (show (Jvm.Cond.and given_1 narrow_1).before args s = true from hpre))
  obtain ⟨u0, v0⟩ := and_e hg
  obtain ⟨u1, v1⟩ := and_e v0
  obtain ⟨u2, v2⟩ := and_e v1
  obtain ⟨u3, v3⟩ := and_e v2
  obtain ⟨w0, w1, w2, w3, rfl⟩ : ∃ w0 w1 w2 w3 : Value, args = #[w0, w1, w2, w3] := by
    have hs : args.size = 4 := by simpa [Cond.value, given_1] using u0
    obtain ⟨L⟩ := args
    match L, hs with
    | [w0, w1, w2, w3], _ => exact ⟨w0, w1, w2, w3, rfl⟩
  have hw := fun d (hd : d ∈ tables_1) => atoms_spec (ws := Jvm.Cond.code x code maxLocals ret :: tables_1) hat d (List.mem_cons_of_mem _ hd)
  obtain ⟨i0, ei0⟩ := is_v u1
  obtain rfl : w0 = (.int i0) := Option.some.inj ei0
  obtain ⟨i1, ei1⟩ := isL_v u2
  obtain rfl : w1 = (.long i1) := Option.some.inj ei1
  obtain ⟨i2, ei2⟩ := is_v u3
  obtain rfl : w2 = (.int i2) := Option.some.inj ei2
  obtain ⟨i3, ei3⟩ := is_v v3
  obtain rfl : w3 = (.int i3) := Option.some.inj ei3
  obtain ⟨n, o, h1, h2, h3, _, L, rfl, ⟨rfl, N⟩, hq⟩ := rm0 l s _ hw tables_1 i0 i1 i2 i3  s.heap s.heap.size (Nat.le_refl _)  p e ha hc hk s m _ below hf ((Spec.applies_iff_loose hf).mp happ).1 ⟨rfl, State.Warmed39.refl s, rfl⟩ trivial
  refine ⟨n, _, h1, h2, h3, hpost _ _ _ _ _ _ ⟨Cond.after_iff.mpr rfl, Cond.after_iff.mpr (eq_i res_at (Term.int_eval (1)) rfl), trivial⟩ ⟨hq.1, hq.2.1, (hq.2.2.sift fun y hy => Or.inr (N y hy)).mono (by decide) (by decide)⟩⟩
theorem main_1_1 : Claimed_1_1 := comes_1 fun _ _ _ _ _ _ h hF => ⟨h.1, hF⟩
theorem main_1_2 : Claimed_1_2 := comes_1 fun _ _ _ _ _ _ h hF => ⟨h.2.1, hF⟩
end Jvm.Pilot.@@N@@
namespace Jvm.Pilot.@@N@@
open Jvm Jvm.ClassFile Sem Op Lib Jvm.Free Jvm.Stand Jvm.Pilot.@@N@@.Jvm.D
/-! MADE BY PROGRAM (witnessworld.py) out of the Statement's table words and the real class files: 10 classes; the members and pool entries that the words name. The judged class is class 1, her method 2. -/
namespace start1
open Jvm.ClassFile
def u (s : String) : CpInfo := .utf8 (stringToUtf16 s)
/-- a pool by its gaps: so many unusable entries, then the entry; so many at the end -/
def gap : Nat → List CpInfo → List CpInfo
  | 0, r => r
  | n + 1, r => .unusable :: gap n r
def poolList (es : List (Nat × CpInfo)) (last : Nat) : List CpInfo := es.foldr (fun e r => gap e.1 (e.2 :: r)) (gap last [])
def pool (es : List (Nat × CpInfo)) (last : Nat) : Array CpInfo := ⟨poolList es last⟩
def fileOf (pool : Array CpInfo) (this : Nat) (attrs : Array Attribute := #[]) (ms : Array MethodInfo := #[]) (fl : Nat := 33) (sup : Nat := 0) (ifs : Array Nat := #[]) (fds : Array FieldInfo := #[]) : ClassFile where
  minorVersion := 0
  majorVersion := 65
  constantPool := pool
  accessFlags := fl
  thisClass := this
  superClass := sup
  interfaces := ifs
  fields := fds
  methods := ms
  attributes := attrs
def plain (name : String) (sup : Option ClassId) : Class where
  name := name
  kind := .ordinary
  loader := none
  accessFlags := 33
  super := sup
  interfaces := #[]
  cf := none
  fields := #[]
  methods := #[]
  instanceTypes := #[]
  staticTypes := #[]
  resolved := #[]
  callSites := []
  init := .initialized
  statics := none
  mirror := none

def pool0 : Array CpInfo := pool [(5, u "<init>"), (0, u "()V"), (1, .class_ 10), (1, u "java/lang/Object")] 113

def k0c0 : Code := { maxStack := 0, maxLocals := 1, code := object_method_1_code, exceptionTable := #[], attributes := #[] }
def k0m0 : Method := { name := "<init>", desc := "()V", sig := { parameters := [], returnType := none }, accessFlags := 1, code := some k0c0 }
/-- java/lang/Object -/
def k0 : Class := { plain "java/lang/Object" none with
  accessFlags := 33
  interfaces := #[]
  cf := some (fileOf pool0 8 #[] #[{ accessFlags := 1, nameIndex := 5, descriptorIndex := 6, attributes := #[] }] 33 0 #[] #[])
  fields := #[]
  methods := #[k0m0]
  instanceTypes := #[]
  staticTypes := #[]
  resolved := Array.replicate 124 none
  statics := none }

def pool1 : Array CpInfo := pool [(2, .class_ 4), (1, u "java/lang/Object"), (0, u "<init>"), (0, u "()V"), (0, .methodref 8 9), (0, .class_ 10), (0, .nameAndType 11 12), (0, u "java/lang/Math"), (0, u "max"), (0, u "(II)I"), (0, .integer 2147483647), (0, .long 3), (1, .long 4294967295), (1, .class_ 19), (0, u "com/example/soak/soak/control/EdgeWindow"), (0, .methodref 18 21), (0, .nameAndType 5 22), (0, u "(I)V"), (0, .methodref 18 24), (0, .nameAndType 25 26), (0, u "grant"), (0, u "(J)V"), (0, .methodref 18 28), (0, .nameAndType 29 30), (0, u "admitNewCall"), (0, u "()Z"), (0, .methodref 32 33), (0, .class_ 34), (0, .nameAndType 35 36), (0, u "com/example/soak/soak/control/EdgeWindowAdmitNewCallPinLaw"), (0, u "expected"), (0, u "(IIIJ)Z"), (3, u "law"), (0, u "(IJII)Z")] 2

def k1m0 : Method := { name := "<init>", desc := "()V", sig := { parameters := [], returnType := none }, accessFlags := 1, code := none }
def k1c1 : Code := { maxStack := 6, maxLocals := 5, code := method_2_code, exceptionTable := #[], attributes := #[] }
def k1m1 : Method := { name := "expected", desc := "(IIIJ)Z", sig := { parameters := [.int, .int, .int, .long], returnType := some .boolean }, accessFlags := 10, code := some k1c1 }
def k1c2 : Code := { maxStack := 6, maxLocals := 19, code := code, exceptionTable := #[], attributes := #[] }
def k1m2 : Method := { name := "law", desc := "(IJII)Z", sig := { parameters := [.int, .long, .int, .int], returnType := some .boolean }, accessFlags := 9, code := some k1c2 }
/-- com/example/soak/soak/control/EdgeWindowAdmitNewCallPinLaw -/
def k1 : Class := { plain "com/example/soak/soak/control/EdgeWindowAdmitNewCallPinLaw" (some 0) with
  accessFlags := 49
  interfaces := #[]
  cf := some (fileOf pool1 32 #[] #[{ accessFlags := 1, nameIndex := 5, descriptorIndex := 6, attributes := #[] }, { accessFlags := 10, nameIndex := 35, descriptorIndex := 36, attributes := #[] }, { accessFlags := 9, nameIndex := 40, descriptorIndex := 41, attributes := #[] }] 49 2 #[] #[])
  fields := #[]
  methods := #[k1m0, k1m1, k1m2]
  instanceTypes := #[]
  staticTypes := #[]
  resolved := Array.replicate 44 none
  statics := none }

def pool2 : Array CpInfo := pool [(1, .methodref 2 3), (0, .class_ 4), (0, .nameAndType 5 6), (0, u "java/lang/Object"), (0, u "<init>"), (0, u "()V"), (0, .methodref 8 9), (0, .class_ 10), (0, .nameAndType 11 12), (0, u "com/example/soak/soak/control/EdgeWindow"), (0, u "checkInitialWindow"), (0, u "(I)V"), (0, .fieldref 8 14), (0, .nameAndType 15 16), (0, u "window"), (0, u "J"), (12, u "admitNewCall"), (0, u "()Z"), (0, u "grant"), (0, u "(J)V")] 17

def k2c0 : Code := { maxStack := 3, maxLocals := 2, code := prog_5_method_1_code, exceptionTable := #[], attributes := #[] }
def k2m0 : Method := { name := "<init>", desc := "(I)V", sig := { parameters := [.int], returnType := none }, accessFlags := 1, code := some k2c0 }
def k2c1 : Code := { maxStack := 3, maxLocals := 1, code := prog_5_method_2_code, exceptionTable := #[], attributes := #[] }
def k2m1 : Method := { name := "checkInitialWindow", desc := "(I)V", sig := { parameters := [.int], returnType := none }, accessFlags := 9, code := some k2c1 }
def k2c2 : Code := { maxStack := 5, maxLocals := 2, code := prog_5_method_3_code, exceptionTable := #[], attributes := #[] }
def k2m2 : Method := { name := "admitNewCall", desc := "()Z", sig := { parameters := [], returnType := some .boolean }, accessFlags := 1, code := some k2c2 }
def k2c3 : Code := { maxStack := 5, maxLocals := 3, code := prog_5_method_4_code, exceptionTable := #[], attributes := #[] }
def k2m3 : Method := { name := "grant", desc := "(J)V", sig := { parameters := [.long], returnType := none }, accessFlags := 1, code := some k2c3 }
/-- com/example/soak/soak/control/EdgeWindow -/
def k2 : Class := { plain "com/example/soak/soak/control/EdgeWindow" (some 0) with
  accessFlags := 49
  interfaces := #[]
  cf := some (fileOf pool2 8 #[] #[{ accessFlags := 1, nameIndex := 5, descriptorIndex := 12, attributes := #[] }, { accessFlags := 9, nameIndex := 11, descriptorIndex := 12, attributes := #[] }, { accessFlags := 1, nameIndex := 29, descriptorIndex := 30, attributes := #[] }, { accessFlags := 1, nameIndex := 31, descriptorIndex := 32, attributes := #[] }] 49 2 #[] #[{ accessFlags := 2, nameIndex := 15, descriptorIndex := 16, attributes := #[] }])
  fields := #[{ name := "window", type := .long, accessFlags := 2, slot := 0, constantValue := 0 }]
  methods := #[k2m0, k2m1, k2m2, k2m3]
  instanceTypes := #[.long]
  staticTypes := #[]
  resolved := Array.replicate 50 none
  statics := none }

def pool3 : Array CpInfo := pool [(1, .class_ 2), (0, u "java/lang/Math"), (1, .class_ 6), (1, u "java/lang/Object"), (0, u "<init>"), (0, u "()V"), (89, .class_ 100), (1, u "java/lang/Math$RandomNumberGeneratorHolder"), (71, u "negativeZeroFloatBits"), (0, u "J"), (2, u "negativeZeroDoubleBits"), (21, u "max"), (46, u "$assertionsDisabled"), (0, u "Z"), (88, u "(II)I"), (2, u "twoToTheDoubleScaleDown"), (0, u "D"), (4, u "twoToTheDoubleScaleUp"), (9, u "E"), (3, u "PI"), (2, u "TAU"), (2, u "DEGREES_TO_RADIANS"), (0, u "RADIANS_TO_DEGREES")] 94

def k3m0 : Method := { name := "<init>", desc := "()V", sig := { parameters := [], returnType := none }, accessFlags := 2, code := none }
def k3c1 : Code := { maxStack := 2, maxLocals := 2, code := jdk_29_method_65_code, exceptionTable := #[], attributes := #[] }
def k3m1 : Method := { name := "max", desc := "(II)I", sig := { parameters := [.int, .int], returnType := some .int }, accessFlags := 9, code := some k3c1 }
/-- java/lang/Math -/
def k3 : Class := { plain "java/lang/Math" (some 0) with
  accessFlags := 49
  interfaces := #[]
  cf := some (fileOf pool3 1 #[.nestMembers #[98]] #[{ accessFlags := 2, nameIndex := 7, descriptorIndex := 8, attributes := #[] }, { accessFlags := 9, nameIndex := 198, descriptorIndex := 335, attributes := #[] }] 49 4 #[] #[{ accessFlags := 25, nameIndex := 354, descriptorIndex := 339, attributes := #[] }, { accessFlags := 25, nameIndex := 358, descriptorIndex := 339, attributes := #[] }, { accessFlags := 25, nameIndex := 361, descriptorIndex := 339, attributes := #[] }, { accessFlags := 26, nameIndex := 364, descriptorIndex := 339, attributes := #[] }, { accessFlags := 26, nameIndex := 365, descriptorIndex := 339, attributes := #[] }, { accessFlags := 26, nameIndex := 172, descriptorIndex := 173, attributes := #[] }, { accessFlags := 26, nameIndex := 176, descriptorIndex := 173, attributes := #[] }, { accessFlags := 8, nameIndex := 344, descriptorIndex := 339, attributes := #[] }, { accessFlags := 8, nameIndex := 338, descriptorIndex := 339, attributes := #[] }, { accessFlags := 4120, nameIndex := 245, descriptorIndex := 246, attributes := #[] }])
  fields := #[{ name := "E", type := .double, accessFlags := 25, slot := 0, constantValue := 0 }, { name := "PI", type := .double, accessFlags := 25, slot := 1, constantValue := 0 }, { name := "TAU", type := .double, accessFlags := 25, slot := 2, constantValue := 0 }, { name := "DEGREES_TO_RADIANS", type := .double, accessFlags := 26, slot := 3, constantValue := 0 }, { name := "RADIANS_TO_DEGREES", type := .double, accessFlags := 26, slot := 4, constantValue := 0 }, { name := "negativeZeroFloatBits", type := .long, accessFlags := 26, slot := 5, constantValue := 0 }, { name := "negativeZeroDoubleBits", type := .long, accessFlags := 26, slot := 6, constantValue := 0 }, { name := "twoToTheDoubleScaleUp", type := .double, accessFlags := 8, slot := 7, constantValue := 0 }, { name := "twoToTheDoubleScaleDown", type := .double, accessFlags := 8, slot := 8, constantValue := 0 }, { name := "$assertionsDisabled", type := .boolean, accessFlags := 4120, slot := 9, constantValue := 0 }]
  methods := #[k3m0, k3m1]
  instanceTypes := #[]
  staticTypes := #[.double, .double, .double, .double, .double, .long, .long, .double, .double, .boolean]
  resolved := Array.replicate 460 none
  statics := none }

def pool4 : Array CpInfo := pool [(1, u "java/lang/Cloneable"), (0, .class_ 1), (0, u "java/lang/Object"), (0, .class_ 3)] 3

/-- java/lang/Cloneable -/
def k4 : Class := { plain "java/lang/Cloneable" (some 0) with
  accessFlags := 1537
  interfaces := #[]
  cf := some (fileOf pool4 2 #[] #[] 1537 4 #[] #[])
  fields := #[]
  methods := #[]
  instanceTypes := #[]
  staticTypes := #[]
  resolved := Array.replicate 8 none
  statics := none }

def pool5 : Array CpInfo := pool [(1, u "java/io/Serializable"), (0, .class_ 1), (0, u "java/lang/Object"), (0, .class_ 3)] 3

/-- java/io/Serializable -/
def k5 : Class := { plain "java/io/Serializable" (some 0) with
  accessFlags := 1537
  interfaces := #[]
  cf := some (fileOf pool5 2 #[] #[] 1537 4 #[] #[])
  fields := #[]
  methods := #[]
  instanceTypes := #[]
  staticTypes := #[]
  resolved := Array.replicate 8 none
  statics := none }

/-- the primitive byte -/
def k6 : Class := { plain "byte" none with kind := .primitive 'B', accessFlags := 0x411 }
/-- [B -/
def k7 : Class := { plain "[B" (some 0) with kind := .array 6 .byte, interfaces := #[4, 5], accessFlags := 1041 }

/-- the primitive int -/
def k8 : Class := { plain "int" none with kind := .primitive 'I', accessFlags := 0x411 }
/-- [I -/
def k9 : Class := { plain "[I" (some 0) with kind := .array 8 .int, interfaces := #[4, 5], accessFlags := 1041 }

def heap : Heap := #[]
def classes : Array Class := #[k0, k1, k2, k3, k4, k5, k6, k7, k8, k9]
def interned : List (Array UInt16 × Addr) := []
def slotsUsed : Nat := 0
def theMethod : MethodId := ⟨1, 2⟩
def args0 : Array Value := #[.int 5, .long 9, .int 3, .int 2]
def aboutOver (below : List Frame) : State where
  vm := { classes := classes, interned := interned.toArray }
  heap := heap
  slotsUsed := slotsUsed
  threads := #[{ frames := .invoking theMethod args0 :: below }]
def below0 : List Frame := [.native { method := ⟨0, 0⟩, args := #[] }]
def about1 : State := aboutOver below0
def p0 : Program := .bare "" "" ""
def e0 : Env := launch0.env 0 0 0
theorem w_frames : about1.frames = Frame.invoking theMethod args0 :: below0 := rfl
set_option maxRecDepth 65536 in
theorem w_args : argsFit about1.vm theMethod args0 = true := by decide +kernel
set_option maxRecDepth 65536 in
theorem w_heap : heapFits about1 = true := by decide +kernel
set_option maxRecDepth 65536 in
theorem w_runnable : about1.curStatus? = some .runnable := by decide +kernel
set_option maxRecDepth 65536 in
theorem w_alone : about1.alone = true := by decide +kernel
set_option maxRecDepth 65536 in
theorem w_named : about1.methodNamed? x = some theMethod := by decide +kernel
set_option maxRecDepth 65536 in
theorem w_hears : about1.hears theMethod below0 = true := by decide +kernel
set_option maxRecDepth 65536 in
theorem w_ripe : about1.ripe theMethod args0 below0 = true := by decide +kernel
theorem w_running : about1.status = .running := rfl
set_option maxRecDepth 65536 in
theorem w_room : about1.hasRoom e0.platform room_1 = true :=
  launch0.hasRoom_least _ room_1 (by decide +kernel) (by decide +kernel) (by decide +kernel) (by decide +kernel) (by decide +kernel) (by decide +kernel)
theorem allAtoms_all (ts : List Jvm.Cond) (a : Array Jvm.Value) (st : Jvm.State) : (allAtoms ts).before a st = ts.all (fun c => c.before a st) := by
  induction ts with
  | nil => rfl
  | cons c t ih =>
    show (Jvm.Cond.and c (allAtoms t)).before a st = _
    rw [Jvm.Cond.before_and, ih, List.all_cons]
def words1 : List Jvm.Cond := Jvm.Cond.code x code maxLocals ret :: tables_1
/-- a 'code' word, met by the world's own term for the bytes: nothing is compared byte by byte -/
theorem code_word {y : MethodName} {bytes : ByteArray} {mx : Nat} {rt : Option FieldType} {a : Array Value} {s : State} {m : MethodId} {meth : Method} {c : Code} (h1 : s.methodNamed? y = some m) (h2 : s.vm.method? m = some meth) (h3 : meth.code = some c) (h4 : c.code = bytes)
    (h5 : (c.maxLocals == mx && c.exceptionTable.isEmpty && decide (c.maxStack ≤ mostOperands) && decide (meth.sig.returnType = rt) && !meth.locks && decide (parseMethodDescriptor y.desc = some meth.sig)) = true) : (Jvm.Cond.code y bytes mx rt).before a s = true := by
  simp only [Bool.and_eq_true, beq_iff_eq, Bool.not_eq_true', decide_eq_true_eq] at h5
  obtain ⟨⟨⟨⟨⟨g1, g2⟩, g3⟩, g4⟩, g5⟩, g6⟩ := h5
  simp [Cond.before, Cond.holds, Cond.value, h1, h2, h3, h4, g1, g2, g3, g4, g5, g6]
def isCode : Jvm.Cond → Bool
  | .code _ _ _ _ => true
  | _ => false
theorem all_split {L : List Jvm.Cond} {P : Jvm.Cond → Bool} (h1 : L.all (fun c => isCode c || P c) = true) (h2 : ∀ c ∈ L.filter isCode, P c = true) : L.all P = true := by
  refine List.all_eq_true.mpr fun c hc => ?_
  have h := List.all_eq_true.mp h1 c hc
  rcases Bool.eq_false_or_eq_true (isCode c) with hi | hi
  · exact h2 c (List.mem_filter.mpr ⟨hc, hi⟩)
  · simpa [hi] using h
set_option maxRecDepth 65536 in
theorem w_c0 : (Jvm.Cond.code x code maxLocals ret).before args0 about1 = true := code_word (m := ⟨1, 2⟩) (meth := k1m2) (c := k1c2) (by decide +kernel) rfl rfl rfl (by decide +kernel)
set_option maxRecDepth 65536 in
theorem w_c1 : (Jvm.Cond.code ({ cls := "com/example/soak/soak/control/EdgeWindow", name := "<init>", desc := "(I)V" } : Jvm.MethodName) prog_5_method_1_code (2 : Nat) (Option.none : Option Jvm.ClassFile.FieldType)).before args0 about1 = true := code_word (m := ⟨2, 0⟩) (meth := k2m0) (c := k2c0) (by decide +kernel) rfl rfl rfl (by decide +kernel)
set_option maxRecDepth 65536 in
theorem w_c2 : (Jvm.Cond.code ({ cls := "java/lang/Object", name := "<init>", desc := "()V" } : Jvm.MethodName) object_method_1_code (1 : Nat) (Option.none : Option Jvm.ClassFile.FieldType)).before args0 about1 = true := code_word (m := ⟨0, 0⟩) (meth := k0m0) (c := k0c0) (by decide +kernel) rfl rfl rfl (by decide +kernel)
set_option maxRecDepth 65536 in
theorem w_c3 : (Jvm.Cond.code ({ cls := "com/example/soak/soak/control/EdgeWindow", name := "checkInitialWindow", desc := "(I)V" } : Jvm.MethodName) prog_5_method_2_code (1 : Nat) (Option.none : Option Jvm.ClassFile.FieldType)).before args0 about1 = true := code_word (m := ⟨2, 1⟩) (meth := k2m1) (c := k2c1) (by decide +kernel) rfl rfl rfl (by decide +kernel)
set_option maxRecDepth 65536 in
theorem w_c4 : (Jvm.Cond.code ({ cls := "com/example/soak/soak/control/EdgeWindow", name := "admitNewCall", desc := "()Z" } : Jvm.MethodName) prog_5_method_3_code (2 : Nat) (Option.some Jvm.ClassFile.FieldType.boolean)).before args0 about1 = true := code_word (m := ⟨2, 2⟩) (meth := k2m2) (c := k2c2) (by decide +kernel) rfl rfl rfl (by decide +kernel)
set_option maxRecDepth 65536 in
theorem w_c5 : (Jvm.Cond.code ({ cls := "com/example/soak/soak/control/EdgeWindowAdmitNewCallPinLaw", name := "expected", desc := "(IIIJ)Z" } : Jvm.MethodName) method_2_code (5 : Nat) (Option.some Jvm.ClassFile.FieldType.boolean)).before args0 about1 = true := code_word (m := ⟨1, 1⟩) (meth := k1m1) (c := k1c1) (by decide +kernel) rfl rfl rfl (by decide +kernel)
set_option maxRecDepth 65536 in
theorem w_c6 : (Jvm.Cond.code ({ cls := "com/example/soak/soak/control/EdgeWindow", name := "grant", desc := "(J)V" } : Jvm.MethodName) prog_5_method_4_code (3 : Nat) (Option.none : Option Jvm.ClassFile.FieldType)).before args0 about1 = true := code_word (m := ⟨2, 3⟩) (meth := k2m3) (c := k2c3) (by decide +kernel) rfl rfl rfl (by decide +kernel)
set_option maxRecDepth 65536 in
theorem w_c7 : (Jvm.Cond.code ({ cls := "java/lang/Math", name := "max", desc := "(II)I" } : Jvm.MethodName) jdk_29_method_65_code (2 : Nat) (Option.some Jvm.ClassFile.FieldType.int)).before args0 about1 = true := code_word (m := ⟨3, 1⟩) (meth := k3m1) (c := k3c1) (by decide +kernel) rfl rfl rfl (by decide +kernel)
def codes1 : List Jvm.Cond := [Jvm.Cond.code x code maxLocals ret, Jvm.Cond.code ({ cls := "com/example/soak/soak/control/EdgeWindow", name := "<init>", desc := "(I)V" } : Jvm.MethodName) prog_5_method_1_code (2 : Nat) (Option.none : Option Jvm.ClassFile.FieldType), Jvm.Cond.code ({ cls := "java/lang/Object", name := "<init>", desc := "()V" } : Jvm.MethodName) object_method_1_code (1 : Nat) (Option.none : Option Jvm.ClassFile.FieldType), Jvm.Cond.code ({ cls := "com/example/soak/soak/control/EdgeWindow", name := "checkInitialWindow", desc := "(I)V" } : Jvm.MethodName) prog_5_method_2_code (1 : Nat) (Option.none : Option Jvm.ClassFile.FieldType), Jvm.Cond.code ({ cls := "com/example/soak/soak/control/EdgeWindow", name := "admitNewCall", desc := "()Z" } : Jvm.MethodName) prog_5_method_3_code (2 : Nat) (Option.some Jvm.ClassFile.FieldType.boolean), Jvm.Cond.code ({ cls := "com/example/soak/soak/control/EdgeWindowAdmitNewCallPinLaw", name := "expected", desc := "(IIIJ)Z" } : Jvm.MethodName) method_2_code (5 : Nat) (Option.some Jvm.ClassFile.FieldType.boolean), Jvm.Cond.code ({ cls := "com/example/soak/soak/control/EdgeWindow", name := "grant", desc := "(J)V" } : Jvm.MethodName) prog_5_method_4_code (3 : Nat) (Option.none : Option Jvm.ClassFile.FieldType), Jvm.Cond.code ({ cls := "java/lang/Math", name := "max", desc := "(II)I" } : Jvm.MethodName) jdk_29_method_65_code (2 : Nat) (Option.some Jvm.ClassFile.FieldType.int)]
set_option maxRecDepth 65536 in
theorem codes_eq : words1.filter isCode = codes1 := rfl
theorem w_codes : ∀ c ∈ words1.filter isCode, c.before args0 about1 = true := by
  rw [codes_eq]
  intro c hc
  simp only [codes1, List.mem_cons, List.not_mem_nil, or_false] at hc
  rcases hc with rfl | rfl | rfl | rfl | rfl | rfl | rfl | rfl
  · exact w_c0
  · exact w_c1
  · exact w_c2
  · exact w_c3
  · exact w_c4
  · exact w_c5
  · exact w_c6
  · exact w_c7
set_option maxRecDepth 65536 in
theorem w_t1 : (words1.take 24).all (fun c => isCode c || c.before args0 about1) = true := by decide +kernel
set_option maxRecDepth 65536 in
theorem w_t2 : (words1.drop 24).all (fun c => isCode c || c.before args0 about1) = true := by decide +kernel
theorem w_tables : (allAtoms (Jvm.Cond.code x code maxLocals ret :: tables_1)).before args0 about1 = true := by
  rw [allAtoms_all]
  show words1.all (fun c => c.before args0 about1) = true
  refine all_split ?_ w_codes
  rw [← List.take_append_drop 24 words1, List.all_append, w_t1, w_t2]
  rfl
set_option maxRecDepth 65536 in
theorem w_case : (Jvm.Cond.and given_1 narrow_1).before args0 about1 = true := by decide +kernel
theorem w_applies : (headSpec (Jvm.Cond.code x code maxLocals ret :: tables_1) room_1).applies x e0.platform about1 = true :=
  (Spec.applies_iff w_frames).mpr ⟨w_running, w_runnable, w_alone, w_named, w_hears, w_ripe, w_room, w_tables⟩
theorem atStart : AtStart classFile x code maxLocals ret World_1 tables_1 room_1 Calls_1 rest_1 Pre_1 launch0 p0 e0 about1 theMethod args0 below0 :=
  ⟨lists_1, trivial, launch0.admits_env _ _ _, launch0.least_env, fairChoices_fair.cas, fairChoices_fair.clock, w_frames, w_args, w_heap, w_applies, trivial, trivial, w_case⟩
end start1
theorem witness_1 : WitnessClaimed_1 := ⟨start1.p0, start1.e0, start1.about1, start1.theMethod, start1.args0, start1.below0, start1.atStart⟩
end Jvm.Pilot.@@N@@
