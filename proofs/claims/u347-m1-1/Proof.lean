import JvmDerived
import JvmDerived.Pilot.@@N@@Statement
import JvmDerived.Pilot.@@N@@Code
set_option linter.unusedVariables false
set_option linter.unusedSimpArgs false
@@BLOCK:NumsL.lean.txt@@
namespace Jvm.Pilot.@@N@@
open Jvm Jvm.ClassFile Sem Op Lib Jvm.Free Jvm.Stand Jvm.LawKit Jvm.RoadKit Bundle Jvm.Pilot.@@N@@.Jvm.D
section OwnKit
variable {p : Program} {l : Launch} {e : Env} {R : Room} {s : State} {m : MethodId} {args : Array Value} {below : List Frame} {meth : Method} {c : Code} {T T' : State} {locs : List Loc} {cells slots : Nat} {Z : State} {h : Heap} {a0 : Array Value}
/-- from the state T with the frame g on top the method comes to its end, and what it leaves meets E -/
def own_WP (p : Program) (e : Env) (below : List Frame) (E : Outcome → State → Prop) (T : State) (g : JFrame) : Prop :=
  ∃ s₂ o, Steps p.tables e below (T.setTop g) s₂ ∧ s₂.status = .running ∧ Ended s₂ below o ∧ E o s₂
/-- it returns, and what it leaves meets Q within K cells and N slots -/
def own_E (s : State) (Q : Option Value → Heap → List Loc → Prop) (K N : Nat) (o : Outcome) (t : State) : Prop := ∃ v L, o = .returned v ∧ Q v t.heap L ∧ FrameEnd s o t L K N
variable {Q : Option Value → Heap → List Loc → Prop} {K N : Nat} {g g' : JFrame} {E : Outcome → State → Prop}
theorem own_go (h : ∀ t, Steps p.tables e below (T'.setTop g') t → Steps p.tables e below (T.setTop g) t) (k : own_WP p e below E T' g') : own_WP p e below E T g := by
  obtain ⟨s₂, o, h1, h2⟩ := k
  exact ⟨s₂, o, h s₂ h1, h2⟩
theorem own_tr (h : Steps p.tables e below (T.setTop g) (T'.setTop g')) (k : own_WP p e below E T' g') : own_WP p e below E T g := by
  obtain ⟨s₂, o, h1, h2⟩ := k
  exact ⟨s₂, o, h.trans h1, h2⟩
theorem own_end (X : Stand p l e R s m args below meth c T locs cells slots) (hlk : meth.locks = false) {v : Option Value} (hv : meth.sig.returnType = none → v = none)
    (hs : ∀ fs, (∀ (f : JFrame) (acts : List Action), f.method = m → f.locked = none → f.entered = [] → (doReturn e (T.setTop f) acts v).1 = T.setFrames fs) → Steps p.tables e below (T.setTop g) (T.setFrames fs))
    (hk : cells ≤ K) (hn : slots ≤ N) (hq : Q v T.heap locs) : own_WP p e below (own_E s Q K N) T g := by
  obtain ⟨fs, hr, hrun, hended, hW, hsame⟩ := X.leave hv hlk
  exact ⟨_, _, hs fs hr, hrun, hended, _, _, rfl, hq, ⟨_, rfl⟩, hW, hsame.mono hk hn⟩
theorem own_retV (X : Stand p l e R s m args below meth c T locs cells slots) (hx : p.tables.exec = Jvm.exec) (hlk : meth.locks = false) {pc : Nat} {Ls : Array Slot} (hret : meth.sig.returnType = none) (hd : decode c.code pc = .ok (.return_, 1))
    (hk : cells ≤ K) (hn : slots ≤ N) (hq : Q none T.heap locs) : own_WP p e below (own_E s Q K N) T (mkF m pc Ls []) :=
  own_end X hlk (fun _ => rfl) (fun fs hr => X.returnOut hx hret hd hr) hk hn hq
theorem own_retI (X : Stand p l e R s m args below meth c T locs cells slots) (hx : p.tables.exec = Jvm.exec) (hlk : meth.locks = false) {pc : Nat} {Ls : Array Slot} {z : Int32} (hret : meth.sig.returnType = some .int) (hd : decode c.code pc = .ok (.ireturn, 1))
    (hk : cells ≤ K) (hn : slots ≤ N) (hq : Q (some (.int z)) T.heap locs) : own_WP p e below (own_E s Q K N) T (mkF m pc Ls [.int z]) :=
  own_end X hlk (fun h => by rw [hret] at h; cases h) (fun fs hr => retOut X hx hret rfl (Or.inl ⟨rfl, Or.inl rfl, z, rfl⟩) hd hr) hk hn hq
theorem own_retJ (X : Stand p l e R s m args below meth c T locs cells slots) (hx : p.tables.exec = Jvm.exec) (hlk : meth.locks = false) {pc : Nat} {Ls : Array Slot} {z : Int64} (hret : meth.sig.returnType = some .long) (hd : decode c.code pc = .ok (.lreturn, 1))
    (hk : cells ≤ K) (hn : slots ≤ N) (hq : Q (some (.long z)) T.heap locs) : own_WP p e below (own_E s Q K N) T (mkF m pc Ls [.long z]) :=
  own_end X hlk (fun h => by rw [hret] at h; cases h) (fun fs hr => X.lreturnOut hx hret hd hr) hk hn hq
theorem own_retA (X : Stand p l e R s m args below meth c T locs cells slots) (hx : p.tables.exec = Jvm.exec) (hlk : meth.locks = false) {pc : Nat} {Ls : Array Slot} {w : Value} (hw : w.isRef = true) {t : FieldType} (ht : t.isReference = true) (hret : meth.sig.returnType = some t) (hd : decode c.code pc = .ok (.areturn, 1))
    (hk : cells ≤ K) (hn : slots ≤ N) (hq : Q (some w) T.heap locs) : own_WP p e below (own_E s Q K N) T (mkF m pc Ls [w]) :=
  own_end X hlk (fun h => by rw [hret] at h; cases h) (fun fs hr => X.areturnOut hx hw hret ht hd hr) hk hn hq
theorem own_retN (X : Stand p l e R s m args below meth c T locs cells slots) (hx : p.tables.exec = Jvm.exec) (hlk : meth.locks = false) {pc : Nat} {Ls : Array Slot} {z : Int32} {t : FieldType} (ht : t = .boolean ∨ t = .byte ∨ t = .char ∨ t = .short) (hret : meth.sig.returnType = some t) (hd : decode c.code pc = .ok (.ireturn, 1))
    (hk : cells ≤ K) (hn : slots ≤ N) (hq : Q (some (.int (nar t z))) T.heap locs) : own_WP p e below (own_E s Q K N) T (mkF m pc Ls [.int z]) :=
  own_end X hlk (fun h => by rw [hret] at h; cases h) (fun fs hr => retN X hx hret ht hd hr) hk hn hq
theorem own_len (X : Stand p l e R s m args below meth c T locs cells slots) (hx : p.tables.exec = Jvm.exec) (hZ : Z.Warmed39 s.vm) (eT : T.heap = h) {a : Addr} {k : ClassId} {ty : FieldType} {n : Int32} {vs : List Value} {d : Value} (V : Arv Z h a k ty n vs d)
    {pc : Nat} {Ls : Array Slot} {S : List Value} (hd : decode c.code pc = .ok (.arraylength, 1)) (kk : own_WP p e below E T (mkF m (pc + 1) Ls (.int n :: S))) : own_WP p e below E T (mkF m pc Ls (.ref a :: S)) := by
  obtain ⟨cl, A, q, S1, M, H, G⟩ := V
  refine own_go (fun t k => X.arraylength hx (by rw [eT]; exact A.1) (State.isArrayOf_alike hZ.alike A.2.1) (g := mkF m pc Ls (.ref a :: S)) rfl rfl hd t k) ?_
  rw [len_of S1 M]
  exact kk
theorem own_at {cl : Cell} {n j : Int32} {vs : List Value} {d w : Value} (S1 : cl.slots.size = n.toNatClampNeg) (H : Has cl vs d) (hj : ¬ j < 0 ∧ j < n) (hv : vs.getD j.toNatClampNeg d = w) : cl.slots[j.toNatClampNeg]? = some w :=
  H.at (inb_of S1 hj) hv
theorem own_ldI (X : Stand p l e R s m args below meth c T locs cells slots) (hx : p.tables.exec = Jvm.exec) (hZ : Z.Warmed39 s.vm) (eT : T.heap = h) {a : Addr} {k : ClassId} {n j w : Int32} {vs : List Value} {d : Value} (V : Arv Z h a k .int n vs d) (hj : ¬ j < 0 ∧ j < n) (hv : vs.getD j.toNatClampNeg d = .int w)
    {pc : Nat} {Ls : Array Slot} {S : List Value} (hd : decode c.code pc = .ok (.iaload, 1)) (kk : own_WP p e below E T (mkF m (pc + 1) Ls (.int w :: S))) : own_WP p e below E T (mkF m pc Ls (.int j :: .ref a :: S)) := by
  obtain ⟨cl, A, q, S1, M, H, G⟩ := V
  exact own_go (fun t k => X.iaload hx (j := j) (v := .int w) (by rw [eT]; exact A.1) (State.isArrayOf_alike hZ.alike A.2.1) A.2.2 (inb_of S1 hj) (own_at S1 H hj hv) (g := mkF m pc Ls (.int j :: .ref a :: S)) rfl rfl hd t k) kk
theorem own_ldJ (X : Stand p l e R s m args below meth c T locs cells slots) (hx : p.tables.exec = Jvm.exec) (hZ : Z.Warmed39 s.vm) (eT : T.heap = h) {a : Addr} {k : ClassId} {n j : Int32} {w : Int64} {vs : List Value} {d : Value} (V : Arv Z h a k .long n vs d) (hj : ¬ j < 0 ∧ j < n) (hv : vs.getD j.toNatClampNeg d = .long w)
    {pc : Nat} {Ls : Array Slot} {S : List Value} (hd : decode c.code pc = .ok (.laload, 1)) (kk : own_WP p e below E T (mkF m (pc + 1) Ls (.long w :: S))) : own_WP p e below E T (mkF m pc Ls (.int j :: .ref a :: S)) := by
  obtain ⟨cl, A, q, S1, M, H, G⟩ := V
  exact own_go (fun t k => X.laload hx (j := j) (v := .long w) (by rw [eT]; exact A.1) (State.isArrayOf_alike hZ.alike A.2.1) A.2.2 (inb_of S1 hj) (own_at S1 H hj hv) (g := mkF m pc Ls (.int j :: .ref a :: S)) rfl rfl hd t k) kk
theorem own_ldB (X : Stand p l e R s m args below meth c T locs cells slots) (hx : p.tables.exec = Jvm.exec) (hZ : Z.Warmed39 s.vm) (eT : T.heap = h) {a : Addr} {k : ClassId} {n j w : Int32} {vs : List Value} {d : Value} (V : Arv Z h a k .byte n vs d) (hj : ¬ j < 0 ∧ j < n) (hv : vs.getD j.toNatClampNeg d = .int w)
    {pc : Nat} {Ls : Array Slot} {S : List Value} (hd : decode c.code pc = .ok (.baload, 1)) (kk : own_WP p e below E T (mkF m (pc + 1) Ls (.int w :: S))) : own_WP p e below E T (mkF m pc Ls (.int j :: .ref a :: S)) := by
  obtain ⟨cl, A, q, S1, M, H, G⟩ := V
  exact own_go (fun t k => X.baloadBytes hx (j := j) (v := .int w) (by rw [eT]; exact A.1) (State.isArrayOf_alike hZ.alike A.2.1) A.2.2 (inb_of S1 hj) (own_at S1 H hj hv) (g := mkF m pc Ls (.int j :: .ref a :: S)) rfl rfl hd t k) kk
theorem own_ldR (X : Stand p l e R s m args below meth c T locs cells slots) (hx : p.tables.exec = Jvm.exec) (hZ : Z.Warmed39 s.vm) (eT : T.heap = h) {a : Addr} {k : ClassId} {ty : FieldType} (hty : ty.isReference = true) {n j : Int32} {w : Value} {vs : List Value} {d : Value} (V : Arv Z h a k ty n vs d) (hj : ¬ j < 0 ∧ j < n) (hv : vs.getD j.toNatClampNeg d = w)
    {pc : Nat} {Ls : Array Slot} {S : List Value} (hd : decode c.code pc = .ok (.aaload, 1)) (kk : own_WP p e below E T (mkF m (pc + 1) Ls (w :: S))) : own_WP p e below E T (mkF m pc Ls (.int j :: .ref a :: S)) := by
  obtain ⟨cl, A, q, S1, M, H, G⟩ := V
  exact own_go (fun t k => X.aaload hx (j := j) (v := w) (by rw [eT]; exact A.1) (State.isArrayOf_alike hZ.alike A.2.1) hty A.2.2 (inb_of S1 hj) (own_at S1 H hj hv) (g := mkF m pc Ls (.int j :: .ref a :: S)) rfl rfl hd t k) kk
theorem own_stI (X : Stand p l e R s m args below meth c T locs cells slots) (hx : p.tables.exec = Jvm.exec) (hZ : Z.Warmed39 s.vm) (eT : T.heap = h) {a : Addr} {k : ClassId} {n j x : Int32} {vs : List Value} {d : Value} (V : Arv Z h a k .int n vs d) (hj : ¬ j < 0 ∧ j < n) {i : Nat} (hji : j.toNatClampNeg = i) (hi : i < vs.length)
    {pc : Nat} {Ls : Array Slot} {S : List Value} (hd : decode c.code pc = .ok (.iastore, 1))
    (kk : ∀ T' h', Stand p l e R s m args below meth c T' (locs ++ [⟨a, j.toNatClampNeg⟩]) cells slots → T'.heap = h' → Wr h h' a j.toNatClampNeg (.int x) → Arv Z h' a k .int n (vs.set i (.int x)) d → own_WP p e below E T' (mkF m (pc + 1) Ls S)) : own_WP p e below E T (mkF m pc Ls (.int x :: .int j :: .ref a :: S)) := by
  obtain ⟨cl, A, q, S1, M, H, G⟩ := V
  obtain ⟨T', h', X', e', W', st⟩ := stI X hx hZ eT A (j := j) (inb_of S1 hj) (g := mkF m pc Ls (.int x :: .int j :: .ref a :: S)) rfl rfl hd
  exact own_go st (kk T' h' X' e' W' (Arv.set A q S1 M H G rfl W' i hji hi))
theorem own_stJ (X : Stand p l e R s m args below meth c T locs cells slots) (hx : p.tables.exec = Jvm.exec) (hZ : Z.Warmed39 s.vm) (eT : T.heap = h) {a : Addr} {k : ClassId} {n j : Int32} {x : Int64} {vs : List Value} {d : Value} (V : Arv Z h a k .long n vs d) (hj : ¬ j < 0 ∧ j < n) {i : Nat} (hji : j.toNatClampNeg = i) (hi : i < vs.length)
    {pc : Nat} {Ls : Array Slot} {S : List Value} (hd : decode c.code pc = .ok (.lastore, 1))
    (kk : ∀ T' h', Stand p l e R s m args below meth c T' (locs ++ [⟨a, j.toNatClampNeg⟩]) cells slots → T'.heap = h' → Wr h h' a j.toNatClampNeg (.long x) → Arv Z h' a k .long n (vs.set i (.long x)) d → own_WP p e below E T' (mkF m (pc + 1) Ls S)) : own_WP p e below E T (mkF m pc Ls (.long x :: .int j :: .ref a :: S)) := by
  obtain ⟨cl, A, q, S1, M, H, G⟩ := V
  obtain ⟨T', h', X', e', W', st⟩ := stJ X hx hZ eT A (j := j) (inb_of S1 hj) (g := mkF m pc Ls (.long x :: .int j :: .ref a :: S)) rfl rfl hd
  exact own_go st (kk T' h' X' e' W' (Arv.set A q S1 M H G rfl W' i hji hi))
theorem own_stB (X : Stand p l e R s m args below meth c T locs cells slots) (hx : p.tables.exec = Jvm.exec) (hZ : Z.Warmed39 s.vm) (eT : T.heap = h) {a : Addr} {k : ClassId} {n j x : Int32} {vs : List Value} {d : Value} (V : Arv Z h a k .byte n vs d) (hj : ¬ j < 0 ∧ j < n) {i : Nat} (hji : j.toNatClampNeg = i) (hi : i < vs.length)
    {pc : Nat} {Ls : Array Slot} {S : List Value} (hd : decode c.code pc = .ok (.bastore, 1))
    (kk : ∀ T' h', Stand p l e R s m args below meth c T' (locs ++ [⟨a, j.toNatClampNeg⟩]) cells slots → T'.heap = h' → Wr h h' a j.toNatClampNeg (.int (nar .byte x)) → Arv Z h' a k .byte n (vs.set i (.int (nar .byte x))) d → own_WP p e below E T' (mkF m (pc + 1) Ls S)) : own_WP p e below E T (mkF m pc Ls (.int x :: .int j :: .ref a :: S)) := by
  obtain ⟨cl, A, q, S1, M, H, G⟩ := V
  obtain ⟨T', h', X', e', W', st⟩ := stB X hx hZ eT A (j := j) (inb_of S1 hj) (g := mkF m pc Ls (.int x :: .int j :: .ref a :: S)) rfl rfl hd
  exact own_go st (kk T' h' X' e' W' (Arv.set A q S1 M H G (fits_nar_byte x) W' i hji hi))
theorem own_nm {x a : Addr} (h : x ≠ a) : x ∉ [a] := fun q => h (List.mem_singleton.mp q)
theorem own_nm0 {x : Addr} : x ∉ ([] : List Addr) := List.not_mem_nil
theorem own_nm2 {x a b : Addr} (h : x ≠ a) (h' : x ≠ b) : x ∉ [a, b] := fun q => by
  rcases List.mem_cons.mp q with r | r
  · exact h r
  · exact h' (List.mem_singleton.mp r)
theorem own_le {h0 h : Heap} {n0 : Nat} {ws : List Addr} (Z0 : n0 ≤ h0.size) (K : Keep h0 h ws) : n0 ≤ h.size := Nat.le_trans Z0 K.1
end OwnKit
def own_ws (c : Int32) : Int32 := if c = 13 then 1 else if c = 10 then 1 else if c = 32 then 1 else if c = 9 then 1 else 0
def own_ka : List Int32 → Int32
  | [] => 1
  | c :: r => if own_ws c = 0 then 0 else own_ka r
theorem own_kad (L : List Int32) (j : Nat) (h : j < L.length) : own_ka (L.drop j) = if own_ws (L.getD j 0) = 0 then 0 else own_ka (L.drop (j + 1)) := by
  have e : L.drop j = L.getD j 0 :: L.drop (j + 1) := by
    rw [List.getD_eq_getElem?_getD, List.getElem?_eq_getElem h]
    exact List.drop_eq_getElem_cons h
  rw [e]; rfl
theorem own_kae (L : List Int32) (j : Nat) (h : ¬ j < L.length) : own_ka (L.drop j) = 1 := by
  rw [List.drop_eq_nil_of_le (by omega)]; rfl
theorem own_mapget (L : List Int32) (n : Nat) {z : Int32} (h : L.getD n 0 = z) : (List.map Value.int L).getD n (.int (0 : Int32)) = .int z := by
  subst h
  simp only [List.getD_eq_getElem?_getD, List.getElem?_map]
  cases L[n]? <;> rfl
theorem own_nb (z : Int32) : nar .byte (nar .byte z) = nar .byte z := by
  show z.toInt8.toInt32.toInt8.toInt32 = z.toInt8.toInt32
  rw [Int8.toInt8_toInt32]
theorem own_clamp {z : Int32} (h : 0 ≤ z.toInt) : (z.toNatClampNeg : Int) = z.toInt := by
  simp only [Int32.toNatClampNeg]; omega
theorem own_nn {a : Int32} (h : 0 ≤ a.toInt) : ¬ a < 0 := by
  rw [Int32.lt_iff_toInt_lt]
  show ¬ a.toInt < 0
  omega
theorem own_mod6 (a : Int32) : (a &&& 2147483647) % 6 = 0 ∨ (a &&& 2147483647) % 6 = 1 ∨ (a &&& 2147483647) % 6 = 2 ∨ (a &&& 2147483647) % 6 = 3 ∨ (a &&& 2147483647) % 6 = 4 ∨ (a &&& 2147483647) % 6 = 5 := by
  have e1 : (a &&& 2147483647).toInt = a.toInt % 2 ^ 31 := Jvm.Kit.i32_mask a 2147483647 (k := 31) (by decide) (by decide)
  have e2 : ((a &&& 2147483647) % 6).toInt = (a &&& 2147483647).toInt % (6 : Int32).toInt := Jvm.Kit.i32_rem_nonneg (by omega)
  have e3 : (6 : Int32).toInt = 6 := rfl
  rw [e3] at e2
  generalize (a &&& 2147483647) % 6 = y at *
  have q : ∀ k : Int32, y.toInt = k.toInt → y = k := fun k h => Int32.toInt_inj.mp h
  rcases (by omega : y.toInt = 0 ∨ y.toInt = 1 ∨ y.toInt = 2 ∨ y.toInt = 3 ∨ y.toInt = 4 ∨ y.toInt = 5) with h | h | h | h | h | h
  · exact Or.inl (q 0 h)
  · exact Or.inr (Or.inl (q 1 h))
  · exact Or.inr (Or.inr (Or.inl (q 2 h)))
  · exact Or.inr (Or.inr (Or.inr (Or.inl (q 3 h))))
  · exact Or.inr (Or.inr (Or.inr (Or.inr (Or.inl (q 4 h)))))
  · exact Or.inr (Or.inr (Or.inr (Or.inr (Or.inr (q 5 h)))))

theorem own_sc {i j : Int32} (hq1 : 0 ≤ i.toInt) (e : j.toInt = i.toInt + 1) : j.toNatClampNeg = i.toNatClampNeg + 1 := by
  simp only [Int32.toNatClampNeg]; omega
theorem own_inc {i n : Int32} {k : Nat} (hq1 : 0 ≤ i.toInt) (hq2 : i.toInt + 1 + k = n.toInt) : (i + 1).toInt = i.toInt + 1 := by
  have b := n.toInt_lt
  have e : (1 : Int32).toInt = 1 := rfl
  rw [Jvm.Kit.i32_add (by omega) (by omega), e]
theorem own_ltn {L : List Int32} {n j : Int32} (hz0 : 0 ≤ n.toInt) (hz : (L.length : Int) = n.toInt) (h0 : 0 ≤ j.toInt) (h : j < n) : j.toNatClampNeg < L.length := by
  rw [Int32.lt_iff_toInt_lt] at h
  simp only [Int32.toNatClampNeg]; omega
theorem own_ka0 (L : List Int32) (h : (0 : Int32).toNatClampNeg < L.length) : own_ka L = if own_ws (L.getD (0 : Int32).toNatClampNeg 0) = 0 then 0 else own_ka (L.drop ((0 : Int32).toNatClampNeg + 1)) := own_kad L 0 h
theorem own_kae0 (L : List Int32) (h : ¬ (0 : Int32).toNatClampNeg < L.length) : own_ka L = 1 := own_kae L 0 h
theorem own_gen {L : List Int32} {n j : Int32} (hz0 : 0 ≤ n.toInt) (hz : (L.length : Int) = n.toInt) (h0 : 0 ≤ j.toInt) (h : ¬ j < n) : ¬ j.toNatClampNeg < L.length := by
  rw [Int32.lt_iff_toInt_lt] at h
  simp only [Int32.toNatClampNeg]; omega
theorem d1_0 : decode method_3_code 0 = .ok (.iload_n 0, 1) := by decide +kernel
theorem d1_1 : decode method_3_code 1 = .ok (.sipush 256, 3) := by decide +kernel
theorem d1_4 : decode method_3_code 4 = .ok (.iand, 1) := by decide +kernel
theorem d1_5 : decode method_3_code 5 = .ok (.ifCond .eq 33, 3) := by decide +kernel
theorem d1_8 : decode method_3_code 8 = .ok (.iload_n 0, 1) := by decide +kernel
theorem d1_9 : decode method_3_code 9 = .ok (.iconst 3, 1) := by decide +kernel
theorem d1_10 : decode method_3_code 10 = .ok (.iand, 1) := by decide +kernel
theorem d1_11 : decode method_3_code 11 = .ok (.istore_n 1, 1) := by decide +kernel
theorem d1_12 : decode method_3_code 12 = .ok (.iload_n 1, 1) := by decide +kernel
theorem d1_13 : decode method_3_code 13 = .ok (.ifCond .ne 6, 3) := by decide +kernel
theorem d1_16 : decode method_3_code 16 = .ok (.bipush 13, 2) := by decide +kernel
theorem d1_18 : decode method_3_code 18 = .ok (.ireturn, 1) := by decide +kernel
theorem d1_19 : decode method_3_code 19 = .ok (.iload_n 1, 1) := by decide +kernel
theorem d1_20 : decode method_3_code 20 = .ok (.iconst 1, 1) := by decide +kernel
theorem d1_21 : decode method_3_code 21 = .ok (.if_icmp .ne 6, 3) := by decide +kernel
theorem d1_24 : decode method_3_code 24 = .ok (.bipush 10, 2) := by decide +kernel
theorem d1_26 : decode method_3_code 26 = .ok (.ireturn, 1) := by decide +kernel
theorem d1_27 : decode method_3_code 27 = .ok (.iload_n 1, 1) := by decide +kernel
theorem d1_28 : decode method_3_code 28 = .ok (.iconst 2, 1) := by decide +kernel
theorem d1_29 : decode method_3_code 29 = .ok (.if_icmp .ne 6, 3) := by decide +kernel
theorem d1_32 : decode method_3_code 32 = .ok (.bipush 32, 2) := by decide +kernel
theorem d1_34 : decode method_3_code 34 = .ok (.ireturn, 1) := by decide +kernel
theorem d1_35 : decode method_3_code 35 = .ok (.bipush 9, 2) := by decide +kernel
theorem d1_37 : decode method_3_code 37 = .ok (.ireturn, 1) := by decide +kernel
theorem d1_38 : decode method_3_code 38 = .ok (.iload_n 0, 1) := by decide +kernel
theorem d1_39 : decode method_3_code 39 = .ok (.i2b, 1) := by decide +kernel
theorem d1_40 : decode method_3_code 40 = .ok (.ireturn, 1) := by decide +kernel
theorem own_pn18 : plainName "com/example/soak/soak/sip/SipMessageIsKeepAlivePinLaw" = true := by first | (simp [plainName, overriddenIn]; done) | decide +kernel
theorem ef_1 (m : MethodId) (zx : Int32) : entryFrame m #[(.int zx)] 2 = mkF m 0 #[.val (.int zx), .unset] [] := by first | (simp [entryFrame, mkF, argsToLocals, Value.category]; done) | rfl
def Q1 (Z : State) (zx : Int32) (h0 : Heap) (n0 : Nat) (v : Option Value) (h : Heap) (L : List Loc) : Prop := ∃ (rc : Int32), v = some (.int rc) ∧ Fr n0 L ∧ h = h0 ∧ (nar .byte rc = rc)
set_option maxRecDepth 65536 in
set_option maxHeartbeats 40000000 in
theorem rm1 (l : Launch) (Z : State) (a0 : Array Value) (hw : ∀ d ∈ tables_1, d.before a0 Z = true) (ws : List Jvm.Cond) (zx : Int32) (h0 : Heap) (n0 : Nat) (Z0 : n0 ≤ h0.size)  :
    MetFree l (⟨"com/example/soak/soak/sip/SipMessageIsKeepAlivePinLaw", "pick", "(I)B"⟩ : MethodName) (head1 (Jvm.Cond.code (⟨"com/example/soak/soak/sip/SipMessageIsKeepAlivePinLaw", "pick", "(I)B"⟩ : MethodName) method_3_code 2 (some .byte) :: ws) ({ frames := 0, cells := 0, slots := 0, locals := 0 } : Room)) (fun a U => a = #[(.int zx)] ∧ Z.Warmed39 U.vm ∧ U.heap = h0) (fun _ _ _ _ _ => True) (fun _ U o U' => ∃ v L, o = .returned v ∧ Q1 Z zx h0 n0 v U'.heap L ∧ FrameEnd U o U' L ({ frames := 0, cells := 0, slots := 0, locals := 0 } : Room).cells ({ frames := 0, cells := 0, slots := 0, locals := 0 } : Room).slots) := by
  refine MetFree.of_bodySF (plainFor_of_name own_pn18) hisR ?_
  intro p e s m args below meth c s₁ Bd hml0 hP hK
  obtain ⟨rfl, hZ, hh⟩ := hP
  have hx := Bd.exec
  have hby := Bd.bytes
  have hml : c.maxLocals = 2 := hml0
  have hown : s.vm.findClass "com/example/soak/soak/sip/SipMessageIsKeepAlivePinLaw" = some m.cls := findClass_of_methodNamed Bd.named
  have hnm := (name_of_methodNamed Bd.named Bd.method).1
  have X0 : Stand p l e ({ frames := 0, cells := 0, slots := 0, locals := 0 } : Room) s m #[(.int zx)] below meth c s₁ [] 0 0 := Stand.of_body Bd
  have e0 : s₁.heap = h0 := by rw [← hh, Bd.state]; rfl
  have N0 := Fr.nil n0
  have K0 := Keep.refl h0 ([] : List Addr)
  show own_WP p e below (own_E s (Q1 Z zx h0 n0) 0 0) s₁ (entryFrame m #[(.int zx)] 2)
  rw [ef_1 m zx]
  show own_WP _ _ _ _ s₁ (mkF m 0 #[.val (.int zx), .unset] [])
  refine own_go (fun t k => XS.iloadN X0.here hx rfl (hb hby d1_0) rfl  k) ?_
  show own_WP _ _ _ _ s₁ (mkF m 1 #[.val (.int zx), .unset] [(.int zx)])
  refine own_go (fun t k => XS.sipush X0.here hx rfl (hb hby d1_1) k) ?_
  show own_WP _ _ _ _ s₁ (mkF m 4 #[.val (.int zx), .unset] [(.int (256 : Int32)), (.int zx)])
  refine own_go (fun t k => XS.iand X0.here hx rfl (hb hby d1_4) rfl k) ?_
  show own_WP _ _ _ _ s₁ (mkF m 5 #[.val (.int zx), .unset] [(.int (zx &&& (256 : Int32)))])
  by_cases hc5 : (zx &&& (256 : Int32)) = (0 : Int32)
  · refine own_go (fun t k => XS.ifYes X0.here hx rfl (pc0 := 5) (pc' := 38) rfl (hb hby d1_5) rfl ((if0 _ _).trans (teq hc5).1) (by decide) (by decide) k) ?_
    show own_WP _ _ _ _ s₁ (mkF m 38 #[.val (.int zx), .unset] [])
    refine own_go (fun t k => XS.iloadN X0.here hx rfl (hb hby d1_38) rfl  k) ?_
    show own_WP _ _ _ _ s₁ (mkF m 39 #[.val (.int zx), .unset] [(.int zx)])
    refine own_go (fun t k => XS.i2b X0.here hx rfl (hb hby d1_39) rfl k) ?_
    show own_WP _ _ _ _ s₁ (mkF m 40 #[.val (.int zx), .unset] [(.int (zx.toInt8.toInt32))])
    refine own_retN X0 hx Bd.notSynchronized (t := .byte) (by simp) Bd.returns (hb hby d1_40) (by decide) (by decide) ?_
    rw [e0]
    exact ⟨(nar .byte (zx.toInt8.toInt32)), rfl, N0, rfl, (by exact own_nb _)⟩
  · refine own_go (fun t k => XS.ifNo X0.here hx rfl (hb hby d1_5) rfl ((if0 _ _).trans (feq hc5).1) k) ?_
    show own_WP _ _ _ _ s₁ (mkF m 8 #[.val (.int zx), .unset] [])
    refine own_go (fun t k => XS.iloadN X0.here hx rfl (hb hby d1_8) rfl  k) ?_
    show own_WP _ _ _ _ s₁ (mkF m 9 #[.val (.int zx), .unset] [(.int zx)])
    refine own_go (fun t k => XS.iconst X0.here hx rfl (hb hby d1_9) k) ?_
    show own_WP _ _ _ _ s₁ (mkF m 10 #[.val (.int zx), .unset] [(.int (3 : Int32)), (.int zx)])
    refine own_go (fun t k => XS.iand X0.here hx rfl (hb hby d1_10) rfl k) ?_
    show own_WP _ _ _ _ s₁ (mkF m 11 #[.val (.int zx), .unset] [(.int (zx &&& (3 : Int32)))])
    refine own_go (fun t k => XS.istoreN X0.here hx rfl (hb hby d1_11) rfl (l' := #[.val (.int zx), .val (.int (zx &&& (3 : Int32)))]) rfl k) ?_
    show own_WP _ _ _ _ s₁ (mkF m 12 #[.val (.int zx), .val (.int (zx &&& (3 : Int32)))] [])
    refine own_go (fun t k => XS.iloadN X0.here hx rfl (hb hby d1_12) rfl  k) ?_
    show own_WP _ _ _ _ s₁ (mkF m 13 #[.val (.int zx), .val (.int (zx &&& (3 : Int32)))] [(.int (zx &&& (3 : Int32)))])
    by_cases hc13 : (zx &&& (3 : Int32)) = (0 : Int32)
    · refine own_go (fun t k => XS.ifNo X0.here hx rfl (hb hby d1_13) rfl ((if0 _ _).trans (teq hc13).2) k) ?_
      show own_WP _ _ _ _ s₁ (mkF m 16 #[.val (.int zx), .val (.int (zx &&& (3 : Int32)))] [])
      refine own_go (fun t k => XS.bipush X0.here hx rfl (hb hby d1_16) k) ?_
      show own_WP _ _ _ _ s₁ (mkF m 18 #[.val (.int zx), .val (.int (zx &&& (3 : Int32)))] [(.int (13 : Int32))])
      refine own_retN X0 hx Bd.notSynchronized (t := .byte) (by simp) Bd.returns (hb hby d1_18) (by decide) (by decide) ?_
      rw [e0]
      exact ⟨(nar .byte (13 : Int32)), rfl, N0, rfl, (by exact own_nb _)⟩
    · refine own_go (fun t k => XS.ifYes X0.here hx rfl (pc0 := 13) (pc' := 19) rfl (hb hby d1_13) rfl ((if0 _ _).trans (feq hc13).2) (by decide) (by decide) k) ?_
      show own_WP _ _ _ _ s₁ (mkF m 19 #[.val (.int zx), .val (.int (zx &&& (3 : Int32)))] [])
      refine own_go (fun t k => XS.iloadN X0.here hx rfl (hb hby d1_19) rfl  k) ?_
      show own_WP _ _ _ _ s₁ (mkF m 20 #[.val (.int zx), .val (.int (zx &&& (3 : Int32)))] [(.int (zx &&& (3 : Int32)))])
      refine own_go (fun t k => XS.iconst X0.here hx rfl (hb hby d1_20) k) ?_
      show own_WP _ _ _ _ s₁ (mkF m 21 #[.val (.int zx), .val (.int (zx &&& (3 : Int32)))] [(.int (1 : Int32)), (.int (zx &&& (3 : Int32)))])
      by_cases hc21 : (zx &&& (3 : Int32)) = (1 : Int32)
      · refine own_go (fun t k => XS.icmpNo X0.here hx rfl (hb hby d1_21) rfl (teq hc21).2 k) ?_
        show own_WP _ _ _ _ s₁ (mkF m 24 #[.val (.int zx), .val (.int (zx &&& (3 : Int32)))] [])
        refine own_go (fun t k => XS.bipush X0.here hx rfl (hb hby d1_24) k) ?_
        show own_WP _ _ _ _ s₁ (mkF m 26 #[.val (.int zx), .val (.int (zx &&& (3 : Int32)))] [(.int (10 : Int32))])
        refine own_retN X0 hx Bd.notSynchronized (t := .byte) (by simp) Bd.returns (hb hby d1_26) (by decide) (by decide) ?_
        rw [e0]
        exact ⟨(nar .byte (10 : Int32)), rfl, N0, rfl, (by exact own_nb _)⟩
      · refine own_go (fun t k => XS.icmpYes X0.here hx rfl (pc0 := 21) (pc' := 27) rfl (hb hby d1_21) rfl (feq hc21).2 (by decide) (by decide) k) ?_
        show own_WP _ _ _ _ s₁ (mkF m 27 #[.val (.int zx), .val (.int (zx &&& (3 : Int32)))] [])
        refine own_go (fun t k => XS.iloadN X0.here hx rfl (hb hby d1_27) rfl  k) ?_
        show own_WP _ _ _ _ s₁ (mkF m 28 #[.val (.int zx), .val (.int (zx &&& (3 : Int32)))] [(.int (zx &&& (3 : Int32)))])
        refine own_go (fun t k => XS.iconst X0.here hx rfl (hb hby d1_28) k) ?_
        show own_WP _ _ _ _ s₁ (mkF m 29 #[.val (.int zx), .val (.int (zx &&& (3 : Int32)))] [(.int (2 : Int32)), (.int (zx &&& (3 : Int32)))])
        by_cases hc29 : (zx &&& (3 : Int32)) = (2 : Int32)
        · refine own_go (fun t k => XS.icmpNo X0.here hx rfl (hb hby d1_29) rfl (teq hc29).2 k) ?_
          show own_WP _ _ _ _ s₁ (mkF m 32 #[.val (.int zx), .val (.int (zx &&& (3 : Int32)))] [])
          refine own_go (fun t k => XS.bipush X0.here hx rfl (hb hby d1_32) k) ?_
          show own_WP _ _ _ _ s₁ (mkF m 34 #[.val (.int zx), .val (.int (zx &&& (3 : Int32)))] [(.int (32 : Int32))])
          refine own_retN X0 hx Bd.notSynchronized (t := .byte) (by simp) Bd.returns (hb hby d1_34) (by decide) (by decide) ?_
          rw [e0]
          exact ⟨(nar .byte (32 : Int32)), rfl, N0, rfl, (by exact own_nb _)⟩
        · refine own_go (fun t k => XS.icmpYes X0.here hx rfl (pc0 := 29) (pc' := 35) rfl (hb hby d1_29) rfl (feq hc29).2 (by decide) (by decide) k) ?_
          show own_WP _ _ _ _ s₁ (mkF m 35 #[.val (.int zx), .val (.int (zx &&& (3 : Int32)))] [])
          refine own_go (fun t k => XS.bipush X0.here hx rfl (hb hby d1_35) k) ?_
          show own_WP _ _ _ _ s₁ (mkF m 37 #[.val (.int zx), .val (.int (zx &&& (3 : Int32)))] [(.int (9 : Int32))])
          refine own_retN X0 hx Bd.notSynchronized (t := .byte) (by simp) Bd.returns (hb hby d1_37) (by decide) (by decide) ?_
          rw [e0]
          exact ⟨(nar .byte (9 : Int32)), rfl, N0, rfl, (by exact own_nb _)⟩
theorem d3_0 : decode method_4_code 0 = .ok (.iload_n 0, 1) := by decide +kernel
theorem d3_1 : decode method_4_code 1 = .ok (.bipush 13, 2) := by decide +kernel
theorem d3_3 : decode method_4_code 3 = .ok (.if_icmp .eq 21, 3) := by decide +kernel
theorem d3_6 : decode method_4_code 6 = .ok (.iload_n 0, 1) := by decide +kernel
theorem d3_7 : decode method_4_code 7 = .ok (.bipush 10, 2) := by decide +kernel
theorem d3_9 : decode method_4_code 9 = .ok (.if_icmp .eq 15, 3) := by decide +kernel
theorem d3_12 : decode method_4_code 12 = .ok (.iload_n 0, 1) := by decide +kernel
theorem d3_13 : decode method_4_code 13 = .ok (.bipush 32, 2) := by decide +kernel
theorem d3_15 : decode method_4_code 15 = .ok (.if_icmp .eq 9, 3) := by decide +kernel
theorem d3_18 : decode method_4_code 18 = .ok (.iload_n 0, 1) := by decide +kernel
theorem d3_19 : decode method_4_code 19 = .ok (.bipush 9, 2) := by decide +kernel
theorem d3_21 : decode method_4_code 21 = .ok (.if_icmp .ne 7, 3) := by decide +kernel
theorem d3_24 : decode method_4_code 24 = .ok (.iconst 1, 1) := by decide +kernel
theorem d3_25 : decode method_4_code 25 = .ok (.goto 4, 3) := by decide +kernel
theorem d3_28 : decode method_4_code 28 = .ok (.iconst 0, 1) := by decide +kernel
theorem d3_29 : decode method_4_code 29 = .ok (.ireturn, 1) := by decide +kernel
theorem ef_3 (m : MethodId) (zc : Int32) : entryFrame m #[(.int zc)] 1 = mkF m 0 #[.val (.int zc)] [] := by first | (simp [entryFrame, mkF, argsToLocals, Value.category]; done) | rfl
def Q3 (Z : State) (zc : Int32) (h0 : Heap) (n0 : Nat) (v : Option Value) (h : Heap) (L : List Loc) : Prop := v = some (.int (own_ws zc)) ∧ Fr n0 L ∧ h = h0
set_option maxRecDepth 65536 in
set_option maxHeartbeats 40000000 in
theorem rm3 (l : Launch) (Z : State) (a0 : Array Value) (hw : ∀ d ∈ tables_1, d.before a0 Z = true) (ws : List Jvm.Cond) (zc : Int32) (h0 : Heap) (n0 : Nat) (Z0 : n0 ≤ h0.size)  :
    MetFree l (⟨"com/example/soak/soak/sip/SipMessageIsKeepAlivePinLaw", "ws", "(B)Z"⟩ : MethodName) (head1 (Jvm.Cond.code (⟨"com/example/soak/soak/sip/SipMessageIsKeepAlivePinLaw", "ws", "(B)Z"⟩ : MethodName) method_4_code 1 (some .boolean) :: ws) ({ frames := 0, cells := 0, slots := 0, locals := 0 } : Room)) (fun a U => a = #[(.int zc)] ∧ Z.Warmed39 U.vm ∧ U.heap = h0) (fun _ _ _ _ _ => True) (fun _ U o U' => ∃ v L, o = .returned v ∧ Q3 Z zc h0 n0 v U'.heap L ∧ FrameEnd U o U' L ({ frames := 0, cells := 0, slots := 0, locals := 0 } : Room).cells ({ frames := 0, cells := 0, slots := 0, locals := 0 } : Room).slots) := by
  refine MetFree.of_bodySF (plainFor_of_name own_pn18) hisR ?_
  intro p e s m args below meth c s₁ Bd hml0 hP hK
  obtain ⟨rfl, hZ, hh⟩ := hP
  have hx := Bd.exec
  have hby := Bd.bytes
  have hml : c.maxLocals = 1 := hml0
  have hown : s.vm.findClass "com/example/soak/soak/sip/SipMessageIsKeepAlivePinLaw" = some m.cls := findClass_of_methodNamed Bd.named
  have hnm := (name_of_methodNamed Bd.named Bd.method).1
  have X0 : Stand p l e ({ frames := 0, cells := 0, slots := 0, locals := 0 } : Room) s m #[(.int zc)] below meth c s₁ [] 0 0 := Stand.of_body Bd
  have e0 : s₁.heap = h0 := by rw [← hh, Bd.state]; rfl
  have N0 := Fr.nil n0
  have K0 := Keep.refl h0 ([] : List Addr)
  show own_WP p e below (own_E s (Q3 Z zc h0 n0) 0 0) s₁ (entryFrame m #[(.int zc)] 1)
  rw [ef_3 m zc]
  show own_WP _ _ _ _ s₁ (mkF m 0 #[.val (.int zc)] [])
  refine own_go (fun t k => XS.iloadN X0.here hx rfl (hb hby d3_0) rfl  k) ?_
  show own_WP _ _ _ _ s₁ (mkF m 1 #[.val (.int zc)] [(.int zc)])
  refine own_go (fun t k => XS.bipush X0.here hx rfl (hb hby d3_1) k) ?_
  show own_WP _ _ _ _ s₁ (mkF m 3 #[.val (.int zc)] [(.int (13 : Int32)), (.int zc)])
  by_cases hc3 : zc = (13 : Int32)
  · refine own_go (fun t k => XS.icmpYes X0.here hx rfl (pc0 := 3) (pc' := 24) rfl (hb hby d3_3) rfl (teq hc3).1 (by decide) (by decide) k) ?_
    show own_WP _ _ _ _ s₁ (mkF m 24 #[.val (.int zc)] [])
    refine own_go (fun t k => XS.iconst X0.here hx rfl (hb hby d3_24) k) ?_
    show own_WP _ _ _ _ s₁ (mkF m 25 #[.val (.int zc)] [(.int (1 : Int32))])
    refine own_go (fun t k => XS.goto X0.here hx rfl (pc0 := 25) (pc' := 29) rfl (hb hby d3_25) (by decide) (by decide) k) ?_
    show own_WP _ _ _ _ s₁ (mkF m 29 #[.val (.int zc)] [(.int (1 : Int32))])
    refine own_retN X0 hx Bd.notSynchronized (t := .boolean) (by simp) Bd.returns (hb hby d3_29) (by decide) (by decide) ?_
    rw [e0]
    exact ⟨(congrArg (fun z => some (Value.int z)) (show (nar .boolean (1 : Int32)) = (own_ws zc) from by first | (simp [nar, own_ws, hc3]; done) | (simp only [if_true, if_false, eq_self, ↓reduceIte, own_ws, hc3]; first | done | rfl | decide) | (unfold own_ws; rw [if_pos hc3]; first | done | rfl))), N0, rfl⟩
  · refine own_go (fun t k => XS.icmpNo X0.here hx rfl (hb hby d3_3) rfl (feq hc3).1 k) ?_
    show own_WP _ _ _ _ s₁ (mkF m 6 #[.val (.int zc)] [])
    refine own_go (fun t k => XS.iloadN X0.here hx rfl (hb hby d3_6) rfl  k) ?_
    show own_WP _ _ _ _ s₁ (mkF m 7 #[.val (.int zc)] [(.int zc)])
    refine own_go (fun t k => XS.bipush X0.here hx rfl (hb hby d3_7) k) ?_
    show own_WP _ _ _ _ s₁ (mkF m 9 #[.val (.int zc)] [(.int (10 : Int32)), (.int zc)])
    by_cases hc9 : zc = (10 : Int32)
    · refine own_go (fun t k => XS.icmpYes X0.here hx rfl (pc0 := 9) (pc' := 24) rfl (hb hby d3_9) rfl (teq hc9).1 (by decide) (by decide) k) ?_
      show own_WP _ _ _ _ s₁ (mkF m 24 #[.val (.int zc)] [])
      refine own_go (fun t k => XS.iconst X0.here hx rfl (hb hby d3_24) k) ?_
      show own_WP _ _ _ _ s₁ (mkF m 25 #[.val (.int zc)] [(.int (1 : Int32))])
      refine own_go (fun t k => XS.goto X0.here hx rfl (pc0 := 25) (pc' := 29) rfl (hb hby d3_25) (by decide) (by decide) k) ?_
      show own_WP _ _ _ _ s₁ (mkF m 29 #[.val (.int zc)] [(.int (1 : Int32))])
      refine own_retN X0 hx Bd.notSynchronized (t := .boolean) (by simp) Bd.returns (hb hby d3_29) (by decide) (by decide) ?_
      rw [e0]
      exact ⟨(congrArg (fun z => some (Value.int z)) (show (nar .boolean (1 : Int32)) = (own_ws zc) from by first | (simp [nar, own_ws, hc3, hc9]; done) | (simp only [if_true, if_false, eq_self, ↓reduceIte, own_ws, hc3, hc9]; first | done | rfl | decide) | (unfold own_ws; rw [if_neg hc3, if_pos hc9]; first | done | rfl))), N0, rfl⟩
    · refine own_go (fun t k => XS.icmpNo X0.here hx rfl (hb hby d3_9) rfl (feq hc9).1 k) ?_
      show own_WP _ _ _ _ s₁ (mkF m 12 #[.val (.int zc)] [])
      refine own_go (fun t k => XS.iloadN X0.here hx rfl (hb hby d3_12) rfl  k) ?_
      show own_WP _ _ _ _ s₁ (mkF m 13 #[.val (.int zc)] [(.int zc)])
      refine own_go (fun t k => XS.bipush X0.here hx rfl (hb hby d3_13) k) ?_
      show own_WP _ _ _ _ s₁ (mkF m 15 #[.val (.int zc)] [(.int (32 : Int32)), (.int zc)])
      by_cases hc15 : zc = (32 : Int32)
      · refine own_go (fun t k => XS.icmpYes X0.here hx rfl (pc0 := 15) (pc' := 24) rfl (hb hby d3_15) rfl (teq hc15).1 (by decide) (by decide) k) ?_
        show own_WP _ _ _ _ s₁ (mkF m 24 #[.val (.int zc)] [])
        refine own_go (fun t k => XS.iconst X0.here hx rfl (hb hby d3_24) k) ?_
        show own_WP _ _ _ _ s₁ (mkF m 25 #[.val (.int zc)] [(.int (1 : Int32))])
        refine own_go (fun t k => XS.goto X0.here hx rfl (pc0 := 25) (pc' := 29) rfl (hb hby d3_25) (by decide) (by decide) k) ?_
        show own_WP _ _ _ _ s₁ (mkF m 29 #[.val (.int zc)] [(.int (1 : Int32))])
        refine own_retN X0 hx Bd.notSynchronized (t := .boolean) (by simp) Bd.returns (hb hby d3_29) (by decide) (by decide) ?_
        rw [e0]
        exact ⟨(congrArg (fun z => some (Value.int z)) (show (nar .boolean (1 : Int32)) = (own_ws zc) from by first | (simp [nar, own_ws, hc3, hc9, hc15]; done) | (simp only [if_true, if_false, eq_self, ↓reduceIte, own_ws, hc3, hc9, hc15]; first | done | rfl | decide) | (unfold own_ws; rw [if_neg hc3, if_neg hc9, if_pos hc15]; first | done | rfl))), N0, rfl⟩
      · refine own_go (fun t k => XS.icmpNo X0.here hx rfl (hb hby d3_15) rfl (feq hc15).1 k) ?_
        show own_WP _ _ _ _ s₁ (mkF m 18 #[.val (.int zc)] [])
        refine own_go (fun t k => XS.iloadN X0.here hx rfl (hb hby d3_18) rfl  k) ?_
        show own_WP _ _ _ _ s₁ (mkF m 19 #[.val (.int zc)] [(.int zc)])
        refine own_go (fun t k => XS.bipush X0.here hx rfl (hb hby d3_19) k) ?_
        show own_WP _ _ _ _ s₁ (mkF m 21 #[.val (.int zc)] [(.int (9 : Int32)), (.int zc)])
        by_cases hc21 : zc = (9 : Int32)
        · refine own_go (fun t k => XS.icmpNo X0.here hx rfl (hb hby d3_21) rfl (teq hc21).2 k) ?_
          show own_WP _ _ _ _ s₁ (mkF m 24 #[.val (.int zc)] [])
          refine own_go (fun t k => XS.iconst X0.here hx rfl (hb hby d3_24) k) ?_
          show own_WP _ _ _ _ s₁ (mkF m 25 #[.val (.int zc)] [(.int (1 : Int32))])
          refine own_go (fun t k => XS.goto X0.here hx rfl (pc0 := 25) (pc' := 29) rfl (hb hby d3_25) (by decide) (by decide) k) ?_
          show own_WP _ _ _ _ s₁ (mkF m 29 #[.val (.int zc)] [(.int (1 : Int32))])
          refine own_retN X0 hx Bd.notSynchronized (t := .boolean) (by simp) Bd.returns (hb hby d3_29) (by decide) (by decide) ?_
          rw [e0]
          exact ⟨(congrArg (fun z => some (Value.int z)) (show (nar .boolean (1 : Int32)) = (own_ws zc) from by first | (simp [nar, own_ws, hc3, hc9, hc15, hc21]; done) | (simp only [if_true, if_false, eq_self, ↓reduceIte, own_ws, hc3, hc9, hc15, hc21]; first | done | rfl | decide) | (unfold own_ws; rw [if_neg hc3, if_neg hc9, if_neg hc15, if_pos hc21]; first | done | rfl))), N0, rfl⟩
        · refine own_go (fun t k => XS.icmpYes X0.here hx rfl (pc0 := 21) (pc' := 28) rfl (hb hby d3_21) rfl (feq hc21).2 (by decide) (by decide) k) ?_
          show own_WP _ _ _ _ s₁ (mkF m 28 #[.val (.int zc)] [])
          refine own_go (fun t k => XS.iconst X0.here hx rfl (hb hby d3_28) k) ?_
          show own_WP _ _ _ _ s₁ (mkF m 29 #[.val (.int zc)] [(.int (0 : Int32))])
          refine own_retN X0 hx Bd.notSynchronized (t := .boolean) (by simp) Bd.returns (hb hby d3_29) (by decide) (by decide) ?_
          rw [e0]
          exact ⟨(congrArg (fun z => some (Value.int z)) (show (nar .boolean (0 : Int32)) = (own_ws zc) from by first | (simp [nar, own_ws, hc3, hc9, hc15, hc21]; done) | (simp only [if_true, if_false, eq_self, ↓reduceIte, own_ws, hc3, hc9, hc15, hc21]; first | done | rfl | decide) | (unfold own_ws; rw [if_neg hc3, if_neg hc9, if_neg hc15, if_neg hc21]; first | done | rfl))), N0, rfl⟩
theorem d2_0 : decode prog_69_method_4_code 0 = .ok (.aload_n 0, 1) := by decide +kernel
theorem d2_1 : decode prog_69_method_4_code 1 = .ok (.astore_n 1, 1) := by decide +kernel
theorem d2_2 : decode prog_69_method_4_code 2 = .ok (.aload_n 1, 1) := by decide +kernel
theorem d2_3 : decode prog_69_method_4_code 3 = .ok (.arraylength, 1) := by decide +kernel
theorem d2_4 : decode prog_69_method_4_code 4 = .ok (.istore_n 2, 1) := by decide +kernel
theorem d2_5 : decode prog_69_method_4_code 5 = .ok (.iconst 0, 1) := by decide +kernel
theorem d2_6 : decode prog_69_method_4_code 6 = .ok (.istore_n 3, 1) := by decide +kernel
theorem d2_7 : decode prog_69_method_4_code 7 = .ok (.iload_n 3, 1) := by decide +kernel
theorem d2_8 : decode prog_69_method_4_code 8 = .ok (.iload_n 2, 1) := by decide +kernel
theorem d2_9 : decode prog_69_method_4_code 9 = .ok (.if_icmp .ge 44, 3) := by decide +kernel
theorem d2_12 : decode prog_69_method_4_code 12 = .ok (.aload_n 1, 1) := by decide +kernel
theorem d2_13 : decode prog_69_method_4_code 13 = .ok (.iload_n 3, 1) := by decide +kernel
theorem d2_14 : decode prog_69_method_4_code 14 = .ok (.baload, 1) := by decide +kernel
theorem d2_15 : decode prog_69_method_4_code 15 = .ok (.istore 4, 2) := by decide +kernel
theorem d2_17 : decode prog_69_method_4_code 17 = .ok (.iload 4, 2) := by decide +kernel
theorem d2_19 : decode prog_69_method_4_code 19 = .ok (.bipush 13, 2) := by decide +kernel
theorem d2_21 : decode prog_69_method_4_code 21 = .ok (.if_icmp .eq 26, 3) := by decide +kernel
theorem d2_24 : decode prog_69_method_4_code 24 = .ok (.iload 4, 2) := by decide +kernel
theorem d2_26 : decode prog_69_method_4_code 26 = .ok (.bipush 10, 2) := by decide +kernel
theorem d2_28 : decode prog_69_method_4_code 28 = .ok (.if_icmp .eq 19, 3) := by decide +kernel
theorem d2_31 : decode prog_69_method_4_code 31 = .ok (.iload 4, 2) := by decide +kernel
theorem d2_33 : decode prog_69_method_4_code 33 = .ok (.bipush 32, 2) := by decide +kernel
theorem d2_35 : decode prog_69_method_4_code 35 = .ok (.if_icmp .eq 12, 3) := by decide +kernel
theorem d2_38 : decode prog_69_method_4_code 38 = .ok (.iload 4, 2) := by decide +kernel
theorem d2_40 : decode prog_69_method_4_code 40 = .ok (.bipush 9, 2) := by decide +kernel
theorem d2_42 : decode prog_69_method_4_code 42 = .ok (.if_icmp .eq 5, 3) := by decide +kernel
theorem d2_45 : decode prog_69_method_4_code 45 = .ok (.iconst 0, 1) := by decide +kernel
theorem d2_46 : decode prog_69_method_4_code 46 = .ok (.ireturn, 1) := by decide +kernel
theorem d2_47 : decode prog_69_method_4_code 47 = .ok (.iinc 3 1, 3) := by decide +kernel
theorem d2_50 : decode prog_69_method_4_code 50 = .ok (.goto (-43), 3) := by decide +kernel
theorem d2_53 : decode prog_69_method_4_code 53 = .ok (.iconst 1, 1) := by decide +kernel
theorem d2_54 : decode prog_69_method_4_code 54 = .ok (.ireturn, 1) := by decide +kernel
theorem own_pn81489 : plainName "com/example/soak/soak/sip/SipMessage" = true := by first | (simp [plainName, overriddenIn]; done) | decide +kernel
theorem ef_2 (m : MethodId) (za : Addr) : entryFrame m #[(.ref za)] 5 = mkF m 0 #[.val (.ref za), .unset, .unset, .unset, .unset] [] := by first | (simp [entryFrame, mkF, argsToLocals, Value.category]; done) | rfl
def Q2 (Z : State) (za : Addr) (zk : ClassId) (zn : Int32) (zl : List Int32) (h0 : Heap) (n0 : Nat) (v : Option Value) (h : Heap) (L : List Loc) : Prop := v = some (.int (own_ka zl)) ∧ Fr n0 L ∧ h = h0
set_option maxRecDepth 65536 in
set_option maxHeartbeats 40000000 in
theorem rm2 (l : Launch) (Z : State) (a0 : Array Value) (hw : ∀ d ∈ tables_1, d.before a0 Z = true) (ws : List Jvm.Cond) (za : Addr) (zk : ClassId) (zn : Int32) (zl : List Int32) (h0 : Heap) (n0 : Nat) (Z0 : n0 ≤ h0.size) (P0 : Arv Z h0 za zk .byte zn (List.map Value.int zl) (.int (0 : Int32))) (hz0 : 0 ≤ zn.toInt) (hz : (zl.length : Int) = zn.toInt) :
    MetFree l (⟨"com/example/soak/soak/sip/SipMessage", "isKeepAlive", "([B)Z"⟩ : MethodName) (head1 (Jvm.Cond.code (⟨"com/example/soak/soak/sip/SipMessage", "isKeepAlive", "([B)Z"⟩ : MethodName) prog_69_method_4_code 5 (some .boolean) :: ws) ({ frames := 0, cells := 0, slots := 0, locals := 0 } : Room)) (fun a U => a = #[(.ref za)] ∧ Z.Warmed39 U.vm ∧ U.heap = h0) (fun _ _ _ _ _ => True) (fun _ U o U' => ∃ v L, o = .returned v ∧ Q2 Z za zk zn zl h0 n0 v U'.heap L ∧ FrameEnd U o U' L ({ frames := 0, cells := 0, slots := 0, locals := 0 } : Room).cells ({ frames := 0, cells := 0, slots := 0, locals := 0 } : Room).slots) := by
  refine MetFree.of_bodySF (plainFor_of_name own_pn81489) hisR ?_
  intro p e s m args below meth c s₁ Bd hml0 hP hK
  obtain ⟨rfl, hZ, hh⟩ := hP
  have hx := Bd.exec
  have hby := Bd.bytes
  have hml : c.maxLocals = 5 := hml0
  have hown : s.vm.findClass "com/example/soak/soak/sip/SipMessage" = some m.cls := findClass_of_methodNamed Bd.named
  have hnm := (name_of_methodNamed Bd.named Bd.method).1
  have X0 : Stand p l e ({ frames := 0, cells := 0, slots := 0, locals := 0 } : Room) s m #[(.ref za)] below meth c s₁ [] 0 0 := Stand.of_body Bd
  have e0 : s₁.heap = h0 := by rw [← hh, Bd.state]; rfl
  have N0 := Fr.nil n0
  have K0 := Keep.refl h0 ([] : List Addr)
  show own_WP p e below (own_E s (Q2 Z za zk zn zl h0 n0) 0 0) s₁ (entryFrame m #[(.ref za)] 5)
  rw [ef_2 m za]
  show own_WP _ _ _ _ s₁ (mkF m 0 #[.val (.ref za), .unset, .unset, .unset, .unset] [])
  refine own_go (fun t k => XS.aloadN X0.here hx rfl (hb hby d2_0) rfl rfl  k) ?_
  show own_WP _ _ _ _ s₁ (mkF m 1 #[.val (.ref za), .unset, .unset, .unset, .unset] [(.ref za)])
  refine own_go (fun t k => XS.astoreN X0.here hx rfl (hb hby d2_1) rfl rfl (l' := #[.val (.ref za), .val (.ref za), .unset, .unset, .unset]) rfl k) ?_
  show own_WP _ _ _ _ s₁ (mkF m 2 #[.val (.ref za), .val (.ref za), .unset, .unset, .unset] [])
  refine own_go (fun t k => XS.aloadN X0.here hx rfl (hb hby d2_2) rfl rfl  k) ?_
  show own_WP _ _ _ _ s₁ (mkF m 3 #[.val (.ref za), .val (.ref za), .unset, .unset, .unset] [(.ref za)])
  refine own_len X0 hx hZ e0 P0 (hb hby d2_3) ?_
  show own_WP _ _ _ _ s₁ (mkF m 4 #[.val (.ref za), .val (.ref za), .unset, .unset, .unset] [(.int zn)])
  refine own_go (fun t k => XS.istoreN X0.here hx rfl (hb hby d2_4) rfl (l' := #[.val (.ref za), .val (.ref za), .val (.int zn), .unset, .unset]) rfl k) ?_
  show own_WP _ _ _ _ s₁ (mkF m 5 #[.val (.ref za), .val (.ref za), .val (.int zn), .unset, .unset] [])
  refine own_go (fun t k => XS.iconst X0.here hx rfl (hb hby d2_5) k) ?_
  show own_WP _ _ _ _ s₁ (mkF m 6 #[.val (.ref za), .val (.ref za), .val (.int zn), .unset, .unset] [(.int (0 : Int32))])
  refine own_go (fun t k => XS.istoreN X0.here hx rfl (hb hby d2_6) rfl (l' := #[.val (.ref za), .val (.ref za), .val (.int zn), .val (.int (0 : Int32)), .unset]) rfl k) ?_
  have J47 : ∀ (zm : Nat) (zi : Int32) (zc4 : Int32) (T1 : State) (L1 : List Loc), Stand p l e ({ frames := 0, cells := 0, slots := 0, locals := 0 } : Room) s m #[(.ref za)] below meth c T1 L1 0 0 → T1.heap = h0 → Fr n0 L1 → (0 ≤ zi.toInt) → (zi.toInt + 1 + zm = zn.toInt) → (own_ka zl = own_ka (zl.drop (zi.toNatClampNeg + 1))) → own_WP p e below (own_E s (Q2 Z za zk zn zl h0 n0) 0 0) T1 (mkF m 47 #[.val (.ref za), .val (.ref za), .val (.int zn), .val (.int zi), .val (.int zc4)] []) := by
    intro zm
    induction zm using Nat.strongRecOn with
    | _ zm ih =>
      intro zi zc4 T1 L1 X1 e1 N1 hq1 hq2 hq3
      have ei : (zi + (1 : Int32)).toInt = zi.toInt + 1 := own_inc hq1 hq2
      show own_WP _ _ _ _ T1 (mkF m 47 #[.val (.ref za), .val (.ref za), .val (.int zn), .val (.int zi), .val (.int zc4)] [])
      refine own_go (fun t k => XS.iinc X1.here hx rfl (hb hby d2_47) rfl (l' := #[.val (.ref za), .val (.ref za), .val (.int zn), .val (.int (zi + (1 : Int32))), .val (.int zc4)]) rfl k) ?_
      show own_WP _ _ _ _ T1 (mkF m 50 #[.val (.ref za), .val (.ref za), .val (.int zn), .val (.int (zi + (1 : Int32))), .val (.int zc4)] [])
      refine own_go (fun t k => XS.goto X1.here hx rfl (pc0 := 50) (pc' := 7) rfl (hb hby d2_50) (by decide) (by decide) k) ?_
      show own_WP _ _ _ _ T1 (mkF m 7 #[.val (.ref za), .val (.ref za), .val (.int zn), .val (.int (zi + (1 : Int32))), .val (.int zc4)] [])
      refine own_go (fun t k => XS.iloadN X1.here hx rfl (hb hby d2_7) rfl  k) ?_
      show own_WP _ _ _ _ T1 (mkF m 8 #[.val (.ref za), .val (.ref za), .val (.int zn), .val (.int (zi + (1 : Int32))), .val (.int zc4)] [(.int (zi + (1 : Int32)))])
      refine own_go (fun t k => XS.iloadN X1.here hx rfl (hb hby d2_8) rfl  k) ?_
      show own_WP _ _ _ _ T1 (mkF m 9 #[.val (.ref za), .val (.ref za), .val (.int zn), .val (.int (zi + (1 : Int32))), .val (.int zc4)] [(.int zn), (.int (zi + (1 : Int32)))])
      by_cases hc9 : (zi + (1 : Int32)) < zn
      · refine own_go (fun t k => XS.icmpNo X1.here hx rfl (hb hby d2_9) rfl (tlt hc9).2.1 k) ?_
        show own_WP _ _ _ _ T1 (mkF m 12 #[.val (.ref za), .val (.ref za), .val (.int zn), .val (.int (zi + (1 : Int32))), .val (.int zc4)] [])
        refine own_go (fun t k => XS.aloadN X1.here hx rfl (hb hby d2_12) rfl rfl  k) ?_
        show own_WP _ _ _ _ T1 (mkF m 13 #[.val (.ref za), .val (.ref za), .val (.int zn), .val (.int (zi + (1 : Int32))), .val (.int zc4)] [(.ref za)])
        refine own_go (fun t k => XS.iloadN X1.here hx rfl (hb hby d2_13) rfl  k) ?_
        show own_WP _ _ _ _ T1 (mkF m 14 #[.val (.ref za), .val (.ref za), .val (.int zn), .val (.int (zi + (1 : Int32))), .val (.int zc4)] [(.int (zi + (1 : Int32))), (.ref za)])
        refine own_ldB X1 hx hZ e1 P0 (j := (zi + (1 : Int32))) (w := (zl.getD (zi + (1 : Int32)).toNatClampNeg 0)) ⟨own_nn (by rw [ei]; omega), hc9⟩ (own_mapget zl _ rfl) (hb hby d2_14) ?_
        show own_WP _ _ _ _ T1 (mkF m 15 #[.val (.ref za), .val (.ref za), .val (.int zn), .val (.int (zi + (1 : Int32))), .val (.int zc4)] [(.int (zl.getD (zi + (1 : Int32)).toNatClampNeg 0))])
        generalize d_zc : (zl.getD (zi + (1 : Int32)).toNatClampNeg 0) = zc
        refine own_go (fun t k => XS.istore X1.here hx rfl (hb hby d2_15) rfl (l' := #[.val (.ref za), .val (.ref za), .val (.int zn), .val (.int (zi + (1 : Int32))), .val (.int zc)]) rfl k) ?_
        show own_WP _ _ _ _ T1 (mkF m 17 #[.val (.ref za), .val (.ref za), .val (.int zn), .val (.int (zi + (1 : Int32))), .val (.int zc)] [])
        refine own_go (fun t k => XS.iload X1.here hx rfl (hb hby d2_17) rfl  k) ?_
        show own_WP _ _ _ _ T1 (mkF m 19 #[.val (.ref za), .val (.ref za), .val (.int zn), .val (.int (zi + (1 : Int32))), .val (.int zc)] [(.int zc)])
        refine own_go (fun t k => XS.bipush X1.here hx rfl (hb hby d2_19) k) ?_
        show own_WP _ _ _ _ T1 (mkF m 21 #[.val (.ref za), .val (.ref za), .val (.int zn), .val (.int (zi + (1 : Int32))), .val (.int zc)] [(.int (13 : Int32)), (.int zc)])
        by_cases hc21 : zc = (13 : Int32)
        · refine own_go (fun t k => XS.icmpYes X1.here hx rfl (pc0 := 21) (pc' := 47) rfl (hb hby d2_21) rfl (teq hc21).1 (by decide) (by decide) k) ?_
          show own_WP _ _ _ _ T1 (mkF m 47 #[.val (.ref za), .val (.ref za), .val (.int zn), .val (.int (zi + (1 : Int32))), .val (.int zc)] [])
          exact ih (zn.toInt - (zi + (1 : Int32)).toInt - 1).toNat (by have q := Int32.lt_iff_toInt_lt.mp hc9; rw [ei] at q ⊢; omega) ((zi + (1 : Int32))) zc _ _ X1 e1 N1 (by rw [ei]; omega) (by have q := Int32.lt_iff_toInt_lt.mp hc9; rw [ei] at q ⊢; omega) (by rw [hq3, ← own_sc hq1 ei, own_kad zl _ (own_ltn hz0 hz (by rw [ei]; omega) hc9), if_neg]; rw [d_zc]; simp [own_ws, hc21])
        · refine own_go (fun t k => XS.icmpNo X1.here hx rfl (hb hby d2_21) rfl (feq hc21).1 k) ?_
          show own_WP _ _ _ _ T1 (mkF m 24 #[.val (.ref za), .val (.ref za), .val (.int zn), .val (.int (zi + (1 : Int32))), .val (.int zc)] [])
          refine own_go (fun t k => XS.iload X1.here hx rfl (hb hby d2_24) rfl  k) ?_
          show own_WP _ _ _ _ T1 (mkF m 26 #[.val (.ref za), .val (.ref za), .val (.int zn), .val (.int (zi + (1 : Int32))), .val (.int zc)] [(.int zc)])
          refine own_go (fun t k => XS.bipush X1.here hx rfl (hb hby d2_26) k) ?_
          show own_WP _ _ _ _ T1 (mkF m 28 #[.val (.ref za), .val (.ref za), .val (.int zn), .val (.int (zi + (1 : Int32))), .val (.int zc)] [(.int (10 : Int32)), (.int zc)])
          by_cases hc28 : zc = (10 : Int32)
          · refine own_go (fun t k => XS.icmpYes X1.here hx rfl (pc0 := 28) (pc' := 47) rfl (hb hby d2_28) rfl (teq hc28).1 (by decide) (by decide) k) ?_
            show own_WP _ _ _ _ T1 (mkF m 47 #[.val (.ref za), .val (.ref za), .val (.int zn), .val (.int (zi + (1 : Int32))), .val (.int zc)] [])
            exact ih (zn.toInt - (zi + (1 : Int32)).toInt - 1).toNat (by have q := Int32.lt_iff_toInt_lt.mp hc9; rw [ei] at q ⊢; omega) ((zi + (1 : Int32))) zc _ _ X1 e1 N1 (by rw [ei]; omega) (by have q := Int32.lt_iff_toInt_lt.mp hc9; rw [ei] at q ⊢; omega) (by rw [hq3, ← own_sc hq1 ei, own_kad zl _ (own_ltn hz0 hz (by rw [ei]; omega) hc9), if_neg]; rw [d_zc]; simp [own_ws, hc21, hc28])
          · refine own_go (fun t k => XS.icmpNo X1.here hx rfl (hb hby d2_28) rfl (feq hc28).1 k) ?_
            show own_WP _ _ _ _ T1 (mkF m 31 #[.val (.ref za), .val (.ref za), .val (.int zn), .val (.int (zi + (1 : Int32))), .val (.int zc)] [])
            refine own_go (fun t k => XS.iload X1.here hx rfl (hb hby d2_31) rfl  k) ?_
            show own_WP _ _ _ _ T1 (mkF m 33 #[.val (.ref za), .val (.ref za), .val (.int zn), .val (.int (zi + (1 : Int32))), .val (.int zc)] [(.int zc)])
            refine own_go (fun t k => XS.bipush X1.here hx rfl (hb hby d2_33) k) ?_
            show own_WP _ _ _ _ T1 (mkF m 35 #[.val (.ref za), .val (.ref za), .val (.int zn), .val (.int (zi + (1 : Int32))), .val (.int zc)] [(.int (32 : Int32)), (.int zc)])
            by_cases hc35 : zc = (32 : Int32)
            · refine own_go (fun t k => XS.icmpYes X1.here hx rfl (pc0 := 35) (pc' := 47) rfl (hb hby d2_35) rfl (teq hc35).1 (by decide) (by decide) k) ?_
              show own_WP _ _ _ _ T1 (mkF m 47 #[.val (.ref za), .val (.ref za), .val (.int zn), .val (.int (zi + (1 : Int32))), .val (.int zc)] [])
              exact ih (zn.toInt - (zi + (1 : Int32)).toInt - 1).toNat (by have q := Int32.lt_iff_toInt_lt.mp hc9; rw [ei] at q ⊢; omega) ((zi + (1 : Int32))) zc _ _ X1 e1 N1 (by rw [ei]; omega) (by have q := Int32.lt_iff_toInt_lt.mp hc9; rw [ei] at q ⊢; omega) (by rw [hq3, ← own_sc hq1 ei, own_kad zl _ (own_ltn hz0 hz (by rw [ei]; omega) hc9), if_neg]; rw [d_zc]; simp [own_ws, hc21, hc28, hc35])
            · refine own_go (fun t k => XS.icmpNo X1.here hx rfl (hb hby d2_35) rfl (feq hc35).1 k) ?_
              show own_WP _ _ _ _ T1 (mkF m 38 #[.val (.ref za), .val (.ref za), .val (.int zn), .val (.int (zi + (1 : Int32))), .val (.int zc)] [])
              refine own_go (fun t k => XS.iload X1.here hx rfl (hb hby d2_38) rfl  k) ?_
              show own_WP _ _ _ _ T1 (mkF m 40 #[.val (.ref za), .val (.ref za), .val (.int zn), .val (.int (zi + (1 : Int32))), .val (.int zc)] [(.int zc)])
              refine own_go (fun t k => XS.bipush X1.here hx rfl (hb hby d2_40) k) ?_
              show own_WP _ _ _ _ T1 (mkF m 42 #[.val (.ref za), .val (.ref za), .val (.int zn), .val (.int (zi + (1 : Int32))), .val (.int zc)] [(.int (9 : Int32)), (.int zc)])
              by_cases hc42 : zc = (9 : Int32)
              · refine own_go (fun t k => XS.icmpYes X1.here hx rfl (pc0 := 42) (pc' := 47) rfl (hb hby d2_42) rfl (teq hc42).1 (by decide) (by decide) k) ?_
                show own_WP _ _ _ _ T1 (mkF m 47 #[.val (.ref za), .val (.ref za), .val (.int zn), .val (.int (zi + (1 : Int32))), .val (.int zc)] [])
                exact ih (zn.toInt - (zi + (1 : Int32)).toInt - 1).toNat (by have q := Int32.lt_iff_toInt_lt.mp hc9; rw [ei] at q ⊢; omega) ((zi + (1 : Int32))) zc _ _ X1 e1 N1 (by rw [ei]; omega) (by have q := Int32.lt_iff_toInt_lt.mp hc9; rw [ei] at q ⊢; omega) (by rw [hq3, ← own_sc hq1 ei, own_kad zl _ (own_ltn hz0 hz (by rw [ei]; omega) hc9), if_neg]; rw [d_zc]; simp [own_ws, hc21, hc28, hc35, hc42])
              · refine own_go (fun t k => XS.icmpNo X1.here hx rfl (hb hby d2_42) rfl (feq hc42).1 k) ?_
                show own_WP _ _ _ _ T1 (mkF m 45 #[.val (.ref za), .val (.ref za), .val (.int zn), .val (.int (zi + (1 : Int32))), .val (.int zc)] [])
                refine own_go (fun t k => XS.iconst X1.here hx rfl (hb hby d2_45) k) ?_
                show own_WP _ _ _ _ T1 (mkF m 46 #[.val (.ref za), .val (.ref za), .val (.int zn), .val (.int (zi + (1 : Int32))), .val (.int zc)] [(.int (0 : Int32))])
                refine own_retN X1 hx Bd.notSynchronized (t := .boolean) (by simp) Bd.returns (hb hby d2_46) (by decide) (by decide) ?_
                rw [e1]
                exact ⟨(congrArg (fun z => some (Value.int z)) (show (nar .boolean (0 : Int32)) = (own_ka zl) from by rw [hq3, ← own_sc hq1 ei, own_kad zl _ (own_ltn hz0 hz (by rw [ei]; omega) hc9), if_pos (by rw [d_zc]; simp [own_ws, hc21, hc28, hc35, hc42])]; rfl)), N1, rfl⟩
      · refine own_go (fun t k => XS.icmpYes X1.here hx rfl (pc0 := 9) (pc' := 53) rfl (hb hby d2_9) rfl (flt hc9).2.1 (by decide) (by decide) k) ?_
        show own_WP _ _ _ _ T1 (mkF m 53 #[.val (.ref za), .val (.ref za), .val (.int zn), .val (.int (zi + (1 : Int32))), .val (.int zc4)] [])
        refine own_go (fun t k => XS.iconst X1.here hx rfl (hb hby d2_53) k) ?_
        show own_WP _ _ _ _ T1 (mkF m 54 #[.val (.ref za), .val (.ref za), .val (.int zn), .val (.int (zi + (1 : Int32))), .val (.int zc4)] [(.int (1 : Int32))])
        refine own_retN X1 hx Bd.notSynchronized (t := .boolean) (by simp) Bd.returns (hb hby d2_54) (by decide) (by decide) ?_
        rw [e1]
        exact ⟨(congrArg (fun z => some (Value.int z)) (show (nar .boolean (1 : Int32)) = (own_ka zl) from by rw [hq3, ← own_sc hq1 ei, own_kae zl _ (own_gen hz0 hz (by rw [ei]; omega) hc9)]; rfl)), N1, rfl⟩
  show own_WP _ _ _ _ s₁ (mkF m 7 #[.val (.ref za), .val (.ref za), .val (.int zn), .val (.int (0 : Int32)), .unset] [])
  refine own_go (fun t k => XS.iloadN X0.here hx rfl (hb hby d2_7) rfl  k) ?_
  show own_WP _ _ _ _ s₁ (mkF m 8 #[.val (.ref za), .val (.ref za), .val (.int zn), .val (.int (0 : Int32)), .unset] [(.int (0 : Int32))])
  refine own_go (fun t k => XS.iloadN X0.here hx rfl (hb hby d2_8) rfl  k) ?_
  show own_WP _ _ _ _ s₁ (mkF m 9 #[.val (.ref za), .val (.ref za), .val (.int zn), .val (.int (0 : Int32)), .unset] [(.int zn), (.int (0 : Int32))])
  by_cases hc9 : (0 : Int32) < zn
  · refine own_go (fun t k => XS.icmpNo X0.here hx rfl (hb hby d2_9) rfl (tlt hc9).2.1 k) ?_
    show own_WP _ _ _ _ s₁ (mkF m 12 #[.val (.ref za), .val (.ref za), .val (.int zn), .val (.int (0 : Int32)), .unset] [])
    refine own_go (fun t k => XS.aloadN X0.here hx rfl (hb hby d2_12) rfl rfl  k) ?_
    show own_WP _ _ _ _ s₁ (mkF m 13 #[.val (.ref za), .val (.ref za), .val (.int zn), .val (.int (0 : Int32)), .unset] [(.ref za)])
    refine own_go (fun t k => XS.iloadN X0.here hx rfl (hb hby d2_13) rfl  k) ?_
    show own_WP _ _ _ _ s₁ (mkF m 14 #[.val (.ref za), .val (.ref za), .val (.int zn), .val (.int (0 : Int32)), .unset] [(.int (0 : Int32)), (.ref za)])
    refine own_ldB X0 hx hZ e0 P0 (j := (0 : Int32)) (w := (zl.getD (0 : Int32).toNatClampNeg 0)) ⟨own_nn (by decide), hc9⟩ (own_mapget zl _ rfl) (hb hby d2_14) ?_
    show own_WP _ _ _ _ s₁ (mkF m 15 #[.val (.ref za), .val (.ref za), .val (.int zn), .val (.int (0 : Int32)), .unset] [(.int (zl.getD (0 : Int32).toNatClampNeg 0))])
    generalize d_zc : (zl.getD (0 : Int32).toNatClampNeg 0) = zc
    refine own_go (fun t k => XS.istore X0.here hx rfl (hb hby d2_15) rfl (l' := #[.val (.ref za), .val (.ref za), .val (.int zn), .val (.int (0 : Int32)), .val (.int zc)]) rfl k) ?_
    show own_WP _ _ _ _ s₁ (mkF m 17 #[.val (.ref za), .val (.ref za), .val (.int zn), .val (.int (0 : Int32)), .val (.int zc)] [])
    refine own_go (fun t k => XS.iload X0.here hx rfl (hb hby d2_17) rfl  k) ?_
    show own_WP _ _ _ _ s₁ (mkF m 19 #[.val (.ref za), .val (.ref za), .val (.int zn), .val (.int (0 : Int32)), .val (.int zc)] [(.int zc)])
    refine own_go (fun t k => XS.bipush X0.here hx rfl (hb hby d2_19) k) ?_
    show own_WP _ _ _ _ s₁ (mkF m 21 #[.val (.ref za), .val (.ref za), .val (.int zn), .val (.int (0 : Int32)), .val (.int zc)] [(.int (13 : Int32)), (.int zc)])
    by_cases hc21 : zc = (13 : Int32)
    · refine own_go (fun t k => XS.icmpYes X0.here hx rfl (pc0 := 21) (pc' := 47) rfl (hb hby d2_21) rfl (teq hc21).1 (by decide) (by decide) k) ?_
      show own_WP _ _ _ _ s₁ (mkF m 47 #[.val (.ref za), .val (.ref za), .val (.int zn), .val (.int (0 : Int32)), .val (.int zc)] [])
      exact J47 (zn.toInt - (0 : Int32).toInt - 1).toNat (0 : Int32) zc _ _ X0 e0 N0 (by decide) (by have q := Int32.lt_iff_toInt_lt.mp hc9; have e0 : (0 : Int32).toInt = 0 := rfl; omega) (by rw [own_ka0 zl (own_ltn hz0 hz (by decide) hc9), if_neg]; rw [d_zc]; simp [own_ws, hc21])
    · refine own_go (fun t k => XS.icmpNo X0.here hx rfl (hb hby d2_21) rfl (feq hc21).1 k) ?_
      show own_WP _ _ _ _ s₁ (mkF m 24 #[.val (.ref za), .val (.ref za), .val (.int zn), .val (.int (0 : Int32)), .val (.int zc)] [])
      refine own_go (fun t k => XS.iload X0.here hx rfl (hb hby d2_24) rfl  k) ?_
      show own_WP _ _ _ _ s₁ (mkF m 26 #[.val (.ref za), .val (.ref za), .val (.int zn), .val (.int (0 : Int32)), .val (.int zc)] [(.int zc)])
      refine own_go (fun t k => XS.bipush X0.here hx rfl (hb hby d2_26) k) ?_
      show own_WP _ _ _ _ s₁ (mkF m 28 #[.val (.ref za), .val (.ref za), .val (.int zn), .val (.int (0 : Int32)), .val (.int zc)] [(.int (10 : Int32)), (.int zc)])
      by_cases hc28 : zc = (10 : Int32)
      · refine own_go (fun t k => XS.icmpYes X0.here hx rfl (pc0 := 28) (pc' := 47) rfl (hb hby d2_28) rfl (teq hc28).1 (by decide) (by decide) k) ?_
        show own_WP _ _ _ _ s₁ (mkF m 47 #[.val (.ref za), .val (.ref za), .val (.int zn), .val (.int (0 : Int32)), .val (.int zc)] [])
        exact J47 (zn.toInt - (0 : Int32).toInt - 1).toNat (0 : Int32) zc _ _ X0 e0 N0 (by decide) (by have q := Int32.lt_iff_toInt_lt.mp hc9; have e0 : (0 : Int32).toInt = 0 := rfl; omega) (by rw [own_ka0 zl (own_ltn hz0 hz (by decide) hc9), if_neg]; rw [d_zc]; simp [own_ws, hc21, hc28])
      · refine own_go (fun t k => XS.icmpNo X0.here hx rfl (hb hby d2_28) rfl (feq hc28).1 k) ?_
        show own_WP _ _ _ _ s₁ (mkF m 31 #[.val (.ref za), .val (.ref za), .val (.int zn), .val (.int (0 : Int32)), .val (.int zc)] [])
        refine own_go (fun t k => XS.iload X0.here hx rfl (hb hby d2_31) rfl  k) ?_
        show own_WP _ _ _ _ s₁ (mkF m 33 #[.val (.ref za), .val (.ref za), .val (.int zn), .val (.int (0 : Int32)), .val (.int zc)] [(.int zc)])
        refine own_go (fun t k => XS.bipush X0.here hx rfl (hb hby d2_33) k) ?_
        show own_WP _ _ _ _ s₁ (mkF m 35 #[.val (.ref za), .val (.ref za), .val (.int zn), .val (.int (0 : Int32)), .val (.int zc)] [(.int (32 : Int32)), (.int zc)])
        by_cases hc35 : zc = (32 : Int32)
        · refine own_go (fun t k => XS.icmpYes X0.here hx rfl (pc0 := 35) (pc' := 47) rfl (hb hby d2_35) rfl (teq hc35).1 (by decide) (by decide) k) ?_
          show own_WP _ _ _ _ s₁ (mkF m 47 #[.val (.ref za), .val (.ref za), .val (.int zn), .val (.int (0 : Int32)), .val (.int zc)] [])
          exact J47 (zn.toInt - (0 : Int32).toInt - 1).toNat (0 : Int32) zc _ _ X0 e0 N0 (by decide) (by have q := Int32.lt_iff_toInt_lt.mp hc9; have e0 : (0 : Int32).toInt = 0 := rfl; omega) (by rw [own_ka0 zl (own_ltn hz0 hz (by decide) hc9), if_neg]; rw [d_zc]; simp [own_ws, hc21, hc28, hc35])
        · refine own_go (fun t k => XS.icmpNo X0.here hx rfl (hb hby d2_35) rfl (feq hc35).1 k) ?_
          show own_WP _ _ _ _ s₁ (mkF m 38 #[.val (.ref za), .val (.ref za), .val (.int zn), .val (.int (0 : Int32)), .val (.int zc)] [])
          refine own_go (fun t k => XS.iload X0.here hx rfl (hb hby d2_38) rfl  k) ?_
          show own_WP _ _ _ _ s₁ (mkF m 40 #[.val (.ref za), .val (.ref za), .val (.int zn), .val (.int (0 : Int32)), .val (.int zc)] [(.int zc)])
          refine own_go (fun t k => XS.bipush X0.here hx rfl (hb hby d2_40) k) ?_
          show own_WP _ _ _ _ s₁ (mkF m 42 #[.val (.ref za), .val (.ref za), .val (.int zn), .val (.int (0 : Int32)), .val (.int zc)] [(.int (9 : Int32)), (.int zc)])
          by_cases hc42 : zc = (9 : Int32)
          · refine own_go (fun t k => XS.icmpYes X0.here hx rfl (pc0 := 42) (pc' := 47) rfl (hb hby d2_42) rfl (teq hc42).1 (by decide) (by decide) k) ?_
            show own_WP _ _ _ _ s₁ (mkF m 47 #[.val (.ref za), .val (.ref za), .val (.int zn), .val (.int (0 : Int32)), .val (.int zc)] [])
            exact J47 (zn.toInt - (0 : Int32).toInt - 1).toNat (0 : Int32) zc _ _ X0 e0 N0 (by decide) (by have q := Int32.lt_iff_toInt_lt.mp hc9; have e0 : (0 : Int32).toInt = 0 := rfl; omega) (by rw [own_ka0 zl (own_ltn hz0 hz (by decide) hc9), if_neg]; rw [d_zc]; simp [own_ws, hc21, hc28, hc35, hc42])
          · refine own_go (fun t k => XS.icmpNo X0.here hx rfl (hb hby d2_42) rfl (feq hc42).1 k) ?_
            show own_WP _ _ _ _ s₁ (mkF m 45 #[.val (.ref za), .val (.ref za), .val (.int zn), .val (.int (0 : Int32)), .val (.int zc)] [])
            refine own_go (fun t k => XS.iconst X0.here hx rfl (hb hby d2_45) k) ?_
            show own_WP _ _ _ _ s₁ (mkF m 46 #[.val (.ref za), .val (.ref za), .val (.int zn), .val (.int (0 : Int32)), .val (.int zc)] [(.int (0 : Int32))])
            refine own_retN X0 hx Bd.notSynchronized (t := .boolean) (by simp) Bd.returns (hb hby d2_46) (by decide) (by decide) ?_
            rw [e0]
            exact ⟨(congrArg (fun z => some (Value.int z)) (show (nar .boolean (0 : Int32)) = (own_ka zl) from by rw [own_ka0 zl (own_ltn hz0 hz (by decide) hc9), if_pos (by rw [d_zc]; simp [own_ws, hc21, hc28, hc35, hc42])]; rfl)), N0, rfl⟩
  · refine own_go (fun t k => XS.icmpYes X0.here hx rfl (pc0 := 9) (pc' := 53) rfl (hb hby d2_9) rfl (flt hc9).2.1 (by decide) (by decide) k) ?_
    show own_WP _ _ _ _ s₁ (mkF m 53 #[.val (.ref za), .val (.ref za), .val (.int zn), .val (.int (0 : Int32)), .unset] [])
    refine own_go (fun t k => XS.iconst X0.here hx rfl (hb hby d2_53) k) ?_
    show own_WP _ _ _ _ s₁ (mkF m 54 #[.val (.ref za), .val (.ref za), .val (.int zn), .val (.int (0 : Int32)), .unset] [(.int (1 : Int32))])
    refine own_retN X0 hx Bd.notSynchronized (t := .boolean) (by simp) Bd.returns (hb hby d2_54) (by decide) (by decide) ?_
    rw [e0]
    exact ⟨(congrArg (fun z => some (Value.int z)) (show (nar .boolean (1 : Int32)) = (own_ka zl) from by rw [own_kae0 zl (own_gen hz0 hz (by decide) hc9)]; rfl)), N0, rfl⟩
theorem own_pd81830 : parseMethodDescriptor "(I)B" = some ⟨[.int], some .byte⟩ := by decide +kernel
theorem own_pd76616 : parseMethodDescriptor "([B)Z" = some ⟨[(.array .byte)], some .boolean⟩ := by decide +kernel
theorem own_pd61727 : parseMethodDescriptor "(B)Z" = some ⟨[.byte], some .boolean⟩ := by decide +kernel
theorem ef_0 (m : MethodId) (zn : Int32) (x0 : Int32) (x1 : Int32) (x2 : Int32) (x3 : Int32) (x4 : Int32) : entryFrame m #[(.int zn), (.int x0), (.int x1), (.int x2), (.int x3), (.int x4)] maxLocals = mkF m 0 #[.val (.int zn), .val (.int x0), .val (.int x1), .val (.int x2), .val (.int x3), .val (.int x4), .unset, .unset, .unset, .unset, .unset, .unset, .unset, .unset] [] := by first | (simp [entryFrame, mkF, argsToLocals, Value.category, maxLocals]; done) | rfl
def Q0 (Z : State) (zn : Int32) (x0 : Int32) (x1 : Int32) (x2 : Int32) (x3 : Int32) (x4 : Int32) (h0 : Heap) (n0 : Nat) (v : Option Value) (h : Heap) (L : List Loc) : Prop := v = some (.int 1) ∧ Fr n0 L
set_option maxRecDepth 65536 in
set_option maxHeartbeats 40000000 in
theorem rm0 (l : Launch) (Z : State) (a0 : Array Value) (hw : ∀ d ∈ tables_1, d.before a0 Z = true) (ws : List Jvm.Cond) (zn : Int32) (x0 : Int32) (x1 : Int32) (x2 : Int32) (x3 : Int32) (x4 : Int32) (h0 : Heap) (n0 : Nat) (Z0 : n0 ≤ h0.size)  :
    MetFree l x (head1 (Jvm.Cond.code x code maxLocals ret :: ws) room_1) (fun a U => a = #[(.int zn), (.int x0), (.int x1), (.int x2), (.int x3), (.int x4)] ∧ Z.Warmed39 U.vm ∧ U.heap = h0) (fun _ _ _ _ _ => True) (fun _ U o U' => ∃ v L, o = .returned v ∧ Q0 Z zn x0 x1 x2 x3 x4 h0 n0 v U'.heap L ∧ FrameEnd U o U' L 1 5) := by
  refine MetFree.of_bodySF (plainFor_of_name own_pn18) hisR ?_
  intro p e s m args below meth c s₁ Bd hml0 hP hK
  obtain ⟨rfl, hZ, hh⟩ := hP
  have hx := Bd.exec
  have hby := Bd.bytes
  have hml : c.maxLocals = 14 := hml0
  have hown : s.vm.findClass "com/example/soak/soak/sip/SipMessageIsKeepAlivePinLaw" = some m.cls := findClass_of_methodNamed Bd.named
  have hnm := (name_of_methodNamed Bd.named Bd.method).1
  have X0 : Stand p l e room_1 s m #[(.int zn), (.int x0), (.int x1), (.int x2), (.int x3), (.int x4)] below meth c s₁ [] 0 0 := Stand.of_body Bd
  have e0 : s₁.heap = h0 := by rw [← hh, Bd.state]; rfl
  have N0 := Fr.nil n0
  have K0 := Keep.refl h0 ([] : List Addr)
  show own_WP p e below (own_E s (Q0 Z zn x0 x1 x2 x3 x4 h0 n0) 1 5) s₁ (entryFrame m #[(.int zn), (.int x0), (.int x1), (.int x2), (.int x3), (.int x4)] maxLocals)
  rw [ef_0 m zn x0 x1 x2 x3 x4]
  show own_WP _ _ _ _ s₁ (mkF m 0 #[.val (.int zn), .val (.int x0), .val (.int x1), .val (.int x2), .val (.int x3), .val (.int x4), .unset, .unset, .unset, .unset, .unset, .unset, .unset, .unset] [])
  refine own_go (fun t k => XS.iloadN X0.here hx rfl (hb hby at_0) rfl  k) ?_
  show own_WP _ _ _ _ s₁ (mkF m 1 #[.val (.int zn), .val (.int x0), .val (.int x1), .val (.int x2), .val (.int x3), .val (.int x4), .unset, .unset, .unset, .unset, .unset, .unset, .unset, .unset] [(.int zn)])
  refine own_go (fun t k => X0.ldcInt hx hown (mvT hZ (hw _ (List.mem_of_getElem? (i := 0) rfl))) (g := (mkF m 1 #[.val (.int zn), .val (.int x0), .val (.int x1), .val (.int x2), .val (.int x3), .val (.int x4), .unset, .unset, .unset, .unset, .unset, .unset, .unset, .unset] [(.int zn)])) rfl (hb hby at_1) t k) ?_
  show own_WP _ _ _ _ s₁ (mkF m 3 #[.val (.int zn), .val (.int x0), .val (.int x1), .val (.int x2), .val (.int x3), .val (.int x4), .unset, .unset, .unset, .unset, .unset, .unset, .unset, .unset] [(.int (2147483647 : Int32)), (.int zn)])
  refine own_go (fun t k => XS.iand X0.here hx rfl (hb hby at_3) rfl k) ?_
  show own_WP _ _ _ _ s₁ (mkF m 4 #[.val (.int zn), .val (.int x0), .val (.int x1), .val (.int x2), .val (.int x3), .val (.int x4), .unset, .unset, .unset, .unset, .unset, .unset, .unset, .unset] [(.int (zn &&& (2147483647 : Int32)))])
  refine own_go (fun t k => XS.bipush X0.here hx rfl (hb hby at_4) k) ?_
  show own_WP _ _ _ _ s₁ (mkF m 6 #[.val (.int zn), .val (.int x0), .val (.int x1), .val (.int x2), .val (.int x3), .val (.int x4), .unset, .unset, .unset, .unset, .unset, .unset, .unset, .unset] [(.int (6 : Int32)), (.int (zn &&& (2147483647 : Int32)))])
  have hnz6 : (6 : Int32) ≠ 0 := by decide
  refine own_go (fun t k => iremM X0 hx rfl (hb hby at_6) rfl hnz6 k) ?_
  show own_WP _ _ _ _ s₁ (mkF m 7 #[.val (.int zn), .val (.int x0), .val (.int x1), .val (.int x2), .val (.int x3), .val (.int x4), .unset, .unset, .unset, .unset, .unset, .unset, .unset, .unset] [(.int ((zn &&& (2147483647 : Int32)) % (6 : Int32)))])
  generalize d_zm : ((zn &&& (2147483647 : Int32)) % (6 : Int32)) = zm
  refine own_go (fun t k => XS.istore X0.here hx rfl (hb hby at_7) rfl (l' := #[.val (.int zn), .val (.int x0), .val (.int x1), .val (.int x2), .val (.int x3), .val (.int x4), .val (.int zm), .unset, .unset, .unset, .unset, .unset, .unset, .unset]) rfl k) ?_
  rcases own_mod6 zn with hl | hl | hl | hl | hl | hl
  · rw [d_zm] at hl
    subst hl
    show own_WP _ _ _ _ s₁ (mkF m 9 #[.val (.int zn), .val (.int x0), .val (.int x1), .val (.int x2), .val (.int x3), .val (.int x4), .val (.int (0 : Int32)), .unset, .unset, .unset, .unset, .unset, .unset, .unset] [])
    refine own_go (fun t k => XS.iloadN X0.here hx rfl (hb hby at_9) rfl  k) ?_
    show own_WP _ _ _ _ s₁ (mkF m 10 #[.val (.int zn), .val (.int x0), .val (.int x1), .val (.int x2), .val (.int x3), .val (.int x4), .val (.int (0 : Int32)), .unset, .unset, .unset, .unset, .unset, .unset, .unset] [(.int x0)])
    obtain ⟨_, _, ⟨T1, L1, k1, n1⟩, -, X1, ⟨Lc1, hQ1, l1, y1, z1⟩, st1⟩ := Jvm.LawKit.callS X0 hx (y := (⟨"com/example/soak/soak/sip/SipMessageIsKeepAlivePinLaw", "pick", "(I)B"⟩ : MethodName)) hown (mvT hZ (hw _ (List.mem_of_getElem? (i := 1) rfl))) (mvT hZ (hw _ (List.mem_of_getElem? (i := 2) rfl))) (mvT hZ (hw _ (List.mem_of_getElem? (i := 3) rfl))) (mvT hZ (hw _ (List.mem_of_getElem? (i := 4) rfl))) (by decide) (backOf (W := 0) (rm1 l Z a0 hw [] x0  h0 n0 (own_le Z0 K0) ) hZ (hw _ (List.mem_of_getElem? (i := 4) rfl)) (hw _ (List.mem_of_getElem? (i := 3) rfl)) (by decide) (by decide)) (g := (mkF m 10 #[.val (.int zn), .val (.int x0), .val (.int x1), .val (.int x2), .val (.int x3), .val (.int x4), .val (.int (0 : Int32)), .unset, .unset, .unset, .unset, .unset, .unset, .unset] [(.int x0)])) rfl (by rw [hml]; rfl) (argsL := [(.int x0)]) (rest := []) (lenOf own_pd81830 rfl) rfl (by show 2 * 0 + _ ≤ _; exact Nat.le_of_eq rfl) (hb hby at_10) (fun _ _ => ⟨rfl, e0, (by decide : 0 + 0 ≤ _), (by decide : 0 + 0 ≤ _)⟩)
    dsimp only [Pt.U, Pt.locs, Pt.cells, Pt.slots] at X1 l1 y1 z1 st1 hQ1
    subst l1 y1 z1
    obtain ⟨zc0, rfl, N1q, eq1, hr_1⟩ := hQ1
    have N1 := Fr.app N0 N1q
    refine own_go st1 ?_
    show own_WP _ _ _ _ T1 (mkF m 13 #[.val (.int zn), .val (.int x0), .val (.int x1), .val (.int x2), .val (.int x3), .val (.int x4), .val (.int (0 : Int32)), .unset, .unset, .unset, .unset, .unset, .unset, .unset] [(.int zc0)])
    refine own_go (fun t k => XS.istore X1.here hx rfl (hb hby at_13) rfl (l' := #[.val (.int zn), .val (.int x0), .val (.int x1), .val (.int x2), .val (.int x3), .val (.int x4), .val (.int (0 : Int32)), .val (.int zc0), .unset, .unset, .unset, .unset, .unset, .unset]) rfl k) ?_
    show own_WP _ _ _ _ T1 (mkF m 15 #[.val (.int zn), .val (.int x0), .val (.int x1), .val (.int x2), .val (.int x3), .val (.int x4), .val (.int (0 : Int32)), .val (.int zc0), .unset, .unset, .unset, .unset, .unset, .unset] [])
    refine own_go (fun t k => XS.iloadN X1.here hx rfl (hb hby at_15) rfl  k) ?_
    show own_WP _ _ _ _ T1 (mkF m 16 #[.val (.int zn), .val (.int x0), .val (.int x1), .val (.int x2), .val (.int x3), .val (.int x4), .val (.int (0 : Int32)), .val (.int zc0), .unset, .unset, .unset, .unset, .unset, .unset] [(.int x1)])
    obtain ⟨_, _, ⟨T2, L2, k2, n2⟩, -, X2, ⟨Lc2, hQ2, l2, y2, z2⟩, st2⟩ := Jvm.LawKit.callS X1 hx (y := (⟨"com/example/soak/soak/sip/SipMessageIsKeepAlivePinLaw", "pick", "(I)B"⟩ : MethodName)) hown (mvT hZ (hw _ (List.mem_of_getElem? (i := 1) rfl))) (mvT hZ (hw _ (List.mem_of_getElem? (i := 2) rfl))) (mvT hZ (hw _ (List.mem_of_getElem? (i := 3) rfl))) (mvT hZ (hw _ (List.mem_of_getElem? (i := 4) rfl))) (by decide) (backOf (W := 0) (rm1 l Z a0 hw [] x1  h0 n0 (own_le Z0 K0) ) hZ (hw _ (List.mem_of_getElem? (i := 4) rfl)) (hw _ (List.mem_of_getElem? (i := 3) rfl)) (by decide) (by decide)) (g := (mkF m 16 #[.val (.int zn), .val (.int x0), .val (.int x1), .val (.int x2), .val (.int x3), .val (.int x4), .val (.int (0 : Int32)), .val (.int zc0), .unset, .unset, .unset, .unset, .unset, .unset] [(.int x1)])) rfl (by rw [hml]; rfl) (argsL := [(.int x1)]) (rest := []) (lenOf own_pd81830 rfl) rfl (by show 2 * 0 + _ ≤ _; exact Nat.le_of_eq rfl) (hb hby at_16) (fun _ _ => ⟨rfl, eq1, (by decide : 0 + 0 ≤ _), (by decide : 0 + 0 ≤ _)⟩)
    dsimp only [Pt.U, Pt.locs, Pt.cells, Pt.slots] at X2 l2 y2 z2 st2 hQ2
    subst l2 y2 z2
    obtain ⟨zc1, rfl, N2q, eq2, hr_2⟩ := hQ2
    have N2 := Fr.app N1 N2q
    refine own_go st2 ?_
    show own_WP _ _ _ _ T2 (mkF m 19 #[.val (.int zn), .val (.int x0), .val (.int x1), .val (.int x2), .val (.int x3), .val (.int x4), .val (.int (0 : Int32)), .val (.int zc0), .unset, .unset, .unset, .unset, .unset, .unset] [(.int zc1)])
    refine own_go (fun t k => XS.istore X2.here hx rfl (hb hby at_19) rfl (l' := #[.val (.int zn), .val (.int x0), .val (.int x1), .val (.int x2), .val (.int x3), .val (.int x4), .val (.int (0 : Int32)), .val (.int zc0), .val (.int zc1), .unset, .unset, .unset, .unset, .unset]) rfl k) ?_
    show own_WP _ _ _ _ T2 (mkF m 21 #[.val (.int zn), .val (.int x0), .val (.int x1), .val (.int x2), .val (.int x3), .val (.int x4), .val (.int (0 : Int32)), .val (.int zc0), .val (.int zc1), .unset, .unset, .unset, .unset, .unset] [])
    refine own_go (fun t k => XS.iloadN X2.here hx rfl (hb hby at_21) rfl  k) ?_
    show own_WP _ _ _ _ T2 (mkF m 22 #[.val (.int zn), .val (.int x0), .val (.int x1), .val (.int x2), .val (.int x3), .val (.int x4), .val (.int (0 : Int32)), .val (.int zc0), .val (.int zc1), .unset, .unset, .unset, .unset, .unset] [(.int x2)])
    obtain ⟨_, _, ⟨T3, L3, k3, n3⟩, -, X3, ⟨Lc3, hQ3, l3, y3, z3⟩, st3⟩ := Jvm.LawKit.callS X2 hx (y := (⟨"com/example/soak/soak/sip/SipMessageIsKeepAlivePinLaw", "pick", "(I)B"⟩ : MethodName)) hown (mvT hZ (hw _ (List.mem_of_getElem? (i := 1) rfl))) (mvT hZ (hw _ (List.mem_of_getElem? (i := 2) rfl))) (mvT hZ (hw _ (List.mem_of_getElem? (i := 3) rfl))) (mvT hZ (hw _ (List.mem_of_getElem? (i := 4) rfl))) (by decide) (backOf (W := 0) (rm1 l Z a0 hw [] x2  h0 n0 (own_le Z0 K0) ) hZ (hw _ (List.mem_of_getElem? (i := 4) rfl)) (hw _ (List.mem_of_getElem? (i := 3) rfl)) (by decide) (by decide)) (g := (mkF m 22 #[.val (.int zn), .val (.int x0), .val (.int x1), .val (.int x2), .val (.int x3), .val (.int x4), .val (.int (0 : Int32)), .val (.int zc0), .val (.int zc1), .unset, .unset, .unset, .unset, .unset] [(.int x2)])) rfl (by rw [hml]; rfl) (argsL := [(.int x2)]) (rest := []) (lenOf own_pd81830 rfl) rfl (by show 2 * 0 + _ ≤ _; exact Nat.le_of_eq rfl) (hb hby at_22) (fun _ _ => ⟨rfl, eq2, (by decide : 0 + 0 ≤ _), (by decide : 0 + 0 ≤ _)⟩)
    dsimp only [Pt.U, Pt.locs, Pt.cells, Pt.slots] at X3 l3 y3 z3 st3 hQ3
    subst l3 y3 z3
    obtain ⟨zc2, rfl, N3q, eq3, hr_3⟩ := hQ3
    have N3 := Fr.app N2 N3q
    refine own_go st3 ?_
    show own_WP _ _ _ _ T3 (mkF m 25 #[.val (.int zn), .val (.int x0), .val (.int x1), .val (.int x2), .val (.int x3), .val (.int x4), .val (.int (0 : Int32)), .val (.int zc0), .val (.int zc1), .unset, .unset, .unset, .unset, .unset] [(.int zc2)])
    refine own_go (fun t k => XS.istore X3.here hx rfl (hb hby at_25) rfl (l' := #[.val (.int zn), .val (.int x0), .val (.int x1), .val (.int x2), .val (.int x3), .val (.int x4), .val (.int (0 : Int32)), .val (.int zc0), .val (.int zc1), .val (.int zc2), .unset, .unset, .unset, .unset]) rfl k) ?_
    show own_WP _ _ _ _ T3 (mkF m 27 #[.val (.int zn), .val (.int x0), .val (.int x1), .val (.int x2), .val (.int x3), .val (.int x4), .val (.int (0 : Int32)), .val (.int zc0), .val (.int zc1), .val (.int zc2), .unset, .unset, .unset, .unset] [])
    refine own_go (fun t k => XS.iload X3.here hx rfl (hb hby at_27) rfl  k) ?_
    show own_WP _ _ _ _ T3 (mkF m 29 #[.val (.int zn), .val (.int x0), .val (.int x1), .val (.int x2), .val (.int x3), .val (.int x4), .val (.int (0 : Int32)), .val (.int zc0), .val (.int zc1), .val (.int zc2), .unset, .unset, .unset, .unset] [(.int x3)])
    obtain ⟨_, _, ⟨T4, L4, k4, n4⟩, -, X4, ⟨Lc4, hQ4, l4, y4, z4⟩, st4⟩ := Jvm.LawKit.callS X3 hx (y := (⟨"com/example/soak/soak/sip/SipMessageIsKeepAlivePinLaw", "pick", "(I)B"⟩ : MethodName)) hown (mvT hZ (hw _ (List.mem_of_getElem? (i := 1) rfl))) (mvT hZ (hw _ (List.mem_of_getElem? (i := 2) rfl))) (mvT hZ (hw _ (List.mem_of_getElem? (i := 3) rfl))) (mvT hZ (hw _ (List.mem_of_getElem? (i := 4) rfl))) (by decide) (backOf (W := 0) (rm1 l Z a0 hw [] x3  h0 n0 (own_le Z0 K0) ) hZ (hw _ (List.mem_of_getElem? (i := 4) rfl)) (hw _ (List.mem_of_getElem? (i := 3) rfl)) (by decide) (by decide)) (g := (mkF m 29 #[.val (.int zn), .val (.int x0), .val (.int x1), .val (.int x2), .val (.int x3), .val (.int x4), .val (.int (0 : Int32)), .val (.int zc0), .val (.int zc1), .val (.int zc2), .unset, .unset, .unset, .unset] [(.int x3)])) rfl (by rw [hml]; rfl) (argsL := [(.int x3)]) (rest := []) (lenOf own_pd81830 rfl) rfl (by show 2 * 0 + _ ≤ _; exact Nat.le_of_eq rfl) (hb hby at_29) (fun _ _ => ⟨rfl, eq3, (by decide : 0 + 0 ≤ _), (by decide : 0 + 0 ≤ _)⟩)
    dsimp only [Pt.U, Pt.locs, Pt.cells, Pt.slots] at X4 l4 y4 z4 st4 hQ4
    subst l4 y4 z4
    obtain ⟨zc3, rfl, N4q, eq4, hr_4⟩ := hQ4
    have N4 := Fr.app N3 N4q
    refine own_go st4 ?_
    show own_WP _ _ _ _ T4 (mkF m 32 #[.val (.int zn), .val (.int x0), .val (.int x1), .val (.int x2), .val (.int x3), .val (.int x4), .val (.int (0 : Int32)), .val (.int zc0), .val (.int zc1), .val (.int zc2), .unset, .unset, .unset, .unset] [(.int zc3)])
    refine own_go (fun t k => XS.istore X4.here hx rfl (hb hby at_32) rfl (l' := #[.val (.int zn), .val (.int x0), .val (.int x1), .val (.int x2), .val (.int x3), .val (.int x4), .val (.int (0 : Int32)), .val (.int zc0), .val (.int zc1), .val (.int zc2), .val (.int zc3), .unset, .unset, .unset]) rfl k) ?_
    show own_WP _ _ _ _ T4 (mkF m 34 #[.val (.int zn), .val (.int x0), .val (.int x1), .val (.int x2), .val (.int x3), .val (.int x4), .val (.int (0 : Int32)), .val (.int zc0), .val (.int zc1), .val (.int zc2), .val (.int zc3), .unset, .unset, .unset] [])
    refine own_go (fun t k => XS.iload X4.here hx rfl (hb hby at_34) rfl  k) ?_
    show own_WP _ _ _ _ T4 (mkF m 36 #[.val (.int zn), .val (.int x0), .val (.int x1), .val (.int x2), .val (.int x3), .val (.int x4), .val (.int (0 : Int32)), .val (.int zc0), .val (.int zc1), .val (.int zc2), .val (.int zc3), .unset, .unset, .unset] [(.int x4)])
    obtain ⟨_, _, ⟨T5, L5, k5, n5⟩, -, X5, ⟨Lc5, hQ5, l5, y5, z5⟩, st5⟩ := Jvm.LawKit.callS X4 hx (y := (⟨"com/example/soak/soak/sip/SipMessageIsKeepAlivePinLaw", "pick", "(I)B"⟩ : MethodName)) hown (mvT hZ (hw _ (List.mem_of_getElem? (i := 1) rfl))) (mvT hZ (hw _ (List.mem_of_getElem? (i := 2) rfl))) (mvT hZ (hw _ (List.mem_of_getElem? (i := 3) rfl))) (mvT hZ (hw _ (List.mem_of_getElem? (i := 4) rfl))) (by decide) (backOf (W := 0) (rm1 l Z a0 hw [] x4  h0 n0 (own_le Z0 K0) ) hZ (hw _ (List.mem_of_getElem? (i := 4) rfl)) (hw _ (List.mem_of_getElem? (i := 3) rfl)) (by decide) (by decide)) (g := (mkF m 36 #[.val (.int zn), .val (.int x0), .val (.int x1), .val (.int x2), .val (.int x3), .val (.int x4), .val (.int (0 : Int32)), .val (.int zc0), .val (.int zc1), .val (.int zc2), .val (.int zc3), .unset, .unset, .unset] [(.int x4)])) rfl (by rw [hml]; rfl) (argsL := [(.int x4)]) (rest := []) (lenOf own_pd81830 rfl) rfl (by show 2 * 0 + _ ≤ _; exact Nat.le_of_eq rfl) (hb hby at_36) (fun _ _ => ⟨rfl, eq4, (by decide : 0 + 0 ≤ _), (by decide : 0 + 0 ≤ _)⟩)
    dsimp only [Pt.U, Pt.locs, Pt.cells, Pt.slots] at X5 l5 y5 z5 st5 hQ5
    subst l5 y5 z5
    obtain ⟨zc4, rfl, N5q, eq5, hr_5⟩ := hQ5
    have N5 := Fr.app N4 N5q
    refine own_go st5 ?_
    show own_WP _ _ _ _ T5 (mkF m 39 #[.val (.int zn), .val (.int x0), .val (.int x1), .val (.int x2), .val (.int x3), .val (.int x4), .val (.int (0 : Int32)), .val (.int zc0), .val (.int zc1), .val (.int zc2), .val (.int zc3), .unset, .unset, .unset] [(.int zc4)])
    refine own_go (fun t k => XS.istore X5.here hx rfl (hb hby at_39) rfl (l' := #[.val (.int zn), .val (.int x0), .val (.int x1), .val (.int x2), .val (.int x3), .val (.int x4), .val (.int (0 : Int32)), .val (.int zc0), .val (.int zc1), .val (.int zc2), .val (.int zc3), .val (.int zc4), .unset, .unset]) rfl k) ?_
    show own_WP _ _ _ _ T5 (mkF m 41 #[.val (.int zn), .val (.int x0), .val (.int x1), .val (.int x2), .val (.int x3), .val (.int x4), .val (.int (0 : Int32)), .val (.int zc0), .val (.int zc1), .val (.int zc2), .val (.int zc3), .val (.int zc4), .unset, .unset] [])
    refine own_go (fun t k => XS.iload X5.here hx rfl (hb hby at_41) rfl  k) ?_
    show own_WP _ _ _ _ T5 (mkF m 43 #[.val (.int zn), .val (.int x0), .val (.int x1), .val (.int x2), .val (.int x3), .val (.int x4), .val (.int (0 : Int32)), .val (.int zc0), .val (.int zc1), .val (.int zc2), .val (.int zc3), .val (.int zc4), .unset, .unset] [(.int (0 : Int32))])
    obtain ⟨T6, h6, k6, X6, e6, E6, A6, G6, st6⟩ := newPE X5 hx hZ (hw _ (List.mem_of_getElem? (i := 5) rfl)) eq5 (g := (mkF m 43 #[.val (.int zn), .val (.int x0), .val (.int x1), .val (.int x2), .val (.int x3), .val (.int x4), .val (.int (0 : Int32)), .val (.int zc0), .val (.int zc1), .val (.int zc2), .val (.int zc3), .val (.int zc4), .unset, .unset] [(.int (0 : Int32))])) rfl (hb hby at_43) rfl (by decide) (cap := 0) (by decide) (by decide) (by decide) (by decide) (ad := "[B") rfl
    obtain ⟨za, q6⟩ : ∃ z, z = h0.size := ⟨_, rfl⟩
    rw [← q6] at A6 G6 st6
    refine own_go st6 ?_
    have g_za : n0 ≤ za := Nat.le_trans (own_le Z0 K0) (Nat.le_of_eq q6.symm)
    have sz_za : h0.size ≤ za := Nat.le_trans K0.1 (Nat.le_of_eq q6.symm)
    have K7 : Keep h0 h6 [] := K0.ext E6
    have f8 : Arv Z h6 za k6 .byte (0 : Int32) [] (.int (0 : Int32)) := (Arv.new A6 (by decide)).pad (pad_rep [] (.int (0 : Int32)) 0)
    show own_WP _ _ _ _ T6 (mkF m 45 #[.val (.int zn), .val (.int x0), .val (.int x1), .val (.int x2), .val (.int x3), .val (.int x4), .val (.int (0 : Int32)), .val (.int zc0), .val (.int zc1), .val (.int zc2), .val (.int zc3), .val (.int zc4), .unset, .unset] [(.ref za)])
    refine own_go (fun t k => XS.astore X6.here hx rfl (hb hby at_45) rfl rfl (l' := #[.val (.int zn), .val (.int x0), .val (.int x1), .val (.int x2), .val (.int x3), .val (.int x4), .val (.int (0 : Int32)), .val (.int zc0), .val (.int zc1), .val (.int zc2), .val (.int zc3), .val (.int zc4), .val (.ref za), .unset]) rfl k) ?_
    show own_WP _ _ _ _ T6 (mkF m 47 #[.val (.int zn), .val (.int x0), .val (.int x1), .val (.int x2), .val (.int x3), .val (.int x4), .val (.int (0 : Int32)), .val (.int zc0), .val (.int zc1), .val (.int zc2), .val (.int zc3), .val (.int zc4), .val (.ref za), .unset] [])
    refine own_go (fun t k => XS.iload X6.here hx rfl (hb hby at_47) rfl  k) ?_
    show own_WP _ _ _ _ T6 (mkF m 49 #[.val (.int zn), .val (.int x0), .val (.int x1), .val (.int x2), .val (.int x3), .val (.int x4), .val (.int (0 : Int32)), .val (.int zc0), .val (.int zc1), .val (.int zc2), .val (.int zc3), .val (.int zc4), .val (.ref za), .unset] [(.int (0 : Int32))])
    have hc49 : ¬ ((0 : Int32) < (0 : Int32)) := by decide
    refine own_go (fun t k => XS.ifYes X6.here hx rfl (pc0 := 49) (pc' := 58) rfl (hb hby at_49) rfl ((if0 _ _).trans (flt hc49).2.2.2) (by decide) (by decide) k) ?_
    show own_WP _ _ _ _ T6 (mkF m 58 #[.val (.int zn), .val (.int x0), .val (.int x1), .val (.int x2), .val (.int x3), .val (.int x4), .val (.int (0 : Int32)), .val (.int zc0), .val (.int zc1), .val (.int zc2), .val (.int zc3), .val (.int zc4), .val (.ref za), .unset] [])
    refine own_go (fun t k => XS.iload X6.here hx rfl (hb hby at_58) rfl  k) ?_
    show own_WP _ _ _ _ T6 (mkF m 60 #[.val (.int zn), .val (.int x0), .val (.int x1), .val (.int x2), .val (.int x3), .val (.int x4), .val (.int (0 : Int32)), .val (.int zc0), .val (.int zc1), .val (.int zc2), .val (.int zc3), .val (.int zc4), .val (.ref za), .unset] [(.int (0 : Int32))])
    refine own_go (fun t k => XS.iconst X6.here hx rfl (hb hby at_60) k) ?_
    show own_WP _ _ _ _ T6 (mkF m 61 #[.val (.int zn), .val (.int x0), .val (.int x1), .val (.int x2), .val (.int x3), .val (.int x4), .val (.int (0 : Int32)), .val (.int zc0), .val (.int zc1), .val (.int zc2), .val (.int zc3), .val (.int zc4), .val (.ref za), .unset] [(.int (1 : Int32)), (.int (0 : Int32))])
    have hc61 : ¬ ((1 : Int32) < (0 : Int32)) := by decide
    refine own_go (fun t k => XS.icmpYes X6.here hx rfl (pc0 := 61) (pc' := 70) rfl (hb hby at_61) rfl (flt hc61).2.2.2 (by decide) (by decide) k) ?_
    show own_WP _ _ _ _ T6 (mkF m 70 #[.val (.int zn), .val (.int x0), .val (.int x1), .val (.int x2), .val (.int x3), .val (.int x4), .val (.int (0 : Int32)), .val (.int zc0), .val (.int zc1), .val (.int zc2), .val (.int zc3), .val (.int zc4), .val (.ref za), .unset] [])
    refine own_go (fun t k => XS.iload X6.here hx rfl (hb hby at_70) rfl  k) ?_
    show own_WP _ _ _ _ T6 (mkF m 72 #[.val (.int zn), .val (.int x0), .val (.int x1), .val (.int x2), .val (.int x3), .val (.int x4), .val (.int (0 : Int32)), .val (.int zc0), .val (.int zc1), .val (.int zc2), .val (.int zc3), .val (.int zc4), .val (.ref za), .unset] [(.int (0 : Int32))])
    refine own_go (fun t k => XS.iconst X6.here hx rfl (hb hby at_72) k) ?_
    show own_WP _ _ _ _ T6 (mkF m 73 #[.val (.int zn), .val (.int x0), .val (.int x1), .val (.int x2), .val (.int x3), .val (.int x4), .val (.int (0 : Int32)), .val (.int zc0), .val (.int zc1), .val (.int zc2), .val (.int zc3), .val (.int zc4), .val (.ref za), .unset] [(.int (2 : Int32)), (.int (0 : Int32))])
    have hc73 : ¬ ((2 : Int32) < (0 : Int32)) := by decide
    refine own_go (fun t k => XS.icmpYes X6.here hx rfl (pc0 := 73) (pc' := 82) rfl (hb hby at_73) rfl (flt hc73).2.2.2 (by decide) (by decide) k) ?_
    show own_WP _ _ _ _ T6 (mkF m 82 #[.val (.int zn), .val (.int x0), .val (.int x1), .val (.int x2), .val (.int x3), .val (.int x4), .val (.int (0 : Int32)), .val (.int zc0), .val (.int zc1), .val (.int zc2), .val (.int zc3), .val (.int zc4), .val (.ref za), .unset] [])
    refine own_go (fun t k => XS.iload X6.here hx rfl (hb hby at_82) rfl  k) ?_
    show own_WP _ _ _ _ T6 (mkF m 84 #[.val (.int zn), .val (.int x0), .val (.int x1), .val (.int x2), .val (.int x3), .val (.int x4), .val (.int (0 : Int32)), .val (.int zc0), .val (.int zc1), .val (.int zc2), .val (.int zc3), .val (.int zc4), .val (.ref za), .unset] [(.int (0 : Int32))])
    refine own_go (fun t k => XS.iconst X6.here hx rfl (hb hby at_84) k) ?_
    show own_WP _ _ _ _ T6 (mkF m 85 #[.val (.int zn), .val (.int x0), .val (.int x1), .val (.int x2), .val (.int x3), .val (.int x4), .val (.int (0 : Int32)), .val (.int zc0), .val (.int zc1), .val (.int zc2), .val (.int zc3), .val (.int zc4), .val (.ref za), .unset] [(.int (3 : Int32)), (.int (0 : Int32))])
    have hc85 : ¬ ((3 : Int32) < (0 : Int32)) := by decide
    refine own_go (fun t k => XS.icmpYes X6.here hx rfl (pc0 := 85) (pc' := 94) rfl (hb hby at_85) rfl (flt hc85).2.2.2 (by decide) (by decide) k) ?_
    show own_WP _ _ _ _ T6 (mkF m 94 #[.val (.int zn), .val (.int x0), .val (.int x1), .val (.int x2), .val (.int x3), .val (.int x4), .val (.int (0 : Int32)), .val (.int zc0), .val (.int zc1), .val (.int zc2), .val (.int zc3), .val (.int zc4), .val (.ref za), .unset] [])
    refine own_go (fun t k => XS.iload X6.here hx rfl (hb hby at_94) rfl  k) ?_
    show own_WP _ _ _ _ T6 (mkF m 96 #[.val (.int zn), .val (.int x0), .val (.int x1), .val (.int x2), .val (.int x3), .val (.int x4), .val (.int (0 : Int32)), .val (.int zc0), .val (.int zc1), .val (.int zc2), .val (.int zc3), .val (.int zc4), .val (.ref za), .unset] [(.int (0 : Int32))])
    refine own_go (fun t k => XS.iconst X6.here hx rfl (hb hby at_96) k) ?_
    show own_WP _ _ _ _ T6 (mkF m 97 #[.val (.int zn), .val (.int x0), .val (.int x1), .val (.int x2), .val (.int x3), .val (.int x4), .val (.int (0 : Int32)), .val (.int zc0), .val (.int zc1), .val (.int zc2), .val (.int zc3), .val (.int zc4), .val (.ref za), .unset] [(.int (4 : Int32)), (.int (0 : Int32))])
    have hc97 : ¬ ((4 : Int32) < (0 : Int32)) := by decide
    refine own_go (fun t k => XS.icmpYes X6.here hx rfl (pc0 := 97) (pc' := 106) rfl (hb hby at_97) rfl (flt hc97).2.2.2 (by decide) (by decide) k) ?_
    show own_WP _ _ _ _ T6 (mkF m 106 #[.val (.int zn), .val (.int x0), .val (.int x1), .val (.int x2), .val (.int x3), .val (.int x4), .val (.int (0 : Int32)), .val (.int zc0), .val (.int zc1), .val (.int zc2), .val (.int zc3), .val (.int zc4), .val (.ref za), .unset] [])
    refine own_go (fun t k => XS.iload X6.here hx rfl (hb hby at_106) rfl  k) ?_
    show own_WP _ _ _ _ T6 (mkF m 108 #[.val (.int zn), .val (.int x0), .val (.int x1), .val (.int x2), .val (.int x3), .val (.int x4), .val (.int (0 : Int32)), .val (.int zc0), .val (.int zc1), .val (.int zc2), .val (.int zc3), .val (.int zc4), .val (.ref za), .unset] [(.int (0 : Int32))])
    refine own_go (fun t k => XS.iconst X6.here hx rfl (hb hby at_108) k) ?_
    show own_WP _ _ _ _ T6 (mkF m 109 #[.val (.int zn), .val (.int x0), .val (.int x1), .val (.int x2), .val (.int x3), .val (.int x4), .val (.int (0 : Int32)), .val (.int zc0), .val (.int zc1), .val (.int zc2), .val (.int zc3), .val (.int zc4), .val (.ref za), .unset] [(.int (1 : Int32)), (.int (0 : Int32))])
    have hc109 : (0 : Int32) < (1 : Int32) := by decide
    refine own_go (fun t k => XS.icmpYes X6.here hx rfl (pc0 := 109) (pc' := 120) rfl (hb hby at_109) rfl (tlt hc109).1 (by decide) (by decide) k) ?_
    show own_WP _ _ _ _ T6 (mkF m 120 #[.val (.int zn), .val (.int x0), .val (.int x1), .val (.int x2), .val (.int x3), .val (.int x4), .val (.int (0 : Int32)), .val (.int zc0), .val (.int zc1), .val (.int zc2), .val (.int zc3), .val (.int zc4), .val (.ref za), .unset] [])
    refine own_go (fun t k => XS.iload X6.here hx rfl (hb hby at_120) rfl  k) ?_
    show own_WP _ _ _ _ T6 (mkF m 122 #[.val (.int zn), .val (.int x0), .val (.int x1), .val (.int x2), .val (.int x3), .val (.int x4), .val (.int (0 : Int32)), .val (.int zc0), .val (.int zc1), .val (.int zc2), .val (.int zc3), .val (.int zc4), .val (.ref za), .unset] [(.int (0 : Int32))])
    refine own_go (fun t k => XS.iconst X6.here hx rfl (hb hby at_122) k) ?_
    show own_WP _ _ _ _ T6 (mkF m 123 #[.val (.int zn), .val (.int x0), .val (.int x1), .val (.int x2), .val (.int x3), .val (.int x4), .val (.int (0 : Int32)), .val (.int zc0), .val (.int zc1), .val (.int zc2), .val (.int zc3), .val (.int zc4), .val (.ref za), .unset] [(.int (2 : Int32)), (.int (0 : Int32))])
    have hc123 : (0 : Int32) < (2 : Int32) := by decide
    refine own_go (fun t k => XS.icmpYes X6.here hx rfl (pc0 := 123) (pc' := 134) rfl (hb hby at_123) rfl (tlt hc123).1 (by decide) (by decide) k) ?_
    show own_WP _ _ _ _ T6 (mkF m 134 #[.val (.int zn), .val (.int x0), .val (.int x1), .val (.int x2), .val (.int x3), .val (.int x4), .val (.int (0 : Int32)), .val (.int zc0), .val (.int zc1), .val (.int zc2), .val (.int zc3), .val (.int zc4), .val (.ref za), .unset] [])
    refine own_go (fun t k => XS.iload X6.here hx rfl (hb hby at_134) rfl  k) ?_
    show own_WP _ _ _ _ T6 (mkF m 136 #[.val (.int zn), .val (.int x0), .val (.int x1), .val (.int x2), .val (.int x3), .val (.int x4), .val (.int (0 : Int32)), .val (.int zc0), .val (.int zc1), .val (.int zc2), .val (.int zc3), .val (.int zc4), .val (.ref za), .unset] [(.int (0 : Int32))])
    refine own_go (fun t k => XS.iconst X6.here hx rfl (hb hby at_136) k) ?_
    show own_WP _ _ _ _ T6 (mkF m 137 #[.val (.int zn), .val (.int x0), .val (.int x1), .val (.int x2), .val (.int x3), .val (.int x4), .val (.int (0 : Int32)), .val (.int zc0), .val (.int zc1), .val (.int zc2), .val (.int zc3), .val (.int zc4), .val (.ref za), .unset] [(.int (3 : Int32)), (.int (0 : Int32))])
    have hc137 : (0 : Int32) < (3 : Int32) := by decide
    refine own_go (fun t k => XS.icmpYes X6.here hx rfl (pc0 := 137) (pc' := 148) rfl (hb hby at_137) rfl (tlt hc137).1 (by decide) (by decide) k) ?_
    show own_WP _ _ _ _ T6 (mkF m 148 #[.val (.int zn), .val (.int x0), .val (.int x1), .val (.int x2), .val (.int x3), .val (.int x4), .val (.int (0 : Int32)), .val (.int zc0), .val (.int zc1), .val (.int zc2), .val (.int zc3), .val (.int zc4), .val (.ref za), .unset] [])
    refine own_go (fun t k => XS.iload X6.here hx rfl (hb hby at_148) rfl  k) ?_
    show own_WP _ _ _ _ T6 (mkF m 150 #[.val (.int zn), .val (.int x0), .val (.int x1), .val (.int x2), .val (.int x3), .val (.int x4), .val (.int (0 : Int32)), .val (.int zc0), .val (.int zc1), .val (.int zc2), .val (.int zc3), .val (.int zc4), .val (.ref za), .unset] [(.int (0 : Int32))])
    refine own_go (fun t k => XS.iconst X6.here hx rfl (hb hby at_150) k) ?_
    show own_WP _ _ _ _ T6 (mkF m 151 #[.val (.int zn), .val (.int x0), .val (.int x1), .val (.int x2), .val (.int x3), .val (.int x4), .val (.int (0 : Int32)), .val (.int zc0), .val (.int zc1), .val (.int zc2), .val (.int zc3), .val (.int zc4), .val (.ref za), .unset] [(.int (4 : Int32)), (.int (0 : Int32))])
    have hc151 : (0 : Int32) < (4 : Int32) := by decide
    refine own_go (fun t k => XS.icmpYes X6.here hx rfl (pc0 := 151) (pc' := 162) rfl (hb hby at_151) rfl (tlt hc151).1 (by decide) (by decide) k) ?_
    show own_WP _ _ _ _ T6 (mkF m 162 #[.val (.int zn), .val (.int x0), .val (.int x1), .val (.int x2), .val (.int x3), .val (.int x4), .val (.int (0 : Int32)), .val (.int zc0), .val (.int zc1), .val (.int zc2), .val (.int zc3), .val (.int zc4), .val (.ref za), .unset] [])
    refine own_go (fun t k => XS.iload X6.here hx rfl (hb hby at_162) rfl  k) ?_
    show own_WP _ _ _ _ T6 (mkF m 164 #[.val (.int zn), .val (.int x0), .val (.int x1), .val (.int x2), .val (.int x3), .val (.int x4), .val (.int (0 : Int32)), .val (.int zc0), .val (.int zc1), .val (.int zc2), .val (.int zc3), .val (.int zc4), .val (.ref za), .unset] [(.int (0 : Int32))])
    refine own_go (fun t k => XS.iconst X6.here hx rfl (hb hby at_164) k) ?_
    show own_WP _ _ _ _ T6 (mkF m 165 #[.val (.int zn), .val (.int x0), .val (.int x1), .val (.int x2), .val (.int x3), .val (.int x4), .val (.int (0 : Int32)), .val (.int zc0), .val (.int zc1), .val (.int zc2), .val (.int zc3), .val (.int zc4), .val (.ref za), .unset] [(.int (5 : Int32)), (.int (0 : Int32))])
    have hc165 : (0 : Int32) < (5 : Int32) := by decide
    refine own_go (fun t k => XS.icmpYes X6.here hx rfl (pc0 := 165) (pc' := 176) rfl (hb hby at_165) rfl (tlt hc165).1 (by decide) (by decide) k) ?_
    show own_WP _ _ _ _ T6 (mkF m 176 #[.val (.int zn), .val (.int x0), .val (.int x1), .val (.int x2), .val (.int x3), .val (.int x4), .val (.int (0 : Int32)), .val (.int zc0), .val (.int zc1), .val (.int zc2), .val (.int zc3), .val (.int zc4), .val (.ref za), .unset] [])
    refine own_go (fun t k => XS.iconst X6.here hx rfl (hb hby at_176) k) ?_
    show own_WP _ _ _ _ T6 (mkF m 177 #[.val (.int zn), .val (.int x0), .val (.int x1), .val (.int x2), .val (.int x3), .val (.int x4), .val (.int (0 : Int32)), .val (.int zc0), .val (.int zc1), .val (.int zc2), .val (.int zc3), .val (.int zc4), .val (.ref za), .unset] [(.int (1 : Int32))])
    refine own_go (fun t k => XS.goto X6.here hx rfl (pc0 := 177) (pc' := 181) rfl (hb hby at_177) (by decide) (by decide) k) ?_
    show own_WP _ _ _ _ T6 (mkF m 181 #[.val (.int zn), .val (.int x0), .val (.int x1), .val (.int x2), .val (.int x3), .val (.int x4), .val (.int (0 : Int32)), .val (.int zc0), .val (.int zc1), .val (.int zc2), .val (.int zc3), .val (.int zc4), .val (.ref za), .unset] [(.int (1 : Int32))])
    refine own_go (fun t k => XS.istore X6.here hx rfl (hb hby at_181) rfl (l' := #[.val (.int zn), .val (.int x0), .val (.int x1), .val (.int x2), .val (.int x3), .val (.int x4), .val (.int (0 : Int32)), .val (.int zc0), .val (.int zc1), .val (.int zc2), .val (.int zc3), .val (.int zc4), .val (.ref za), .val (.int (1 : Int32))]) rfl k) ?_
    show own_WP _ _ _ _ T6 (mkF m 183 #[.val (.int zn), .val (.int x0), .val (.int x1), .val (.int x2), .val (.int x3), .val (.int x4), .val (.int (0 : Int32)), .val (.int zc0), .val (.int zc1), .val (.int zc2), .val (.int zc3), .val (.int zc4), .val (.ref za), .val (.int (1 : Int32))] [])
    refine own_go (fun t k => XS.aload X6.here hx rfl (hb hby at_183) rfl rfl  k) ?_
    show own_WP _ _ _ _ T6 (mkF m 185 #[.val (.int zn), .val (.int x0), .val (.int x1), .val (.int x2), .val (.int x3), .val (.int x4), .val (.int (0 : Int32)), .val (.int zc0), .val (.int zc1), .val (.int zc2), .val (.int zc3), .val (.int zc4), .val (.ref za), .val (.int (1 : Int32))] [(.ref za)])
    obtain ⟨_, _, ⟨T9, L9, k9, n9⟩, -, X9, ⟨Lc9, hQ9, l9, y9, z9⟩, st9⟩ := Jvm.LawKit.callS X6 hx (y := (⟨"com/example/soak/soak/sip/SipMessage", "isKeepAlive", "([B)Z"⟩ : MethodName)) hown (mvT hZ (hw _ (List.mem_of_getElem? (i := 6) rfl))) (mvT hZ (hw _ (List.mem_of_getElem? (i := 7) rfl))) (mvT hZ (hw _ (List.mem_of_getElem? (i := 8) rfl))) (mvT hZ (hw _ (List.mem_of_getElem? (i := 9) rfl))) (by decide) (backOf (W := 0) (rm2 l Z a0 hw [] za k6 (0 : Int32) [] h6 n0 (own_le Z0 K7) (f8) (show 0 ≤ (0 : Int32).toInt from by decide) (show ([].length : Int) = (0 : Int32).toInt from rfl)) hZ (hw _ (List.mem_of_getElem? (i := 9) rfl)) (hw _ (List.mem_of_getElem? (i := 8) rfl)) (by decide) (by decide)) (g := (mkF m 185 #[.val (.int zn), .val (.int x0), .val (.int x1), .val (.int x2), .val (.int x3), .val (.int x4), .val (.int (0 : Int32)), .val (.int zc0), .val (.int zc1), .val (.int zc2), .val (.int zc3), .val (.int zc4), .val (.ref za), .val (.int (1 : Int32))] [(.ref za)])) rfl (by rw [hml]; rfl) (argsL := [(.ref za)]) (rest := []) (lenOf own_pd76616 rfl) rfl (by show 2 * 0 + _ ≤ _; exact Nat.le_of_eq rfl) (hb hby at_185) (fun _ _ => ⟨rfl, e6, (by decide : 1 + 0 ≤ _), (by decide : 0 + 0 ≤ _)⟩)
    dsimp only [Pt.U, Pt.locs, Pt.cells, Pt.slots] at X9 l9 y9 z9 st9 hQ9
    subst l9 y9 z9
    obtain ⟨rfl, N9q, eq9⟩ := hQ9
    have N9 := Fr.app N5 N9q
    refine own_go st9 ?_
    show own_WP _ _ _ _ T9 (mkF m 188 #[.val (.int zn), .val (.int x0), .val (.int x1), .val (.int x2), .val (.int x3), .val (.int x4), .val (.int (0 : Int32)), .val (.int zc0), .val (.int zc1), .val (.int zc2), .val (.int zc3), .val (.int zc4), .val (.ref za), .val (.int (1 : Int32))] [(.int (own_ka []))])
    refine own_go (fun t k => XS.iload X9.here hx rfl (hb hby at_188) rfl  k) ?_
    show own_WP _ _ _ _ T9 (mkF m 190 #[.val (.int zn), .val (.int x0), .val (.int x1), .val (.int x2), .val (.int x3), .val (.int x4), .val (.int (0 : Int32)), .val (.int zc0), .val (.int zc1), .val (.int zc2), .val (.int zc3), .val (.int zc4), .val (.ref za), .val (.int (1 : Int32))] [(.int (1 : Int32)), (.int (own_ka []))])
    have hc190 : (own_ka []) = (1 : Int32) := by
      simp [own_ka, hr_1, hr_2, hr_3, hr_4, hr_5]
    refine own_go (fun t k => XS.icmpNo X9.here hx rfl (hb hby at_190) rfl (teq hc190).2 k) ?_
    show own_WP _ _ _ _ T9 (mkF m 193 #[.val (.int zn), .val (.int x0), .val (.int x1), .val (.int x2), .val (.int x3), .val (.int x4), .val (.int (0 : Int32)), .val (.int zc0), .val (.int zc1), .val (.int zc2), .val (.int zc3), .val (.int zc4), .val (.ref za), .val (.int (1 : Int32))] [])
    refine own_go (fun t k => XS.iconst X9.here hx rfl (hb hby at_193) k) ?_
    show own_WP _ _ _ _ T9 (mkF m 194 #[.val (.int zn), .val (.int x0), .val (.int x1), .val (.int x2), .val (.int x3), .val (.int x4), .val (.int (0 : Int32)), .val (.int zc0), .val (.int zc1), .val (.int zc2), .val (.int zc3), .val (.int zc4), .val (.ref za), .val (.int (1 : Int32))] [(.int (1 : Int32))])
    refine own_go (fun t k => XS.goto X9.here hx rfl (pc0 := 194) (pc' := 198) rfl (hb hby at_194) (by decide) (by decide) k) ?_
    show own_WP _ _ _ _ T9 (mkF m 198 #[.val (.int zn), .val (.int x0), .val (.int x1), .val (.int x2), .val (.int x3), .val (.int x4), .val (.int (0 : Int32)), .val (.int zc0), .val (.int zc1), .val (.int zc2), .val (.int zc3), .val (.int zc4), .val (.ref za), .val (.int (1 : Int32))] [(.int (1 : Int32))])
    refine own_retN X9 hx Bd.notSynchronized (t := .boolean) (by simp) Bd.returns (hb hby at_198) (by decide) (by decide) ?_
    rw [eq9]
    exact ⟨rfl, N9⟩
  · rw [d_zm] at hl
    subst hl
    show own_WP _ _ _ _ s₁ (mkF m 9 #[.val (.int zn), .val (.int x0), .val (.int x1), .val (.int x2), .val (.int x3), .val (.int x4), .val (.int (1 : Int32)), .unset, .unset, .unset, .unset, .unset, .unset, .unset] [])
    refine own_go (fun t k => XS.iloadN X0.here hx rfl (hb hby at_9) rfl  k) ?_
    show own_WP _ _ _ _ s₁ (mkF m 10 #[.val (.int zn), .val (.int x0), .val (.int x1), .val (.int x2), .val (.int x3), .val (.int x4), .val (.int (1 : Int32)), .unset, .unset, .unset, .unset, .unset, .unset, .unset] [(.int x0)])
    obtain ⟨_, _, ⟨T10, L10, k10, n10⟩, -, X10, ⟨Lc10, hQ10, l10, y10, z10⟩, st10⟩ := Jvm.LawKit.callS X0 hx (y := (⟨"com/example/soak/soak/sip/SipMessageIsKeepAlivePinLaw", "pick", "(I)B"⟩ : MethodName)) hown (mvT hZ (hw _ (List.mem_of_getElem? (i := 1) rfl))) (mvT hZ (hw _ (List.mem_of_getElem? (i := 2) rfl))) (mvT hZ (hw _ (List.mem_of_getElem? (i := 3) rfl))) (mvT hZ (hw _ (List.mem_of_getElem? (i := 4) rfl))) (by decide) (backOf (W := 0) (rm1 l Z a0 hw [] x0  h0 n0 (own_le Z0 K0) ) hZ (hw _ (List.mem_of_getElem? (i := 4) rfl)) (hw _ (List.mem_of_getElem? (i := 3) rfl)) (by decide) (by decide)) (g := (mkF m 10 #[.val (.int zn), .val (.int x0), .val (.int x1), .val (.int x2), .val (.int x3), .val (.int x4), .val (.int (1 : Int32)), .unset, .unset, .unset, .unset, .unset, .unset, .unset] [(.int x0)])) rfl (by rw [hml]; rfl) (argsL := [(.int x0)]) (rest := []) (lenOf own_pd81830 rfl) rfl (by show 2 * 0 + _ ≤ _; exact Nat.le_of_eq rfl) (hb hby at_10) (fun _ _ => ⟨rfl, e0, (by decide : 0 + 0 ≤ _), (by decide : 0 + 0 ≤ _)⟩)
    dsimp only [Pt.U, Pt.locs, Pt.cells, Pt.slots] at X10 l10 y10 z10 st10 hQ10
    subst l10 y10 z10
    obtain ⟨zc0, rfl, N10q, eq10, hr_10⟩ := hQ10
    have N10 := Fr.app N0 N10q
    refine own_go st10 ?_
    show own_WP _ _ _ _ T10 (mkF m 13 #[.val (.int zn), .val (.int x0), .val (.int x1), .val (.int x2), .val (.int x3), .val (.int x4), .val (.int (1 : Int32)), .unset, .unset, .unset, .unset, .unset, .unset, .unset] [(.int zc0)])
    refine own_go (fun t k => XS.istore X10.here hx rfl (hb hby at_13) rfl (l' := #[.val (.int zn), .val (.int x0), .val (.int x1), .val (.int x2), .val (.int x3), .val (.int x4), .val (.int (1 : Int32)), .val (.int zc0), .unset, .unset, .unset, .unset, .unset, .unset]) rfl k) ?_
    show own_WP _ _ _ _ T10 (mkF m 15 #[.val (.int zn), .val (.int x0), .val (.int x1), .val (.int x2), .val (.int x3), .val (.int x4), .val (.int (1 : Int32)), .val (.int zc0), .unset, .unset, .unset, .unset, .unset, .unset] [])
    refine own_go (fun t k => XS.iloadN X10.here hx rfl (hb hby at_15) rfl  k) ?_
    show own_WP _ _ _ _ T10 (mkF m 16 #[.val (.int zn), .val (.int x0), .val (.int x1), .val (.int x2), .val (.int x3), .val (.int x4), .val (.int (1 : Int32)), .val (.int zc0), .unset, .unset, .unset, .unset, .unset, .unset] [(.int x1)])
    obtain ⟨_, _, ⟨T11, L11, k11, n11⟩, -, X11, ⟨Lc11, hQ11, l11, y11, z11⟩, st11⟩ := Jvm.LawKit.callS X10 hx (y := (⟨"com/example/soak/soak/sip/SipMessageIsKeepAlivePinLaw", "pick", "(I)B"⟩ : MethodName)) hown (mvT hZ (hw _ (List.mem_of_getElem? (i := 1) rfl))) (mvT hZ (hw _ (List.mem_of_getElem? (i := 2) rfl))) (mvT hZ (hw _ (List.mem_of_getElem? (i := 3) rfl))) (mvT hZ (hw _ (List.mem_of_getElem? (i := 4) rfl))) (by decide) (backOf (W := 0) (rm1 l Z a0 hw [] x1  h0 n0 (own_le Z0 K0) ) hZ (hw _ (List.mem_of_getElem? (i := 4) rfl)) (hw _ (List.mem_of_getElem? (i := 3) rfl)) (by decide) (by decide)) (g := (mkF m 16 #[.val (.int zn), .val (.int x0), .val (.int x1), .val (.int x2), .val (.int x3), .val (.int x4), .val (.int (1 : Int32)), .val (.int zc0), .unset, .unset, .unset, .unset, .unset, .unset] [(.int x1)])) rfl (by rw [hml]; rfl) (argsL := [(.int x1)]) (rest := []) (lenOf own_pd81830 rfl) rfl (by show 2 * 0 + _ ≤ _; exact Nat.le_of_eq rfl) (hb hby at_16) (fun _ _ => ⟨rfl, eq10, (by decide : 0 + 0 ≤ _), (by decide : 0 + 0 ≤ _)⟩)
    dsimp only [Pt.U, Pt.locs, Pt.cells, Pt.slots] at X11 l11 y11 z11 st11 hQ11
    subst l11 y11 z11
    obtain ⟨zc1, rfl, N11q, eq11, hr_11⟩ := hQ11
    have N11 := Fr.app N10 N11q
    refine own_go st11 ?_
    show own_WP _ _ _ _ T11 (mkF m 19 #[.val (.int zn), .val (.int x0), .val (.int x1), .val (.int x2), .val (.int x3), .val (.int x4), .val (.int (1 : Int32)), .val (.int zc0), .unset, .unset, .unset, .unset, .unset, .unset] [(.int zc1)])
    refine own_go (fun t k => XS.istore X11.here hx rfl (hb hby at_19) rfl (l' := #[.val (.int zn), .val (.int x0), .val (.int x1), .val (.int x2), .val (.int x3), .val (.int x4), .val (.int (1 : Int32)), .val (.int zc0), .val (.int zc1), .unset, .unset, .unset, .unset, .unset]) rfl k) ?_
    show own_WP _ _ _ _ T11 (mkF m 21 #[.val (.int zn), .val (.int x0), .val (.int x1), .val (.int x2), .val (.int x3), .val (.int x4), .val (.int (1 : Int32)), .val (.int zc0), .val (.int zc1), .unset, .unset, .unset, .unset, .unset] [])
    refine own_go (fun t k => XS.iloadN X11.here hx rfl (hb hby at_21) rfl  k) ?_
    show own_WP _ _ _ _ T11 (mkF m 22 #[.val (.int zn), .val (.int x0), .val (.int x1), .val (.int x2), .val (.int x3), .val (.int x4), .val (.int (1 : Int32)), .val (.int zc0), .val (.int zc1), .unset, .unset, .unset, .unset, .unset] [(.int x2)])
    obtain ⟨_, _, ⟨T12, L12, k12, n12⟩, -, X12, ⟨Lc12, hQ12, l12, y12, z12⟩, st12⟩ := Jvm.LawKit.callS X11 hx (y := (⟨"com/example/soak/soak/sip/SipMessageIsKeepAlivePinLaw", "pick", "(I)B"⟩ : MethodName)) hown (mvT hZ (hw _ (List.mem_of_getElem? (i := 1) rfl))) (mvT hZ (hw _ (List.mem_of_getElem? (i := 2) rfl))) (mvT hZ (hw _ (List.mem_of_getElem? (i := 3) rfl))) (mvT hZ (hw _ (List.mem_of_getElem? (i := 4) rfl))) (by decide) (backOf (W := 0) (rm1 l Z a0 hw [] x2  h0 n0 (own_le Z0 K0) ) hZ (hw _ (List.mem_of_getElem? (i := 4) rfl)) (hw _ (List.mem_of_getElem? (i := 3) rfl)) (by decide) (by decide)) (g := (mkF m 22 #[.val (.int zn), .val (.int x0), .val (.int x1), .val (.int x2), .val (.int x3), .val (.int x4), .val (.int (1 : Int32)), .val (.int zc0), .val (.int zc1), .unset, .unset, .unset, .unset, .unset] [(.int x2)])) rfl (by rw [hml]; rfl) (argsL := [(.int x2)]) (rest := []) (lenOf own_pd81830 rfl) rfl (by show 2 * 0 + _ ≤ _; exact Nat.le_of_eq rfl) (hb hby at_22) (fun _ _ => ⟨rfl, eq11, (by decide : 0 + 0 ≤ _), (by decide : 0 + 0 ≤ _)⟩)
    dsimp only [Pt.U, Pt.locs, Pt.cells, Pt.slots] at X12 l12 y12 z12 st12 hQ12
    subst l12 y12 z12
    obtain ⟨zc2, rfl, N12q, eq12, hr_12⟩ := hQ12
    have N12 := Fr.app N11 N12q
    refine own_go st12 ?_
    show own_WP _ _ _ _ T12 (mkF m 25 #[.val (.int zn), .val (.int x0), .val (.int x1), .val (.int x2), .val (.int x3), .val (.int x4), .val (.int (1 : Int32)), .val (.int zc0), .val (.int zc1), .unset, .unset, .unset, .unset, .unset] [(.int zc2)])
    refine own_go (fun t k => XS.istore X12.here hx rfl (hb hby at_25) rfl (l' := #[.val (.int zn), .val (.int x0), .val (.int x1), .val (.int x2), .val (.int x3), .val (.int x4), .val (.int (1 : Int32)), .val (.int zc0), .val (.int zc1), .val (.int zc2), .unset, .unset, .unset, .unset]) rfl k) ?_
    show own_WP _ _ _ _ T12 (mkF m 27 #[.val (.int zn), .val (.int x0), .val (.int x1), .val (.int x2), .val (.int x3), .val (.int x4), .val (.int (1 : Int32)), .val (.int zc0), .val (.int zc1), .val (.int zc2), .unset, .unset, .unset, .unset] [])
    refine own_go (fun t k => XS.iload X12.here hx rfl (hb hby at_27) rfl  k) ?_
    show own_WP _ _ _ _ T12 (mkF m 29 #[.val (.int zn), .val (.int x0), .val (.int x1), .val (.int x2), .val (.int x3), .val (.int x4), .val (.int (1 : Int32)), .val (.int zc0), .val (.int zc1), .val (.int zc2), .unset, .unset, .unset, .unset] [(.int x3)])
    obtain ⟨_, _, ⟨T13, L13, k13, n13⟩, -, X13, ⟨Lc13, hQ13, l13, y13, z13⟩, st13⟩ := Jvm.LawKit.callS X12 hx (y := (⟨"com/example/soak/soak/sip/SipMessageIsKeepAlivePinLaw", "pick", "(I)B"⟩ : MethodName)) hown (mvT hZ (hw _ (List.mem_of_getElem? (i := 1) rfl))) (mvT hZ (hw _ (List.mem_of_getElem? (i := 2) rfl))) (mvT hZ (hw _ (List.mem_of_getElem? (i := 3) rfl))) (mvT hZ (hw _ (List.mem_of_getElem? (i := 4) rfl))) (by decide) (backOf (W := 0) (rm1 l Z a0 hw [] x3  h0 n0 (own_le Z0 K0) ) hZ (hw _ (List.mem_of_getElem? (i := 4) rfl)) (hw _ (List.mem_of_getElem? (i := 3) rfl)) (by decide) (by decide)) (g := (mkF m 29 #[.val (.int zn), .val (.int x0), .val (.int x1), .val (.int x2), .val (.int x3), .val (.int x4), .val (.int (1 : Int32)), .val (.int zc0), .val (.int zc1), .val (.int zc2), .unset, .unset, .unset, .unset] [(.int x3)])) rfl (by rw [hml]; rfl) (argsL := [(.int x3)]) (rest := []) (lenOf own_pd81830 rfl) rfl (by show 2 * 0 + _ ≤ _; exact Nat.le_of_eq rfl) (hb hby at_29) (fun _ _ => ⟨rfl, eq12, (by decide : 0 + 0 ≤ _), (by decide : 0 + 0 ≤ _)⟩)
    dsimp only [Pt.U, Pt.locs, Pt.cells, Pt.slots] at X13 l13 y13 z13 st13 hQ13
    subst l13 y13 z13
    obtain ⟨zc3, rfl, N13q, eq13, hr_13⟩ := hQ13
    have N13 := Fr.app N12 N13q
    refine own_go st13 ?_
    show own_WP _ _ _ _ T13 (mkF m 32 #[.val (.int zn), .val (.int x0), .val (.int x1), .val (.int x2), .val (.int x3), .val (.int x4), .val (.int (1 : Int32)), .val (.int zc0), .val (.int zc1), .val (.int zc2), .unset, .unset, .unset, .unset] [(.int zc3)])
    refine own_go (fun t k => XS.istore X13.here hx rfl (hb hby at_32) rfl (l' := #[.val (.int zn), .val (.int x0), .val (.int x1), .val (.int x2), .val (.int x3), .val (.int x4), .val (.int (1 : Int32)), .val (.int zc0), .val (.int zc1), .val (.int zc2), .val (.int zc3), .unset, .unset, .unset]) rfl k) ?_
    show own_WP _ _ _ _ T13 (mkF m 34 #[.val (.int zn), .val (.int x0), .val (.int x1), .val (.int x2), .val (.int x3), .val (.int x4), .val (.int (1 : Int32)), .val (.int zc0), .val (.int zc1), .val (.int zc2), .val (.int zc3), .unset, .unset, .unset] [])
    refine own_go (fun t k => XS.iload X13.here hx rfl (hb hby at_34) rfl  k) ?_
    show own_WP _ _ _ _ T13 (mkF m 36 #[.val (.int zn), .val (.int x0), .val (.int x1), .val (.int x2), .val (.int x3), .val (.int x4), .val (.int (1 : Int32)), .val (.int zc0), .val (.int zc1), .val (.int zc2), .val (.int zc3), .unset, .unset, .unset] [(.int x4)])
    obtain ⟨_, _, ⟨T14, L14, k14, n14⟩, -, X14, ⟨Lc14, hQ14, l14, y14, z14⟩, st14⟩ := Jvm.LawKit.callS X13 hx (y := (⟨"com/example/soak/soak/sip/SipMessageIsKeepAlivePinLaw", "pick", "(I)B"⟩ : MethodName)) hown (mvT hZ (hw _ (List.mem_of_getElem? (i := 1) rfl))) (mvT hZ (hw _ (List.mem_of_getElem? (i := 2) rfl))) (mvT hZ (hw _ (List.mem_of_getElem? (i := 3) rfl))) (mvT hZ (hw _ (List.mem_of_getElem? (i := 4) rfl))) (by decide) (backOf (W := 0) (rm1 l Z a0 hw [] x4  h0 n0 (own_le Z0 K0) ) hZ (hw _ (List.mem_of_getElem? (i := 4) rfl)) (hw _ (List.mem_of_getElem? (i := 3) rfl)) (by decide) (by decide)) (g := (mkF m 36 #[.val (.int zn), .val (.int x0), .val (.int x1), .val (.int x2), .val (.int x3), .val (.int x4), .val (.int (1 : Int32)), .val (.int zc0), .val (.int zc1), .val (.int zc2), .val (.int zc3), .unset, .unset, .unset] [(.int x4)])) rfl (by rw [hml]; rfl) (argsL := [(.int x4)]) (rest := []) (lenOf own_pd81830 rfl) rfl (by show 2 * 0 + _ ≤ _; exact Nat.le_of_eq rfl) (hb hby at_36) (fun _ _ => ⟨rfl, eq13, (by decide : 0 + 0 ≤ _), (by decide : 0 + 0 ≤ _)⟩)
    dsimp only [Pt.U, Pt.locs, Pt.cells, Pt.slots] at X14 l14 y14 z14 st14 hQ14
    subst l14 y14 z14
    obtain ⟨zc4, rfl, N14q, eq14, hr_14⟩ := hQ14
    have N14 := Fr.app N13 N14q
    refine own_go st14 ?_
    show own_WP _ _ _ _ T14 (mkF m 39 #[.val (.int zn), .val (.int x0), .val (.int x1), .val (.int x2), .val (.int x3), .val (.int x4), .val (.int (1 : Int32)), .val (.int zc0), .val (.int zc1), .val (.int zc2), .val (.int zc3), .unset, .unset, .unset] [(.int zc4)])
    refine own_go (fun t k => XS.istore X14.here hx rfl (hb hby at_39) rfl (l' := #[.val (.int zn), .val (.int x0), .val (.int x1), .val (.int x2), .val (.int x3), .val (.int x4), .val (.int (1 : Int32)), .val (.int zc0), .val (.int zc1), .val (.int zc2), .val (.int zc3), .val (.int zc4), .unset, .unset]) rfl k) ?_
    show own_WP _ _ _ _ T14 (mkF m 41 #[.val (.int zn), .val (.int x0), .val (.int x1), .val (.int x2), .val (.int x3), .val (.int x4), .val (.int (1 : Int32)), .val (.int zc0), .val (.int zc1), .val (.int zc2), .val (.int zc3), .val (.int zc4), .unset, .unset] [])
    refine own_go (fun t k => XS.iload X14.here hx rfl (hb hby at_41) rfl  k) ?_
    show own_WP _ _ _ _ T14 (mkF m 43 #[.val (.int zn), .val (.int x0), .val (.int x1), .val (.int x2), .val (.int x3), .val (.int x4), .val (.int (1 : Int32)), .val (.int zc0), .val (.int zc1), .val (.int zc2), .val (.int zc3), .val (.int zc4), .unset, .unset] [(.int (1 : Int32))])
    obtain ⟨T15, h15, k15, X15, e15, E15, A15, G15, st15⟩ := newPE X14 hx hZ (hw _ (List.mem_of_getElem? (i := 5) rfl)) eq14 (g := (mkF m 43 #[.val (.int zn), .val (.int x0), .val (.int x1), .val (.int x2), .val (.int x3), .val (.int x4), .val (.int (1 : Int32)), .val (.int zc0), .val (.int zc1), .val (.int zc2), .val (.int zc3), .val (.int zc4), .unset, .unset] [(.int (1 : Int32))])) rfl (hb hby at_43) rfl (by decide) (cap := 1) (by decide) (by decide) (by decide) (by decide) (ad := "[B") rfl
    obtain ⟨za, q15⟩ : ∃ z, z = h0.size := ⟨_, rfl⟩
    rw [← q15] at A15 G15 st15
    refine own_go st15 ?_
    have g_za : n0 ≤ za := Nat.le_trans (own_le Z0 K0) (Nat.le_of_eq q15.symm)
    have sz_za : h0.size ≤ za := Nat.le_trans K0.1 (Nat.le_of_eq q15.symm)
    have K16 : Keep h0 h15 [] := K0.ext E15
    have f17 : Arv Z h15 za k15 .byte (1 : Int32) [(.int (0 : Int32))] (.int (0 : Int32)) := (Arv.new A15 (by decide)).pad (pad_rep [] (.int (0 : Int32)) 1)
    show own_WP _ _ _ _ T15 (mkF m 45 #[.val (.int zn), .val (.int x0), .val (.int x1), .val (.int x2), .val (.int x3), .val (.int x4), .val (.int (1 : Int32)), .val (.int zc0), .val (.int zc1), .val (.int zc2), .val (.int zc3), .val (.int zc4), .unset, .unset] [(.ref za)])
    refine own_go (fun t k => XS.astore X15.here hx rfl (hb hby at_45) rfl rfl (l' := #[.val (.int zn), .val (.int x0), .val (.int x1), .val (.int x2), .val (.int x3), .val (.int x4), .val (.int (1 : Int32)), .val (.int zc0), .val (.int zc1), .val (.int zc2), .val (.int zc3), .val (.int zc4), .val (.ref za), .unset]) rfl k) ?_
    show own_WP _ _ _ _ T15 (mkF m 47 #[.val (.int zn), .val (.int x0), .val (.int x1), .val (.int x2), .val (.int x3), .val (.int x4), .val (.int (1 : Int32)), .val (.int zc0), .val (.int zc1), .val (.int zc2), .val (.int zc3), .val (.int zc4), .val (.ref za), .unset] [])
    refine own_go (fun t k => XS.iload X15.here hx rfl (hb hby at_47) rfl  k) ?_
    show own_WP _ _ _ _ T15 (mkF m 49 #[.val (.int zn), .val (.int x0), .val (.int x1), .val (.int x2), .val (.int x3), .val (.int x4), .val (.int (1 : Int32)), .val (.int zc0), .val (.int zc1), .val (.int zc2), .val (.int zc3), .val (.int zc4), .val (.ref za), .unset] [(.int (1 : Int32))])
    have hc49 : (0 : Int32) < (1 : Int32) := by decide
    refine own_go (fun t k => XS.ifNo X15.here hx rfl (hb hby at_49) rfl ((if0 _ _).trans (tlt hc49).2.2.2) k) ?_
    show own_WP _ _ _ _ T15 (mkF m 52 #[.val (.int zn), .val (.int x0), .val (.int x1), .val (.int x2), .val (.int x3), .val (.int x4), .val (.int (1 : Int32)), .val (.int zc0), .val (.int zc1), .val (.int zc2), .val (.int zc3), .val (.int zc4), .val (.ref za), .unset] [])
    refine own_go (fun t k => XS.aload X15.here hx rfl (hb hby at_52) rfl rfl  k) ?_
    show own_WP _ _ _ _ T15 (mkF m 54 #[.val (.int zn), .val (.int x0), .val (.int x1), .val (.int x2), .val (.int x3), .val (.int x4), .val (.int (1 : Int32)), .val (.int zc0), .val (.int zc1), .val (.int zc2), .val (.int zc3), .val (.int zc4), .val (.ref za), .unset] [(.ref za)])
    refine own_go (fun t k => XS.iconst X15.here hx rfl (hb hby at_54) k) ?_
    show own_WP _ _ _ _ T15 (mkF m 55 #[.val (.int zn), .val (.int x0), .val (.int x1), .val (.int x2), .val (.int x3), .val (.int x4), .val (.int (1 : Int32)), .val (.int zc0), .val (.int zc1), .val (.int zc2), .val (.int zc3), .val (.int zc4), .val (.ref za), .unset] [(.int (0 : Int32)), (.ref za)])
    refine own_go (fun t k => XS.iload X15.here hx rfl (hb hby at_55) rfl  k) ?_
    show own_WP _ _ _ _ T15 (mkF m 57 #[.val (.int zn), .val (.int x0), .val (.int x1), .val (.int x2), .val (.int x3), .val (.int x4), .val (.int (1 : Int32)), .val (.int zc0), .val (.int zc1), .val (.int zc2), .val (.int zc3), .val (.int zc4), .val (.ref za), .unset] [(.int zc0), (.int (0 : Int32)), (.ref za)])
    refine own_stB X15 hx hZ e15 f17 (j := (0 : Int32)) ⟨by decide, by decide⟩ (i := 0) rfl (Nat.le_of_ble_eq_true rfl) (hb hby at_57) ?_
    intro T18 h18 X18 e18 W18 V18
    have f19 : Arv Z h18 za k15 .byte (1 : Int32) [(.int (nar .byte zc0))] (.int (0 : Int32)) := V18
    have K21 : Keep h0 h18 [] := K16.wr W18 (Or.inr sz_za)
    have N22 := Fr.snoc X18 N14 g_za
    show own_WP _ _ _ _ T18 (mkF m 58 #[.val (.int zn), .val (.int x0), .val (.int x1), .val (.int x2), .val (.int x3), .val (.int x4), .val (.int (1 : Int32)), .val (.int zc0), .val (.int zc1), .val (.int zc2), .val (.int zc3), .val (.int zc4), .val (.ref za), .unset] [])
    refine own_go (fun t k => XS.iload X18.here hx rfl (hb hby at_58) rfl  k) ?_
    show own_WP _ _ _ _ T18 (mkF m 60 #[.val (.int zn), .val (.int x0), .val (.int x1), .val (.int x2), .val (.int x3), .val (.int x4), .val (.int (1 : Int32)), .val (.int zc0), .val (.int zc1), .val (.int zc2), .val (.int zc3), .val (.int zc4), .val (.ref za), .unset] [(.int (1 : Int32))])
    refine own_go (fun t k => XS.iconst X18.here hx rfl (hb hby at_60) k) ?_
    show own_WP _ _ _ _ T18 (mkF m 61 #[.val (.int zn), .val (.int x0), .val (.int x1), .val (.int x2), .val (.int x3), .val (.int x4), .val (.int (1 : Int32)), .val (.int zc0), .val (.int zc1), .val (.int zc2), .val (.int zc3), .val (.int zc4), .val (.ref za), .unset] [(.int (1 : Int32)), (.int (1 : Int32))])
    have hc61 : ¬ ((1 : Int32) < (1 : Int32)) := by decide
    refine own_go (fun t k => XS.icmpYes X18.here hx rfl (pc0 := 61) (pc' := 70) rfl (hb hby at_61) rfl (flt hc61).2.2.2 (by decide) (by decide) k) ?_
    show own_WP _ _ _ _ T18 (mkF m 70 #[.val (.int zn), .val (.int x0), .val (.int x1), .val (.int x2), .val (.int x3), .val (.int x4), .val (.int (1 : Int32)), .val (.int zc0), .val (.int zc1), .val (.int zc2), .val (.int zc3), .val (.int zc4), .val (.ref za), .unset] [])
    refine own_go (fun t k => XS.iload X18.here hx rfl (hb hby at_70) rfl  k) ?_
    show own_WP _ _ _ _ T18 (mkF m 72 #[.val (.int zn), .val (.int x0), .val (.int x1), .val (.int x2), .val (.int x3), .val (.int x4), .val (.int (1 : Int32)), .val (.int zc0), .val (.int zc1), .val (.int zc2), .val (.int zc3), .val (.int zc4), .val (.ref za), .unset] [(.int (1 : Int32))])
    refine own_go (fun t k => XS.iconst X18.here hx rfl (hb hby at_72) k) ?_
    show own_WP _ _ _ _ T18 (mkF m 73 #[.val (.int zn), .val (.int x0), .val (.int x1), .val (.int x2), .val (.int x3), .val (.int x4), .val (.int (1 : Int32)), .val (.int zc0), .val (.int zc1), .val (.int zc2), .val (.int zc3), .val (.int zc4), .val (.ref za), .unset] [(.int (2 : Int32)), (.int (1 : Int32))])
    have hc73 : ¬ ((2 : Int32) < (1 : Int32)) := by decide
    refine own_go (fun t k => XS.icmpYes X18.here hx rfl (pc0 := 73) (pc' := 82) rfl (hb hby at_73) rfl (flt hc73).2.2.2 (by decide) (by decide) k) ?_
    show own_WP _ _ _ _ T18 (mkF m 82 #[.val (.int zn), .val (.int x0), .val (.int x1), .val (.int x2), .val (.int x3), .val (.int x4), .val (.int (1 : Int32)), .val (.int zc0), .val (.int zc1), .val (.int zc2), .val (.int zc3), .val (.int zc4), .val (.ref za), .unset] [])
    refine own_go (fun t k => XS.iload X18.here hx rfl (hb hby at_82) rfl  k) ?_
    show own_WP _ _ _ _ T18 (mkF m 84 #[.val (.int zn), .val (.int x0), .val (.int x1), .val (.int x2), .val (.int x3), .val (.int x4), .val (.int (1 : Int32)), .val (.int zc0), .val (.int zc1), .val (.int zc2), .val (.int zc3), .val (.int zc4), .val (.ref za), .unset] [(.int (1 : Int32))])
    refine own_go (fun t k => XS.iconst X18.here hx rfl (hb hby at_84) k) ?_
    show own_WP _ _ _ _ T18 (mkF m 85 #[.val (.int zn), .val (.int x0), .val (.int x1), .val (.int x2), .val (.int x3), .val (.int x4), .val (.int (1 : Int32)), .val (.int zc0), .val (.int zc1), .val (.int zc2), .val (.int zc3), .val (.int zc4), .val (.ref za), .unset] [(.int (3 : Int32)), (.int (1 : Int32))])
    have hc85 : ¬ ((3 : Int32) < (1 : Int32)) := by decide
    refine own_go (fun t k => XS.icmpYes X18.here hx rfl (pc0 := 85) (pc' := 94) rfl (hb hby at_85) rfl (flt hc85).2.2.2 (by decide) (by decide) k) ?_
    show own_WP _ _ _ _ T18 (mkF m 94 #[.val (.int zn), .val (.int x0), .val (.int x1), .val (.int x2), .val (.int x3), .val (.int x4), .val (.int (1 : Int32)), .val (.int zc0), .val (.int zc1), .val (.int zc2), .val (.int zc3), .val (.int zc4), .val (.ref za), .unset] [])
    refine own_go (fun t k => XS.iload X18.here hx rfl (hb hby at_94) rfl  k) ?_
    show own_WP _ _ _ _ T18 (mkF m 96 #[.val (.int zn), .val (.int x0), .val (.int x1), .val (.int x2), .val (.int x3), .val (.int x4), .val (.int (1 : Int32)), .val (.int zc0), .val (.int zc1), .val (.int zc2), .val (.int zc3), .val (.int zc4), .val (.ref za), .unset] [(.int (1 : Int32))])
    refine own_go (fun t k => XS.iconst X18.here hx rfl (hb hby at_96) k) ?_
    show own_WP _ _ _ _ T18 (mkF m 97 #[.val (.int zn), .val (.int x0), .val (.int x1), .val (.int x2), .val (.int x3), .val (.int x4), .val (.int (1 : Int32)), .val (.int zc0), .val (.int zc1), .val (.int zc2), .val (.int zc3), .val (.int zc4), .val (.ref za), .unset] [(.int (4 : Int32)), (.int (1 : Int32))])
    have hc97 : ¬ ((4 : Int32) < (1 : Int32)) := by decide
    refine own_go (fun t k => XS.icmpYes X18.here hx rfl (pc0 := 97) (pc' := 106) rfl (hb hby at_97) rfl (flt hc97).2.2.2 (by decide) (by decide) k) ?_
    show own_WP _ _ _ _ T18 (mkF m 106 #[.val (.int zn), .val (.int x0), .val (.int x1), .val (.int x2), .val (.int x3), .val (.int x4), .val (.int (1 : Int32)), .val (.int zc0), .val (.int zc1), .val (.int zc2), .val (.int zc3), .val (.int zc4), .val (.ref za), .unset] [])
    refine own_go (fun t k => XS.iload X18.here hx rfl (hb hby at_106) rfl  k) ?_
    show own_WP _ _ _ _ T18 (mkF m 108 #[.val (.int zn), .val (.int x0), .val (.int x1), .val (.int x2), .val (.int x3), .val (.int x4), .val (.int (1 : Int32)), .val (.int zc0), .val (.int zc1), .val (.int zc2), .val (.int zc3), .val (.int zc4), .val (.ref za), .unset] [(.int (1 : Int32))])
    refine own_go (fun t k => XS.iconst X18.here hx rfl (hb hby at_108) k) ?_
    show own_WP _ _ _ _ T18 (mkF m 109 #[.val (.int zn), .val (.int x0), .val (.int x1), .val (.int x2), .val (.int x3), .val (.int x4), .val (.int (1 : Int32)), .val (.int zc0), .val (.int zc1), .val (.int zc2), .val (.int zc3), .val (.int zc4), .val (.ref za), .unset] [(.int (1 : Int32)), (.int (1 : Int32))])
    have hc109 : ¬ ((1 : Int32) < (1 : Int32)) := by decide
    refine own_go (fun t k => XS.icmpNo X18.here hx rfl (hb hby at_109) rfl (flt hc109).1 k) ?_
    show own_WP _ _ _ _ T18 (mkF m 112 #[.val (.int zn), .val (.int x0), .val (.int x1), .val (.int x2), .val (.int x3), .val (.int x4), .val (.int (1 : Int32)), .val (.int zc0), .val (.int zc1), .val (.int zc2), .val (.int zc3), .val (.int zc4), .val (.ref za), .unset] [])
    refine own_go (fun t k => XS.iload X18.here hx rfl (hb hby at_112) rfl  k) ?_
    show own_WP _ _ _ _ T18 (mkF m 114 #[.val (.int zn), .val (.int x0), .val (.int x1), .val (.int x2), .val (.int x3), .val (.int x4), .val (.int (1 : Int32)), .val (.int zc0), .val (.int zc1), .val (.int zc2), .val (.int zc3), .val (.int zc4), .val (.ref za), .unset] [(.int zc0)])
    obtain ⟨_, _, ⟨T23, L23, k23, n23⟩, -, X23, ⟨Lc23, hQ23, l23, y23, z23⟩, st23⟩ := Jvm.LawKit.callS X18 hx (y := (⟨"com/example/soak/soak/sip/SipMessageIsKeepAlivePinLaw", "ws", "(B)Z"⟩ : MethodName)) hown (mvT hZ (hw _ (List.mem_of_getElem? (i := 10) rfl))) (mvT hZ (hw _ (List.mem_of_getElem? (i := 11) rfl))) (mvT hZ (hw _ (List.mem_of_getElem? (i := 3) rfl))) (mvT hZ (hw _ (List.mem_of_getElem? (i := 12) rfl))) (by decide) (backOf (W := 0) (rm3 l Z a0 hw [] zc0  h18 n0 (own_le Z0 K21) ) hZ (hw _ (List.mem_of_getElem? (i := 12) rfl)) (hw _ (List.mem_of_getElem? (i := 3) rfl)) (by decide) (by decide)) (g := (mkF m 114 #[.val (.int zn), .val (.int x0), .val (.int x1), .val (.int x2), .val (.int x3), .val (.int x4), .val (.int (1 : Int32)), .val (.int zc0), .val (.int zc1), .val (.int zc2), .val (.int zc3), .val (.int zc4), .val (.ref za), .unset] [(.int zc0)])) rfl (by rw [hml]; rfl) (argsL := [(.int zc0)]) (rest := []) (lenOf own_pd61727 rfl) rfl (by show 2 * 0 + _ ≤ _; exact Nat.le_of_eq rfl) (hb hby at_114) (fun _ _ => ⟨rfl, e18, (by decide : 1 + 0 ≤ _), (by decide : 1 + 0 ≤ _)⟩)
    dsimp only [Pt.U, Pt.locs, Pt.cells, Pt.slots] at X23 l23 y23 z23 st23 hQ23
    subst l23 y23 z23
    obtain ⟨rfl, N23q, eq23⟩ := hQ23
    have N23 := Fr.app N22 N23q
    refine own_go st23 ?_
    show own_WP _ _ _ _ T23 (mkF m 117 #[.val (.int zn), .val (.int x0), .val (.int x1), .val (.int x2), .val (.int x3), .val (.int x4), .val (.int (1 : Int32)), .val (.int zc0), .val (.int zc1), .val (.int zc2), .val (.int zc3), .val (.int zc4), .val (.ref za), .unset] [(.int (own_ws zc0))])
    by_cases hc117 : (own_ws zc0) = (0 : Int32)
    · refine own_go (fun t k => XS.ifYes X23.here hx rfl (pc0 := 117) (pc' := 180) rfl (hb hby at_117) rfl ((if0 _ _).trans (teq hc117).1) (by decide) (by decide) k) ?_
      show own_WP _ _ _ _ T23 (mkF m 180 #[.val (.int zn), .val (.int x0), .val (.int x1), .val (.int x2), .val (.int x3), .val (.int x4), .val (.int (1 : Int32)), .val (.int zc0), .val (.int zc1), .val (.int zc2), .val (.int zc3), .val (.int zc4), .val (.ref za), .unset] [])
      refine own_go (fun t k => XS.iconst X23.here hx rfl (hb hby at_180) k) ?_
      show own_WP _ _ _ _ T23 (mkF m 181 #[.val (.int zn), .val (.int x0), .val (.int x1), .val (.int x2), .val (.int x3), .val (.int x4), .val (.int (1 : Int32)), .val (.int zc0), .val (.int zc1), .val (.int zc2), .val (.int zc3), .val (.int zc4), .val (.ref za), .unset] [(.int (0 : Int32))])
      refine own_go (fun t k => XS.istore X23.here hx rfl (hb hby at_181) rfl (l' := #[.val (.int zn), .val (.int x0), .val (.int x1), .val (.int x2), .val (.int x3), .val (.int x4), .val (.int (1 : Int32)), .val (.int zc0), .val (.int zc1), .val (.int zc2), .val (.int zc3), .val (.int zc4), .val (.ref za), .val (.int (0 : Int32))]) rfl k) ?_
      show own_WP _ _ _ _ T23 (mkF m 183 #[.val (.int zn), .val (.int x0), .val (.int x1), .val (.int x2), .val (.int x3), .val (.int x4), .val (.int (1 : Int32)), .val (.int zc0), .val (.int zc1), .val (.int zc2), .val (.int zc3), .val (.int zc4), .val (.ref za), .val (.int (0 : Int32))] [])
      refine own_go (fun t k => XS.aload X23.here hx rfl (hb hby at_183) rfl rfl  k) ?_
      show own_WP _ _ _ _ T23 (mkF m 185 #[.val (.int zn), .val (.int x0), .val (.int x1), .val (.int x2), .val (.int x3), .val (.int x4), .val (.int (1 : Int32)), .val (.int zc0), .val (.int zc1), .val (.int zc2), .val (.int zc3), .val (.int zc4), .val (.ref za), .val (.int (0 : Int32))] [(.ref za)])
      obtain ⟨_, _, ⟨T24, L24, k24, n24⟩, -, X24, ⟨Lc24, hQ24, l24, y24, z24⟩, st24⟩ := Jvm.LawKit.callS X23 hx (y := (⟨"com/example/soak/soak/sip/SipMessage", "isKeepAlive", "([B)Z"⟩ : MethodName)) hown (mvT hZ (hw _ (List.mem_of_getElem? (i := 6) rfl))) (mvT hZ (hw _ (List.mem_of_getElem? (i := 7) rfl))) (mvT hZ (hw _ (List.mem_of_getElem? (i := 8) rfl))) (mvT hZ (hw _ (List.mem_of_getElem? (i := 9) rfl))) (by decide) (backOf (W := 0) (rm2 l Z a0 hw [] za k15 (1 : Int32) [(nar .byte zc0)] h18 n0 (own_le Z0 K21) (f19) (show 0 ≤ (1 : Int32).toInt from by decide) (show ([(nar .byte zc0)].length : Int) = (1 : Int32).toInt from rfl)) hZ (hw _ (List.mem_of_getElem? (i := 9) rfl)) (hw _ (List.mem_of_getElem? (i := 8) rfl)) (by decide) (by decide)) (g := (mkF m 185 #[.val (.int zn), .val (.int x0), .val (.int x1), .val (.int x2), .val (.int x3), .val (.int x4), .val (.int (1 : Int32)), .val (.int zc0), .val (.int zc1), .val (.int zc2), .val (.int zc3), .val (.int zc4), .val (.ref za), .val (.int (0 : Int32))] [(.ref za)])) rfl (by rw [hml]; rfl) (argsL := [(.ref za)]) (rest := []) (lenOf own_pd76616 rfl) rfl (by show 2 * 0 + _ ≤ _; exact Nat.le_of_eq rfl) (hb hby at_185) (fun _ _ => ⟨rfl, eq23, (by decide : 1 + 0 ≤ _), (by decide : 1 + 0 ≤ _)⟩)
      dsimp only [Pt.U, Pt.locs, Pt.cells, Pt.slots] at X24 l24 y24 z24 st24 hQ24
      subst l24 y24 z24
      obtain ⟨rfl, N24q, eq24⟩ := hQ24
      have N24 := Fr.app N23 N24q
      refine own_go st24 ?_
      show own_WP _ _ _ _ T24 (mkF m 188 #[.val (.int zn), .val (.int x0), .val (.int x1), .val (.int x2), .val (.int x3), .val (.int x4), .val (.int (1 : Int32)), .val (.int zc0), .val (.int zc1), .val (.int zc2), .val (.int zc3), .val (.int zc4), .val (.ref za), .val (.int (0 : Int32))] [(.int (own_ka [(nar .byte zc0)]))])
      refine own_go (fun t k => XS.iload X24.here hx rfl (hb hby at_188) rfl  k) ?_
      show own_WP _ _ _ _ T24 (mkF m 190 #[.val (.int zn), .val (.int x0), .val (.int x1), .val (.int x2), .val (.int x3), .val (.int x4), .val (.int (1 : Int32)), .val (.int zc0), .val (.int zc1), .val (.int zc2), .val (.int zc3), .val (.int zc4), .val (.ref za), .val (.int (0 : Int32))] [(.int (0 : Int32)), (.int (own_ka [(nar .byte zc0)]))])
      have hc190 : (own_ka [(nar .byte zc0)]) = (0 : Int32) := by
        simp [own_ka, hr_10, hr_11, hr_12, hr_13, hr_14, hc117]
      refine own_go (fun t k => XS.icmpNo X24.here hx rfl (hb hby at_190) rfl (teq hc190).2 k) ?_
      show own_WP _ _ _ _ T24 (mkF m 193 #[.val (.int zn), .val (.int x0), .val (.int x1), .val (.int x2), .val (.int x3), .val (.int x4), .val (.int (1 : Int32)), .val (.int zc0), .val (.int zc1), .val (.int zc2), .val (.int zc3), .val (.int zc4), .val (.ref za), .val (.int (0 : Int32))] [])
      refine own_go (fun t k => XS.iconst X24.here hx rfl (hb hby at_193) k) ?_
      show own_WP _ _ _ _ T24 (mkF m 194 #[.val (.int zn), .val (.int x0), .val (.int x1), .val (.int x2), .val (.int x3), .val (.int x4), .val (.int (1 : Int32)), .val (.int zc0), .val (.int zc1), .val (.int zc2), .val (.int zc3), .val (.int zc4), .val (.ref za), .val (.int (0 : Int32))] [(.int (1 : Int32))])
      refine own_go (fun t k => XS.goto X24.here hx rfl (pc0 := 194) (pc' := 198) rfl (hb hby at_194) (by decide) (by decide) k) ?_
      show own_WP _ _ _ _ T24 (mkF m 198 #[.val (.int zn), .val (.int x0), .val (.int x1), .val (.int x2), .val (.int x3), .val (.int x4), .val (.int (1 : Int32)), .val (.int zc0), .val (.int zc1), .val (.int zc2), .val (.int zc3), .val (.int zc4), .val (.ref za), .val (.int (0 : Int32))] [(.int (1 : Int32))])
      refine own_retN X24 hx Bd.notSynchronized (t := .boolean) (by simp) Bd.returns (hb hby at_198) (by decide) (by decide) ?_
      rw [eq24]
      exact ⟨rfl, N24⟩
    · refine own_go (fun t k => XS.ifNo X23.here hx rfl (hb hby at_117) rfl ((if0 _ _).trans (feq hc117).1) k) ?_
      show own_WP _ _ _ _ T23 (mkF m 120 #[.val (.int zn), .val (.int x0), .val (.int x1), .val (.int x2), .val (.int x3), .val (.int x4), .val (.int (1 : Int32)), .val (.int zc0), .val (.int zc1), .val (.int zc2), .val (.int zc3), .val (.int zc4), .val (.ref za), .unset] [])
      refine own_go (fun t k => XS.iload X23.here hx rfl (hb hby at_120) rfl  k) ?_
      show own_WP _ _ _ _ T23 (mkF m 122 #[.val (.int zn), .val (.int x0), .val (.int x1), .val (.int x2), .val (.int x3), .val (.int x4), .val (.int (1 : Int32)), .val (.int zc0), .val (.int zc1), .val (.int zc2), .val (.int zc3), .val (.int zc4), .val (.ref za), .unset] [(.int (1 : Int32))])
      refine own_go (fun t k => XS.iconst X23.here hx rfl (hb hby at_122) k) ?_
      show own_WP _ _ _ _ T23 (mkF m 123 #[.val (.int zn), .val (.int x0), .val (.int x1), .val (.int x2), .val (.int x3), .val (.int x4), .val (.int (1 : Int32)), .val (.int zc0), .val (.int zc1), .val (.int zc2), .val (.int zc3), .val (.int zc4), .val (.ref za), .unset] [(.int (2 : Int32)), (.int (1 : Int32))])
      have hc123 : (1 : Int32) < (2 : Int32) := by decide
      refine own_go (fun t k => XS.icmpYes X23.here hx rfl (pc0 := 123) (pc' := 134) rfl (hb hby at_123) rfl (tlt hc123).1 (by decide) (by decide) k) ?_
      show own_WP _ _ _ _ T23 (mkF m 134 #[.val (.int zn), .val (.int x0), .val (.int x1), .val (.int x2), .val (.int x3), .val (.int x4), .val (.int (1 : Int32)), .val (.int zc0), .val (.int zc1), .val (.int zc2), .val (.int zc3), .val (.int zc4), .val (.ref za), .unset] [])
      refine own_go (fun t k => XS.iload X23.here hx rfl (hb hby at_134) rfl  k) ?_
      show own_WP _ _ _ _ T23 (mkF m 136 #[.val (.int zn), .val (.int x0), .val (.int x1), .val (.int x2), .val (.int x3), .val (.int x4), .val (.int (1 : Int32)), .val (.int zc0), .val (.int zc1), .val (.int zc2), .val (.int zc3), .val (.int zc4), .val (.ref za), .unset] [(.int (1 : Int32))])
      refine own_go (fun t k => XS.iconst X23.here hx rfl (hb hby at_136) k) ?_
      show own_WP _ _ _ _ T23 (mkF m 137 #[.val (.int zn), .val (.int x0), .val (.int x1), .val (.int x2), .val (.int x3), .val (.int x4), .val (.int (1 : Int32)), .val (.int zc0), .val (.int zc1), .val (.int zc2), .val (.int zc3), .val (.int zc4), .val (.ref za), .unset] [(.int (3 : Int32)), (.int (1 : Int32))])
      have hc137 : (1 : Int32) < (3 : Int32) := by decide
      refine own_go (fun t k => XS.icmpYes X23.here hx rfl (pc0 := 137) (pc' := 148) rfl (hb hby at_137) rfl (tlt hc137).1 (by decide) (by decide) k) ?_
      show own_WP _ _ _ _ T23 (mkF m 148 #[.val (.int zn), .val (.int x0), .val (.int x1), .val (.int x2), .val (.int x3), .val (.int x4), .val (.int (1 : Int32)), .val (.int zc0), .val (.int zc1), .val (.int zc2), .val (.int zc3), .val (.int zc4), .val (.ref za), .unset] [])
      refine own_go (fun t k => XS.iload X23.here hx rfl (hb hby at_148) rfl  k) ?_
      show own_WP _ _ _ _ T23 (mkF m 150 #[.val (.int zn), .val (.int x0), .val (.int x1), .val (.int x2), .val (.int x3), .val (.int x4), .val (.int (1 : Int32)), .val (.int zc0), .val (.int zc1), .val (.int zc2), .val (.int zc3), .val (.int zc4), .val (.ref za), .unset] [(.int (1 : Int32))])
      refine own_go (fun t k => XS.iconst X23.here hx rfl (hb hby at_150) k) ?_
      show own_WP _ _ _ _ T23 (mkF m 151 #[.val (.int zn), .val (.int x0), .val (.int x1), .val (.int x2), .val (.int x3), .val (.int x4), .val (.int (1 : Int32)), .val (.int zc0), .val (.int zc1), .val (.int zc2), .val (.int zc3), .val (.int zc4), .val (.ref za), .unset] [(.int (4 : Int32)), (.int (1 : Int32))])
      have hc151 : (1 : Int32) < (4 : Int32) := by decide
      refine own_go (fun t k => XS.icmpYes X23.here hx rfl (pc0 := 151) (pc' := 162) rfl (hb hby at_151) rfl (tlt hc151).1 (by decide) (by decide) k) ?_
      show own_WP _ _ _ _ T23 (mkF m 162 #[.val (.int zn), .val (.int x0), .val (.int x1), .val (.int x2), .val (.int x3), .val (.int x4), .val (.int (1 : Int32)), .val (.int zc0), .val (.int zc1), .val (.int zc2), .val (.int zc3), .val (.int zc4), .val (.ref za), .unset] [])
      refine own_go (fun t k => XS.iload X23.here hx rfl (hb hby at_162) rfl  k) ?_
      show own_WP _ _ _ _ T23 (mkF m 164 #[.val (.int zn), .val (.int x0), .val (.int x1), .val (.int x2), .val (.int x3), .val (.int x4), .val (.int (1 : Int32)), .val (.int zc0), .val (.int zc1), .val (.int zc2), .val (.int zc3), .val (.int zc4), .val (.ref za), .unset] [(.int (1 : Int32))])
      refine own_go (fun t k => XS.iconst X23.here hx rfl (hb hby at_164) k) ?_
      show own_WP _ _ _ _ T23 (mkF m 165 #[.val (.int zn), .val (.int x0), .val (.int x1), .val (.int x2), .val (.int x3), .val (.int x4), .val (.int (1 : Int32)), .val (.int zc0), .val (.int zc1), .val (.int zc2), .val (.int zc3), .val (.int zc4), .val (.ref za), .unset] [(.int (5 : Int32)), (.int (1 : Int32))])
      have hc165 : (1 : Int32) < (5 : Int32) := by decide
      refine own_go (fun t k => XS.icmpYes X23.here hx rfl (pc0 := 165) (pc' := 176) rfl (hb hby at_165) rfl (tlt hc165).1 (by decide) (by decide) k) ?_
      show own_WP _ _ _ _ T23 (mkF m 176 #[.val (.int zn), .val (.int x0), .val (.int x1), .val (.int x2), .val (.int x3), .val (.int x4), .val (.int (1 : Int32)), .val (.int zc0), .val (.int zc1), .val (.int zc2), .val (.int zc3), .val (.int zc4), .val (.ref za), .unset] [])
      refine own_go (fun t k => XS.iconst X23.here hx rfl (hb hby at_176) k) ?_
      show own_WP _ _ _ _ T23 (mkF m 177 #[.val (.int zn), .val (.int x0), .val (.int x1), .val (.int x2), .val (.int x3), .val (.int x4), .val (.int (1 : Int32)), .val (.int zc0), .val (.int zc1), .val (.int zc2), .val (.int zc3), .val (.int zc4), .val (.ref za), .unset] [(.int (1 : Int32))])
      refine own_go (fun t k => XS.goto X23.here hx rfl (pc0 := 177) (pc' := 181) rfl (hb hby at_177) (by decide) (by decide) k) ?_
      show own_WP _ _ _ _ T23 (mkF m 181 #[.val (.int zn), .val (.int x0), .val (.int x1), .val (.int x2), .val (.int x3), .val (.int x4), .val (.int (1 : Int32)), .val (.int zc0), .val (.int zc1), .val (.int zc2), .val (.int zc3), .val (.int zc4), .val (.ref za), .unset] [(.int (1 : Int32))])
      refine own_go (fun t k => XS.istore X23.here hx rfl (hb hby at_181) rfl (l' := #[.val (.int zn), .val (.int x0), .val (.int x1), .val (.int x2), .val (.int x3), .val (.int x4), .val (.int (1 : Int32)), .val (.int zc0), .val (.int zc1), .val (.int zc2), .val (.int zc3), .val (.int zc4), .val (.ref za), .val (.int (1 : Int32))]) rfl k) ?_
      show own_WP _ _ _ _ T23 (mkF m 183 #[.val (.int zn), .val (.int x0), .val (.int x1), .val (.int x2), .val (.int x3), .val (.int x4), .val (.int (1 : Int32)), .val (.int zc0), .val (.int zc1), .val (.int zc2), .val (.int zc3), .val (.int zc4), .val (.ref za), .val (.int (1 : Int32))] [])
      refine own_go (fun t k => XS.aload X23.here hx rfl (hb hby at_183) rfl rfl  k) ?_
      show own_WP _ _ _ _ T23 (mkF m 185 #[.val (.int zn), .val (.int x0), .val (.int x1), .val (.int x2), .val (.int x3), .val (.int x4), .val (.int (1 : Int32)), .val (.int zc0), .val (.int zc1), .val (.int zc2), .val (.int zc3), .val (.int zc4), .val (.ref za), .val (.int (1 : Int32))] [(.ref za)])
      obtain ⟨_, _, ⟨T25, L25, k25, n25⟩, -, X25, ⟨Lc25, hQ25, l25, y25, z25⟩, st25⟩ := Jvm.LawKit.callS X23 hx (y := (⟨"com/example/soak/soak/sip/SipMessage", "isKeepAlive", "([B)Z"⟩ : MethodName)) hown (mvT hZ (hw _ (List.mem_of_getElem? (i := 6) rfl))) (mvT hZ (hw _ (List.mem_of_getElem? (i := 7) rfl))) (mvT hZ (hw _ (List.mem_of_getElem? (i := 8) rfl))) (mvT hZ (hw _ (List.mem_of_getElem? (i := 9) rfl))) (by decide) (backOf (W := 0) (rm2 l Z a0 hw [] za k15 (1 : Int32) [(nar .byte zc0)] h18 n0 (own_le Z0 K21) (f19) (show 0 ≤ (1 : Int32).toInt from by decide) (show ([(nar .byte zc0)].length : Int) = (1 : Int32).toInt from rfl)) hZ (hw _ (List.mem_of_getElem? (i := 9) rfl)) (hw _ (List.mem_of_getElem? (i := 8) rfl)) (by decide) (by decide)) (g := (mkF m 185 #[.val (.int zn), .val (.int x0), .val (.int x1), .val (.int x2), .val (.int x3), .val (.int x4), .val (.int (1 : Int32)), .val (.int zc0), .val (.int zc1), .val (.int zc2), .val (.int zc3), .val (.int zc4), .val (.ref za), .val (.int (1 : Int32))] [(.ref za)])) rfl (by rw [hml]; rfl) (argsL := [(.ref za)]) (rest := []) (lenOf own_pd76616 rfl) rfl (by show 2 * 0 + _ ≤ _; exact Nat.le_of_eq rfl) (hb hby at_185) (fun _ _ => ⟨rfl, eq23, (by decide : 1 + 0 ≤ _), (by decide : 1 + 0 ≤ _)⟩)
      dsimp only [Pt.U, Pt.locs, Pt.cells, Pt.slots] at X25 l25 y25 z25 st25 hQ25
      subst l25 y25 z25
      obtain ⟨rfl, N25q, eq25⟩ := hQ25
      have N25 := Fr.app N23 N25q
      refine own_go st25 ?_
      show own_WP _ _ _ _ T25 (mkF m 188 #[.val (.int zn), .val (.int x0), .val (.int x1), .val (.int x2), .val (.int x3), .val (.int x4), .val (.int (1 : Int32)), .val (.int zc0), .val (.int zc1), .val (.int zc2), .val (.int zc3), .val (.int zc4), .val (.ref za), .val (.int (1 : Int32))] [(.int (own_ka [(nar .byte zc0)]))])
      refine own_go (fun t k => XS.iload X25.here hx rfl (hb hby at_188) rfl  k) ?_
      show own_WP _ _ _ _ T25 (mkF m 190 #[.val (.int zn), .val (.int x0), .val (.int x1), .val (.int x2), .val (.int x3), .val (.int x4), .val (.int (1 : Int32)), .val (.int zc0), .val (.int zc1), .val (.int zc2), .val (.int zc3), .val (.int zc4), .val (.ref za), .val (.int (1 : Int32))] [(.int (1 : Int32)), (.int (own_ka [(nar .byte zc0)]))])
      have hc190 : (own_ka [(nar .byte zc0)]) = (1 : Int32) := by
        simp [own_ka, hr_10, hr_11, hr_12, hr_13, hr_14, hc117]
      refine own_go (fun t k => XS.icmpNo X25.here hx rfl (hb hby at_190) rfl (teq hc190).2 k) ?_
      show own_WP _ _ _ _ T25 (mkF m 193 #[.val (.int zn), .val (.int x0), .val (.int x1), .val (.int x2), .val (.int x3), .val (.int x4), .val (.int (1 : Int32)), .val (.int zc0), .val (.int zc1), .val (.int zc2), .val (.int zc3), .val (.int zc4), .val (.ref za), .val (.int (1 : Int32))] [])
      refine own_go (fun t k => XS.iconst X25.here hx rfl (hb hby at_193) k) ?_
      show own_WP _ _ _ _ T25 (mkF m 194 #[.val (.int zn), .val (.int x0), .val (.int x1), .val (.int x2), .val (.int x3), .val (.int x4), .val (.int (1 : Int32)), .val (.int zc0), .val (.int zc1), .val (.int zc2), .val (.int zc3), .val (.int zc4), .val (.ref za), .val (.int (1 : Int32))] [(.int (1 : Int32))])
      refine own_go (fun t k => XS.goto X25.here hx rfl (pc0 := 194) (pc' := 198) rfl (hb hby at_194) (by decide) (by decide) k) ?_
      show own_WP _ _ _ _ T25 (mkF m 198 #[.val (.int zn), .val (.int x0), .val (.int x1), .val (.int x2), .val (.int x3), .val (.int x4), .val (.int (1 : Int32)), .val (.int zc0), .val (.int zc1), .val (.int zc2), .val (.int zc3), .val (.int zc4), .val (.ref za), .val (.int (1 : Int32))] [(.int (1 : Int32))])
      refine own_retN X25 hx Bd.notSynchronized (t := .boolean) (by simp) Bd.returns (hb hby at_198) (by decide) (by decide) ?_
      rw [eq25]
      exact ⟨rfl, N25⟩
  · rw [d_zm] at hl
    subst hl
    show own_WP _ _ _ _ s₁ (mkF m 9 #[.val (.int zn), .val (.int x0), .val (.int x1), .val (.int x2), .val (.int x3), .val (.int x4), .val (.int (2 : Int32)), .unset, .unset, .unset, .unset, .unset, .unset, .unset] [])
    refine own_go (fun t k => XS.iloadN X0.here hx rfl (hb hby at_9) rfl  k) ?_
    show own_WP _ _ _ _ s₁ (mkF m 10 #[.val (.int zn), .val (.int x0), .val (.int x1), .val (.int x2), .val (.int x3), .val (.int x4), .val (.int (2 : Int32)), .unset, .unset, .unset, .unset, .unset, .unset, .unset] [(.int x0)])
    obtain ⟨_, _, ⟨T26, L26, k26, n26⟩, -, X26, ⟨Lc26, hQ26, l26, y26, z26⟩, st26⟩ := Jvm.LawKit.callS X0 hx (y := (⟨"com/example/soak/soak/sip/SipMessageIsKeepAlivePinLaw", "pick", "(I)B"⟩ : MethodName)) hown (mvT hZ (hw _ (List.mem_of_getElem? (i := 1) rfl))) (mvT hZ (hw _ (List.mem_of_getElem? (i := 2) rfl))) (mvT hZ (hw _ (List.mem_of_getElem? (i := 3) rfl))) (mvT hZ (hw _ (List.mem_of_getElem? (i := 4) rfl))) (by decide) (backOf (W := 0) (rm1 l Z a0 hw [] x0  h0 n0 (own_le Z0 K0) ) hZ (hw _ (List.mem_of_getElem? (i := 4) rfl)) (hw _ (List.mem_of_getElem? (i := 3) rfl)) (by decide) (by decide)) (g := (mkF m 10 #[.val (.int zn), .val (.int x0), .val (.int x1), .val (.int x2), .val (.int x3), .val (.int x4), .val (.int (2 : Int32)), .unset, .unset, .unset, .unset, .unset, .unset, .unset] [(.int x0)])) rfl (by rw [hml]; rfl) (argsL := [(.int x0)]) (rest := []) (lenOf own_pd81830 rfl) rfl (by show 2 * 0 + _ ≤ _; exact Nat.le_of_eq rfl) (hb hby at_10) (fun _ _ => ⟨rfl, e0, (by decide : 0 + 0 ≤ _), (by decide : 0 + 0 ≤ _)⟩)
    dsimp only [Pt.U, Pt.locs, Pt.cells, Pt.slots] at X26 l26 y26 z26 st26 hQ26
    subst l26 y26 z26
    obtain ⟨zc0, rfl, N26q, eq26, hr_26⟩ := hQ26
    have N26 := Fr.app N0 N26q
    refine own_go st26 ?_
    show own_WP _ _ _ _ T26 (mkF m 13 #[.val (.int zn), .val (.int x0), .val (.int x1), .val (.int x2), .val (.int x3), .val (.int x4), .val (.int (2 : Int32)), .unset, .unset, .unset, .unset, .unset, .unset, .unset] [(.int zc0)])
    refine own_go (fun t k => XS.istore X26.here hx rfl (hb hby at_13) rfl (l' := #[.val (.int zn), .val (.int x0), .val (.int x1), .val (.int x2), .val (.int x3), .val (.int x4), .val (.int (2 : Int32)), .val (.int zc0), .unset, .unset, .unset, .unset, .unset, .unset]) rfl k) ?_
    show own_WP _ _ _ _ T26 (mkF m 15 #[.val (.int zn), .val (.int x0), .val (.int x1), .val (.int x2), .val (.int x3), .val (.int x4), .val (.int (2 : Int32)), .val (.int zc0), .unset, .unset, .unset, .unset, .unset, .unset] [])
    refine own_go (fun t k => XS.iloadN X26.here hx rfl (hb hby at_15) rfl  k) ?_
    show own_WP _ _ _ _ T26 (mkF m 16 #[.val (.int zn), .val (.int x0), .val (.int x1), .val (.int x2), .val (.int x3), .val (.int x4), .val (.int (2 : Int32)), .val (.int zc0), .unset, .unset, .unset, .unset, .unset, .unset] [(.int x1)])
    obtain ⟨_, _, ⟨T27, L27, k27, n27⟩, -, X27, ⟨Lc27, hQ27, l27, y27, z27⟩, st27⟩ := Jvm.LawKit.callS X26 hx (y := (⟨"com/example/soak/soak/sip/SipMessageIsKeepAlivePinLaw", "pick", "(I)B"⟩ : MethodName)) hown (mvT hZ (hw _ (List.mem_of_getElem? (i := 1) rfl))) (mvT hZ (hw _ (List.mem_of_getElem? (i := 2) rfl))) (mvT hZ (hw _ (List.mem_of_getElem? (i := 3) rfl))) (mvT hZ (hw _ (List.mem_of_getElem? (i := 4) rfl))) (by decide) (backOf (W := 0) (rm1 l Z a0 hw [] x1  h0 n0 (own_le Z0 K0) ) hZ (hw _ (List.mem_of_getElem? (i := 4) rfl)) (hw _ (List.mem_of_getElem? (i := 3) rfl)) (by decide) (by decide)) (g := (mkF m 16 #[.val (.int zn), .val (.int x0), .val (.int x1), .val (.int x2), .val (.int x3), .val (.int x4), .val (.int (2 : Int32)), .val (.int zc0), .unset, .unset, .unset, .unset, .unset, .unset] [(.int x1)])) rfl (by rw [hml]; rfl) (argsL := [(.int x1)]) (rest := []) (lenOf own_pd81830 rfl) rfl (by show 2 * 0 + _ ≤ _; exact Nat.le_of_eq rfl) (hb hby at_16) (fun _ _ => ⟨rfl, eq26, (by decide : 0 + 0 ≤ _), (by decide : 0 + 0 ≤ _)⟩)
    dsimp only [Pt.U, Pt.locs, Pt.cells, Pt.slots] at X27 l27 y27 z27 st27 hQ27
    subst l27 y27 z27
    obtain ⟨zc1, rfl, N27q, eq27, hr_27⟩ := hQ27
    have N27 := Fr.app N26 N27q
    refine own_go st27 ?_
    show own_WP _ _ _ _ T27 (mkF m 19 #[.val (.int zn), .val (.int x0), .val (.int x1), .val (.int x2), .val (.int x3), .val (.int x4), .val (.int (2 : Int32)), .val (.int zc0), .unset, .unset, .unset, .unset, .unset, .unset] [(.int zc1)])
    refine own_go (fun t k => XS.istore X27.here hx rfl (hb hby at_19) rfl (l' := #[.val (.int zn), .val (.int x0), .val (.int x1), .val (.int x2), .val (.int x3), .val (.int x4), .val (.int (2 : Int32)), .val (.int zc0), .val (.int zc1), .unset, .unset, .unset, .unset, .unset]) rfl k) ?_
    show own_WP _ _ _ _ T27 (mkF m 21 #[.val (.int zn), .val (.int x0), .val (.int x1), .val (.int x2), .val (.int x3), .val (.int x4), .val (.int (2 : Int32)), .val (.int zc0), .val (.int zc1), .unset, .unset, .unset, .unset, .unset] [])
    refine own_go (fun t k => XS.iloadN X27.here hx rfl (hb hby at_21) rfl  k) ?_
    show own_WP _ _ _ _ T27 (mkF m 22 #[.val (.int zn), .val (.int x0), .val (.int x1), .val (.int x2), .val (.int x3), .val (.int x4), .val (.int (2 : Int32)), .val (.int zc0), .val (.int zc1), .unset, .unset, .unset, .unset, .unset] [(.int x2)])
    obtain ⟨_, _, ⟨T28, L28, k28, n28⟩, -, X28, ⟨Lc28, hQ28, l28, y28, z28⟩, st28⟩ := Jvm.LawKit.callS X27 hx (y := (⟨"com/example/soak/soak/sip/SipMessageIsKeepAlivePinLaw", "pick", "(I)B"⟩ : MethodName)) hown (mvT hZ (hw _ (List.mem_of_getElem? (i := 1) rfl))) (mvT hZ (hw _ (List.mem_of_getElem? (i := 2) rfl))) (mvT hZ (hw _ (List.mem_of_getElem? (i := 3) rfl))) (mvT hZ (hw _ (List.mem_of_getElem? (i := 4) rfl))) (by decide) (backOf (W := 0) (rm1 l Z a0 hw [] x2  h0 n0 (own_le Z0 K0) ) hZ (hw _ (List.mem_of_getElem? (i := 4) rfl)) (hw _ (List.mem_of_getElem? (i := 3) rfl)) (by decide) (by decide)) (g := (mkF m 22 #[.val (.int zn), .val (.int x0), .val (.int x1), .val (.int x2), .val (.int x3), .val (.int x4), .val (.int (2 : Int32)), .val (.int zc0), .val (.int zc1), .unset, .unset, .unset, .unset, .unset] [(.int x2)])) rfl (by rw [hml]; rfl) (argsL := [(.int x2)]) (rest := []) (lenOf own_pd81830 rfl) rfl (by show 2 * 0 + _ ≤ _; exact Nat.le_of_eq rfl) (hb hby at_22) (fun _ _ => ⟨rfl, eq27, (by decide : 0 + 0 ≤ _), (by decide : 0 + 0 ≤ _)⟩)
    dsimp only [Pt.U, Pt.locs, Pt.cells, Pt.slots] at X28 l28 y28 z28 st28 hQ28
    subst l28 y28 z28
    obtain ⟨zc2, rfl, N28q, eq28, hr_28⟩ := hQ28
    have N28 := Fr.app N27 N28q
    refine own_go st28 ?_
    show own_WP _ _ _ _ T28 (mkF m 25 #[.val (.int zn), .val (.int x0), .val (.int x1), .val (.int x2), .val (.int x3), .val (.int x4), .val (.int (2 : Int32)), .val (.int zc0), .val (.int zc1), .unset, .unset, .unset, .unset, .unset] [(.int zc2)])
    refine own_go (fun t k => XS.istore X28.here hx rfl (hb hby at_25) rfl (l' := #[.val (.int zn), .val (.int x0), .val (.int x1), .val (.int x2), .val (.int x3), .val (.int x4), .val (.int (2 : Int32)), .val (.int zc0), .val (.int zc1), .val (.int zc2), .unset, .unset, .unset, .unset]) rfl k) ?_
    show own_WP _ _ _ _ T28 (mkF m 27 #[.val (.int zn), .val (.int x0), .val (.int x1), .val (.int x2), .val (.int x3), .val (.int x4), .val (.int (2 : Int32)), .val (.int zc0), .val (.int zc1), .val (.int zc2), .unset, .unset, .unset, .unset] [])
    refine own_go (fun t k => XS.iload X28.here hx rfl (hb hby at_27) rfl  k) ?_
    show own_WP _ _ _ _ T28 (mkF m 29 #[.val (.int zn), .val (.int x0), .val (.int x1), .val (.int x2), .val (.int x3), .val (.int x4), .val (.int (2 : Int32)), .val (.int zc0), .val (.int zc1), .val (.int zc2), .unset, .unset, .unset, .unset] [(.int x3)])
    obtain ⟨_, _, ⟨T29, L29, k29, n29⟩, -, X29, ⟨Lc29, hQ29, l29, y29, z29⟩, st29⟩ := Jvm.LawKit.callS X28 hx (y := (⟨"com/example/soak/soak/sip/SipMessageIsKeepAlivePinLaw", "pick", "(I)B"⟩ : MethodName)) hown (mvT hZ (hw _ (List.mem_of_getElem? (i := 1) rfl))) (mvT hZ (hw _ (List.mem_of_getElem? (i := 2) rfl))) (mvT hZ (hw _ (List.mem_of_getElem? (i := 3) rfl))) (mvT hZ (hw _ (List.mem_of_getElem? (i := 4) rfl))) (by decide) (backOf (W := 0) (rm1 l Z a0 hw [] x3  h0 n0 (own_le Z0 K0) ) hZ (hw _ (List.mem_of_getElem? (i := 4) rfl)) (hw _ (List.mem_of_getElem? (i := 3) rfl)) (by decide) (by decide)) (g := (mkF m 29 #[.val (.int zn), .val (.int x0), .val (.int x1), .val (.int x2), .val (.int x3), .val (.int x4), .val (.int (2 : Int32)), .val (.int zc0), .val (.int zc1), .val (.int zc2), .unset, .unset, .unset, .unset] [(.int x3)])) rfl (by rw [hml]; rfl) (argsL := [(.int x3)]) (rest := []) (lenOf own_pd81830 rfl) rfl (by show 2 * 0 + _ ≤ _; exact Nat.le_of_eq rfl) (hb hby at_29) (fun _ _ => ⟨rfl, eq28, (by decide : 0 + 0 ≤ _), (by decide : 0 + 0 ≤ _)⟩)
    dsimp only [Pt.U, Pt.locs, Pt.cells, Pt.slots] at X29 l29 y29 z29 st29 hQ29
    subst l29 y29 z29
    obtain ⟨zc3, rfl, N29q, eq29, hr_29⟩ := hQ29
    have N29 := Fr.app N28 N29q
    refine own_go st29 ?_
    show own_WP _ _ _ _ T29 (mkF m 32 #[.val (.int zn), .val (.int x0), .val (.int x1), .val (.int x2), .val (.int x3), .val (.int x4), .val (.int (2 : Int32)), .val (.int zc0), .val (.int zc1), .val (.int zc2), .unset, .unset, .unset, .unset] [(.int zc3)])
    refine own_go (fun t k => XS.istore X29.here hx rfl (hb hby at_32) rfl (l' := #[.val (.int zn), .val (.int x0), .val (.int x1), .val (.int x2), .val (.int x3), .val (.int x4), .val (.int (2 : Int32)), .val (.int zc0), .val (.int zc1), .val (.int zc2), .val (.int zc3), .unset, .unset, .unset]) rfl k) ?_
    show own_WP _ _ _ _ T29 (mkF m 34 #[.val (.int zn), .val (.int x0), .val (.int x1), .val (.int x2), .val (.int x3), .val (.int x4), .val (.int (2 : Int32)), .val (.int zc0), .val (.int zc1), .val (.int zc2), .val (.int zc3), .unset, .unset, .unset] [])
    refine own_go (fun t k => XS.iload X29.here hx rfl (hb hby at_34) rfl  k) ?_
    show own_WP _ _ _ _ T29 (mkF m 36 #[.val (.int zn), .val (.int x0), .val (.int x1), .val (.int x2), .val (.int x3), .val (.int x4), .val (.int (2 : Int32)), .val (.int zc0), .val (.int zc1), .val (.int zc2), .val (.int zc3), .unset, .unset, .unset] [(.int x4)])
    obtain ⟨_, _, ⟨T30, L30, k30, n30⟩, -, X30, ⟨Lc30, hQ30, l30, y30, z30⟩, st30⟩ := Jvm.LawKit.callS X29 hx (y := (⟨"com/example/soak/soak/sip/SipMessageIsKeepAlivePinLaw", "pick", "(I)B"⟩ : MethodName)) hown (mvT hZ (hw _ (List.mem_of_getElem? (i := 1) rfl))) (mvT hZ (hw _ (List.mem_of_getElem? (i := 2) rfl))) (mvT hZ (hw _ (List.mem_of_getElem? (i := 3) rfl))) (mvT hZ (hw _ (List.mem_of_getElem? (i := 4) rfl))) (by decide) (backOf (W := 0) (rm1 l Z a0 hw [] x4  h0 n0 (own_le Z0 K0) ) hZ (hw _ (List.mem_of_getElem? (i := 4) rfl)) (hw _ (List.mem_of_getElem? (i := 3) rfl)) (by decide) (by decide)) (g := (mkF m 36 #[.val (.int zn), .val (.int x0), .val (.int x1), .val (.int x2), .val (.int x3), .val (.int x4), .val (.int (2 : Int32)), .val (.int zc0), .val (.int zc1), .val (.int zc2), .val (.int zc3), .unset, .unset, .unset] [(.int x4)])) rfl (by rw [hml]; rfl) (argsL := [(.int x4)]) (rest := []) (lenOf own_pd81830 rfl) rfl (by show 2 * 0 + _ ≤ _; exact Nat.le_of_eq rfl) (hb hby at_36) (fun _ _ => ⟨rfl, eq29, (by decide : 0 + 0 ≤ _), (by decide : 0 + 0 ≤ _)⟩)
    dsimp only [Pt.U, Pt.locs, Pt.cells, Pt.slots] at X30 l30 y30 z30 st30 hQ30
    subst l30 y30 z30
    obtain ⟨zc4, rfl, N30q, eq30, hr_30⟩ := hQ30
    have N30 := Fr.app N29 N30q
    refine own_go st30 ?_
    show own_WP _ _ _ _ T30 (mkF m 39 #[.val (.int zn), .val (.int x0), .val (.int x1), .val (.int x2), .val (.int x3), .val (.int x4), .val (.int (2 : Int32)), .val (.int zc0), .val (.int zc1), .val (.int zc2), .val (.int zc3), .unset, .unset, .unset] [(.int zc4)])
    refine own_go (fun t k => XS.istore X30.here hx rfl (hb hby at_39) rfl (l' := #[.val (.int zn), .val (.int x0), .val (.int x1), .val (.int x2), .val (.int x3), .val (.int x4), .val (.int (2 : Int32)), .val (.int zc0), .val (.int zc1), .val (.int zc2), .val (.int zc3), .val (.int zc4), .unset, .unset]) rfl k) ?_
    show own_WP _ _ _ _ T30 (mkF m 41 #[.val (.int zn), .val (.int x0), .val (.int x1), .val (.int x2), .val (.int x3), .val (.int x4), .val (.int (2 : Int32)), .val (.int zc0), .val (.int zc1), .val (.int zc2), .val (.int zc3), .val (.int zc4), .unset, .unset] [])
    refine own_go (fun t k => XS.iload X30.here hx rfl (hb hby at_41) rfl  k) ?_
    show own_WP _ _ _ _ T30 (mkF m 43 #[.val (.int zn), .val (.int x0), .val (.int x1), .val (.int x2), .val (.int x3), .val (.int x4), .val (.int (2 : Int32)), .val (.int zc0), .val (.int zc1), .val (.int zc2), .val (.int zc3), .val (.int zc4), .unset, .unset] [(.int (2 : Int32))])
    obtain ⟨T31, h31, k31, X31, e31, E31, A31, G31, st31⟩ := newPE X30 hx hZ (hw _ (List.mem_of_getElem? (i := 5) rfl)) eq30 (g := (mkF m 43 #[.val (.int zn), .val (.int x0), .val (.int x1), .val (.int x2), .val (.int x3), .val (.int x4), .val (.int (2 : Int32)), .val (.int zc0), .val (.int zc1), .val (.int zc2), .val (.int zc3), .val (.int zc4), .unset, .unset] [(.int (2 : Int32))])) rfl (hb hby at_43) rfl (by decide) (cap := 2) (by decide) (by decide) (by decide) (by decide) (ad := "[B") rfl
    obtain ⟨za, q31⟩ : ∃ z, z = h0.size := ⟨_, rfl⟩
    rw [← q31] at A31 G31 st31
    refine own_go st31 ?_
    have g_za : n0 ≤ za := Nat.le_trans (own_le Z0 K0) (Nat.le_of_eq q31.symm)
    have sz_za : h0.size ≤ za := Nat.le_trans K0.1 (Nat.le_of_eq q31.symm)
    have K32 : Keep h0 h31 [] := K0.ext E31
    have f33 : Arv Z h31 za k31 .byte (2 : Int32) [(.int (0 : Int32)), (.int (0 : Int32))] (.int (0 : Int32)) := (Arv.new A31 (by decide)).pad (pad_rep [] (.int (0 : Int32)) 2)
    show own_WP _ _ _ _ T31 (mkF m 45 #[.val (.int zn), .val (.int x0), .val (.int x1), .val (.int x2), .val (.int x3), .val (.int x4), .val (.int (2 : Int32)), .val (.int zc0), .val (.int zc1), .val (.int zc2), .val (.int zc3), .val (.int zc4), .unset, .unset] [(.ref za)])
    refine own_go (fun t k => XS.astore X31.here hx rfl (hb hby at_45) rfl rfl (l' := #[.val (.int zn), .val (.int x0), .val (.int x1), .val (.int x2), .val (.int x3), .val (.int x4), .val (.int (2 : Int32)), .val (.int zc0), .val (.int zc1), .val (.int zc2), .val (.int zc3), .val (.int zc4), .val (.ref za), .unset]) rfl k) ?_
    show own_WP _ _ _ _ T31 (mkF m 47 #[.val (.int zn), .val (.int x0), .val (.int x1), .val (.int x2), .val (.int x3), .val (.int x4), .val (.int (2 : Int32)), .val (.int zc0), .val (.int zc1), .val (.int zc2), .val (.int zc3), .val (.int zc4), .val (.ref za), .unset] [])
    refine own_go (fun t k => XS.iload X31.here hx rfl (hb hby at_47) rfl  k) ?_
    show own_WP _ _ _ _ T31 (mkF m 49 #[.val (.int zn), .val (.int x0), .val (.int x1), .val (.int x2), .val (.int x3), .val (.int x4), .val (.int (2 : Int32)), .val (.int zc0), .val (.int zc1), .val (.int zc2), .val (.int zc3), .val (.int zc4), .val (.ref za), .unset] [(.int (2 : Int32))])
    have hc49 : (0 : Int32) < (2 : Int32) := by decide
    refine own_go (fun t k => XS.ifNo X31.here hx rfl (hb hby at_49) rfl ((if0 _ _).trans (tlt hc49).2.2.2) k) ?_
    show own_WP _ _ _ _ T31 (mkF m 52 #[.val (.int zn), .val (.int x0), .val (.int x1), .val (.int x2), .val (.int x3), .val (.int x4), .val (.int (2 : Int32)), .val (.int zc0), .val (.int zc1), .val (.int zc2), .val (.int zc3), .val (.int zc4), .val (.ref za), .unset] [])
    refine own_go (fun t k => XS.aload X31.here hx rfl (hb hby at_52) rfl rfl  k) ?_
    show own_WP _ _ _ _ T31 (mkF m 54 #[.val (.int zn), .val (.int x0), .val (.int x1), .val (.int x2), .val (.int x3), .val (.int x4), .val (.int (2 : Int32)), .val (.int zc0), .val (.int zc1), .val (.int zc2), .val (.int zc3), .val (.int zc4), .val (.ref za), .unset] [(.ref za)])
    refine own_go (fun t k => XS.iconst X31.here hx rfl (hb hby at_54) k) ?_
    show own_WP _ _ _ _ T31 (mkF m 55 #[.val (.int zn), .val (.int x0), .val (.int x1), .val (.int x2), .val (.int x3), .val (.int x4), .val (.int (2 : Int32)), .val (.int zc0), .val (.int zc1), .val (.int zc2), .val (.int zc3), .val (.int zc4), .val (.ref za), .unset] [(.int (0 : Int32)), (.ref za)])
    refine own_go (fun t k => XS.iload X31.here hx rfl (hb hby at_55) rfl  k) ?_
    show own_WP _ _ _ _ T31 (mkF m 57 #[.val (.int zn), .val (.int x0), .val (.int x1), .val (.int x2), .val (.int x3), .val (.int x4), .val (.int (2 : Int32)), .val (.int zc0), .val (.int zc1), .val (.int zc2), .val (.int zc3), .val (.int zc4), .val (.ref za), .unset] [(.int zc0), (.int (0 : Int32)), (.ref za)])
    refine own_stB X31 hx hZ e31 f33 (j := (0 : Int32)) ⟨by decide, by decide⟩ (i := 0) rfl (Nat.le_of_ble_eq_true rfl) (hb hby at_57) ?_
    intro T34 h34 X34 e34 W34 V34
    have f35 : Arv Z h34 za k31 .byte (2 : Int32) [(.int (nar .byte zc0)), (.int (0 : Int32))] (.int (0 : Int32)) := V34
    have K37 : Keep h0 h34 [] := K32.wr W34 (Or.inr sz_za)
    have N38 := Fr.snoc X34 N30 g_za
    show own_WP _ _ _ _ T34 (mkF m 58 #[.val (.int zn), .val (.int x0), .val (.int x1), .val (.int x2), .val (.int x3), .val (.int x4), .val (.int (2 : Int32)), .val (.int zc0), .val (.int zc1), .val (.int zc2), .val (.int zc3), .val (.int zc4), .val (.ref za), .unset] [])
    refine own_go (fun t k => XS.iload X34.here hx rfl (hb hby at_58) rfl  k) ?_
    show own_WP _ _ _ _ T34 (mkF m 60 #[.val (.int zn), .val (.int x0), .val (.int x1), .val (.int x2), .val (.int x3), .val (.int x4), .val (.int (2 : Int32)), .val (.int zc0), .val (.int zc1), .val (.int zc2), .val (.int zc3), .val (.int zc4), .val (.ref za), .unset] [(.int (2 : Int32))])
    refine own_go (fun t k => XS.iconst X34.here hx rfl (hb hby at_60) k) ?_
    show own_WP _ _ _ _ T34 (mkF m 61 #[.val (.int zn), .val (.int x0), .val (.int x1), .val (.int x2), .val (.int x3), .val (.int x4), .val (.int (2 : Int32)), .val (.int zc0), .val (.int zc1), .val (.int zc2), .val (.int zc3), .val (.int zc4), .val (.ref za), .unset] [(.int (1 : Int32)), (.int (2 : Int32))])
    have hc61 : (1 : Int32) < (2 : Int32) := by decide
    refine own_go (fun t k => XS.icmpNo X34.here hx rfl (hb hby at_61) rfl (tlt hc61).2.2.2 k) ?_
    show own_WP _ _ _ _ T34 (mkF m 64 #[.val (.int zn), .val (.int x0), .val (.int x1), .val (.int x2), .val (.int x3), .val (.int x4), .val (.int (2 : Int32)), .val (.int zc0), .val (.int zc1), .val (.int zc2), .val (.int zc3), .val (.int zc4), .val (.ref za), .unset] [])
    refine own_go (fun t k => XS.aload X34.here hx rfl (hb hby at_64) rfl rfl  k) ?_
    show own_WP _ _ _ _ T34 (mkF m 66 #[.val (.int zn), .val (.int x0), .val (.int x1), .val (.int x2), .val (.int x3), .val (.int x4), .val (.int (2 : Int32)), .val (.int zc0), .val (.int zc1), .val (.int zc2), .val (.int zc3), .val (.int zc4), .val (.ref za), .unset] [(.ref za)])
    refine own_go (fun t k => XS.iconst X34.here hx rfl (hb hby at_66) k) ?_
    show own_WP _ _ _ _ T34 (mkF m 67 #[.val (.int zn), .val (.int x0), .val (.int x1), .val (.int x2), .val (.int x3), .val (.int x4), .val (.int (2 : Int32)), .val (.int zc0), .val (.int zc1), .val (.int zc2), .val (.int zc3), .val (.int zc4), .val (.ref za), .unset] [(.int (1 : Int32)), (.ref za)])
    refine own_go (fun t k => XS.iload X34.here hx rfl (hb hby at_67) rfl  k) ?_
    show own_WP _ _ _ _ T34 (mkF m 69 #[.val (.int zn), .val (.int x0), .val (.int x1), .val (.int x2), .val (.int x3), .val (.int x4), .val (.int (2 : Int32)), .val (.int zc0), .val (.int zc1), .val (.int zc2), .val (.int zc3), .val (.int zc4), .val (.ref za), .unset] [(.int zc1), (.int (1 : Int32)), (.ref za)])
    refine own_stB X34 hx hZ e34 f35 (j := (1 : Int32)) ⟨by decide, by decide⟩ (i := 1) rfl (Nat.le_of_ble_eq_true rfl) (hb hby at_69) ?_
    intro T39 h39 X39 e39 W39 V39
    have f40 : Arv Z h39 za k31 .byte (2 : Int32) [(.int (nar .byte zc0)), (.int (nar .byte zc1))] (.int (0 : Int32)) := V39
    have K42 : Keep h0 h39 [] := K37.wr W39 (Or.inr sz_za)
    have N43 := Fr.snoc X39 N38 g_za
    show own_WP _ _ _ _ T39 (mkF m 70 #[.val (.int zn), .val (.int x0), .val (.int x1), .val (.int x2), .val (.int x3), .val (.int x4), .val (.int (2 : Int32)), .val (.int zc0), .val (.int zc1), .val (.int zc2), .val (.int zc3), .val (.int zc4), .val (.ref za), .unset] [])
    refine own_go (fun t k => XS.iload X39.here hx rfl (hb hby at_70) rfl  k) ?_
    show own_WP _ _ _ _ T39 (mkF m 72 #[.val (.int zn), .val (.int x0), .val (.int x1), .val (.int x2), .val (.int x3), .val (.int x4), .val (.int (2 : Int32)), .val (.int zc0), .val (.int zc1), .val (.int zc2), .val (.int zc3), .val (.int zc4), .val (.ref za), .unset] [(.int (2 : Int32))])
    refine own_go (fun t k => XS.iconst X39.here hx rfl (hb hby at_72) k) ?_
    show own_WP _ _ _ _ T39 (mkF m 73 #[.val (.int zn), .val (.int x0), .val (.int x1), .val (.int x2), .val (.int x3), .val (.int x4), .val (.int (2 : Int32)), .val (.int zc0), .val (.int zc1), .val (.int zc2), .val (.int zc3), .val (.int zc4), .val (.ref za), .unset] [(.int (2 : Int32)), (.int (2 : Int32))])
    have hc73 : ¬ ((2 : Int32) < (2 : Int32)) := by decide
    refine own_go (fun t k => XS.icmpYes X39.here hx rfl (pc0 := 73) (pc' := 82) rfl (hb hby at_73) rfl (flt hc73).2.2.2 (by decide) (by decide) k) ?_
    show own_WP _ _ _ _ T39 (mkF m 82 #[.val (.int zn), .val (.int x0), .val (.int x1), .val (.int x2), .val (.int x3), .val (.int x4), .val (.int (2 : Int32)), .val (.int zc0), .val (.int zc1), .val (.int zc2), .val (.int zc3), .val (.int zc4), .val (.ref za), .unset] [])
    refine own_go (fun t k => XS.iload X39.here hx rfl (hb hby at_82) rfl  k) ?_
    show own_WP _ _ _ _ T39 (mkF m 84 #[.val (.int zn), .val (.int x0), .val (.int x1), .val (.int x2), .val (.int x3), .val (.int x4), .val (.int (2 : Int32)), .val (.int zc0), .val (.int zc1), .val (.int zc2), .val (.int zc3), .val (.int zc4), .val (.ref za), .unset] [(.int (2 : Int32))])
    refine own_go (fun t k => XS.iconst X39.here hx rfl (hb hby at_84) k) ?_
    show own_WP _ _ _ _ T39 (mkF m 85 #[.val (.int zn), .val (.int x0), .val (.int x1), .val (.int x2), .val (.int x3), .val (.int x4), .val (.int (2 : Int32)), .val (.int zc0), .val (.int zc1), .val (.int zc2), .val (.int zc3), .val (.int zc4), .val (.ref za), .unset] [(.int (3 : Int32)), (.int (2 : Int32))])
    have hc85 : ¬ ((3 : Int32) < (2 : Int32)) := by decide
    refine own_go (fun t k => XS.icmpYes X39.here hx rfl (pc0 := 85) (pc' := 94) rfl (hb hby at_85) rfl (flt hc85).2.2.2 (by decide) (by decide) k) ?_
    show own_WP _ _ _ _ T39 (mkF m 94 #[.val (.int zn), .val (.int x0), .val (.int x1), .val (.int x2), .val (.int x3), .val (.int x4), .val (.int (2 : Int32)), .val (.int zc0), .val (.int zc1), .val (.int zc2), .val (.int zc3), .val (.int zc4), .val (.ref za), .unset] [])
    refine own_go (fun t k => XS.iload X39.here hx rfl (hb hby at_94) rfl  k) ?_
    show own_WP _ _ _ _ T39 (mkF m 96 #[.val (.int zn), .val (.int x0), .val (.int x1), .val (.int x2), .val (.int x3), .val (.int x4), .val (.int (2 : Int32)), .val (.int zc0), .val (.int zc1), .val (.int zc2), .val (.int zc3), .val (.int zc4), .val (.ref za), .unset] [(.int (2 : Int32))])
    refine own_go (fun t k => XS.iconst X39.here hx rfl (hb hby at_96) k) ?_
    show own_WP _ _ _ _ T39 (mkF m 97 #[.val (.int zn), .val (.int x0), .val (.int x1), .val (.int x2), .val (.int x3), .val (.int x4), .val (.int (2 : Int32)), .val (.int zc0), .val (.int zc1), .val (.int zc2), .val (.int zc3), .val (.int zc4), .val (.ref za), .unset] [(.int (4 : Int32)), (.int (2 : Int32))])
    have hc97 : ¬ ((4 : Int32) < (2 : Int32)) := by decide
    refine own_go (fun t k => XS.icmpYes X39.here hx rfl (pc0 := 97) (pc' := 106) rfl (hb hby at_97) rfl (flt hc97).2.2.2 (by decide) (by decide) k) ?_
    show own_WP _ _ _ _ T39 (mkF m 106 #[.val (.int zn), .val (.int x0), .val (.int x1), .val (.int x2), .val (.int x3), .val (.int x4), .val (.int (2 : Int32)), .val (.int zc0), .val (.int zc1), .val (.int zc2), .val (.int zc3), .val (.int zc4), .val (.ref za), .unset] [])
    refine own_go (fun t k => XS.iload X39.here hx rfl (hb hby at_106) rfl  k) ?_
    show own_WP _ _ _ _ T39 (mkF m 108 #[.val (.int zn), .val (.int x0), .val (.int x1), .val (.int x2), .val (.int x3), .val (.int x4), .val (.int (2 : Int32)), .val (.int zc0), .val (.int zc1), .val (.int zc2), .val (.int zc3), .val (.int zc4), .val (.ref za), .unset] [(.int (2 : Int32))])
    refine own_go (fun t k => XS.iconst X39.here hx rfl (hb hby at_108) k) ?_
    show own_WP _ _ _ _ T39 (mkF m 109 #[.val (.int zn), .val (.int x0), .val (.int x1), .val (.int x2), .val (.int x3), .val (.int x4), .val (.int (2 : Int32)), .val (.int zc0), .val (.int zc1), .val (.int zc2), .val (.int zc3), .val (.int zc4), .val (.ref za), .unset] [(.int (1 : Int32)), (.int (2 : Int32))])
    have hc109 : ¬ ((2 : Int32) < (1 : Int32)) := by decide
    refine own_go (fun t k => XS.icmpNo X39.here hx rfl (hb hby at_109) rfl (flt hc109).1 k) ?_
    show own_WP _ _ _ _ T39 (mkF m 112 #[.val (.int zn), .val (.int x0), .val (.int x1), .val (.int x2), .val (.int x3), .val (.int x4), .val (.int (2 : Int32)), .val (.int zc0), .val (.int zc1), .val (.int zc2), .val (.int zc3), .val (.int zc4), .val (.ref za), .unset] [])
    refine own_go (fun t k => XS.iload X39.here hx rfl (hb hby at_112) rfl  k) ?_
    show own_WP _ _ _ _ T39 (mkF m 114 #[.val (.int zn), .val (.int x0), .val (.int x1), .val (.int x2), .val (.int x3), .val (.int x4), .val (.int (2 : Int32)), .val (.int zc0), .val (.int zc1), .val (.int zc2), .val (.int zc3), .val (.int zc4), .val (.ref za), .unset] [(.int zc0)])
    obtain ⟨_, _, ⟨T44, L44, k44, n44⟩, -, X44, ⟨Lc44, hQ44, l44, y44, z44⟩, st44⟩ := Jvm.LawKit.callS X39 hx (y := (⟨"com/example/soak/soak/sip/SipMessageIsKeepAlivePinLaw", "ws", "(B)Z"⟩ : MethodName)) hown (mvT hZ (hw _ (List.mem_of_getElem? (i := 10) rfl))) (mvT hZ (hw _ (List.mem_of_getElem? (i := 11) rfl))) (mvT hZ (hw _ (List.mem_of_getElem? (i := 3) rfl))) (mvT hZ (hw _ (List.mem_of_getElem? (i := 12) rfl))) (by decide) (backOf (W := 0) (rm3 l Z a0 hw [] zc0  h39 n0 (own_le Z0 K42) ) hZ (hw _ (List.mem_of_getElem? (i := 12) rfl)) (hw _ (List.mem_of_getElem? (i := 3) rfl)) (by decide) (by decide)) (g := (mkF m 114 #[.val (.int zn), .val (.int x0), .val (.int x1), .val (.int x2), .val (.int x3), .val (.int x4), .val (.int (2 : Int32)), .val (.int zc0), .val (.int zc1), .val (.int zc2), .val (.int zc3), .val (.int zc4), .val (.ref za), .unset] [(.int zc0)])) rfl (by rw [hml]; rfl) (argsL := [(.int zc0)]) (rest := []) (lenOf own_pd61727 rfl) rfl (by show 2 * 0 + _ ≤ _; exact Nat.le_of_eq rfl) (hb hby at_114) (fun _ _ => ⟨rfl, e39, (by decide : 1 + 0 ≤ _), (by decide : 2 + 0 ≤ _)⟩)
    dsimp only [Pt.U, Pt.locs, Pt.cells, Pt.slots] at X44 l44 y44 z44 st44 hQ44
    subst l44 y44 z44
    obtain ⟨rfl, N44q, eq44⟩ := hQ44
    have N44 := Fr.app N43 N44q
    refine own_go st44 ?_
    show own_WP _ _ _ _ T44 (mkF m 117 #[.val (.int zn), .val (.int x0), .val (.int x1), .val (.int x2), .val (.int x3), .val (.int x4), .val (.int (2 : Int32)), .val (.int zc0), .val (.int zc1), .val (.int zc2), .val (.int zc3), .val (.int zc4), .val (.ref za), .unset] [(.int (own_ws zc0))])
    by_cases hc117 : (own_ws zc0) = (0 : Int32)
    · refine own_go (fun t k => XS.ifYes X44.here hx rfl (pc0 := 117) (pc' := 180) rfl (hb hby at_117) rfl ((if0 _ _).trans (teq hc117).1) (by decide) (by decide) k) ?_
      show own_WP _ _ _ _ T44 (mkF m 180 #[.val (.int zn), .val (.int x0), .val (.int x1), .val (.int x2), .val (.int x3), .val (.int x4), .val (.int (2 : Int32)), .val (.int zc0), .val (.int zc1), .val (.int zc2), .val (.int zc3), .val (.int zc4), .val (.ref za), .unset] [])
      refine own_go (fun t k => XS.iconst X44.here hx rfl (hb hby at_180) k) ?_
      show own_WP _ _ _ _ T44 (mkF m 181 #[.val (.int zn), .val (.int x0), .val (.int x1), .val (.int x2), .val (.int x3), .val (.int x4), .val (.int (2 : Int32)), .val (.int zc0), .val (.int zc1), .val (.int zc2), .val (.int zc3), .val (.int zc4), .val (.ref za), .unset] [(.int (0 : Int32))])
      refine own_go (fun t k => XS.istore X44.here hx rfl (hb hby at_181) rfl (l' := #[.val (.int zn), .val (.int x0), .val (.int x1), .val (.int x2), .val (.int x3), .val (.int x4), .val (.int (2 : Int32)), .val (.int zc0), .val (.int zc1), .val (.int zc2), .val (.int zc3), .val (.int zc4), .val (.ref za), .val (.int (0 : Int32))]) rfl k) ?_
      show own_WP _ _ _ _ T44 (mkF m 183 #[.val (.int zn), .val (.int x0), .val (.int x1), .val (.int x2), .val (.int x3), .val (.int x4), .val (.int (2 : Int32)), .val (.int zc0), .val (.int zc1), .val (.int zc2), .val (.int zc3), .val (.int zc4), .val (.ref za), .val (.int (0 : Int32))] [])
      refine own_go (fun t k => XS.aload X44.here hx rfl (hb hby at_183) rfl rfl  k) ?_
      show own_WP _ _ _ _ T44 (mkF m 185 #[.val (.int zn), .val (.int x0), .val (.int x1), .val (.int x2), .val (.int x3), .val (.int x4), .val (.int (2 : Int32)), .val (.int zc0), .val (.int zc1), .val (.int zc2), .val (.int zc3), .val (.int zc4), .val (.ref za), .val (.int (0 : Int32))] [(.ref za)])
      obtain ⟨_, _, ⟨T45, L45, k45, n45⟩, -, X45, ⟨Lc45, hQ45, l45, y45, z45⟩, st45⟩ := Jvm.LawKit.callS X44 hx (y := (⟨"com/example/soak/soak/sip/SipMessage", "isKeepAlive", "([B)Z"⟩ : MethodName)) hown (mvT hZ (hw _ (List.mem_of_getElem? (i := 6) rfl))) (mvT hZ (hw _ (List.mem_of_getElem? (i := 7) rfl))) (mvT hZ (hw _ (List.mem_of_getElem? (i := 8) rfl))) (mvT hZ (hw _ (List.mem_of_getElem? (i := 9) rfl))) (by decide) (backOf (W := 0) (rm2 l Z a0 hw [] za k31 (2 : Int32) [(nar .byte zc0), (nar .byte zc1)] h39 n0 (own_le Z0 K42) (f40) (show 0 ≤ (2 : Int32).toInt from by decide) (show ([(nar .byte zc0), (nar .byte zc1)].length : Int) = (2 : Int32).toInt from rfl)) hZ (hw _ (List.mem_of_getElem? (i := 9) rfl)) (hw _ (List.mem_of_getElem? (i := 8) rfl)) (by decide) (by decide)) (g := (mkF m 185 #[.val (.int zn), .val (.int x0), .val (.int x1), .val (.int x2), .val (.int x3), .val (.int x4), .val (.int (2 : Int32)), .val (.int zc0), .val (.int zc1), .val (.int zc2), .val (.int zc3), .val (.int zc4), .val (.ref za), .val (.int (0 : Int32))] [(.ref za)])) rfl (by rw [hml]; rfl) (argsL := [(.ref za)]) (rest := []) (lenOf own_pd76616 rfl) rfl (by show 2 * 0 + _ ≤ _; exact Nat.le_of_eq rfl) (hb hby at_185) (fun _ _ => ⟨rfl, eq44, (by decide : 1 + 0 ≤ _), (by decide : 2 + 0 ≤ _)⟩)
      dsimp only [Pt.U, Pt.locs, Pt.cells, Pt.slots] at X45 l45 y45 z45 st45 hQ45
      subst l45 y45 z45
      obtain ⟨rfl, N45q, eq45⟩ := hQ45
      have N45 := Fr.app N44 N45q
      refine own_go st45 ?_
      show own_WP _ _ _ _ T45 (mkF m 188 #[.val (.int zn), .val (.int x0), .val (.int x1), .val (.int x2), .val (.int x3), .val (.int x4), .val (.int (2 : Int32)), .val (.int zc0), .val (.int zc1), .val (.int zc2), .val (.int zc3), .val (.int zc4), .val (.ref za), .val (.int (0 : Int32))] [(.int (own_ka [(nar .byte zc0), (nar .byte zc1)]))])
      refine own_go (fun t k => XS.iload X45.here hx rfl (hb hby at_188) rfl  k) ?_
      show own_WP _ _ _ _ T45 (mkF m 190 #[.val (.int zn), .val (.int x0), .val (.int x1), .val (.int x2), .val (.int x3), .val (.int x4), .val (.int (2 : Int32)), .val (.int zc0), .val (.int zc1), .val (.int zc2), .val (.int zc3), .val (.int zc4), .val (.ref za), .val (.int (0 : Int32))] [(.int (0 : Int32)), (.int (own_ka [(nar .byte zc0), (nar .byte zc1)]))])
      have hc190 : (own_ka [(nar .byte zc0), (nar .byte zc1)]) = (0 : Int32) := by
        simp [own_ka, hr_26, hr_27, hr_28, hr_29, hr_30, hc117]
      refine own_go (fun t k => XS.icmpNo X45.here hx rfl (hb hby at_190) rfl (teq hc190).2 k) ?_
      show own_WP _ _ _ _ T45 (mkF m 193 #[.val (.int zn), .val (.int x0), .val (.int x1), .val (.int x2), .val (.int x3), .val (.int x4), .val (.int (2 : Int32)), .val (.int zc0), .val (.int zc1), .val (.int zc2), .val (.int zc3), .val (.int zc4), .val (.ref za), .val (.int (0 : Int32))] [])
      refine own_go (fun t k => XS.iconst X45.here hx rfl (hb hby at_193) k) ?_
      show own_WP _ _ _ _ T45 (mkF m 194 #[.val (.int zn), .val (.int x0), .val (.int x1), .val (.int x2), .val (.int x3), .val (.int x4), .val (.int (2 : Int32)), .val (.int zc0), .val (.int zc1), .val (.int zc2), .val (.int zc3), .val (.int zc4), .val (.ref za), .val (.int (0 : Int32))] [(.int (1 : Int32))])
      refine own_go (fun t k => XS.goto X45.here hx rfl (pc0 := 194) (pc' := 198) rfl (hb hby at_194) (by decide) (by decide) k) ?_
      show own_WP _ _ _ _ T45 (mkF m 198 #[.val (.int zn), .val (.int x0), .val (.int x1), .val (.int x2), .val (.int x3), .val (.int x4), .val (.int (2 : Int32)), .val (.int zc0), .val (.int zc1), .val (.int zc2), .val (.int zc3), .val (.int zc4), .val (.ref za), .val (.int (0 : Int32))] [(.int (1 : Int32))])
      refine own_retN X45 hx Bd.notSynchronized (t := .boolean) (by simp) Bd.returns (hb hby at_198) (by decide) (by decide) ?_
      rw [eq45]
      exact ⟨rfl, N45⟩
    · refine own_go (fun t k => XS.ifNo X44.here hx rfl (hb hby at_117) rfl ((if0 _ _).trans (feq hc117).1) k) ?_
      show own_WP _ _ _ _ T44 (mkF m 120 #[.val (.int zn), .val (.int x0), .val (.int x1), .val (.int x2), .val (.int x3), .val (.int x4), .val (.int (2 : Int32)), .val (.int zc0), .val (.int zc1), .val (.int zc2), .val (.int zc3), .val (.int zc4), .val (.ref za), .unset] [])
      refine own_go (fun t k => XS.iload X44.here hx rfl (hb hby at_120) rfl  k) ?_
      show own_WP _ _ _ _ T44 (mkF m 122 #[.val (.int zn), .val (.int x0), .val (.int x1), .val (.int x2), .val (.int x3), .val (.int x4), .val (.int (2 : Int32)), .val (.int zc0), .val (.int zc1), .val (.int zc2), .val (.int zc3), .val (.int zc4), .val (.ref za), .unset] [(.int (2 : Int32))])
      refine own_go (fun t k => XS.iconst X44.here hx rfl (hb hby at_122) k) ?_
      show own_WP _ _ _ _ T44 (mkF m 123 #[.val (.int zn), .val (.int x0), .val (.int x1), .val (.int x2), .val (.int x3), .val (.int x4), .val (.int (2 : Int32)), .val (.int zc0), .val (.int zc1), .val (.int zc2), .val (.int zc3), .val (.int zc4), .val (.ref za), .unset] [(.int (2 : Int32)), (.int (2 : Int32))])
      have hc123 : ¬ ((2 : Int32) < (2 : Int32)) := by decide
      refine own_go (fun t k => XS.icmpNo X44.here hx rfl (hb hby at_123) rfl (flt hc123).1 k) ?_
      show own_WP _ _ _ _ T44 (mkF m 126 #[.val (.int zn), .val (.int x0), .val (.int x1), .val (.int x2), .val (.int x3), .val (.int x4), .val (.int (2 : Int32)), .val (.int zc0), .val (.int zc1), .val (.int zc2), .val (.int zc3), .val (.int zc4), .val (.ref za), .unset] [])
      refine own_go (fun t k => XS.iload X44.here hx rfl (hb hby at_126) rfl  k) ?_
      show own_WP _ _ _ _ T44 (mkF m 128 #[.val (.int zn), .val (.int x0), .val (.int x1), .val (.int x2), .val (.int x3), .val (.int x4), .val (.int (2 : Int32)), .val (.int zc0), .val (.int zc1), .val (.int zc2), .val (.int zc3), .val (.int zc4), .val (.ref za), .unset] [(.int zc1)])
      obtain ⟨_, _, ⟨T46, L46, k46, n46⟩, -, X46, ⟨Lc46, hQ46, l46, y46, z46⟩, st46⟩ := Jvm.LawKit.callS X44 hx (y := (⟨"com/example/soak/soak/sip/SipMessageIsKeepAlivePinLaw", "ws", "(B)Z"⟩ : MethodName)) hown (mvT hZ (hw _ (List.mem_of_getElem? (i := 10) rfl))) (mvT hZ (hw _ (List.mem_of_getElem? (i := 11) rfl))) (mvT hZ (hw _ (List.mem_of_getElem? (i := 3) rfl))) (mvT hZ (hw _ (List.mem_of_getElem? (i := 12) rfl))) (by decide) (backOf (W := 0) (rm3 l Z a0 hw [] zc1  h39 n0 (own_le Z0 K42) ) hZ (hw _ (List.mem_of_getElem? (i := 12) rfl)) (hw _ (List.mem_of_getElem? (i := 3) rfl)) (by decide) (by decide)) (g := (mkF m 128 #[.val (.int zn), .val (.int x0), .val (.int x1), .val (.int x2), .val (.int x3), .val (.int x4), .val (.int (2 : Int32)), .val (.int zc0), .val (.int zc1), .val (.int zc2), .val (.int zc3), .val (.int zc4), .val (.ref za), .unset] [(.int zc1)])) rfl (by rw [hml]; rfl) (argsL := [(.int zc1)]) (rest := []) (lenOf own_pd61727 rfl) rfl (by show 2 * 0 + _ ≤ _; exact Nat.le_of_eq rfl) (hb hby at_128) (fun _ _ => ⟨rfl, eq44, (by decide : 1 + 0 ≤ _), (by decide : 2 + 0 ≤ _)⟩)
      dsimp only [Pt.U, Pt.locs, Pt.cells, Pt.slots] at X46 l46 y46 z46 st46 hQ46
      subst l46 y46 z46
      obtain ⟨rfl, N46q, eq46⟩ := hQ46
      have N46 := Fr.app N44 N46q
      refine own_go st46 ?_
      show own_WP _ _ _ _ T46 (mkF m 131 #[.val (.int zn), .val (.int x0), .val (.int x1), .val (.int x2), .val (.int x3), .val (.int x4), .val (.int (2 : Int32)), .val (.int zc0), .val (.int zc1), .val (.int zc2), .val (.int zc3), .val (.int zc4), .val (.ref za), .unset] [(.int (own_ws zc1))])
      by_cases hc131 : (own_ws zc1) = (0 : Int32)
      · refine own_go (fun t k => XS.ifYes X46.here hx rfl (pc0 := 131) (pc' := 180) rfl (hb hby at_131) rfl ((if0 _ _).trans (teq hc131).1) (by decide) (by decide) k) ?_
        show own_WP _ _ _ _ T46 (mkF m 180 #[.val (.int zn), .val (.int x0), .val (.int x1), .val (.int x2), .val (.int x3), .val (.int x4), .val (.int (2 : Int32)), .val (.int zc0), .val (.int zc1), .val (.int zc2), .val (.int zc3), .val (.int zc4), .val (.ref za), .unset] [])
        refine own_go (fun t k => XS.iconst X46.here hx rfl (hb hby at_180) k) ?_
        show own_WP _ _ _ _ T46 (mkF m 181 #[.val (.int zn), .val (.int x0), .val (.int x1), .val (.int x2), .val (.int x3), .val (.int x4), .val (.int (2 : Int32)), .val (.int zc0), .val (.int zc1), .val (.int zc2), .val (.int zc3), .val (.int zc4), .val (.ref za), .unset] [(.int (0 : Int32))])
        refine own_go (fun t k => XS.istore X46.here hx rfl (hb hby at_181) rfl (l' := #[.val (.int zn), .val (.int x0), .val (.int x1), .val (.int x2), .val (.int x3), .val (.int x4), .val (.int (2 : Int32)), .val (.int zc0), .val (.int zc1), .val (.int zc2), .val (.int zc3), .val (.int zc4), .val (.ref za), .val (.int (0 : Int32))]) rfl k) ?_
        show own_WP _ _ _ _ T46 (mkF m 183 #[.val (.int zn), .val (.int x0), .val (.int x1), .val (.int x2), .val (.int x3), .val (.int x4), .val (.int (2 : Int32)), .val (.int zc0), .val (.int zc1), .val (.int zc2), .val (.int zc3), .val (.int zc4), .val (.ref za), .val (.int (0 : Int32))] [])
        refine own_go (fun t k => XS.aload X46.here hx rfl (hb hby at_183) rfl rfl  k) ?_
        show own_WP _ _ _ _ T46 (mkF m 185 #[.val (.int zn), .val (.int x0), .val (.int x1), .val (.int x2), .val (.int x3), .val (.int x4), .val (.int (2 : Int32)), .val (.int zc0), .val (.int zc1), .val (.int zc2), .val (.int zc3), .val (.int zc4), .val (.ref za), .val (.int (0 : Int32))] [(.ref za)])
        obtain ⟨_, _, ⟨T47, L47, k47, n47⟩, -, X47, ⟨Lc47, hQ47, l47, y47, z47⟩, st47⟩ := Jvm.LawKit.callS X46 hx (y := (⟨"com/example/soak/soak/sip/SipMessage", "isKeepAlive", "([B)Z"⟩ : MethodName)) hown (mvT hZ (hw _ (List.mem_of_getElem? (i := 6) rfl))) (mvT hZ (hw _ (List.mem_of_getElem? (i := 7) rfl))) (mvT hZ (hw _ (List.mem_of_getElem? (i := 8) rfl))) (mvT hZ (hw _ (List.mem_of_getElem? (i := 9) rfl))) (by decide) (backOf (W := 0) (rm2 l Z a0 hw [] za k31 (2 : Int32) [(nar .byte zc0), (nar .byte zc1)] h39 n0 (own_le Z0 K42) (f40) (show 0 ≤ (2 : Int32).toInt from by decide) (show ([(nar .byte zc0), (nar .byte zc1)].length : Int) = (2 : Int32).toInt from rfl)) hZ (hw _ (List.mem_of_getElem? (i := 9) rfl)) (hw _ (List.mem_of_getElem? (i := 8) rfl)) (by decide) (by decide)) (g := (mkF m 185 #[.val (.int zn), .val (.int x0), .val (.int x1), .val (.int x2), .val (.int x3), .val (.int x4), .val (.int (2 : Int32)), .val (.int zc0), .val (.int zc1), .val (.int zc2), .val (.int zc3), .val (.int zc4), .val (.ref za), .val (.int (0 : Int32))] [(.ref za)])) rfl (by rw [hml]; rfl) (argsL := [(.ref za)]) (rest := []) (lenOf own_pd76616 rfl) rfl (by show 2 * 0 + _ ≤ _; exact Nat.le_of_eq rfl) (hb hby at_185) (fun _ _ => ⟨rfl, eq46, (by decide : 1 + 0 ≤ _), (by decide : 2 + 0 ≤ _)⟩)
        dsimp only [Pt.U, Pt.locs, Pt.cells, Pt.slots] at X47 l47 y47 z47 st47 hQ47
        subst l47 y47 z47
        obtain ⟨rfl, N47q, eq47⟩ := hQ47
        have N47 := Fr.app N46 N47q
        refine own_go st47 ?_
        show own_WP _ _ _ _ T47 (mkF m 188 #[.val (.int zn), .val (.int x0), .val (.int x1), .val (.int x2), .val (.int x3), .val (.int x4), .val (.int (2 : Int32)), .val (.int zc0), .val (.int zc1), .val (.int zc2), .val (.int zc3), .val (.int zc4), .val (.ref za), .val (.int (0 : Int32))] [(.int (own_ka [(nar .byte zc0), (nar .byte zc1)]))])
        refine own_go (fun t k => XS.iload X47.here hx rfl (hb hby at_188) rfl  k) ?_
        show own_WP _ _ _ _ T47 (mkF m 190 #[.val (.int zn), .val (.int x0), .val (.int x1), .val (.int x2), .val (.int x3), .val (.int x4), .val (.int (2 : Int32)), .val (.int zc0), .val (.int zc1), .val (.int zc2), .val (.int zc3), .val (.int zc4), .val (.ref za), .val (.int (0 : Int32))] [(.int (0 : Int32)), (.int (own_ka [(nar .byte zc0), (nar .byte zc1)]))])
        have hc190 : (own_ka [(nar .byte zc0), (nar .byte zc1)]) = (0 : Int32) := by
          simp [own_ka, hr_26, hr_27, hr_28, hr_29, hr_30, hc117, hc131]
        refine own_go (fun t k => XS.icmpNo X47.here hx rfl (hb hby at_190) rfl (teq hc190).2 k) ?_
        show own_WP _ _ _ _ T47 (mkF m 193 #[.val (.int zn), .val (.int x0), .val (.int x1), .val (.int x2), .val (.int x3), .val (.int x4), .val (.int (2 : Int32)), .val (.int zc0), .val (.int zc1), .val (.int zc2), .val (.int zc3), .val (.int zc4), .val (.ref za), .val (.int (0 : Int32))] [])
        refine own_go (fun t k => XS.iconst X47.here hx rfl (hb hby at_193) k) ?_
        show own_WP _ _ _ _ T47 (mkF m 194 #[.val (.int zn), .val (.int x0), .val (.int x1), .val (.int x2), .val (.int x3), .val (.int x4), .val (.int (2 : Int32)), .val (.int zc0), .val (.int zc1), .val (.int zc2), .val (.int zc3), .val (.int zc4), .val (.ref za), .val (.int (0 : Int32))] [(.int (1 : Int32))])
        refine own_go (fun t k => XS.goto X47.here hx rfl (pc0 := 194) (pc' := 198) rfl (hb hby at_194) (by decide) (by decide) k) ?_
        show own_WP _ _ _ _ T47 (mkF m 198 #[.val (.int zn), .val (.int x0), .val (.int x1), .val (.int x2), .val (.int x3), .val (.int x4), .val (.int (2 : Int32)), .val (.int zc0), .val (.int zc1), .val (.int zc2), .val (.int zc3), .val (.int zc4), .val (.ref za), .val (.int (0 : Int32))] [(.int (1 : Int32))])
        refine own_retN X47 hx Bd.notSynchronized (t := .boolean) (by simp) Bd.returns (hb hby at_198) (by decide) (by decide) ?_
        rw [eq47]
        exact ⟨rfl, N47⟩
      · refine own_go (fun t k => XS.ifNo X46.here hx rfl (hb hby at_131) rfl ((if0 _ _).trans (feq hc131).1) k) ?_
        show own_WP _ _ _ _ T46 (mkF m 134 #[.val (.int zn), .val (.int x0), .val (.int x1), .val (.int x2), .val (.int x3), .val (.int x4), .val (.int (2 : Int32)), .val (.int zc0), .val (.int zc1), .val (.int zc2), .val (.int zc3), .val (.int zc4), .val (.ref za), .unset] [])
        refine own_go (fun t k => XS.iload X46.here hx rfl (hb hby at_134) rfl  k) ?_
        show own_WP _ _ _ _ T46 (mkF m 136 #[.val (.int zn), .val (.int x0), .val (.int x1), .val (.int x2), .val (.int x3), .val (.int x4), .val (.int (2 : Int32)), .val (.int zc0), .val (.int zc1), .val (.int zc2), .val (.int zc3), .val (.int zc4), .val (.ref za), .unset] [(.int (2 : Int32))])
        refine own_go (fun t k => XS.iconst X46.here hx rfl (hb hby at_136) k) ?_
        show own_WP _ _ _ _ T46 (mkF m 137 #[.val (.int zn), .val (.int x0), .val (.int x1), .val (.int x2), .val (.int x3), .val (.int x4), .val (.int (2 : Int32)), .val (.int zc0), .val (.int zc1), .val (.int zc2), .val (.int zc3), .val (.int zc4), .val (.ref za), .unset] [(.int (3 : Int32)), (.int (2 : Int32))])
        have hc137 : (2 : Int32) < (3 : Int32) := by decide
        refine own_go (fun t k => XS.icmpYes X46.here hx rfl (pc0 := 137) (pc' := 148) rfl (hb hby at_137) rfl (tlt hc137).1 (by decide) (by decide) k) ?_
        show own_WP _ _ _ _ T46 (mkF m 148 #[.val (.int zn), .val (.int x0), .val (.int x1), .val (.int x2), .val (.int x3), .val (.int x4), .val (.int (2 : Int32)), .val (.int zc0), .val (.int zc1), .val (.int zc2), .val (.int zc3), .val (.int zc4), .val (.ref za), .unset] [])
        refine own_go (fun t k => XS.iload X46.here hx rfl (hb hby at_148) rfl  k) ?_
        show own_WP _ _ _ _ T46 (mkF m 150 #[.val (.int zn), .val (.int x0), .val (.int x1), .val (.int x2), .val (.int x3), .val (.int x4), .val (.int (2 : Int32)), .val (.int zc0), .val (.int zc1), .val (.int zc2), .val (.int zc3), .val (.int zc4), .val (.ref za), .unset] [(.int (2 : Int32))])
        refine own_go (fun t k => XS.iconst X46.here hx rfl (hb hby at_150) k) ?_
        show own_WP _ _ _ _ T46 (mkF m 151 #[.val (.int zn), .val (.int x0), .val (.int x1), .val (.int x2), .val (.int x3), .val (.int x4), .val (.int (2 : Int32)), .val (.int zc0), .val (.int zc1), .val (.int zc2), .val (.int zc3), .val (.int zc4), .val (.ref za), .unset] [(.int (4 : Int32)), (.int (2 : Int32))])
        have hc151 : (2 : Int32) < (4 : Int32) := by decide
        refine own_go (fun t k => XS.icmpYes X46.here hx rfl (pc0 := 151) (pc' := 162) rfl (hb hby at_151) rfl (tlt hc151).1 (by decide) (by decide) k) ?_
        show own_WP _ _ _ _ T46 (mkF m 162 #[.val (.int zn), .val (.int x0), .val (.int x1), .val (.int x2), .val (.int x3), .val (.int x4), .val (.int (2 : Int32)), .val (.int zc0), .val (.int zc1), .val (.int zc2), .val (.int zc3), .val (.int zc4), .val (.ref za), .unset] [])
        refine own_go (fun t k => XS.iload X46.here hx rfl (hb hby at_162) rfl  k) ?_
        show own_WP _ _ _ _ T46 (mkF m 164 #[.val (.int zn), .val (.int x0), .val (.int x1), .val (.int x2), .val (.int x3), .val (.int x4), .val (.int (2 : Int32)), .val (.int zc0), .val (.int zc1), .val (.int zc2), .val (.int zc3), .val (.int zc4), .val (.ref za), .unset] [(.int (2 : Int32))])
        refine own_go (fun t k => XS.iconst X46.here hx rfl (hb hby at_164) k) ?_
        show own_WP _ _ _ _ T46 (mkF m 165 #[.val (.int zn), .val (.int x0), .val (.int x1), .val (.int x2), .val (.int x3), .val (.int x4), .val (.int (2 : Int32)), .val (.int zc0), .val (.int zc1), .val (.int zc2), .val (.int zc3), .val (.int zc4), .val (.ref za), .unset] [(.int (5 : Int32)), (.int (2 : Int32))])
        have hc165 : (2 : Int32) < (5 : Int32) := by decide
        refine own_go (fun t k => XS.icmpYes X46.here hx rfl (pc0 := 165) (pc' := 176) rfl (hb hby at_165) rfl (tlt hc165).1 (by decide) (by decide) k) ?_
        show own_WP _ _ _ _ T46 (mkF m 176 #[.val (.int zn), .val (.int x0), .val (.int x1), .val (.int x2), .val (.int x3), .val (.int x4), .val (.int (2 : Int32)), .val (.int zc0), .val (.int zc1), .val (.int zc2), .val (.int zc3), .val (.int zc4), .val (.ref za), .unset] [])
        refine own_go (fun t k => XS.iconst X46.here hx rfl (hb hby at_176) k) ?_
        show own_WP _ _ _ _ T46 (mkF m 177 #[.val (.int zn), .val (.int x0), .val (.int x1), .val (.int x2), .val (.int x3), .val (.int x4), .val (.int (2 : Int32)), .val (.int zc0), .val (.int zc1), .val (.int zc2), .val (.int zc3), .val (.int zc4), .val (.ref za), .unset] [(.int (1 : Int32))])
        refine own_go (fun t k => XS.goto X46.here hx rfl (pc0 := 177) (pc' := 181) rfl (hb hby at_177) (by decide) (by decide) k) ?_
        show own_WP _ _ _ _ T46 (mkF m 181 #[.val (.int zn), .val (.int x0), .val (.int x1), .val (.int x2), .val (.int x3), .val (.int x4), .val (.int (2 : Int32)), .val (.int zc0), .val (.int zc1), .val (.int zc2), .val (.int zc3), .val (.int zc4), .val (.ref za), .unset] [(.int (1 : Int32))])
        refine own_go (fun t k => XS.istore X46.here hx rfl (hb hby at_181) rfl (l' := #[.val (.int zn), .val (.int x0), .val (.int x1), .val (.int x2), .val (.int x3), .val (.int x4), .val (.int (2 : Int32)), .val (.int zc0), .val (.int zc1), .val (.int zc2), .val (.int zc3), .val (.int zc4), .val (.ref za), .val (.int (1 : Int32))]) rfl k) ?_
        show own_WP _ _ _ _ T46 (mkF m 183 #[.val (.int zn), .val (.int x0), .val (.int x1), .val (.int x2), .val (.int x3), .val (.int x4), .val (.int (2 : Int32)), .val (.int zc0), .val (.int zc1), .val (.int zc2), .val (.int zc3), .val (.int zc4), .val (.ref za), .val (.int (1 : Int32))] [])
        refine own_go (fun t k => XS.aload X46.here hx rfl (hb hby at_183) rfl rfl  k) ?_
        show own_WP _ _ _ _ T46 (mkF m 185 #[.val (.int zn), .val (.int x0), .val (.int x1), .val (.int x2), .val (.int x3), .val (.int x4), .val (.int (2 : Int32)), .val (.int zc0), .val (.int zc1), .val (.int zc2), .val (.int zc3), .val (.int zc4), .val (.ref za), .val (.int (1 : Int32))] [(.ref za)])
        obtain ⟨_, _, ⟨T48, L48, k48, n48⟩, -, X48, ⟨Lc48, hQ48, l48, y48, z48⟩, st48⟩ := Jvm.LawKit.callS X46 hx (y := (⟨"com/example/soak/soak/sip/SipMessage", "isKeepAlive", "([B)Z"⟩ : MethodName)) hown (mvT hZ (hw _ (List.mem_of_getElem? (i := 6) rfl))) (mvT hZ (hw _ (List.mem_of_getElem? (i := 7) rfl))) (mvT hZ (hw _ (List.mem_of_getElem? (i := 8) rfl))) (mvT hZ (hw _ (List.mem_of_getElem? (i := 9) rfl))) (by decide) (backOf (W := 0) (rm2 l Z a0 hw [] za k31 (2 : Int32) [(nar .byte zc0), (nar .byte zc1)] h39 n0 (own_le Z0 K42) (f40) (show 0 ≤ (2 : Int32).toInt from by decide) (show ([(nar .byte zc0), (nar .byte zc1)].length : Int) = (2 : Int32).toInt from rfl)) hZ (hw _ (List.mem_of_getElem? (i := 9) rfl)) (hw _ (List.mem_of_getElem? (i := 8) rfl)) (by decide) (by decide)) (g := (mkF m 185 #[.val (.int zn), .val (.int x0), .val (.int x1), .val (.int x2), .val (.int x3), .val (.int x4), .val (.int (2 : Int32)), .val (.int zc0), .val (.int zc1), .val (.int zc2), .val (.int zc3), .val (.int zc4), .val (.ref za), .val (.int (1 : Int32))] [(.ref za)])) rfl (by rw [hml]; rfl) (argsL := [(.ref za)]) (rest := []) (lenOf own_pd76616 rfl) rfl (by show 2 * 0 + _ ≤ _; exact Nat.le_of_eq rfl) (hb hby at_185) (fun _ _ => ⟨rfl, eq46, (by decide : 1 + 0 ≤ _), (by decide : 2 + 0 ≤ _)⟩)
        dsimp only [Pt.U, Pt.locs, Pt.cells, Pt.slots] at X48 l48 y48 z48 st48 hQ48
        subst l48 y48 z48
        obtain ⟨rfl, N48q, eq48⟩ := hQ48
        have N48 := Fr.app N46 N48q
        refine own_go st48 ?_
        show own_WP _ _ _ _ T48 (mkF m 188 #[.val (.int zn), .val (.int x0), .val (.int x1), .val (.int x2), .val (.int x3), .val (.int x4), .val (.int (2 : Int32)), .val (.int zc0), .val (.int zc1), .val (.int zc2), .val (.int zc3), .val (.int zc4), .val (.ref za), .val (.int (1 : Int32))] [(.int (own_ka [(nar .byte zc0), (nar .byte zc1)]))])
        refine own_go (fun t k => XS.iload X48.here hx rfl (hb hby at_188) rfl  k) ?_
        show own_WP _ _ _ _ T48 (mkF m 190 #[.val (.int zn), .val (.int x0), .val (.int x1), .val (.int x2), .val (.int x3), .val (.int x4), .val (.int (2 : Int32)), .val (.int zc0), .val (.int zc1), .val (.int zc2), .val (.int zc3), .val (.int zc4), .val (.ref za), .val (.int (1 : Int32))] [(.int (1 : Int32)), (.int (own_ka [(nar .byte zc0), (nar .byte zc1)]))])
        have hc190 : (own_ka [(nar .byte zc0), (nar .byte zc1)]) = (1 : Int32) := by
          simp [own_ka, hr_26, hr_27, hr_28, hr_29, hr_30, hc117, hc131]
        refine own_go (fun t k => XS.icmpNo X48.here hx rfl (hb hby at_190) rfl (teq hc190).2 k) ?_
        show own_WP _ _ _ _ T48 (mkF m 193 #[.val (.int zn), .val (.int x0), .val (.int x1), .val (.int x2), .val (.int x3), .val (.int x4), .val (.int (2 : Int32)), .val (.int zc0), .val (.int zc1), .val (.int zc2), .val (.int zc3), .val (.int zc4), .val (.ref za), .val (.int (1 : Int32))] [])
        refine own_go (fun t k => XS.iconst X48.here hx rfl (hb hby at_193) k) ?_
        show own_WP _ _ _ _ T48 (mkF m 194 #[.val (.int zn), .val (.int x0), .val (.int x1), .val (.int x2), .val (.int x3), .val (.int x4), .val (.int (2 : Int32)), .val (.int zc0), .val (.int zc1), .val (.int zc2), .val (.int zc3), .val (.int zc4), .val (.ref za), .val (.int (1 : Int32))] [(.int (1 : Int32))])
        refine own_go (fun t k => XS.goto X48.here hx rfl (pc0 := 194) (pc' := 198) rfl (hb hby at_194) (by decide) (by decide) k) ?_
        show own_WP _ _ _ _ T48 (mkF m 198 #[.val (.int zn), .val (.int x0), .val (.int x1), .val (.int x2), .val (.int x3), .val (.int x4), .val (.int (2 : Int32)), .val (.int zc0), .val (.int zc1), .val (.int zc2), .val (.int zc3), .val (.int zc4), .val (.ref za), .val (.int (1 : Int32))] [(.int (1 : Int32))])
        refine own_retN X48 hx Bd.notSynchronized (t := .boolean) (by simp) Bd.returns (hb hby at_198) (by decide) (by decide) ?_
        rw [eq48]
        exact ⟨rfl, N48⟩
  · rw [d_zm] at hl
    subst hl
    show own_WP _ _ _ _ s₁ (mkF m 9 #[.val (.int zn), .val (.int x0), .val (.int x1), .val (.int x2), .val (.int x3), .val (.int x4), .val (.int (3 : Int32)), .unset, .unset, .unset, .unset, .unset, .unset, .unset] [])
    refine own_go (fun t k => XS.iloadN X0.here hx rfl (hb hby at_9) rfl  k) ?_
    show own_WP _ _ _ _ s₁ (mkF m 10 #[.val (.int zn), .val (.int x0), .val (.int x1), .val (.int x2), .val (.int x3), .val (.int x4), .val (.int (3 : Int32)), .unset, .unset, .unset, .unset, .unset, .unset, .unset] [(.int x0)])
    obtain ⟨_, _, ⟨T49, L49, k49, n49⟩, -, X49, ⟨Lc49, hQ49, l49, y49, z49⟩, st49⟩ := Jvm.LawKit.callS X0 hx (y := (⟨"com/example/soak/soak/sip/SipMessageIsKeepAlivePinLaw", "pick", "(I)B"⟩ : MethodName)) hown (mvT hZ (hw _ (List.mem_of_getElem? (i := 1) rfl))) (mvT hZ (hw _ (List.mem_of_getElem? (i := 2) rfl))) (mvT hZ (hw _ (List.mem_of_getElem? (i := 3) rfl))) (mvT hZ (hw _ (List.mem_of_getElem? (i := 4) rfl))) (by decide) (backOf (W := 0) (rm1 l Z a0 hw [] x0  h0 n0 (own_le Z0 K0) ) hZ (hw _ (List.mem_of_getElem? (i := 4) rfl)) (hw _ (List.mem_of_getElem? (i := 3) rfl)) (by decide) (by decide)) (g := (mkF m 10 #[.val (.int zn), .val (.int x0), .val (.int x1), .val (.int x2), .val (.int x3), .val (.int x4), .val (.int (3 : Int32)), .unset, .unset, .unset, .unset, .unset, .unset, .unset] [(.int x0)])) rfl (by rw [hml]; rfl) (argsL := [(.int x0)]) (rest := []) (lenOf own_pd81830 rfl) rfl (by show 2 * 0 + _ ≤ _; exact Nat.le_of_eq rfl) (hb hby at_10) (fun _ _ => ⟨rfl, e0, (by decide : 0 + 0 ≤ _), (by decide : 0 + 0 ≤ _)⟩)
    dsimp only [Pt.U, Pt.locs, Pt.cells, Pt.slots] at X49 l49 y49 z49 st49 hQ49
    subst l49 y49 z49
    obtain ⟨zc0, rfl, N49q, eq49, hr_49⟩ := hQ49
    have N49 := Fr.app N0 N49q
    refine own_go st49 ?_
    show own_WP _ _ _ _ T49 (mkF m 13 #[.val (.int zn), .val (.int x0), .val (.int x1), .val (.int x2), .val (.int x3), .val (.int x4), .val (.int (3 : Int32)), .unset, .unset, .unset, .unset, .unset, .unset, .unset] [(.int zc0)])
    refine own_go (fun t k => XS.istore X49.here hx rfl (hb hby at_13) rfl (l' := #[.val (.int zn), .val (.int x0), .val (.int x1), .val (.int x2), .val (.int x3), .val (.int x4), .val (.int (3 : Int32)), .val (.int zc0), .unset, .unset, .unset, .unset, .unset, .unset]) rfl k) ?_
    show own_WP _ _ _ _ T49 (mkF m 15 #[.val (.int zn), .val (.int x0), .val (.int x1), .val (.int x2), .val (.int x3), .val (.int x4), .val (.int (3 : Int32)), .val (.int zc0), .unset, .unset, .unset, .unset, .unset, .unset] [])
    refine own_go (fun t k => XS.iloadN X49.here hx rfl (hb hby at_15) rfl  k) ?_
    show own_WP _ _ _ _ T49 (mkF m 16 #[.val (.int zn), .val (.int x0), .val (.int x1), .val (.int x2), .val (.int x3), .val (.int x4), .val (.int (3 : Int32)), .val (.int zc0), .unset, .unset, .unset, .unset, .unset, .unset] [(.int x1)])
    obtain ⟨_, _, ⟨T50, L50, k50, n50⟩, -, X50, ⟨Lc50, hQ50, l50, y50, z50⟩, st50⟩ := Jvm.LawKit.callS X49 hx (y := (⟨"com/example/soak/soak/sip/SipMessageIsKeepAlivePinLaw", "pick", "(I)B"⟩ : MethodName)) hown (mvT hZ (hw _ (List.mem_of_getElem? (i := 1) rfl))) (mvT hZ (hw _ (List.mem_of_getElem? (i := 2) rfl))) (mvT hZ (hw _ (List.mem_of_getElem? (i := 3) rfl))) (mvT hZ (hw _ (List.mem_of_getElem? (i := 4) rfl))) (by decide) (backOf (W := 0) (rm1 l Z a0 hw [] x1  h0 n0 (own_le Z0 K0) ) hZ (hw _ (List.mem_of_getElem? (i := 4) rfl)) (hw _ (List.mem_of_getElem? (i := 3) rfl)) (by decide) (by decide)) (g := (mkF m 16 #[.val (.int zn), .val (.int x0), .val (.int x1), .val (.int x2), .val (.int x3), .val (.int x4), .val (.int (3 : Int32)), .val (.int zc0), .unset, .unset, .unset, .unset, .unset, .unset] [(.int x1)])) rfl (by rw [hml]; rfl) (argsL := [(.int x1)]) (rest := []) (lenOf own_pd81830 rfl) rfl (by show 2 * 0 + _ ≤ _; exact Nat.le_of_eq rfl) (hb hby at_16) (fun _ _ => ⟨rfl, eq49, (by decide : 0 + 0 ≤ _), (by decide : 0 + 0 ≤ _)⟩)
    dsimp only [Pt.U, Pt.locs, Pt.cells, Pt.slots] at X50 l50 y50 z50 st50 hQ50
    subst l50 y50 z50
    obtain ⟨zc1, rfl, N50q, eq50, hr_50⟩ := hQ50
    have N50 := Fr.app N49 N50q
    refine own_go st50 ?_
    show own_WP _ _ _ _ T50 (mkF m 19 #[.val (.int zn), .val (.int x0), .val (.int x1), .val (.int x2), .val (.int x3), .val (.int x4), .val (.int (3 : Int32)), .val (.int zc0), .unset, .unset, .unset, .unset, .unset, .unset] [(.int zc1)])
    refine own_go (fun t k => XS.istore X50.here hx rfl (hb hby at_19) rfl (l' := #[.val (.int zn), .val (.int x0), .val (.int x1), .val (.int x2), .val (.int x3), .val (.int x4), .val (.int (3 : Int32)), .val (.int zc0), .val (.int zc1), .unset, .unset, .unset, .unset, .unset]) rfl k) ?_
    show own_WP _ _ _ _ T50 (mkF m 21 #[.val (.int zn), .val (.int x0), .val (.int x1), .val (.int x2), .val (.int x3), .val (.int x4), .val (.int (3 : Int32)), .val (.int zc0), .val (.int zc1), .unset, .unset, .unset, .unset, .unset] [])
    refine own_go (fun t k => XS.iloadN X50.here hx rfl (hb hby at_21) rfl  k) ?_
    show own_WP _ _ _ _ T50 (mkF m 22 #[.val (.int zn), .val (.int x0), .val (.int x1), .val (.int x2), .val (.int x3), .val (.int x4), .val (.int (3 : Int32)), .val (.int zc0), .val (.int zc1), .unset, .unset, .unset, .unset, .unset] [(.int x2)])
    obtain ⟨_, _, ⟨T51, L51, k51, n51⟩, -, X51, ⟨Lc51, hQ51, l51, y51, z51⟩, st51⟩ := Jvm.LawKit.callS X50 hx (y := (⟨"com/example/soak/soak/sip/SipMessageIsKeepAlivePinLaw", "pick", "(I)B"⟩ : MethodName)) hown (mvT hZ (hw _ (List.mem_of_getElem? (i := 1) rfl))) (mvT hZ (hw _ (List.mem_of_getElem? (i := 2) rfl))) (mvT hZ (hw _ (List.mem_of_getElem? (i := 3) rfl))) (mvT hZ (hw _ (List.mem_of_getElem? (i := 4) rfl))) (by decide) (backOf (W := 0) (rm1 l Z a0 hw [] x2  h0 n0 (own_le Z0 K0) ) hZ (hw _ (List.mem_of_getElem? (i := 4) rfl)) (hw _ (List.mem_of_getElem? (i := 3) rfl)) (by decide) (by decide)) (g := (mkF m 22 #[.val (.int zn), .val (.int x0), .val (.int x1), .val (.int x2), .val (.int x3), .val (.int x4), .val (.int (3 : Int32)), .val (.int zc0), .val (.int zc1), .unset, .unset, .unset, .unset, .unset] [(.int x2)])) rfl (by rw [hml]; rfl) (argsL := [(.int x2)]) (rest := []) (lenOf own_pd81830 rfl) rfl (by show 2 * 0 + _ ≤ _; exact Nat.le_of_eq rfl) (hb hby at_22) (fun _ _ => ⟨rfl, eq50, (by decide : 0 + 0 ≤ _), (by decide : 0 + 0 ≤ _)⟩)
    dsimp only [Pt.U, Pt.locs, Pt.cells, Pt.slots] at X51 l51 y51 z51 st51 hQ51
    subst l51 y51 z51
    obtain ⟨zc2, rfl, N51q, eq51, hr_51⟩ := hQ51
    have N51 := Fr.app N50 N51q
    refine own_go st51 ?_
    show own_WP _ _ _ _ T51 (mkF m 25 #[.val (.int zn), .val (.int x0), .val (.int x1), .val (.int x2), .val (.int x3), .val (.int x4), .val (.int (3 : Int32)), .val (.int zc0), .val (.int zc1), .unset, .unset, .unset, .unset, .unset] [(.int zc2)])
    refine own_go (fun t k => XS.istore X51.here hx rfl (hb hby at_25) rfl (l' := #[.val (.int zn), .val (.int x0), .val (.int x1), .val (.int x2), .val (.int x3), .val (.int x4), .val (.int (3 : Int32)), .val (.int zc0), .val (.int zc1), .val (.int zc2), .unset, .unset, .unset, .unset]) rfl k) ?_
    show own_WP _ _ _ _ T51 (mkF m 27 #[.val (.int zn), .val (.int x0), .val (.int x1), .val (.int x2), .val (.int x3), .val (.int x4), .val (.int (3 : Int32)), .val (.int zc0), .val (.int zc1), .val (.int zc2), .unset, .unset, .unset, .unset] [])
    refine own_go (fun t k => XS.iload X51.here hx rfl (hb hby at_27) rfl  k) ?_
    show own_WP _ _ _ _ T51 (mkF m 29 #[.val (.int zn), .val (.int x0), .val (.int x1), .val (.int x2), .val (.int x3), .val (.int x4), .val (.int (3 : Int32)), .val (.int zc0), .val (.int zc1), .val (.int zc2), .unset, .unset, .unset, .unset] [(.int x3)])
    obtain ⟨_, _, ⟨T52, L52, k52, n52⟩, -, X52, ⟨Lc52, hQ52, l52, y52, z52⟩, st52⟩ := Jvm.LawKit.callS X51 hx (y := (⟨"com/example/soak/soak/sip/SipMessageIsKeepAlivePinLaw", "pick", "(I)B"⟩ : MethodName)) hown (mvT hZ (hw _ (List.mem_of_getElem? (i := 1) rfl))) (mvT hZ (hw _ (List.mem_of_getElem? (i := 2) rfl))) (mvT hZ (hw _ (List.mem_of_getElem? (i := 3) rfl))) (mvT hZ (hw _ (List.mem_of_getElem? (i := 4) rfl))) (by decide) (backOf (W := 0) (rm1 l Z a0 hw [] x3  h0 n0 (own_le Z0 K0) ) hZ (hw _ (List.mem_of_getElem? (i := 4) rfl)) (hw _ (List.mem_of_getElem? (i := 3) rfl)) (by decide) (by decide)) (g := (mkF m 29 #[.val (.int zn), .val (.int x0), .val (.int x1), .val (.int x2), .val (.int x3), .val (.int x4), .val (.int (3 : Int32)), .val (.int zc0), .val (.int zc1), .val (.int zc2), .unset, .unset, .unset, .unset] [(.int x3)])) rfl (by rw [hml]; rfl) (argsL := [(.int x3)]) (rest := []) (lenOf own_pd81830 rfl) rfl (by show 2 * 0 + _ ≤ _; exact Nat.le_of_eq rfl) (hb hby at_29) (fun _ _ => ⟨rfl, eq51, (by decide : 0 + 0 ≤ _), (by decide : 0 + 0 ≤ _)⟩)
    dsimp only [Pt.U, Pt.locs, Pt.cells, Pt.slots] at X52 l52 y52 z52 st52 hQ52
    subst l52 y52 z52
    obtain ⟨zc3, rfl, N52q, eq52, hr_52⟩ := hQ52
    have N52 := Fr.app N51 N52q
    refine own_go st52 ?_
    show own_WP _ _ _ _ T52 (mkF m 32 #[.val (.int zn), .val (.int x0), .val (.int x1), .val (.int x2), .val (.int x3), .val (.int x4), .val (.int (3 : Int32)), .val (.int zc0), .val (.int zc1), .val (.int zc2), .unset, .unset, .unset, .unset] [(.int zc3)])
    refine own_go (fun t k => XS.istore X52.here hx rfl (hb hby at_32) rfl (l' := #[.val (.int zn), .val (.int x0), .val (.int x1), .val (.int x2), .val (.int x3), .val (.int x4), .val (.int (3 : Int32)), .val (.int zc0), .val (.int zc1), .val (.int zc2), .val (.int zc3), .unset, .unset, .unset]) rfl k) ?_
    show own_WP _ _ _ _ T52 (mkF m 34 #[.val (.int zn), .val (.int x0), .val (.int x1), .val (.int x2), .val (.int x3), .val (.int x4), .val (.int (3 : Int32)), .val (.int zc0), .val (.int zc1), .val (.int zc2), .val (.int zc3), .unset, .unset, .unset] [])
    refine own_go (fun t k => XS.iload X52.here hx rfl (hb hby at_34) rfl  k) ?_
    show own_WP _ _ _ _ T52 (mkF m 36 #[.val (.int zn), .val (.int x0), .val (.int x1), .val (.int x2), .val (.int x3), .val (.int x4), .val (.int (3 : Int32)), .val (.int zc0), .val (.int zc1), .val (.int zc2), .val (.int zc3), .unset, .unset, .unset] [(.int x4)])
    obtain ⟨_, _, ⟨T53, L53, k53, n53⟩, -, X53, ⟨Lc53, hQ53, l53, y53, z53⟩, st53⟩ := Jvm.LawKit.callS X52 hx (y := (⟨"com/example/soak/soak/sip/SipMessageIsKeepAlivePinLaw", "pick", "(I)B"⟩ : MethodName)) hown (mvT hZ (hw _ (List.mem_of_getElem? (i := 1) rfl))) (mvT hZ (hw _ (List.mem_of_getElem? (i := 2) rfl))) (mvT hZ (hw _ (List.mem_of_getElem? (i := 3) rfl))) (mvT hZ (hw _ (List.mem_of_getElem? (i := 4) rfl))) (by decide) (backOf (W := 0) (rm1 l Z a0 hw [] x4  h0 n0 (own_le Z0 K0) ) hZ (hw _ (List.mem_of_getElem? (i := 4) rfl)) (hw _ (List.mem_of_getElem? (i := 3) rfl)) (by decide) (by decide)) (g := (mkF m 36 #[.val (.int zn), .val (.int x0), .val (.int x1), .val (.int x2), .val (.int x3), .val (.int x4), .val (.int (3 : Int32)), .val (.int zc0), .val (.int zc1), .val (.int zc2), .val (.int zc3), .unset, .unset, .unset] [(.int x4)])) rfl (by rw [hml]; rfl) (argsL := [(.int x4)]) (rest := []) (lenOf own_pd81830 rfl) rfl (by show 2 * 0 + _ ≤ _; exact Nat.le_of_eq rfl) (hb hby at_36) (fun _ _ => ⟨rfl, eq52, (by decide : 0 + 0 ≤ _), (by decide : 0 + 0 ≤ _)⟩)
    dsimp only [Pt.U, Pt.locs, Pt.cells, Pt.slots] at X53 l53 y53 z53 st53 hQ53
    subst l53 y53 z53
    obtain ⟨zc4, rfl, N53q, eq53, hr_53⟩ := hQ53
    have N53 := Fr.app N52 N53q
    refine own_go st53 ?_
    show own_WP _ _ _ _ T53 (mkF m 39 #[.val (.int zn), .val (.int x0), .val (.int x1), .val (.int x2), .val (.int x3), .val (.int x4), .val (.int (3 : Int32)), .val (.int zc0), .val (.int zc1), .val (.int zc2), .val (.int zc3), .unset, .unset, .unset] [(.int zc4)])
    refine own_go (fun t k => XS.istore X53.here hx rfl (hb hby at_39) rfl (l' := #[.val (.int zn), .val (.int x0), .val (.int x1), .val (.int x2), .val (.int x3), .val (.int x4), .val (.int (3 : Int32)), .val (.int zc0), .val (.int zc1), .val (.int zc2), .val (.int zc3), .val (.int zc4), .unset, .unset]) rfl k) ?_
    show own_WP _ _ _ _ T53 (mkF m 41 #[.val (.int zn), .val (.int x0), .val (.int x1), .val (.int x2), .val (.int x3), .val (.int x4), .val (.int (3 : Int32)), .val (.int zc0), .val (.int zc1), .val (.int zc2), .val (.int zc3), .val (.int zc4), .unset, .unset] [])
    refine own_go (fun t k => XS.iload X53.here hx rfl (hb hby at_41) rfl  k) ?_
    show own_WP _ _ _ _ T53 (mkF m 43 #[.val (.int zn), .val (.int x0), .val (.int x1), .val (.int x2), .val (.int x3), .val (.int x4), .val (.int (3 : Int32)), .val (.int zc0), .val (.int zc1), .val (.int zc2), .val (.int zc3), .val (.int zc4), .unset, .unset] [(.int (3 : Int32))])
    obtain ⟨T54, h54, k54, X54, e54, E54, A54, G54, st54⟩ := newPE X53 hx hZ (hw _ (List.mem_of_getElem? (i := 5) rfl)) eq53 (g := (mkF m 43 #[.val (.int zn), .val (.int x0), .val (.int x1), .val (.int x2), .val (.int x3), .val (.int x4), .val (.int (3 : Int32)), .val (.int zc0), .val (.int zc1), .val (.int zc2), .val (.int zc3), .val (.int zc4), .unset, .unset] [(.int (3 : Int32))])) rfl (hb hby at_43) rfl (by decide) (cap := 3) (by decide) (by decide) (by decide) (by decide) (ad := "[B") rfl
    obtain ⟨za, q54⟩ : ∃ z, z = h0.size := ⟨_, rfl⟩
    rw [← q54] at A54 G54 st54
    refine own_go st54 ?_
    have g_za : n0 ≤ za := Nat.le_trans (own_le Z0 K0) (Nat.le_of_eq q54.symm)
    have sz_za : h0.size ≤ za := Nat.le_trans K0.1 (Nat.le_of_eq q54.symm)
    have K55 : Keep h0 h54 [] := K0.ext E54
    have f56 : Arv Z h54 za k54 .byte (3 : Int32) [(.int (0 : Int32)), (.int (0 : Int32)), (.int (0 : Int32))] (.int (0 : Int32)) := (Arv.new A54 (by decide)).pad (pad_rep [] (.int (0 : Int32)) 3)
    show own_WP _ _ _ _ T54 (mkF m 45 #[.val (.int zn), .val (.int x0), .val (.int x1), .val (.int x2), .val (.int x3), .val (.int x4), .val (.int (3 : Int32)), .val (.int zc0), .val (.int zc1), .val (.int zc2), .val (.int zc3), .val (.int zc4), .unset, .unset] [(.ref za)])
    refine own_go (fun t k => XS.astore X54.here hx rfl (hb hby at_45) rfl rfl (l' := #[.val (.int zn), .val (.int x0), .val (.int x1), .val (.int x2), .val (.int x3), .val (.int x4), .val (.int (3 : Int32)), .val (.int zc0), .val (.int zc1), .val (.int zc2), .val (.int zc3), .val (.int zc4), .val (.ref za), .unset]) rfl k) ?_
    show own_WP _ _ _ _ T54 (mkF m 47 #[.val (.int zn), .val (.int x0), .val (.int x1), .val (.int x2), .val (.int x3), .val (.int x4), .val (.int (3 : Int32)), .val (.int zc0), .val (.int zc1), .val (.int zc2), .val (.int zc3), .val (.int zc4), .val (.ref za), .unset] [])
    refine own_go (fun t k => XS.iload X54.here hx rfl (hb hby at_47) rfl  k) ?_
    show own_WP _ _ _ _ T54 (mkF m 49 #[.val (.int zn), .val (.int x0), .val (.int x1), .val (.int x2), .val (.int x3), .val (.int x4), .val (.int (3 : Int32)), .val (.int zc0), .val (.int zc1), .val (.int zc2), .val (.int zc3), .val (.int zc4), .val (.ref za), .unset] [(.int (3 : Int32))])
    have hc49 : (0 : Int32) < (3 : Int32) := by decide
    refine own_go (fun t k => XS.ifNo X54.here hx rfl (hb hby at_49) rfl ((if0 _ _).trans (tlt hc49).2.2.2) k) ?_
    show own_WP _ _ _ _ T54 (mkF m 52 #[.val (.int zn), .val (.int x0), .val (.int x1), .val (.int x2), .val (.int x3), .val (.int x4), .val (.int (3 : Int32)), .val (.int zc0), .val (.int zc1), .val (.int zc2), .val (.int zc3), .val (.int zc4), .val (.ref za), .unset] [])
    refine own_go (fun t k => XS.aload X54.here hx rfl (hb hby at_52) rfl rfl  k) ?_
    show own_WP _ _ _ _ T54 (mkF m 54 #[.val (.int zn), .val (.int x0), .val (.int x1), .val (.int x2), .val (.int x3), .val (.int x4), .val (.int (3 : Int32)), .val (.int zc0), .val (.int zc1), .val (.int zc2), .val (.int zc3), .val (.int zc4), .val (.ref za), .unset] [(.ref za)])
    refine own_go (fun t k => XS.iconst X54.here hx rfl (hb hby at_54) k) ?_
    show own_WP _ _ _ _ T54 (mkF m 55 #[.val (.int zn), .val (.int x0), .val (.int x1), .val (.int x2), .val (.int x3), .val (.int x4), .val (.int (3 : Int32)), .val (.int zc0), .val (.int zc1), .val (.int zc2), .val (.int zc3), .val (.int zc4), .val (.ref za), .unset] [(.int (0 : Int32)), (.ref za)])
    refine own_go (fun t k => XS.iload X54.here hx rfl (hb hby at_55) rfl  k) ?_
    show own_WP _ _ _ _ T54 (mkF m 57 #[.val (.int zn), .val (.int x0), .val (.int x1), .val (.int x2), .val (.int x3), .val (.int x4), .val (.int (3 : Int32)), .val (.int zc0), .val (.int zc1), .val (.int zc2), .val (.int zc3), .val (.int zc4), .val (.ref za), .unset] [(.int zc0), (.int (0 : Int32)), (.ref za)])
    refine own_stB X54 hx hZ e54 f56 (j := (0 : Int32)) ⟨by decide, by decide⟩ (i := 0) rfl (Nat.le_of_ble_eq_true rfl) (hb hby at_57) ?_
    intro T57 h57 X57 e57 W57 V57
    have f58 : Arv Z h57 za k54 .byte (3 : Int32) [(.int (nar .byte zc0)), (.int (0 : Int32)), (.int (0 : Int32))] (.int (0 : Int32)) := V57
    have K60 : Keep h0 h57 [] := K55.wr W57 (Or.inr sz_za)
    have N61 := Fr.snoc X57 N53 g_za
    show own_WP _ _ _ _ T57 (mkF m 58 #[.val (.int zn), .val (.int x0), .val (.int x1), .val (.int x2), .val (.int x3), .val (.int x4), .val (.int (3 : Int32)), .val (.int zc0), .val (.int zc1), .val (.int zc2), .val (.int zc3), .val (.int zc4), .val (.ref za), .unset] [])
    refine own_go (fun t k => XS.iload X57.here hx rfl (hb hby at_58) rfl  k) ?_
    show own_WP _ _ _ _ T57 (mkF m 60 #[.val (.int zn), .val (.int x0), .val (.int x1), .val (.int x2), .val (.int x3), .val (.int x4), .val (.int (3 : Int32)), .val (.int zc0), .val (.int zc1), .val (.int zc2), .val (.int zc3), .val (.int zc4), .val (.ref za), .unset] [(.int (3 : Int32))])
    refine own_go (fun t k => XS.iconst X57.here hx rfl (hb hby at_60) k) ?_
    show own_WP _ _ _ _ T57 (mkF m 61 #[.val (.int zn), .val (.int x0), .val (.int x1), .val (.int x2), .val (.int x3), .val (.int x4), .val (.int (3 : Int32)), .val (.int zc0), .val (.int zc1), .val (.int zc2), .val (.int zc3), .val (.int zc4), .val (.ref za), .unset] [(.int (1 : Int32)), (.int (3 : Int32))])
    have hc61 : (1 : Int32) < (3 : Int32) := by decide
    refine own_go (fun t k => XS.icmpNo X57.here hx rfl (hb hby at_61) rfl (tlt hc61).2.2.2 k) ?_
    show own_WP _ _ _ _ T57 (mkF m 64 #[.val (.int zn), .val (.int x0), .val (.int x1), .val (.int x2), .val (.int x3), .val (.int x4), .val (.int (3 : Int32)), .val (.int zc0), .val (.int zc1), .val (.int zc2), .val (.int zc3), .val (.int zc4), .val (.ref za), .unset] [])
    refine own_go (fun t k => XS.aload X57.here hx rfl (hb hby at_64) rfl rfl  k) ?_
    show own_WP _ _ _ _ T57 (mkF m 66 #[.val (.int zn), .val (.int x0), .val (.int x1), .val (.int x2), .val (.int x3), .val (.int x4), .val (.int (3 : Int32)), .val (.int zc0), .val (.int zc1), .val (.int zc2), .val (.int zc3), .val (.int zc4), .val (.ref za), .unset] [(.ref za)])
    refine own_go (fun t k => XS.iconst X57.here hx rfl (hb hby at_66) k) ?_
    show own_WP _ _ _ _ T57 (mkF m 67 #[.val (.int zn), .val (.int x0), .val (.int x1), .val (.int x2), .val (.int x3), .val (.int x4), .val (.int (3 : Int32)), .val (.int zc0), .val (.int zc1), .val (.int zc2), .val (.int zc3), .val (.int zc4), .val (.ref za), .unset] [(.int (1 : Int32)), (.ref za)])
    refine own_go (fun t k => XS.iload X57.here hx rfl (hb hby at_67) rfl  k) ?_
    show own_WP _ _ _ _ T57 (mkF m 69 #[.val (.int zn), .val (.int x0), .val (.int x1), .val (.int x2), .val (.int x3), .val (.int x4), .val (.int (3 : Int32)), .val (.int zc0), .val (.int zc1), .val (.int zc2), .val (.int zc3), .val (.int zc4), .val (.ref za), .unset] [(.int zc1), (.int (1 : Int32)), (.ref za)])
    refine own_stB X57 hx hZ e57 f58 (j := (1 : Int32)) ⟨by decide, by decide⟩ (i := 1) rfl (Nat.le_of_ble_eq_true rfl) (hb hby at_69) ?_
    intro T62 h62 X62 e62 W62 V62
    have f63 : Arv Z h62 za k54 .byte (3 : Int32) [(.int (nar .byte zc0)), (.int (nar .byte zc1)), (.int (0 : Int32))] (.int (0 : Int32)) := V62
    have K65 : Keep h0 h62 [] := K60.wr W62 (Or.inr sz_za)
    have N66 := Fr.snoc X62 N61 g_za
    show own_WP _ _ _ _ T62 (mkF m 70 #[.val (.int zn), .val (.int x0), .val (.int x1), .val (.int x2), .val (.int x3), .val (.int x4), .val (.int (3 : Int32)), .val (.int zc0), .val (.int zc1), .val (.int zc2), .val (.int zc3), .val (.int zc4), .val (.ref za), .unset] [])
    refine own_go (fun t k => XS.iload X62.here hx rfl (hb hby at_70) rfl  k) ?_
    show own_WP _ _ _ _ T62 (mkF m 72 #[.val (.int zn), .val (.int x0), .val (.int x1), .val (.int x2), .val (.int x3), .val (.int x4), .val (.int (3 : Int32)), .val (.int zc0), .val (.int zc1), .val (.int zc2), .val (.int zc3), .val (.int zc4), .val (.ref za), .unset] [(.int (3 : Int32))])
    refine own_go (fun t k => XS.iconst X62.here hx rfl (hb hby at_72) k) ?_
    show own_WP _ _ _ _ T62 (mkF m 73 #[.val (.int zn), .val (.int x0), .val (.int x1), .val (.int x2), .val (.int x3), .val (.int x4), .val (.int (3 : Int32)), .val (.int zc0), .val (.int zc1), .val (.int zc2), .val (.int zc3), .val (.int zc4), .val (.ref za), .unset] [(.int (2 : Int32)), (.int (3 : Int32))])
    have hc73 : (2 : Int32) < (3 : Int32) := by decide
    refine own_go (fun t k => XS.icmpNo X62.here hx rfl (hb hby at_73) rfl (tlt hc73).2.2.2 k) ?_
    show own_WP _ _ _ _ T62 (mkF m 76 #[.val (.int zn), .val (.int x0), .val (.int x1), .val (.int x2), .val (.int x3), .val (.int x4), .val (.int (3 : Int32)), .val (.int zc0), .val (.int zc1), .val (.int zc2), .val (.int zc3), .val (.int zc4), .val (.ref za), .unset] [])
    refine own_go (fun t k => XS.aload X62.here hx rfl (hb hby at_76) rfl rfl  k) ?_
    show own_WP _ _ _ _ T62 (mkF m 78 #[.val (.int zn), .val (.int x0), .val (.int x1), .val (.int x2), .val (.int x3), .val (.int x4), .val (.int (3 : Int32)), .val (.int zc0), .val (.int zc1), .val (.int zc2), .val (.int zc3), .val (.int zc4), .val (.ref za), .unset] [(.ref za)])
    refine own_go (fun t k => XS.iconst X62.here hx rfl (hb hby at_78) k) ?_
    show own_WP _ _ _ _ T62 (mkF m 79 #[.val (.int zn), .val (.int x0), .val (.int x1), .val (.int x2), .val (.int x3), .val (.int x4), .val (.int (3 : Int32)), .val (.int zc0), .val (.int zc1), .val (.int zc2), .val (.int zc3), .val (.int zc4), .val (.ref za), .unset] [(.int (2 : Int32)), (.ref za)])
    refine own_go (fun t k => XS.iload X62.here hx rfl (hb hby at_79) rfl  k) ?_
    show own_WP _ _ _ _ T62 (mkF m 81 #[.val (.int zn), .val (.int x0), .val (.int x1), .val (.int x2), .val (.int x3), .val (.int x4), .val (.int (3 : Int32)), .val (.int zc0), .val (.int zc1), .val (.int zc2), .val (.int zc3), .val (.int zc4), .val (.ref za), .unset] [(.int zc2), (.int (2 : Int32)), (.ref za)])
    refine own_stB X62 hx hZ e62 f63 (j := (2 : Int32)) ⟨by decide, by decide⟩ (i := 2) rfl (Nat.le_of_ble_eq_true rfl) (hb hby at_81) ?_
    intro T67 h67 X67 e67 W67 V67
    have f68 : Arv Z h67 za k54 .byte (3 : Int32) [(.int (nar .byte zc0)), (.int (nar .byte zc1)), (.int (nar .byte zc2))] (.int (0 : Int32)) := V67
    have K70 : Keep h0 h67 [] := K65.wr W67 (Or.inr sz_za)
    have N71 := Fr.snoc X67 N66 g_za
    show own_WP _ _ _ _ T67 (mkF m 82 #[.val (.int zn), .val (.int x0), .val (.int x1), .val (.int x2), .val (.int x3), .val (.int x4), .val (.int (3 : Int32)), .val (.int zc0), .val (.int zc1), .val (.int zc2), .val (.int zc3), .val (.int zc4), .val (.ref za), .unset] [])
    refine own_go (fun t k => XS.iload X67.here hx rfl (hb hby at_82) rfl  k) ?_
    show own_WP _ _ _ _ T67 (mkF m 84 #[.val (.int zn), .val (.int x0), .val (.int x1), .val (.int x2), .val (.int x3), .val (.int x4), .val (.int (3 : Int32)), .val (.int zc0), .val (.int zc1), .val (.int zc2), .val (.int zc3), .val (.int zc4), .val (.ref za), .unset] [(.int (3 : Int32))])
    refine own_go (fun t k => XS.iconst X67.here hx rfl (hb hby at_84) k) ?_
    show own_WP _ _ _ _ T67 (mkF m 85 #[.val (.int zn), .val (.int x0), .val (.int x1), .val (.int x2), .val (.int x3), .val (.int x4), .val (.int (3 : Int32)), .val (.int zc0), .val (.int zc1), .val (.int zc2), .val (.int zc3), .val (.int zc4), .val (.ref za), .unset] [(.int (3 : Int32)), (.int (3 : Int32))])
    have hc85 : ¬ ((3 : Int32) < (3 : Int32)) := by decide
    refine own_go (fun t k => XS.icmpYes X67.here hx rfl (pc0 := 85) (pc' := 94) rfl (hb hby at_85) rfl (flt hc85).2.2.2 (by decide) (by decide) k) ?_
    show own_WP _ _ _ _ T67 (mkF m 94 #[.val (.int zn), .val (.int x0), .val (.int x1), .val (.int x2), .val (.int x3), .val (.int x4), .val (.int (3 : Int32)), .val (.int zc0), .val (.int zc1), .val (.int zc2), .val (.int zc3), .val (.int zc4), .val (.ref za), .unset] [])
    refine own_go (fun t k => XS.iload X67.here hx rfl (hb hby at_94) rfl  k) ?_
    show own_WP _ _ _ _ T67 (mkF m 96 #[.val (.int zn), .val (.int x0), .val (.int x1), .val (.int x2), .val (.int x3), .val (.int x4), .val (.int (3 : Int32)), .val (.int zc0), .val (.int zc1), .val (.int zc2), .val (.int zc3), .val (.int zc4), .val (.ref za), .unset] [(.int (3 : Int32))])
    refine own_go (fun t k => XS.iconst X67.here hx rfl (hb hby at_96) k) ?_
    show own_WP _ _ _ _ T67 (mkF m 97 #[.val (.int zn), .val (.int x0), .val (.int x1), .val (.int x2), .val (.int x3), .val (.int x4), .val (.int (3 : Int32)), .val (.int zc0), .val (.int zc1), .val (.int zc2), .val (.int zc3), .val (.int zc4), .val (.ref za), .unset] [(.int (4 : Int32)), (.int (3 : Int32))])
    have hc97 : ¬ ((4 : Int32) < (3 : Int32)) := by decide
    refine own_go (fun t k => XS.icmpYes X67.here hx rfl (pc0 := 97) (pc' := 106) rfl (hb hby at_97) rfl (flt hc97).2.2.2 (by decide) (by decide) k) ?_
    show own_WP _ _ _ _ T67 (mkF m 106 #[.val (.int zn), .val (.int x0), .val (.int x1), .val (.int x2), .val (.int x3), .val (.int x4), .val (.int (3 : Int32)), .val (.int zc0), .val (.int zc1), .val (.int zc2), .val (.int zc3), .val (.int zc4), .val (.ref za), .unset] [])
    refine own_go (fun t k => XS.iload X67.here hx rfl (hb hby at_106) rfl  k) ?_
    show own_WP _ _ _ _ T67 (mkF m 108 #[.val (.int zn), .val (.int x0), .val (.int x1), .val (.int x2), .val (.int x3), .val (.int x4), .val (.int (3 : Int32)), .val (.int zc0), .val (.int zc1), .val (.int zc2), .val (.int zc3), .val (.int zc4), .val (.ref za), .unset] [(.int (3 : Int32))])
    refine own_go (fun t k => XS.iconst X67.here hx rfl (hb hby at_108) k) ?_
    show own_WP _ _ _ _ T67 (mkF m 109 #[.val (.int zn), .val (.int x0), .val (.int x1), .val (.int x2), .val (.int x3), .val (.int x4), .val (.int (3 : Int32)), .val (.int zc0), .val (.int zc1), .val (.int zc2), .val (.int zc3), .val (.int zc4), .val (.ref za), .unset] [(.int (1 : Int32)), (.int (3 : Int32))])
    have hc109 : ¬ ((3 : Int32) < (1 : Int32)) := by decide
    refine own_go (fun t k => XS.icmpNo X67.here hx rfl (hb hby at_109) rfl (flt hc109).1 k) ?_
    show own_WP _ _ _ _ T67 (mkF m 112 #[.val (.int zn), .val (.int x0), .val (.int x1), .val (.int x2), .val (.int x3), .val (.int x4), .val (.int (3 : Int32)), .val (.int zc0), .val (.int zc1), .val (.int zc2), .val (.int zc3), .val (.int zc4), .val (.ref za), .unset] [])
    refine own_go (fun t k => XS.iload X67.here hx rfl (hb hby at_112) rfl  k) ?_
    show own_WP _ _ _ _ T67 (mkF m 114 #[.val (.int zn), .val (.int x0), .val (.int x1), .val (.int x2), .val (.int x3), .val (.int x4), .val (.int (3 : Int32)), .val (.int zc0), .val (.int zc1), .val (.int zc2), .val (.int zc3), .val (.int zc4), .val (.ref za), .unset] [(.int zc0)])
    obtain ⟨_, _, ⟨T72, L72, k72, n72⟩, -, X72, ⟨Lc72, hQ72, l72, y72, z72⟩, st72⟩ := Jvm.LawKit.callS X67 hx (y := (⟨"com/example/soak/soak/sip/SipMessageIsKeepAlivePinLaw", "ws", "(B)Z"⟩ : MethodName)) hown (mvT hZ (hw _ (List.mem_of_getElem? (i := 10) rfl))) (mvT hZ (hw _ (List.mem_of_getElem? (i := 11) rfl))) (mvT hZ (hw _ (List.mem_of_getElem? (i := 3) rfl))) (mvT hZ (hw _ (List.mem_of_getElem? (i := 12) rfl))) (by decide) (backOf (W := 0) (rm3 l Z a0 hw [] zc0  h67 n0 (own_le Z0 K70) ) hZ (hw _ (List.mem_of_getElem? (i := 12) rfl)) (hw _ (List.mem_of_getElem? (i := 3) rfl)) (by decide) (by decide)) (g := (mkF m 114 #[.val (.int zn), .val (.int x0), .val (.int x1), .val (.int x2), .val (.int x3), .val (.int x4), .val (.int (3 : Int32)), .val (.int zc0), .val (.int zc1), .val (.int zc2), .val (.int zc3), .val (.int zc4), .val (.ref za), .unset] [(.int zc0)])) rfl (by rw [hml]; rfl) (argsL := [(.int zc0)]) (rest := []) (lenOf own_pd61727 rfl) rfl (by show 2 * 0 + _ ≤ _; exact Nat.le_of_eq rfl) (hb hby at_114) (fun _ _ => ⟨rfl, e67, (by decide : 1 + 0 ≤ _), (by decide : 3 + 0 ≤ _)⟩)
    dsimp only [Pt.U, Pt.locs, Pt.cells, Pt.slots] at X72 l72 y72 z72 st72 hQ72
    subst l72 y72 z72
    obtain ⟨rfl, N72q, eq72⟩ := hQ72
    have N72 := Fr.app N71 N72q
    refine own_go st72 ?_
    show own_WP _ _ _ _ T72 (mkF m 117 #[.val (.int zn), .val (.int x0), .val (.int x1), .val (.int x2), .val (.int x3), .val (.int x4), .val (.int (3 : Int32)), .val (.int zc0), .val (.int zc1), .val (.int zc2), .val (.int zc3), .val (.int zc4), .val (.ref za), .unset] [(.int (own_ws zc0))])
    by_cases hc117 : (own_ws zc0) = (0 : Int32)
    · refine own_go (fun t k => XS.ifYes X72.here hx rfl (pc0 := 117) (pc' := 180) rfl (hb hby at_117) rfl ((if0 _ _).trans (teq hc117).1) (by decide) (by decide) k) ?_
      show own_WP _ _ _ _ T72 (mkF m 180 #[.val (.int zn), .val (.int x0), .val (.int x1), .val (.int x2), .val (.int x3), .val (.int x4), .val (.int (3 : Int32)), .val (.int zc0), .val (.int zc1), .val (.int zc2), .val (.int zc3), .val (.int zc4), .val (.ref za), .unset] [])
      refine own_go (fun t k => XS.iconst X72.here hx rfl (hb hby at_180) k) ?_
      show own_WP _ _ _ _ T72 (mkF m 181 #[.val (.int zn), .val (.int x0), .val (.int x1), .val (.int x2), .val (.int x3), .val (.int x4), .val (.int (3 : Int32)), .val (.int zc0), .val (.int zc1), .val (.int zc2), .val (.int zc3), .val (.int zc4), .val (.ref za), .unset] [(.int (0 : Int32))])
      refine own_go (fun t k => XS.istore X72.here hx rfl (hb hby at_181) rfl (l' := #[.val (.int zn), .val (.int x0), .val (.int x1), .val (.int x2), .val (.int x3), .val (.int x4), .val (.int (3 : Int32)), .val (.int zc0), .val (.int zc1), .val (.int zc2), .val (.int zc3), .val (.int zc4), .val (.ref za), .val (.int (0 : Int32))]) rfl k) ?_
      show own_WP _ _ _ _ T72 (mkF m 183 #[.val (.int zn), .val (.int x0), .val (.int x1), .val (.int x2), .val (.int x3), .val (.int x4), .val (.int (3 : Int32)), .val (.int zc0), .val (.int zc1), .val (.int zc2), .val (.int zc3), .val (.int zc4), .val (.ref za), .val (.int (0 : Int32))] [])
      refine own_go (fun t k => XS.aload X72.here hx rfl (hb hby at_183) rfl rfl  k) ?_
      show own_WP _ _ _ _ T72 (mkF m 185 #[.val (.int zn), .val (.int x0), .val (.int x1), .val (.int x2), .val (.int x3), .val (.int x4), .val (.int (3 : Int32)), .val (.int zc0), .val (.int zc1), .val (.int zc2), .val (.int zc3), .val (.int zc4), .val (.ref za), .val (.int (0 : Int32))] [(.ref za)])
      obtain ⟨_, _, ⟨T73, L73, k73, n73⟩, -, X73, ⟨Lc73, hQ73, l73, y73, z73⟩, st73⟩ := Jvm.LawKit.callS X72 hx (y := (⟨"com/example/soak/soak/sip/SipMessage", "isKeepAlive", "([B)Z"⟩ : MethodName)) hown (mvT hZ (hw _ (List.mem_of_getElem? (i := 6) rfl))) (mvT hZ (hw _ (List.mem_of_getElem? (i := 7) rfl))) (mvT hZ (hw _ (List.mem_of_getElem? (i := 8) rfl))) (mvT hZ (hw _ (List.mem_of_getElem? (i := 9) rfl))) (by decide) (backOf (W := 0) (rm2 l Z a0 hw [] za k54 (3 : Int32) [(nar .byte zc0), (nar .byte zc1), (nar .byte zc2)] h67 n0 (own_le Z0 K70) (f68) (show 0 ≤ (3 : Int32).toInt from by decide) (show ([(nar .byte zc0), (nar .byte zc1), (nar .byte zc2)].length : Int) = (3 : Int32).toInt from rfl)) hZ (hw _ (List.mem_of_getElem? (i := 9) rfl)) (hw _ (List.mem_of_getElem? (i := 8) rfl)) (by decide) (by decide)) (g := (mkF m 185 #[.val (.int zn), .val (.int x0), .val (.int x1), .val (.int x2), .val (.int x3), .val (.int x4), .val (.int (3 : Int32)), .val (.int zc0), .val (.int zc1), .val (.int zc2), .val (.int zc3), .val (.int zc4), .val (.ref za), .val (.int (0 : Int32))] [(.ref za)])) rfl (by rw [hml]; rfl) (argsL := [(.ref za)]) (rest := []) (lenOf own_pd76616 rfl) rfl (by show 2 * 0 + _ ≤ _; exact Nat.le_of_eq rfl) (hb hby at_185) (fun _ _ => ⟨rfl, eq72, (by decide : 1 + 0 ≤ _), (by decide : 3 + 0 ≤ _)⟩)
      dsimp only [Pt.U, Pt.locs, Pt.cells, Pt.slots] at X73 l73 y73 z73 st73 hQ73
      subst l73 y73 z73
      obtain ⟨rfl, N73q, eq73⟩ := hQ73
      have N73 := Fr.app N72 N73q
      refine own_go st73 ?_
      show own_WP _ _ _ _ T73 (mkF m 188 #[.val (.int zn), .val (.int x0), .val (.int x1), .val (.int x2), .val (.int x3), .val (.int x4), .val (.int (3 : Int32)), .val (.int zc0), .val (.int zc1), .val (.int zc2), .val (.int zc3), .val (.int zc4), .val (.ref za), .val (.int (0 : Int32))] [(.int (own_ka [(nar .byte zc0), (nar .byte zc1), (nar .byte zc2)]))])
      refine own_go (fun t k => XS.iload X73.here hx rfl (hb hby at_188) rfl  k) ?_
      show own_WP _ _ _ _ T73 (mkF m 190 #[.val (.int zn), .val (.int x0), .val (.int x1), .val (.int x2), .val (.int x3), .val (.int x4), .val (.int (3 : Int32)), .val (.int zc0), .val (.int zc1), .val (.int zc2), .val (.int zc3), .val (.int zc4), .val (.ref za), .val (.int (0 : Int32))] [(.int (0 : Int32)), (.int (own_ka [(nar .byte zc0), (nar .byte zc1), (nar .byte zc2)]))])
      have hc190 : (own_ka [(nar .byte zc0), (nar .byte zc1), (nar .byte zc2)]) = (0 : Int32) := by
        simp [own_ka, hr_49, hr_50, hr_51, hr_52, hr_53, hc117]
      refine own_go (fun t k => XS.icmpNo X73.here hx rfl (hb hby at_190) rfl (teq hc190).2 k) ?_
      show own_WP _ _ _ _ T73 (mkF m 193 #[.val (.int zn), .val (.int x0), .val (.int x1), .val (.int x2), .val (.int x3), .val (.int x4), .val (.int (3 : Int32)), .val (.int zc0), .val (.int zc1), .val (.int zc2), .val (.int zc3), .val (.int zc4), .val (.ref za), .val (.int (0 : Int32))] [])
      refine own_go (fun t k => XS.iconst X73.here hx rfl (hb hby at_193) k) ?_
      show own_WP _ _ _ _ T73 (mkF m 194 #[.val (.int zn), .val (.int x0), .val (.int x1), .val (.int x2), .val (.int x3), .val (.int x4), .val (.int (3 : Int32)), .val (.int zc0), .val (.int zc1), .val (.int zc2), .val (.int zc3), .val (.int zc4), .val (.ref za), .val (.int (0 : Int32))] [(.int (1 : Int32))])
      refine own_go (fun t k => XS.goto X73.here hx rfl (pc0 := 194) (pc' := 198) rfl (hb hby at_194) (by decide) (by decide) k) ?_
      show own_WP _ _ _ _ T73 (mkF m 198 #[.val (.int zn), .val (.int x0), .val (.int x1), .val (.int x2), .val (.int x3), .val (.int x4), .val (.int (3 : Int32)), .val (.int zc0), .val (.int zc1), .val (.int zc2), .val (.int zc3), .val (.int zc4), .val (.ref za), .val (.int (0 : Int32))] [(.int (1 : Int32))])
      refine own_retN X73 hx Bd.notSynchronized (t := .boolean) (by simp) Bd.returns (hb hby at_198) (by decide) (by decide) ?_
      rw [eq73]
      exact ⟨rfl, N73⟩
    · refine own_go (fun t k => XS.ifNo X72.here hx rfl (hb hby at_117) rfl ((if0 _ _).trans (feq hc117).1) k) ?_
      show own_WP _ _ _ _ T72 (mkF m 120 #[.val (.int zn), .val (.int x0), .val (.int x1), .val (.int x2), .val (.int x3), .val (.int x4), .val (.int (3 : Int32)), .val (.int zc0), .val (.int zc1), .val (.int zc2), .val (.int zc3), .val (.int zc4), .val (.ref za), .unset] [])
      refine own_go (fun t k => XS.iload X72.here hx rfl (hb hby at_120) rfl  k) ?_
      show own_WP _ _ _ _ T72 (mkF m 122 #[.val (.int zn), .val (.int x0), .val (.int x1), .val (.int x2), .val (.int x3), .val (.int x4), .val (.int (3 : Int32)), .val (.int zc0), .val (.int zc1), .val (.int zc2), .val (.int zc3), .val (.int zc4), .val (.ref za), .unset] [(.int (3 : Int32))])
      refine own_go (fun t k => XS.iconst X72.here hx rfl (hb hby at_122) k) ?_
      show own_WP _ _ _ _ T72 (mkF m 123 #[.val (.int zn), .val (.int x0), .val (.int x1), .val (.int x2), .val (.int x3), .val (.int x4), .val (.int (3 : Int32)), .val (.int zc0), .val (.int zc1), .val (.int zc2), .val (.int zc3), .val (.int zc4), .val (.ref za), .unset] [(.int (2 : Int32)), (.int (3 : Int32))])
      have hc123 : ¬ ((3 : Int32) < (2 : Int32)) := by decide
      refine own_go (fun t k => XS.icmpNo X72.here hx rfl (hb hby at_123) rfl (flt hc123).1 k) ?_
      show own_WP _ _ _ _ T72 (mkF m 126 #[.val (.int zn), .val (.int x0), .val (.int x1), .val (.int x2), .val (.int x3), .val (.int x4), .val (.int (3 : Int32)), .val (.int zc0), .val (.int zc1), .val (.int zc2), .val (.int zc3), .val (.int zc4), .val (.ref za), .unset] [])
      refine own_go (fun t k => XS.iload X72.here hx rfl (hb hby at_126) rfl  k) ?_
      show own_WP _ _ _ _ T72 (mkF m 128 #[.val (.int zn), .val (.int x0), .val (.int x1), .val (.int x2), .val (.int x3), .val (.int x4), .val (.int (3 : Int32)), .val (.int zc0), .val (.int zc1), .val (.int zc2), .val (.int zc3), .val (.int zc4), .val (.ref za), .unset] [(.int zc1)])
      obtain ⟨_, _, ⟨T74, L74, k74, n74⟩, -, X74, ⟨Lc74, hQ74, l74, y74, z74⟩, st74⟩ := Jvm.LawKit.callS X72 hx (y := (⟨"com/example/soak/soak/sip/SipMessageIsKeepAlivePinLaw", "ws", "(B)Z"⟩ : MethodName)) hown (mvT hZ (hw _ (List.mem_of_getElem? (i := 10) rfl))) (mvT hZ (hw _ (List.mem_of_getElem? (i := 11) rfl))) (mvT hZ (hw _ (List.mem_of_getElem? (i := 3) rfl))) (mvT hZ (hw _ (List.mem_of_getElem? (i := 12) rfl))) (by decide) (backOf (W := 0) (rm3 l Z a0 hw [] zc1  h67 n0 (own_le Z0 K70) ) hZ (hw _ (List.mem_of_getElem? (i := 12) rfl)) (hw _ (List.mem_of_getElem? (i := 3) rfl)) (by decide) (by decide)) (g := (mkF m 128 #[.val (.int zn), .val (.int x0), .val (.int x1), .val (.int x2), .val (.int x3), .val (.int x4), .val (.int (3 : Int32)), .val (.int zc0), .val (.int zc1), .val (.int zc2), .val (.int zc3), .val (.int zc4), .val (.ref za), .unset] [(.int zc1)])) rfl (by rw [hml]; rfl) (argsL := [(.int zc1)]) (rest := []) (lenOf own_pd61727 rfl) rfl (by show 2 * 0 + _ ≤ _; exact Nat.le_of_eq rfl) (hb hby at_128) (fun _ _ => ⟨rfl, eq72, (by decide : 1 + 0 ≤ _), (by decide : 3 + 0 ≤ _)⟩)
      dsimp only [Pt.U, Pt.locs, Pt.cells, Pt.slots] at X74 l74 y74 z74 st74 hQ74
      subst l74 y74 z74
      obtain ⟨rfl, N74q, eq74⟩ := hQ74
      have N74 := Fr.app N72 N74q
      refine own_go st74 ?_
      show own_WP _ _ _ _ T74 (mkF m 131 #[.val (.int zn), .val (.int x0), .val (.int x1), .val (.int x2), .val (.int x3), .val (.int x4), .val (.int (3 : Int32)), .val (.int zc0), .val (.int zc1), .val (.int zc2), .val (.int zc3), .val (.int zc4), .val (.ref za), .unset] [(.int (own_ws zc1))])
      by_cases hc131 : (own_ws zc1) = (0 : Int32)
      · refine own_go (fun t k => XS.ifYes X74.here hx rfl (pc0 := 131) (pc' := 180) rfl (hb hby at_131) rfl ((if0 _ _).trans (teq hc131).1) (by decide) (by decide) k) ?_
        show own_WP _ _ _ _ T74 (mkF m 180 #[.val (.int zn), .val (.int x0), .val (.int x1), .val (.int x2), .val (.int x3), .val (.int x4), .val (.int (3 : Int32)), .val (.int zc0), .val (.int zc1), .val (.int zc2), .val (.int zc3), .val (.int zc4), .val (.ref za), .unset] [])
        refine own_go (fun t k => XS.iconst X74.here hx rfl (hb hby at_180) k) ?_
        show own_WP _ _ _ _ T74 (mkF m 181 #[.val (.int zn), .val (.int x0), .val (.int x1), .val (.int x2), .val (.int x3), .val (.int x4), .val (.int (3 : Int32)), .val (.int zc0), .val (.int zc1), .val (.int zc2), .val (.int zc3), .val (.int zc4), .val (.ref za), .unset] [(.int (0 : Int32))])
        refine own_go (fun t k => XS.istore X74.here hx rfl (hb hby at_181) rfl (l' := #[.val (.int zn), .val (.int x0), .val (.int x1), .val (.int x2), .val (.int x3), .val (.int x4), .val (.int (3 : Int32)), .val (.int zc0), .val (.int zc1), .val (.int zc2), .val (.int zc3), .val (.int zc4), .val (.ref za), .val (.int (0 : Int32))]) rfl k) ?_
        show own_WP _ _ _ _ T74 (mkF m 183 #[.val (.int zn), .val (.int x0), .val (.int x1), .val (.int x2), .val (.int x3), .val (.int x4), .val (.int (3 : Int32)), .val (.int zc0), .val (.int zc1), .val (.int zc2), .val (.int zc3), .val (.int zc4), .val (.ref za), .val (.int (0 : Int32))] [])
        refine own_go (fun t k => XS.aload X74.here hx rfl (hb hby at_183) rfl rfl  k) ?_
        show own_WP _ _ _ _ T74 (mkF m 185 #[.val (.int zn), .val (.int x0), .val (.int x1), .val (.int x2), .val (.int x3), .val (.int x4), .val (.int (3 : Int32)), .val (.int zc0), .val (.int zc1), .val (.int zc2), .val (.int zc3), .val (.int zc4), .val (.ref za), .val (.int (0 : Int32))] [(.ref za)])
        obtain ⟨_, _, ⟨T75, L75, k75, n75⟩, -, X75, ⟨Lc75, hQ75, l75, y75, z75⟩, st75⟩ := Jvm.LawKit.callS X74 hx (y := (⟨"com/example/soak/soak/sip/SipMessage", "isKeepAlive", "([B)Z"⟩ : MethodName)) hown (mvT hZ (hw _ (List.mem_of_getElem? (i := 6) rfl))) (mvT hZ (hw _ (List.mem_of_getElem? (i := 7) rfl))) (mvT hZ (hw _ (List.mem_of_getElem? (i := 8) rfl))) (mvT hZ (hw _ (List.mem_of_getElem? (i := 9) rfl))) (by decide) (backOf (W := 0) (rm2 l Z a0 hw [] za k54 (3 : Int32) [(nar .byte zc0), (nar .byte zc1), (nar .byte zc2)] h67 n0 (own_le Z0 K70) (f68) (show 0 ≤ (3 : Int32).toInt from by decide) (show ([(nar .byte zc0), (nar .byte zc1), (nar .byte zc2)].length : Int) = (3 : Int32).toInt from rfl)) hZ (hw _ (List.mem_of_getElem? (i := 9) rfl)) (hw _ (List.mem_of_getElem? (i := 8) rfl)) (by decide) (by decide)) (g := (mkF m 185 #[.val (.int zn), .val (.int x0), .val (.int x1), .val (.int x2), .val (.int x3), .val (.int x4), .val (.int (3 : Int32)), .val (.int zc0), .val (.int zc1), .val (.int zc2), .val (.int zc3), .val (.int zc4), .val (.ref za), .val (.int (0 : Int32))] [(.ref za)])) rfl (by rw [hml]; rfl) (argsL := [(.ref za)]) (rest := []) (lenOf own_pd76616 rfl) rfl (by show 2 * 0 + _ ≤ _; exact Nat.le_of_eq rfl) (hb hby at_185) (fun _ _ => ⟨rfl, eq74, (by decide : 1 + 0 ≤ _), (by decide : 3 + 0 ≤ _)⟩)
        dsimp only [Pt.U, Pt.locs, Pt.cells, Pt.slots] at X75 l75 y75 z75 st75 hQ75
        subst l75 y75 z75
        obtain ⟨rfl, N75q, eq75⟩ := hQ75
        have N75 := Fr.app N74 N75q
        refine own_go st75 ?_
        show own_WP _ _ _ _ T75 (mkF m 188 #[.val (.int zn), .val (.int x0), .val (.int x1), .val (.int x2), .val (.int x3), .val (.int x4), .val (.int (3 : Int32)), .val (.int zc0), .val (.int zc1), .val (.int zc2), .val (.int zc3), .val (.int zc4), .val (.ref za), .val (.int (0 : Int32))] [(.int (own_ka [(nar .byte zc0), (nar .byte zc1), (nar .byte zc2)]))])
        refine own_go (fun t k => XS.iload X75.here hx rfl (hb hby at_188) rfl  k) ?_
        show own_WP _ _ _ _ T75 (mkF m 190 #[.val (.int zn), .val (.int x0), .val (.int x1), .val (.int x2), .val (.int x3), .val (.int x4), .val (.int (3 : Int32)), .val (.int zc0), .val (.int zc1), .val (.int zc2), .val (.int zc3), .val (.int zc4), .val (.ref za), .val (.int (0 : Int32))] [(.int (0 : Int32)), (.int (own_ka [(nar .byte zc0), (nar .byte zc1), (nar .byte zc2)]))])
        have hc190 : (own_ka [(nar .byte zc0), (nar .byte zc1), (nar .byte zc2)]) = (0 : Int32) := by
          simp [own_ka, hr_49, hr_50, hr_51, hr_52, hr_53, hc117, hc131]
        refine own_go (fun t k => XS.icmpNo X75.here hx rfl (hb hby at_190) rfl (teq hc190).2 k) ?_
        show own_WP _ _ _ _ T75 (mkF m 193 #[.val (.int zn), .val (.int x0), .val (.int x1), .val (.int x2), .val (.int x3), .val (.int x4), .val (.int (3 : Int32)), .val (.int zc0), .val (.int zc1), .val (.int zc2), .val (.int zc3), .val (.int zc4), .val (.ref za), .val (.int (0 : Int32))] [])
        refine own_go (fun t k => XS.iconst X75.here hx rfl (hb hby at_193) k) ?_
        show own_WP _ _ _ _ T75 (mkF m 194 #[.val (.int zn), .val (.int x0), .val (.int x1), .val (.int x2), .val (.int x3), .val (.int x4), .val (.int (3 : Int32)), .val (.int zc0), .val (.int zc1), .val (.int zc2), .val (.int zc3), .val (.int zc4), .val (.ref za), .val (.int (0 : Int32))] [(.int (1 : Int32))])
        refine own_go (fun t k => XS.goto X75.here hx rfl (pc0 := 194) (pc' := 198) rfl (hb hby at_194) (by decide) (by decide) k) ?_
        show own_WP _ _ _ _ T75 (mkF m 198 #[.val (.int zn), .val (.int x0), .val (.int x1), .val (.int x2), .val (.int x3), .val (.int x4), .val (.int (3 : Int32)), .val (.int zc0), .val (.int zc1), .val (.int zc2), .val (.int zc3), .val (.int zc4), .val (.ref za), .val (.int (0 : Int32))] [(.int (1 : Int32))])
        refine own_retN X75 hx Bd.notSynchronized (t := .boolean) (by simp) Bd.returns (hb hby at_198) (by decide) (by decide) ?_
        rw [eq75]
        exact ⟨rfl, N75⟩
      · refine own_go (fun t k => XS.ifNo X74.here hx rfl (hb hby at_131) rfl ((if0 _ _).trans (feq hc131).1) k) ?_
        show own_WP _ _ _ _ T74 (mkF m 134 #[.val (.int zn), .val (.int x0), .val (.int x1), .val (.int x2), .val (.int x3), .val (.int x4), .val (.int (3 : Int32)), .val (.int zc0), .val (.int zc1), .val (.int zc2), .val (.int zc3), .val (.int zc4), .val (.ref za), .unset] [])
        refine own_go (fun t k => XS.iload X74.here hx rfl (hb hby at_134) rfl  k) ?_
        show own_WP _ _ _ _ T74 (mkF m 136 #[.val (.int zn), .val (.int x0), .val (.int x1), .val (.int x2), .val (.int x3), .val (.int x4), .val (.int (3 : Int32)), .val (.int zc0), .val (.int zc1), .val (.int zc2), .val (.int zc3), .val (.int zc4), .val (.ref za), .unset] [(.int (3 : Int32))])
        refine own_go (fun t k => XS.iconst X74.here hx rfl (hb hby at_136) k) ?_
        show own_WP _ _ _ _ T74 (mkF m 137 #[.val (.int zn), .val (.int x0), .val (.int x1), .val (.int x2), .val (.int x3), .val (.int x4), .val (.int (3 : Int32)), .val (.int zc0), .val (.int zc1), .val (.int zc2), .val (.int zc3), .val (.int zc4), .val (.ref za), .unset] [(.int (3 : Int32)), (.int (3 : Int32))])
        have hc137 : ¬ ((3 : Int32) < (3 : Int32)) := by decide
        refine own_go (fun t k => XS.icmpNo X74.here hx rfl (hb hby at_137) rfl (flt hc137).1 k) ?_
        show own_WP _ _ _ _ T74 (mkF m 140 #[.val (.int zn), .val (.int x0), .val (.int x1), .val (.int x2), .val (.int x3), .val (.int x4), .val (.int (3 : Int32)), .val (.int zc0), .val (.int zc1), .val (.int zc2), .val (.int zc3), .val (.int zc4), .val (.ref za), .unset] [])
        refine own_go (fun t k => XS.iload X74.here hx rfl (hb hby at_140) rfl  k) ?_
        show own_WP _ _ _ _ T74 (mkF m 142 #[.val (.int zn), .val (.int x0), .val (.int x1), .val (.int x2), .val (.int x3), .val (.int x4), .val (.int (3 : Int32)), .val (.int zc0), .val (.int zc1), .val (.int zc2), .val (.int zc3), .val (.int zc4), .val (.ref za), .unset] [(.int zc2)])
        obtain ⟨_, _, ⟨T76, L76, k76, n76⟩, -, X76, ⟨Lc76, hQ76, l76, y76, z76⟩, st76⟩ := Jvm.LawKit.callS X74 hx (y := (⟨"com/example/soak/soak/sip/SipMessageIsKeepAlivePinLaw", "ws", "(B)Z"⟩ : MethodName)) hown (mvT hZ (hw _ (List.mem_of_getElem? (i := 10) rfl))) (mvT hZ (hw _ (List.mem_of_getElem? (i := 11) rfl))) (mvT hZ (hw _ (List.mem_of_getElem? (i := 3) rfl))) (mvT hZ (hw _ (List.mem_of_getElem? (i := 12) rfl))) (by decide) (backOf (W := 0) (rm3 l Z a0 hw [] zc2  h67 n0 (own_le Z0 K70) ) hZ (hw _ (List.mem_of_getElem? (i := 12) rfl)) (hw _ (List.mem_of_getElem? (i := 3) rfl)) (by decide) (by decide)) (g := (mkF m 142 #[.val (.int zn), .val (.int x0), .val (.int x1), .val (.int x2), .val (.int x3), .val (.int x4), .val (.int (3 : Int32)), .val (.int zc0), .val (.int zc1), .val (.int zc2), .val (.int zc3), .val (.int zc4), .val (.ref za), .unset] [(.int zc2)])) rfl (by rw [hml]; rfl) (argsL := [(.int zc2)]) (rest := []) (lenOf own_pd61727 rfl) rfl (by show 2 * 0 + _ ≤ _; exact Nat.le_of_eq rfl) (hb hby at_142) (fun _ _ => ⟨rfl, eq74, (by decide : 1 + 0 ≤ _), (by decide : 3 + 0 ≤ _)⟩)
        dsimp only [Pt.U, Pt.locs, Pt.cells, Pt.slots] at X76 l76 y76 z76 st76 hQ76
        subst l76 y76 z76
        obtain ⟨rfl, N76q, eq76⟩ := hQ76
        have N76 := Fr.app N74 N76q
        refine own_go st76 ?_
        show own_WP _ _ _ _ T76 (mkF m 145 #[.val (.int zn), .val (.int x0), .val (.int x1), .val (.int x2), .val (.int x3), .val (.int x4), .val (.int (3 : Int32)), .val (.int zc0), .val (.int zc1), .val (.int zc2), .val (.int zc3), .val (.int zc4), .val (.ref za), .unset] [(.int (own_ws zc2))])
        by_cases hc145 : (own_ws zc2) = (0 : Int32)
        · refine own_go (fun t k => XS.ifYes X76.here hx rfl (pc0 := 145) (pc' := 180) rfl (hb hby at_145) rfl ((if0 _ _).trans (teq hc145).1) (by decide) (by decide) k) ?_
          show own_WP _ _ _ _ T76 (mkF m 180 #[.val (.int zn), .val (.int x0), .val (.int x1), .val (.int x2), .val (.int x3), .val (.int x4), .val (.int (3 : Int32)), .val (.int zc0), .val (.int zc1), .val (.int zc2), .val (.int zc3), .val (.int zc4), .val (.ref za), .unset] [])
          refine own_go (fun t k => XS.iconst X76.here hx rfl (hb hby at_180) k) ?_
          show own_WP _ _ _ _ T76 (mkF m 181 #[.val (.int zn), .val (.int x0), .val (.int x1), .val (.int x2), .val (.int x3), .val (.int x4), .val (.int (3 : Int32)), .val (.int zc0), .val (.int zc1), .val (.int zc2), .val (.int zc3), .val (.int zc4), .val (.ref za), .unset] [(.int (0 : Int32))])
          refine own_go (fun t k => XS.istore X76.here hx rfl (hb hby at_181) rfl (l' := #[.val (.int zn), .val (.int x0), .val (.int x1), .val (.int x2), .val (.int x3), .val (.int x4), .val (.int (3 : Int32)), .val (.int zc0), .val (.int zc1), .val (.int zc2), .val (.int zc3), .val (.int zc4), .val (.ref za), .val (.int (0 : Int32))]) rfl k) ?_
          show own_WP _ _ _ _ T76 (mkF m 183 #[.val (.int zn), .val (.int x0), .val (.int x1), .val (.int x2), .val (.int x3), .val (.int x4), .val (.int (3 : Int32)), .val (.int zc0), .val (.int zc1), .val (.int zc2), .val (.int zc3), .val (.int zc4), .val (.ref za), .val (.int (0 : Int32))] [])
          refine own_go (fun t k => XS.aload X76.here hx rfl (hb hby at_183) rfl rfl  k) ?_
          show own_WP _ _ _ _ T76 (mkF m 185 #[.val (.int zn), .val (.int x0), .val (.int x1), .val (.int x2), .val (.int x3), .val (.int x4), .val (.int (3 : Int32)), .val (.int zc0), .val (.int zc1), .val (.int zc2), .val (.int zc3), .val (.int zc4), .val (.ref za), .val (.int (0 : Int32))] [(.ref za)])
          obtain ⟨_, _, ⟨T77, L77, k77, n77⟩, -, X77, ⟨Lc77, hQ77, l77, y77, z77⟩, st77⟩ := Jvm.LawKit.callS X76 hx (y := (⟨"com/example/soak/soak/sip/SipMessage", "isKeepAlive", "([B)Z"⟩ : MethodName)) hown (mvT hZ (hw _ (List.mem_of_getElem? (i := 6) rfl))) (mvT hZ (hw _ (List.mem_of_getElem? (i := 7) rfl))) (mvT hZ (hw _ (List.mem_of_getElem? (i := 8) rfl))) (mvT hZ (hw _ (List.mem_of_getElem? (i := 9) rfl))) (by decide) (backOf (W := 0) (rm2 l Z a0 hw [] za k54 (3 : Int32) [(nar .byte zc0), (nar .byte zc1), (nar .byte zc2)] h67 n0 (own_le Z0 K70) (f68) (show 0 ≤ (3 : Int32).toInt from by decide) (show ([(nar .byte zc0), (nar .byte zc1), (nar .byte zc2)].length : Int) = (3 : Int32).toInt from rfl)) hZ (hw _ (List.mem_of_getElem? (i := 9) rfl)) (hw _ (List.mem_of_getElem? (i := 8) rfl)) (by decide) (by decide)) (g := (mkF m 185 #[.val (.int zn), .val (.int x0), .val (.int x1), .val (.int x2), .val (.int x3), .val (.int x4), .val (.int (3 : Int32)), .val (.int zc0), .val (.int zc1), .val (.int zc2), .val (.int zc3), .val (.int zc4), .val (.ref za), .val (.int (0 : Int32))] [(.ref za)])) rfl (by rw [hml]; rfl) (argsL := [(.ref za)]) (rest := []) (lenOf own_pd76616 rfl) rfl (by show 2 * 0 + _ ≤ _; exact Nat.le_of_eq rfl) (hb hby at_185) (fun _ _ => ⟨rfl, eq76, (by decide : 1 + 0 ≤ _), (by decide : 3 + 0 ≤ _)⟩)
          dsimp only [Pt.U, Pt.locs, Pt.cells, Pt.slots] at X77 l77 y77 z77 st77 hQ77
          subst l77 y77 z77
          obtain ⟨rfl, N77q, eq77⟩ := hQ77
          have N77 := Fr.app N76 N77q
          refine own_go st77 ?_
          show own_WP _ _ _ _ T77 (mkF m 188 #[.val (.int zn), .val (.int x0), .val (.int x1), .val (.int x2), .val (.int x3), .val (.int x4), .val (.int (3 : Int32)), .val (.int zc0), .val (.int zc1), .val (.int zc2), .val (.int zc3), .val (.int zc4), .val (.ref za), .val (.int (0 : Int32))] [(.int (own_ka [(nar .byte zc0), (nar .byte zc1), (nar .byte zc2)]))])
          refine own_go (fun t k => XS.iload X77.here hx rfl (hb hby at_188) rfl  k) ?_
          show own_WP _ _ _ _ T77 (mkF m 190 #[.val (.int zn), .val (.int x0), .val (.int x1), .val (.int x2), .val (.int x3), .val (.int x4), .val (.int (3 : Int32)), .val (.int zc0), .val (.int zc1), .val (.int zc2), .val (.int zc3), .val (.int zc4), .val (.ref za), .val (.int (0 : Int32))] [(.int (0 : Int32)), (.int (own_ka [(nar .byte zc0), (nar .byte zc1), (nar .byte zc2)]))])
          have hc190 : (own_ka [(nar .byte zc0), (nar .byte zc1), (nar .byte zc2)]) = (0 : Int32) := by
            simp [own_ka, hr_49, hr_50, hr_51, hr_52, hr_53, hc117, hc131, hc145]
          refine own_go (fun t k => XS.icmpNo X77.here hx rfl (hb hby at_190) rfl (teq hc190).2 k) ?_
          show own_WP _ _ _ _ T77 (mkF m 193 #[.val (.int zn), .val (.int x0), .val (.int x1), .val (.int x2), .val (.int x3), .val (.int x4), .val (.int (3 : Int32)), .val (.int zc0), .val (.int zc1), .val (.int zc2), .val (.int zc3), .val (.int zc4), .val (.ref za), .val (.int (0 : Int32))] [])
          refine own_go (fun t k => XS.iconst X77.here hx rfl (hb hby at_193) k) ?_
          show own_WP _ _ _ _ T77 (mkF m 194 #[.val (.int zn), .val (.int x0), .val (.int x1), .val (.int x2), .val (.int x3), .val (.int x4), .val (.int (3 : Int32)), .val (.int zc0), .val (.int zc1), .val (.int zc2), .val (.int zc3), .val (.int zc4), .val (.ref za), .val (.int (0 : Int32))] [(.int (1 : Int32))])
          refine own_go (fun t k => XS.goto X77.here hx rfl (pc0 := 194) (pc' := 198) rfl (hb hby at_194) (by decide) (by decide) k) ?_
          show own_WP _ _ _ _ T77 (mkF m 198 #[.val (.int zn), .val (.int x0), .val (.int x1), .val (.int x2), .val (.int x3), .val (.int x4), .val (.int (3 : Int32)), .val (.int zc0), .val (.int zc1), .val (.int zc2), .val (.int zc3), .val (.int zc4), .val (.ref za), .val (.int (0 : Int32))] [(.int (1 : Int32))])
          refine own_retN X77 hx Bd.notSynchronized (t := .boolean) (by simp) Bd.returns (hb hby at_198) (by decide) (by decide) ?_
          rw [eq77]
          exact ⟨rfl, N77⟩
        · refine own_go (fun t k => XS.ifNo X76.here hx rfl (hb hby at_145) rfl ((if0 _ _).trans (feq hc145).1) k) ?_
          show own_WP _ _ _ _ T76 (mkF m 148 #[.val (.int zn), .val (.int x0), .val (.int x1), .val (.int x2), .val (.int x3), .val (.int x4), .val (.int (3 : Int32)), .val (.int zc0), .val (.int zc1), .val (.int zc2), .val (.int zc3), .val (.int zc4), .val (.ref za), .unset] [])
          refine own_go (fun t k => XS.iload X76.here hx rfl (hb hby at_148) rfl  k) ?_
          show own_WP _ _ _ _ T76 (mkF m 150 #[.val (.int zn), .val (.int x0), .val (.int x1), .val (.int x2), .val (.int x3), .val (.int x4), .val (.int (3 : Int32)), .val (.int zc0), .val (.int zc1), .val (.int zc2), .val (.int zc3), .val (.int zc4), .val (.ref za), .unset] [(.int (3 : Int32))])
          refine own_go (fun t k => XS.iconst X76.here hx rfl (hb hby at_150) k) ?_
          show own_WP _ _ _ _ T76 (mkF m 151 #[.val (.int zn), .val (.int x0), .val (.int x1), .val (.int x2), .val (.int x3), .val (.int x4), .val (.int (3 : Int32)), .val (.int zc0), .val (.int zc1), .val (.int zc2), .val (.int zc3), .val (.int zc4), .val (.ref za), .unset] [(.int (4 : Int32)), (.int (3 : Int32))])
          have hc151 : (3 : Int32) < (4 : Int32) := by decide
          refine own_go (fun t k => XS.icmpYes X76.here hx rfl (pc0 := 151) (pc' := 162) rfl (hb hby at_151) rfl (tlt hc151).1 (by decide) (by decide) k) ?_
          show own_WP _ _ _ _ T76 (mkF m 162 #[.val (.int zn), .val (.int x0), .val (.int x1), .val (.int x2), .val (.int x3), .val (.int x4), .val (.int (3 : Int32)), .val (.int zc0), .val (.int zc1), .val (.int zc2), .val (.int zc3), .val (.int zc4), .val (.ref za), .unset] [])
          refine own_go (fun t k => XS.iload X76.here hx rfl (hb hby at_162) rfl  k) ?_
          show own_WP _ _ _ _ T76 (mkF m 164 #[.val (.int zn), .val (.int x0), .val (.int x1), .val (.int x2), .val (.int x3), .val (.int x4), .val (.int (3 : Int32)), .val (.int zc0), .val (.int zc1), .val (.int zc2), .val (.int zc3), .val (.int zc4), .val (.ref za), .unset] [(.int (3 : Int32))])
          refine own_go (fun t k => XS.iconst X76.here hx rfl (hb hby at_164) k) ?_
          show own_WP _ _ _ _ T76 (mkF m 165 #[.val (.int zn), .val (.int x0), .val (.int x1), .val (.int x2), .val (.int x3), .val (.int x4), .val (.int (3 : Int32)), .val (.int zc0), .val (.int zc1), .val (.int zc2), .val (.int zc3), .val (.int zc4), .val (.ref za), .unset] [(.int (5 : Int32)), (.int (3 : Int32))])
          have hc165 : (3 : Int32) < (5 : Int32) := by decide
          refine own_go (fun t k => XS.icmpYes X76.here hx rfl (pc0 := 165) (pc' := 176) rfl (hb hby at_165) rfl (tlt hc165).1 (by decide) (by decide) k) ?_
          show own_WP _ _ _ _ T76 (mkF m 176 #[.val (.int zn), .val (.int x0), .val (.int x1), .val (.int x2), .val (.int x3), .val (.int x4), .val (.int (3 : Int32)), .val (.int zc0), .val (.int zc1), .val (.int zc2), .val (.int zc3), .val (.int zc4), .val (.ref za), .unset] [])
          refine own_go (fun t k => XS.iconst X76.here hx rfl (hb hby at_176) k) ?_
          show own_WP _ _ _ _ T76 (mkF m 177 #[.val (.int zn), .val (.int x0), .val (.int x1), .val (.int x2), .val (.int x3), .val (.int x4), .val (.int (3 : Int32)), .val (.int zc0), .val (.int zc1), .val (.int zc2), .val (.int zc3), .val (.int zc4), .val (.ref za), .unset] [(.int (1 : Int32))])
          refine own_go (fun t k => XS.goto X76.here hx rfl (pc0 := 177) (pc' := 181) rfl (hb hby at_177) (by decide) (by decide) k) ?_
          show own_WP _ _ _ _ T76 (mkF m 181 #[.val (.int zn), .val (.int x0), .val (.int x1), .val (.int x2), .val (.int x3), .val (.int x4), .val (.int (3 : Int32)), .val (.int zc0), .val (.int zc1), .val (.int zc2), .val (.int zc3), .val (.int zc4), .val (.ref za), .unset] [(.int (1 : Int32))])
          refine own_go (fun t k => XS.istore X76.here hx rfl (hb hby at_181) rfl (l' := #[.val (.int zn), .val (.int x0), .val (.int x1), .val (.int x2), .val (.int x3), .val (.int x4), .val (.int (3 : Int32)), .val (.int zc0), .val (.int zc1), .val (.int zc2), .val (.int zc3), .val (.int zc4), .val (.ref za), .val (.int (1 : Int32))]) rfl k) ?_
          show own_WP _ _ _ _ T76 (mkF m 183 #[.val (.int zn), .val (.int x0), .val (.int x1), .val (.int x2), .val (.int x3), .val (.int x4), .val (.int (3 : Int32)), .val (.int zc0), .val (.int zc1), .val (.int zc2), .val (.int zc3), .val (.int zc4), .val (.ref za), .val (.int (1 : Int32))] [])
          refine own_go (fun t k => XS.aload X76.here hx rfl (hb hby at_183) rfl rfl  k) ?_
          show own_WP _ _ _ _ T76 (mkF m 185 #[.val (.int zn), .val (.int x0), .val (.int x1), .val (.int x2), .val (.int x3), .val (.int x4), .val (.int (3 : Int32)), .val (.int zc0), .val (.int zc1), .val (.int zc2), .val (.int zc3), .val (.int zc4), .val (.ref za), .val (.int (1 : Int32))] [(.ref za)])
          obtain ⟨_, _, ⟨T78, L78, k78, n78⟩, -, X78, ⟨Lc78, hQ78, l78, y78, z78⟩, st78⟩ := Jvm.LawKit.callS X76 hx (y := (⟨"com/example/soak/soak/sip/SipMessage", "isKeepAlive", "([B)Z"⟩ : MethodName)) hown (mvT hZ (hw _ (List.mem_of_getElem? (i := 6) rfl))) (mvT hZ (hw _ (List.mem_of_getElem? (i := 7) rfl))) (mvT hZ (hw _ (List.mem_of_getElem? (i := 8) rfl))) (mvT hZ (hw _ (List.mem_of_getElem? (i := 9) rfl))) (by decide) (backOf (W := 0) (rm2 l Z a0 hw [] za k54 (3 : Int32) [(nar .byte zc0), (nar .byte zc1), (nar .byte zc2)] h67 n0 (own_le Z0 K70) (f68) (show 0 ≤ (3 : Int32).toInt from by decide) (show ([(nar .byte zc0), (nar .byte zc1), (nar .byte zc2)].length : Int) = (3 : Int32).toInt from rfl)) hZ (hw _ (List.mem_of_getElem? (i := 9) rfl)) (hw _ (List.mem_of_getElem? (i := 8) rfl)) (by decide) (by decide)) (g := (mkF m 185 #[.val (.int zn), .val (.int x0), .val (.int x1), .val (.int x2), .val (.int x3), .val (.int x4), .val (.int (3 : Int32)), .val (.int zc0), .val (.int zc1), .val (.int zc2), .val (.int zc3), .val (.int zc4), .val (.ref za), .val (.int (1 : Int32))] [(.ref za)])) rfl (by rw [hml]; rfl) (argsL := [(.ref za)]) (rest := []) (lenOf own_pd76616 rfl) rfl (by show 2 * 0 + _ ≤ _; exact Nat.le_of_eq rfl) (hb hby at_185) (fun _ _ => ⟨rfl, eq76, (by decide : 1 + 0 ≤ _), (by decide : 3 + 0 ≤ _)⟩)
          dsimp only [Pt.U, Pt.locs, Pt.cells, Pt.slots] at X78 l78 y78 z78 st78 hQ78
          subst l78 y78 z78
          obtain ⟨rfl, N78q, eq78⟩ := hQ78
          have N78 := Fr.app N76 N78q
          refine own_go st78 ?_
          show own_WP _ _ _ _ T78 (mkF m 188 #[.val (.int zn), .val (.int x0), .val (.int x1), .val (.int x2), .val (.int x3), .val (.int x4), .val (.int (3 : Int32)), .val (.int zc0), .val (.int zc1), .val (.int zc2), .val (.int zc3), .val (.int zc4), .val (.ref za), .val (.int (1 : Int32))] [(.int (own_ka [(nar .byte zc0), (nar .byte zc1), (nar .byte zc2)]))])
          refine own_go (fun t k => XS.iload X78.here hx rfl (hb hby at_188) rfl  k) ?_
          show own_WP _ _ _ _ T78 (mkF m 190 #[.val (.int zn), .val (.int x0), .val (.int x1), .val (.int x2), .val (.int x3), .val (.int x4), .val (.int (3 : Int32)), .val (.int zc0), .val (.int zc1), .val (.int zc2), .val (.int zc3), .val (.int zc4), .val (.ref za), .val (.int (1 : Int32))] [(.int (1 : Int32)), (.int (own_ka [(nar .byte zc0), (nar .byte zc1), (nar .byte zc2)]))])
          have hc190 : (own_ka [(nar .byte zc0), (nar .byte zc1), (nar .byte zc2)]) = (1 : Int32) := by
            simp [own_ka, hr_49, hr_50, hr_51, hr_52, hr_53, hc117, hc131, hc145]
          refine own_go (fun t k => XS.icmpNo X78.here hx rfl (hb hby at_190) rfl (teq hc190).2 k) ?_
          show own_WP _ _ _ _ T78 (mkF m 193 #[.val (.int zn), .val (.int x0), .val (.int x1), .val (.int x2), .val (.int x3), .val (.int x4), .val (.int (3 : Int32)), .val (.int zc0), .val (.int zc1), .val (.int zc2), .val (.int zc3), .val (.int zc4), .val (.ref za), .val (.int (1 : Int32))] [])
          refine own_go (fun t k => XS.iconst X78.here hx rfl (hb hby at_193) k) ?_
          show own_WP _ _ _ _ T78 (mkF m 194 #[.val (.int zn), .val (.int x0), .val (.int x1), .val (.int x2), .val (.int x3), .val (.int x4), .val (.int (3 : Int32)), .val (.int zc0), .val (.int zc1), .val (.int zc2), .val (.int zc3), .val (.int zc4), .val (.ref za), .val (.int (1 : Int32))] [(.int (1 : Int32))])
          refine own_go (fun t k => XS.goto X78.here hx rfl (pc0 := 194) (pc' := 198) rfl (hb hby at_194) (by decide) (by decide) k) ?_
          show own_WP _ _ _ _ T78 (mkF m 198 #[.val (.int zn), .val (.int x0), .val (.int x1), .val (.int x2), .val (.int x3), .val (.int x4), .val (.int (3 : Int32)), .val (.int zc0), .val (.int zc1), .val (.int zc2), .val (.int zc3), .val (.int zc4), .val (.ref za), .val (.int (1 : Int32))] [(.int (1 : Int32))])
          refine own_retN X78 hx Bd.notSynchronized (t := .boolean) (by simp) Bd.returns (hb hby at_198) (by decide) (by decide) ?_
          rw [eq78]
          exact ⟨rfl, N78⟩
  · rw [d_zm] at hl
    subst hl
    show own_WP _ _ _ _ s₁ (mkF m 9 #[.val (.int zn), .val (.int x0), .val (.int x1), .val (.int x2), .val (.int x3), .val (.int x4), .val (.int (4 : Int32)), .unset, .unset, .unset, .unset, .unset, .unset, .unset] [])
    refine own_go (fun t k => XS.iloadN X0.here hx rfl (hb hby at_9) rfl  k) ?_
    show own_WP _ _ _ _ s₁ (mkF m 10 #[.val (.int zn), .val (.int x0), .val (.int x1), .val (.int x2), .val (.int x3), .val (.int x4), .val (.int (4 : Int32)), .unset, .unset, .unset, .unset, .unset, .unset, .unset] [(.int x0)])
    obtain ⟨_, _, ⟨T79, L79, k79, n79⟩, -, X79, ⟨Lc79, hQ79, l79, y79, z79⟩, st79⟩ := Jvm.LawKit.callS X0 hx (y := (⟨"com/example/soak/soak/sip/SipMessageIsKeepAlivePinLaw", "pick", "(I)B"⟩ : MethodName)) hown (mvT hZ (hw _ (List.mem_of_getElem? (i := 1) rfl))) (mvT hZ (hw _ (List.mem_of_getElem? (i := 2) rfl))) (mvT hZ (hw _ (List.mem_of_getElem? (i := 3) rfl))) (mvT hZ (hw _ (List.mem_of_getElem? (i := 4) rfl))) (by decide) (backOf (W := 0) (rm1 l Z a0 hw [] x0  h0 n0 (own_le Z0 K0) ) hZ (hw _ (List.mem_of_getElem? (i := 4) rfl)) (hw _ (List.mem_of_getElem? (i := 3) rfl)) (by decide) (by decide)) (g := (mkF m 10 #[.val (.int zn), .val (.int x0), .val (.int x1), .val (.int x2), .val (.int x3), .val (.int x4), .val (.int (4 : Int32)), .unset, .unset, .unset, .unset, .unset, .unset, .unset] [(.int x0)])) rfl (by rw [hml]; rfl) (argsL := [(.int x0)]) (rest := []) (lenOf own_pd81830 rfl) rfl (by show 2 * 0 + _ ≤ _; exact Nat.le_of_eq rfl) (hb hby at_10) (fun _ _ => ⟨rfl, e0, (by decide : 0 + 0 ≤ _), (by decide : 0 + 0 ≤ _)⟩)
    dsimp only [Pt.U, Pt.locs, Pt.cells, Pt.slots] at X79 l79 y79 z79 st79 hQ79
    subst l79 y79 z79
    obtain ⟨zc0, rfl, N79q, eq79, hr_79⟩ := hQ79
    have N79 := Fr.app N0 N79q
    refine own_go st79 ?_
    show own_WP _ _ _ _ T79 (mkF m 13 #[.val (.int zn), .val (.int x0), .val (.int x1), .val (.int x2), .val (.int x3), .val (.int x4), .val (.int (4 : Int32)), .unset, .unset, .unset, .unset, .unset, .unset, .unset] [(.int zc0)])
    refine own_go (fun t k => XS.istore X79.here hx rfl (hb hby at_13) rfl (l' := #[.val (.int zn), .val (.int x0), .val (.int x1), .val (.int x2), .val (.int x3), .val (.int x4), .val (.int (4 : Int32)), .val (.int zc0), .unset, .unset, .unset, .unset, .unset, .unset]) rfl k) ?_
    show own_WP _ _ _ _ T79 (mkF m 15 #[.val (.int zn), .val (.int x0), .val (.int x1), .val (.int x2), .val (.int x3), .val (.int x4), .val (.int (4 : Int32)), .val (.int zc0), .unset, .unset, .unset, .unset, .unset, .unset] [])
    refine own_go (fun t k => XS.iloadN X79.here hx rfl (hb hby at_15) rfl  k) ?_
    show own_WP _ _ _ _ T79 (mkF m 16 #[.val (.int zn), .val (.int x0), .val (.int x1), .val (.int x2), .val (.int x3), .val (.int x4), .val (.int (4 : Int32)), .val (.int zc0), .unset, .unset, .unset, .unset, .unset, .unset] [(.int x1)])
    obtain ⟨_, _, ⟨T80, L80, k80, n80⟩, -, X80, ⟨Lc80, hQ80, l80, y80, z80⟩, st80⟩ := Jvm.LawKit.callS X79 hx (y := (⟨"com/example/soak/soak/sip/SipMessageIsKeepAlivePinLaw", "pick", "(I)B"⟩ : MethodName)) hown (mvT hZ (hw _ (List.mem_of_getElem? (i := 1) rfl))) (mvT hZ (hw _ (List.mem_of_getElem? (i := 2) rfl))) (mvT hZ (hw _ (List.mem_of_getElem? (i := 3) rfl))) (mvT hZ (hw _ (List.mem_of_getElem? (i := 4) rfl))) (by decide) (backOf (W := 0) (rm1 l Z a0 hw [] x1  h0 n0 (own_le Z0 K0) ) hZ (hw _ (List.mem_of_getElem? (i := 4) rfl)) (hw _ (List.mem_of_getElem? (i := 3) rfl)) (by decide) (by decide)) (g := (mkF m 16 #[.val (.int zn), .val (.int x0), .val (.int x1), .val (.int x2), .val (.int x3), .val (.int x4), .val (.int (4 : Int32)), .val (.int zc0), .unset, .unset, .unset, .unset, .unset, .unset] [(.int x1)])) rfl (by rw [hml]; rfl) (argsL := [(.int x1)]) (rest := []) (lenOf own_pd81830 rfl) rfl (by show 2 * 0 + _ ≤ _; exact Nat.le_of_eq rfl) (hb hby at_16) (fun _ _ => ⟨rfl, eq79, (by decide : 0 + 0 ≤ _), (by decide : 0 + 0 ≤ _)⟩)
    dsimp only [Pt.U, Pt.locs, Pt.cells, Pt.slots] at X80 l80 y80 z80 st80 hQ80
    subst l80 y80 z80
    obtain ⟨zc1, rfl, N80q, eq80, hr_80⟩ := hQ80
    have N80 := Fr.app N79 N80q
    refine own_go st80 ?_
    show own_WP _ _ _ _ T80 (mkF m 19 #[.val (.int zn), .val (.int x0), .val (.int x1), .val (.int x2), .val (.int x3), .val (.int x4), .val (.int (4 : Int32)), .val (.int zc0), .unset, .unset, .unset, .unset, .unset, .unset] [(.int zc1)])
    refine own_go (fun t k => XS.istore X80.here hx rfl (hb hby at_19) rfl (l' := #[.val (.int zn), .val (.int x0), .val (.int x1), .val (.int x2), .val (.int x3), .val (.int x4), .val (.int (4 : Int32)), .val (.int zc0), .val (.int zc1), .unset, .unset, .unset, .unset, .unset]) rfl k) ?_
    show own_WP _ _ _ _ T80 (mkF m 21 #[.val (.int zn), .val (.int x0), .val (.int x1), .val (.int x2), .val (.int x3), .val (.int x4), .val (.int (4 : Int32)), .val (.int zc0), .val (.int zc1), .unset, .unset, .unset, .unset, .unset] [])
    refine own_go (fun t k => XS.iloadN X80.here hx rfl (hb hby at_21) rfl  k) ?_
    show own_WP _ _ _ _ T80 (mkF m 22 #[.val (.int zn), .val (.int x0), .val (.int x1), .val (.int x2), .val (.int x3), .val (.int x4), .val (.int (4 : Int32)), .val (.int zc0), .val (.int zc1), .unset, .unset, .unset, .unset, .unset] [(.int x2)])
    obtain ⟨_, _, ⟨T81, L81, k81, n81⟩, -, X81, ⟨Lc81, hQ81, l81, y81, z81⟩, st81⟩ := Jvm.LawKit.callS X80 hx (y := (⟨"com/example/soak/soak/sip/SipMessageIsKeepAlivePinLaw", "pick", "(I)B"⟩ : MethodName)) hown (mvT hZ (hw _ (List.mem_of_getElem? (i := 1) rfl))) (mvT hZ (hw _ (List.mem_of_getElem? (i := 2) rfl))) (mvT hZ (hw _ (List.mem_of_getElem? (i := 3) rfl))) (mvT hZ (hw _ (List.mem_of_getElem? (i := 4) rfl))) (by decide) (backOf (W := 0) (rm1 l Z a0 hw [] x2  h0 n0 (own_le Z0 K0) ) hZ (hw _ (List.mem_of_getElem? (i := 4) rfl)) (hw _ (List.mem_of_getElem? (i := 3) rfl)) (by decide) (by decide)) (g := (mkF m 22 #[.val (.int zn), .val (.int x0), .val (.int x1), .val (.int x2), .val (.int x3), .val (.int x4), .val (.int (4 : Int32)), .val (.int zc0), .val (.int zc1), .unset, .unset, .unset, .unset, .unset] [(.int x2)])) rfl (by rw [hml]; rfl) (argsL := [(.int x2)]) (rest := []) (lenOf own_pd81830 rfl) rfl (by show 2 * 0 + _ ≤ _; exact Nat.le_of_eq rfl) (hb hby at_22) (fun _ _ => ⟨rfl, eq80, (by decide : 0 + 0 ≤ _), (by decide : 0 + 0 ≤ _)⟩)
    dsimp only [Pt.U, Pt.locs, Pt.cells, Pt.slots] at X81 l81 y81 z81 st81 hQ81
    subst l81 y81 z81
    obtain ⟨zc2, rfl, N81q, eq81, hr_81⟩ := hQ81
    have N81 := Fr.app N80 N81q
    refine own_go st81 ?_
    show own_WP _ _ _ _ T81 (mkF m 25 #[.val (.int zn), .val (.int x0), .val (.int x1), .val (.int x2), .val (.int x3), .val (.int x4), .val (.int (4 : Int32)), .val (.int zc0), .val (.int zc1), .unset, .unset, .unset, .unset, .unset] [(.int zc2)])
    refine own_go (fun t k => XS.istore X81.here hx rfl (hb hby at_25) rfl (l' := #[.val (.int zn), .val (.int x0), .val (.int x1), .val (.int x2), .val (.int x3), .val (.int x4), .val (.int (4 : Int32)), .val (.int zc0), .val (.int zc1), .val (.int zc2), .unset, .unset, .unset, .unset]) rfl k) ?_
    show own_WP _ _ _ _ T81 (mkF m 27 #[.val (.int zn), .val (.int x0), .val (.int x1), .val (.int x2), .val (.int x3), .val (.int x4), .val (.int (4 : Int32)), .val (.int zc0), .val (.int zc1), .val (.int zc2), .unset, .unset, .unset, .unset] [])
    refine own_go (fun t k => XS.iload X81.here hx rfl (hb hby at_27) rfl  k) ?_
    show own_WP _ _ _ _ T81 (mkF m 29 #[.val (.int zn), .val (.int x0), .val (.int x1), .val (.int x2), .val (.int x3), .val (.int x4), .val (.int (4 : Int32)), .val (.int zc0), .val (.int zc1), .val (.int zc2), .unset, .unset, .unset, .unset] [(.int x3)])
    obtain ⟨_, _, ⟨T82, L82, k82, n82⟩, -, X82, ⟨Lc82, hQ82, l82, y82, z82⟩, st82⟩ := Jvm.LawKit.callS X81 hx (y := (⟨"com/example/soak/soak/sip/SipMessageIsKeepAlivePinLaw", "pick", "(I)B"⟩ : MethodName)) hown (mvT hZ (hw _ (List.mem_of_getElem? (i := 1) rfl))) (mvT hZ (hw _ (List.mem_of_getElem? (i := 2) rfl))) (mvT hZ (hw _ (List.mem_of_getElem? (i := 3) rfl))) (mvT hZ (hw _ (List.mem_of_getElem? (i := 4) rfl))) (by decide) (backOf (W := 0) (rm1 l Z a0 hw [] x3  h0 n0 (own_le Z0 K0) ) hZ (hw _ (List.mem_of_getElem? (i := 4) rfl)) (hw _ (List.mem_of_getElem? (i := 3) rfl)) (by decide) (by decide)) (g := (mkF m 29 #[.val (.int zn), .val (.int x0), .val (.int x1), .val (.int x2), .val (.int x3), .val (.int x4), .val (.int (4 : Int32)), .val (.int zc0), .val (.int zc1), .val (.int zc2), .unset, .unset, .unset, .unset] [(.int x3)])) rfl (by rw [hml]; rfl) (argsL := [(.int x3)]) (rest := []) (lenOf own_pd81830 rfl) rfl (by show 2 * 0 + _ ≤ _; exact Nat.le_of_eq rfl) (hb hby at_29) (fun _ _ => ⟨rfl, eq81, (by decide : 0 + 0 ≤ _), (by decide : 0 + 0 ≤ _)⟩)
    dsimp only [Pt.U, Pt.locs, Pt.cells, Pt.slots] at X82 l82 y82 z82 st82 hQ82
    subst l82 y82 z82
    obtain ⟨zc3, rfl, N82q, eq82, hr_82⟩ := hQ82
    have N82 := Fr.app N81 N82q
    refine own_go st82 ?_
    show own_WP _ _ _ _ T82 (mkF m 32 #[.val (.int zn), .val (.int x0), .val (.int x1), .val (.int x2), .val (.int x3), .val (.int x4), .val (.int (4 : Int32)), .val (.int zc0), .val (.int zc1), .val (.int zc2), .unset, .unset, .unset, .unset] [(.int zc3)])
    refine own_go (fun t k => XS.istore X82.here hx rfl (hb hby at_32) rfl (l' := #[.val (.int zn), .val (.int x0), .val (.int x1), .val (.int x2), .val (.int x3), .val (.int x4), .val (.int (4 : Int32)), .val (.int zc0), .val (.int zc1), .val (.int zc2), .val (.int zc3), .unset, .unset, .unset]) rfl k) ?_
    show own_WP _ _ _ _ T82 (mkF m 34 #[.val (.int zn), .val (.int x0), .val (.int x1), .val (.int x2), .val (.int x3), .val (.int x4), .val (.int (4 : Int32)), .val (.int zc0), .val (.int zc1), .val (.int zc2), .val (.int zc3), .unset, .unset, .unset] [])
    refine own_go (fun t k => XS.iload X82.here hx rfl (hb hby at_34) rfl  k) ?_
    show own_WP _ _ _ _ T82 (mkF m 36 #[.val (.int zn), .val (.int x0), .val (.int x1), .val (.int x2), .val (.int x3), .val (.int x4), .val (.int (4 : Int32)), .val (.int zc0), .val (.int zc1), .val (.int zc2), .val (.int zc3), .unset, .unset, .unset] [(.int x4)])
    obtain ⟨_, _, ⟨T83, L83, k83, n83⟩, -, X83, ⟨Lc83, hQ83, l83, y83, z83⟩, st83⟩ := Jvm.LawKit.callS X82 hx (y := (⟨"com/example/soak/soak/sip/SipMessageIsKeepAlivePinLaw", "pick", "(I)B"⟩ : MethodName)) hown (mvT hZ (hw _ (List.mem_of_getElem? (i := 1) rfl))) (mvT hZ (hw _ (List.mem_of_getElem? (i := 2) rfl))) (mvT hZ (hw _ (List.mem_of_getElem? (i := 3) rfl))) (mvT hZ (hw _ (List.mem_of_getElem? (i := 4) rfl))) (by decide) (backOf (W := 0) (rm1 l Z a0 hw [] x4  h0 n0 (own_le Z0 K0) ) hZ (hw _ (List.mem_of_getElem? (i := 4) rfl)) (hw _ (List.mem_of_getElem? (i := 3) rfl)) (by decide) (by decide)) (g := (mkF m 36 #[.val (.int zn), .val (.int x0), .val (.int x1), .val (.int x2), .val (.int x3), .val (.int x4), .val (.int (4 : Int32)), .val (.int zc0), .val (.int zc1), .val (.int zc2), .val (.int zc3), .unset, .unset, .unset] [(.int x4)])) rfl (by rw [hml]; rfl) (argsL := [(.int x4)]) (rest := []) (lenOf own_pd81830 rfl) rfl (by show 2 * 0 + _ ≤ _; exact Nat.le_of_eq rfl) (hb hby at_36) (fun _ _ => ⟨rfl, eq82, (by decide : 0 + 0 ≤ _), (by decide : 0 + 0 ≤ _)⟩)
    dsimp only [Pt.U, Pt.locs, Pt.cells, Pt.slots] at X83 l83 y83 z83 st83 hQ83
    subst l83 y83 z83
    obtain ⟨zc4, rfl, N83q, eq83, hr_83⟩ := hQ83
    have N83 := Fr.app N82 N83q
    refine own_go st83 ?_
    show own_WP _ _ _ _ T83 (mkF m 39 #[.val (.int zn), .val (.int x0), .val (.int x1), .val (.int x2), .val (.int x3), .val (.int x4), .val (.int (4 : Int32)), .val (.int zc0), .val (.int zc1), .val (.int zc2), .val (.int zc3), .unset, .unset, .unset] [(.int zc4)])
    refine own_go (fun t k => XS.istore X83.here hx rfl (hb hby at_39) rfl (l' := #[.val (.int zn), .val (.int x0), .val (.int x1), .val (.int x2), .val (.int x3), .val (.int x4), .val (.int (4 : Int32)), .val (.int zc0), .val (.int zc1), .val (.int zc2), .val (.int zc3), .val (.int zc4), .unset, .unset]) rfl k) ?_
    show own_WP _ _ _ _ T83 (mkF m 41 #[.val (.int zn), .val (.int x0), .val (.int x1), .val (.int x2), .val (.int x3), .val (.int x4), .val (.int (4 : Int32)), .val (.int zc0), .val (.int zc1), .val (.int zc2), .val (.int zc3), .val (.int zc4), .unset, .unset] [])
    refine own_go (fun t k => XS.iload X83.here hx rfl (hb hby at_41) rfl  k) ?_
    show own_WP _ _ _ _ T83 (mkF m 43 #[.val (.int zn), .val (.int x0), .val (.int x1), .val (.int x2), .val (.int x3), .val (.int x4), .val (.int (4 : Int32)), .val (.int zc0), .val (.int zc1), .val (.int zc2), .val (.int zc3), .val (.int zc4), .unset, .unset] [(.int (4 : Int32))])
    obtain ⟨T84, h84, k84, X84, e84, E84, A84, G84, st84⟩ := newPE X83 hx hZ (hw _ (List.mem_of_getElem? (i := 5) rfl)) eq83 (g := (mkF m 43 #[.val (.int zn), .val (.int x0), .val (.int x1), .val (.int x2), .val (.int x3), .val (.int x4), .val (.int (4 : Int32)), .val (.int zc0), .val (.int zc1), .val (.int zc2), .val (.int zc3), .val (.int zc4), .unset, .unset] [(.int (4 : Int32))])) rfl (hb hby at_43) rfl (by decide) (cap := 4) (by decide) (by decide) (by decide) (by decide) (ad := "[B") rfl
    obtain ⟨za, q84⟩ : ∃ z, z = h0.size := ⟨_, rfl⟩
    rw [← q84] at A84 G84 st84
    refine own_go st84 ?_
    have g_za : n0 ≤ za := Nat.le_trans (own_le Z0 K0) (Nat.le_of_eq q84.symm)
    have sz_za : h0.size ≤ za := Nat.le_trans K0.1 (Nat.le_of_eq q84.symm)
    have K85 : Keep h0 h84 [] := K0.ext E84
    have f86 : Arv Z h84 za k84 .byte (4 : Int32) [(.int (0 : Int32)), (.int (0 : Int32)), (.int (0 : Int32)), (.int (0 : Int32))] (.int (0 : Int32)) := (Arv.new A84 (by decide)).pad (pad_rep [] (.int (0 : Int32)) 4)
    show own_WP _ _ _ _ T84 (mkF m 45 #[.val (.int zn), .val (.int x0), .val (.int x1), .val (.int x2), .val (.int x3), .val (.int x4), .val (.int (4 : Int32)), .val (.int zc0), .val (.int zc1), .val (.int zc2), .val (.int zc3), .val (.int zc4), .unset, .unset] [(.ref za)])
    refine own_go (fun t k => XS.astore X84.here hx rfl (hb hby at_45) rfl rfl (l' := #[.val (.int zn), .val (.int x0), .val (.int x1), .val (.int x2), .val (.int x3), .val (.int x4), .val (.int (4 : Int32)), .val (.int zc0), .val (.int zc1), .val (.int zc2), .val (.int zc3), .val (.int zc4), .val (.ref za), .unset]) rfl k) ?_
    show own_WP _ _ _ _ T84 (mkF m 47 #[.val (.int zn), .val (.int x0), .val (.int x1), .val (.int x2), .val (.int x3), .val (.int x4), .val (.int (4 : Int32)), .val (.int zc0), .val (.int zc1), .val (.int zc2), .val (.int zc3), .val (.int zc4), .val (.ref za), .unset] [])
    refine own_go (fun t k => XS.iload X84.here hx rfl (hb hby at_47) rfl  k) ?_
    show own_WP _ _ _ _ T84 (mkF m 49 #[.val (.int zn), .val (.int x0), .val (.int x1), .val (.int x2), .val (.int x3), .val (.int x4), .val (.int (4 : Int32)), .val (.int zc0), .val (.int zc1), .val (.int zc2), .val (.int zc3), .val (.int zc4), .val (.ref za), .unset] [(.int (4 : Int32))])
    have hc49 : (0 : Int32) < (4 : Int32) := by decide
    refine own_go (fun t k => XS.ifNo X84.here hx rfl (hb hby at_49) rfl ((if0 _ _).trans (tlt hc49).2.2.2) k) ?_
    show own_WP _ _ _ _ T84 (mkF m 52 #[.val (.int zn), .val (.int x0), .val (.int x1), .val (.int x2), .val (.int x3), .val (.int x4), .val (.int (4 : Int32)), .val (.int zc0), .val (.int zc1), .val (.int zc2), .val (.int zc3), .val (.int zc4), .val (.ref za), .unset] [])
    refine own_go (fun t k => XS.aload X84.here hx rfl (hb hby at_52) rfl rfl  k) ?_
    show own_WP _ _ _ _ T84 (mkF m 54 #[.val (.int zn), .val (.int x0), .val (.int x1), .val (.int x2), .val (.int x3), .val (.int x4), .val (.int (4 : Int32)), .val (.int zc0), .val (.int zc1), .val (.int zc2), .val (.int zc3), .val (.int zc4), .val (.ref za), .unset] [(.ref za)])
    refine own_go (fun t k => XS.iconst X84.here hx rfl (hb hby at_54) k) ?_
    show own_WP _ _ _ _ T84 (mkF m 55 #[.val (.int zn), .val (.int x0), .val (.int x1), .val (.int x2), .val (.int x3), .val (.int x4), .val (.int (4 : Int32)), .val (.int zc0), .val (.int zc1), .val (.int zc2), .val (.int zc3), .val (.int zc4), .val (.ref za), .unset] [(.int (0 : Int32)), (.ref za)])
    refine own_go (fun t k => XS.iload X84.here hx rfl (hb hby at_55) rfl  k) ?_
    show own_WP _ _ _ _ T84 (mkF m 57 #[.val (.int zn), .val (.int x0), .val (.int x1), .val (.int x2), .val (.int x3), .val (.int x4), .val (.int (4 : Int32)), .val (.int zc0), .val (.int zc1), .val (.int zc2), .val (.int zc3), .val (.int zc4), .val (.ref za), .unset] [(.int zc0), (.int (0 : Int32)), (.ref za)])
    refine own_stB X84 hx hZ e84 f86 (j := (0 : Int32)) ⟨by decide, by decide⟩ (i := 0) rfl (Nat.le_of_ble_eq_true rfl) (hb hby at_57) ?_
    intro T87 h87 X87 e87 W87 V87
    have f88 : Arv Z h87 za k84 .byte (4 : Int32) [(.int (nar .byte zc0)), (.int (0 : Int32)), (.int (0 : Int32)), (.int (0 : Int32))] (.int (0 : Int32)) := V87
    have K90 : Keep h0 h87 [] := K85.wr W87 (Or.inr sz_za)
    have N91 := Fr.snoc X87 N83 g_za
    show own_WP _ _ _ _ T87 (mkF m 58 #[.val (.int zn), .val (.int x0), .val (.int x1), .val (.int x2), .val (.int x3), .val (.int x4), .val (.int (4 : Int32)), .val (.int zc0), .val (.int zc1), .val (.int zc2), .val (.int zc3), .val (.int zc4), .val (.ref za), .unset] [])
    refine own_go (fun t k => XS.iload X87.here hx rfl (hb hby at_58) rfl  k) ?_
    show own_WP _ _ _ _ T87 (mkF m 60 #[.val (.int zn), .val (.int x0), .val (.int x1), .val (.int x2), .val (.int x3), .val (.int x4), .val (.int (4 : Int32)), .val (.int zc0), .val (.int zc1), .val (.int zc2), .val (.int zc3), .val (.int zc4), .val (.ref za), .unset] [(.int (4 : Int32))])
    refine own_go (fun t k => XS.iconst X87.here hx rfl (hb hby at_60) k) ?_
    show own_WP _ _ _ _ T87 (mkF m 61 #[.val (.int zn), .val (.int x0), .val (.int x1), .val (.int x2), .val (.int x3), .val (.int x4), .val (.int (4 : Int32)), .val (.int zc0), .val (.int zc1), .val (.int zc2), .val (.int zc3), .val (.int zc4), .val (.ref za), .unset] [(.int (1 : Int32)), (.int (4 : Int32))])
    have hc61 : (1 : Int32) < (4 : Int32) := by decide
    refine own_go (fun t k => XS.icmpNo X87.here hx rfl (hb hby at_61) rfl (tlt hc61).2.2.2 k) ?_
    show own_WP _ _ _ _ T87 (mkF m 64 #[.val (.int zn), .val (.int x0), .val (.int x1), .val (.int x2), .val (.int x3), .val (.int x4), .val (.int (4 : Int32)), .val (.int zc0), .val (.int zc1), .val (.int zc2), .val (.int zc3), .val (.int zc4), .val (.ref za), .unset] [])
    refine own_go (fun t k => XS.aload X87.here hx rfl (hb hby at_64) rfl rfl  k) ?_
    show own_WP _ _ _ _ T87 (mkF m 66 #[.val (.int zn), .val (.int x0), .val (.int x1), .val (.int x2), .val (.int x3), .val (.int x4), .val (.int (4 : Int32)), .val (.int zc0), .val (.int zc1), .val (.int zc2), .val (.int zc3), .val (.int zc4), .val (.ref za), .unset] [(.ref za)])
    refine own_go (fun t k => XS.iconst X87.here hx rfl (hb hby at_66) k) ?_
    show own_WP _ _ _ _ T87 (mkF m 67 #[.val (.int zn), .val (.int x0), .val (.int x1), .val (.int x2), .val (.int x3), .val (.int x4), .val (.int (4 : Int32)), .val (.int zc0), .val (.int zc1), .val (.int zc2), .val (.int zc3), .val (.int zc4), .val (.ref za), .unset] [(.int (1 : Int32)), (.ref za)])
    refine own_go (fun t k => XS.iload X87.here hx rfl (hb hby at_67) rfl  k) ?_
    show own_WP _ _ _ _ T87 (mkF m 69 #[.val (.int zn), .val (.int x0), .val (.int x1), .val (.int x2), .val (.int x3), .val (.int x4), .val (.int (4 : Int32)), .val (.int zc0), .val (.int zc1), .val (.int zc2), .val (.int zc3), .val (.int zc4), .val (.ref za), .unset] [(.int zc1), (.int (1 : Int32)), (.ref za)])
    refine own_stB X87 hx hZ e87 f88 (j := (1 : Int32)) ⟨by decide, by decide⟩ (i := 1) rfl (Nat.le_of_ble_eq_true rfl) (hb hby at_69) ?_
    intro T92 h92 X92 e92 W92 V92
    have f93 : Arv Z h92 za k84 .byte (4 : Int32) [(.int (nar .byte zc0)), (.int (nar .byte zc1)), (.int (0 : Int32)), (.int (0 : Int32))] (.int (0 : Int32)) := V92
    have K95 : Keep h0 h92 [] := K90.wr W92 (Or.inr sz_za)
    have N96 := Fr.snoc X92 N91 g_za
    show own_WP _ _ _ _ T92 (mkF m 70 #[.val (.int zn), .val (.int x0), .val (.int x1), .val (.int x2), .val (.int x3), .val (.int x4), .val (.int (4 : Int32)), .val (.int zc0), .val (.int zc1), .val (.int zc2), .val (.int zc3), .val (.int zc4), .val (.ref za), .unset] [])
    refine own_go (fun t k => XS.iload X92.here hx rfl (hb hby at_70) rfl  k) ?_
    show own_WP _ _ _ _ T92 (mkF m 72 #[.val (.int zn), .val (.int x0), .val (.int x1), .val (.int x2), .val (.int x3), .val (.int x4), .val (.int (4 : Int32)), .val (.int zc0), .val (.int zc1), .val (.int zc2), .val (.int zc3), .val (.int zc4), .val (.ref za), .unset] [(.int (4 : Int32))])
    refine own_go (fun t k => XS.iconst X92.here hx rfl (hb hby at_72) k) ?_
    show own_WP _ _ _ _ T92 (mkF m 73 #[.val (.int zn), .val (.int x0), .val (.int x1), .val (.int x2), .val (.int x3), .val (.int x4), .val (.int (4 : Int32)), .val (.int zc0), .val (.int zc1), .val (.int zc2), .val (.int zc3), .val (.int zc4), .val (.ref za), .unset] [(.int (2 : Int32)), (.int (4 : Int32))])
    have hc73 : (2 : Int32) < (4 : Int32) := by decide
    refine own_go (fun t k => XS.icmpNo X92.here hx rfl (hb hby at_73) rfl (tlt hc73).2.2.2 k) ?_
    show own_WP _ _ _ _ T92 (mkF m 76 #[.val (.int zn), .val (.int x0), .val (.int x1), .val (.int x2), .val (.int x3), .val (.int x4), .val (.int (4 : Int32)), .val (.int zc0), .val (.int zc1), .val (.int zc2), .val (.int zc3), .val (.int zc4), .val (.ref za), .unset] [])
    refine own_go (fun t k => XS.aload X92.here hx rfl (hb hby at_76) rfl rfl  k) ?_
    show own_WP _ _ _ _ T92 (mkF m 78 #[.val (.int zn), .val (.int x0), .val (.int x1), .val (.int x2), .val (.int x3), .val (.int x4), .val (.int (4 : Int32)), .val (.int zc0), .val (.int zc1), .val (.int zc2), .val (.int zc3), .val (.int zc4), .val (.ref za), .unset] [(.ref za)])
    refine own_go (fun t k => XS.iconst X92.here hx rfl (hb hby at_78) k) ?_
    show own_WP _ _ _ _ T92 (mkF m 79 #[.val (.int zn), .val (.int x0), .val (.int x1), .val (.int x2), .val (.int x3), .val (.int x4), .val (.int (4 : Int32)), .val (.int zc0), .val (.int zc1), .val (.int zc2), .val (.int zc3), .val (.int zc4), .val (.ref za), .unset] [(.int (2 : Int32)), (.ref za)])
    refine own_go (fun t k => XS.iload X92.here hx rfl (hb hby at_79) rfl  k) ?_
    show own_WP _ _ _ _ T92 (mkF m 81 #[.val (.int zn), .val (.int x0), .val (.int x1), .val (.int x2), .val (.int x3), .val (.int x4), .val (.int (4 : Int32)), .val (.int zc0), .val (.int zc1), .val (.int zc2), .val (.int zc3), .val (.int zc4), .val (.ref za), .unset] [(.int zc2), (.int (2 : Int32)), (.ref za)])
    refine own_stB X92 hx hZ e92 f93 (j := (2 : Int32)) ⟨by decide, by decide⟩ (i := 2) rfl (Nat.le_of_ble_eq_true rfl) (hb hby at_81) ?_
    intro T97 h97 X97 e97 W97 V97
    have f98 : Arv Z h97 za k84 .byte (4 : Int32) [(.int (nar .byte zc0)), (.int (nar .byte zc1)), (.int (nar .byte zc2)), (.int (0 : Int32))] (.int (0 : Int32)) := V97
    have K100 : Keep h0 h97 [] := K95.wr W97 (Or.inr sz_za)
    have N101 := Fr.snoc X97 N96 g_za
    show own_WP _ _ _ _ T97 (mkF m 82 #[.val (.int zn), .val (.int x0), .val (.int x1), .val (.int x2), .val (.int x3), .val (.int x4), .val (.int (4 : Int32)), .val (.int zc0), .val (.int zc1), .val (.int zc2), .val (.int zc3), .val (.int zc4), .val (.ref za), .unset] [])
    refine own_go (fun t k => XS.iload X97.here hx rfl (hb hby at_82) rfl  k) ?_
    show own_WP _ _ _ _ T97 (mkF m 84 #[.val (.int zn), .val (.int x0), .val (.int x1), .val (.int x2), .val (.int x3), .val (.int x4), .val (.int (4 : Int32)), .val (.int zc0), .val (.int zc1), .val (.int zc2), .val (.int zc3), .val (.int zc4), .val (.ref za), .unset] [(.int (4 : Int32))])
    refine own_go (fun t k => XS.iconst X97.here hx rfl (hb hby at_84) k) ?_
    show own_WP _ _ _ _ T97 (mkF m 85 #[.val (.int zn), .val (.int x0), .val (.int x1), .val (.int x2), .val (.int x3), .val (.int x4), .val (.int (4 : Int32)), .val (.int zc0), .val (.int zc1), .val (.int zc2), .val (.int zc3), .val (.int zc4), .val (.ref za), .unset] [(.int (3 : Int32)), (.int (4 : Int32))])
    have hc85 : (3 : Int32) < (4 : Int32) := by decide
    refine own_go (fun t k => XS.icmpNo X97.here hx rfl (hb hby at_85) rfl (tlt hc85).2.2.2 k) ?_
    show own_WP _ _ _ _ T97 (mkF m 88 #[.val (.int zn), .val (.int x0), .val (.int x1), .val (.int x2), .val (.int x3), .val (.int x4), .val (.int (4 : Int32)), .val (.int zc0), .val (.int zc1), .val (.int zc2), .val (.int zc3), .val (.int zc4), .val (.ref za), .unset] [])
    refine own_go (fun t k => XS.aload X97.here hx rfl (hb hby at_88) rfl rfl  k) ?_
    show own_WP _ _ _ _ T97 (mkF m 90 #[.val (.int zn), .val (.int x0), .val (.int x1), .val (.int x2), .val (.int x3), .val (.int x4), .val (.int (4 : Int32)), .val (.int zc0), .val (.int zc1), .val (.int zc2), .val (.int zc3), .val (.int zc4), .val (.ref za), .unset] [(.ref za)])
    refine own_go (fun t k => XS.iconst X97.here hx rfl (hb hby at_90) k) ?_
    show own_WP _ _ _ _ T97 (mkF m 91 #[.val (.int zn), .val (.int x0), .val (.int x1), .val (.int x2), .val (.int x3), .val (.int x4), .val (.int (4 : Int32)), .val (.int zc0), .val (.int zc1), .val (.int zc2), .val (.int zc3), .val (.int zc4), .val (.ref za), .unset] [(.int (3 : Int32)), (.ref za)])
    refine own_go (fun t k => XS.iload X97.here hx rfl (hb hby at_91) rfl  k) ?_
    show own_WP _ _ _ _ T97 (mkF m 93 #[.val (.int zn), .val (.int x0), .val (.int x1), .val (.int x2), .val (.int x3), .val (.int x4), .val (.int (4 : Int32)), .val (.int zc0), .val (.int zc1), .val (.int zc2), .val (.int zc3), .val (.int zc4), .val (.ref za), .unset] [(.int zc3), (.int (3 : Int32)), (.ref za)])
    refine own_stB X97 hx hZ e97 f98 (j := (3 : Int32)) ⟨by decide, by decide⟩ (i := 3) rfl (Nat.le_of_ble_eq_true rfl) (hb hby at_93) ?_
    intro T102 h102 X102 e102 W102 V102
    have f103 : Arv Z h102 za k84 .byte (4 : Int32) [(.int (nar .byte zc0)), (.int (nar .byte zc1)), (.int (nar .byte zc2)), (.int (nar .byte zc3))] (.int (0 : Int32)) := V102
    have K105 : Keep h0 h102 [] := K100.wr W102 (Or.inr sz_za)
    have N106 := Fr.snoc X102 N101 g_za
    show own_WP _ _ _ _ T102 (mkF m 94 #[.val (.int zn), .val (.int x0), .val (.int x1), .val (.int x2), .val (.int x3), .val (.int x4), .val (.int (4 : Int32)), .val (.int zc0), .val (.int zc1), .val (.int zc2), .val (.int zc3), .val (.int zc4), .val (.ref za), .unset] [])
    refine own_go (fun t k => XS.iload X102.here hx rfl (hb hby at_94) rfl  k) ?_
    show own_WP _ _ _ _ T102 (mkF m 96 #[.val (.int zn), .val (.int x0), .val (.int x1), .val (.int x2), .val (.int x3), .val (.int x4), .val (.int (4 : Int32)), .val (.int zc0), .val (.int zc1), .val (.int zc2), .val (.int zc3), .val (.int zc4), .val (.ref za), .unset] [(.int (4 : Int32))])
    refine own_go (fun t k => XS.iconst X102.here hx rfl (hb hby at_96) k) ?_
    show own_WP _ _ _ _ T102 (mkF m 97 #[.val (.int zn), .val (.int x0), .val (.int x1), .val (.int x2), .val (.int x3), .val (.int x4), .val (.int (4 : Int32)), .val (.int zc0), .val (.int zc1), .val (.int zc2), .val (.int zc3), .val (.int zc4), .val (.ref za), .unset] [(.int (4 : Int32)), (.int (4 : Int32))])
    have hc97 : ¬ ((4 : Int32) < (4 : Int32)) := by decide
    refine own_go (fun t k => XS.icmpYes X102.here hx rfl (pc0 := 97) (pc' := 106) rfl (hb hby at_97) rfl (flt hc97).2.2.2 (by decide) (by decide) k) ?_
    show own_WP _ _ _ _ T102 (mkF m 106 #[.val (.int zn), .val (.int x0), .val (.int x1), .val (.int x2), .val (.int x3), .val (.int x4), .val (.int (4 : Int32)), .val (.int zc0), .val (.int zc1), .val (.int zc2), .val (.int zc3), .val (.int zc4), .val (.ref za), .unset] [])
    refine own_go (fun t k => XS.iload X102.here hx rfl (hb hby at_106) rfl  k) ?_
    show own_WP _ _ _ _ T102 (mkF m 108 #[.val (.int zn), .val (.int x0), .val (.int x1), .val (.int x2), .val (.int x3), .val (.int x4), .val (.int (4 : Int32)), .val (.int zc0), .val (.int zc1), .val (.int zc2), .val (.int zc3), .val (.int zc4), .val (.ref za), .unset] [(.int (4 : Int32))])
    refine own_go (fun t k => XS.iconst X102.here hx rfl (hb hby at_108) k) ?_
    show own_WP _ _ _ _ T102 (mkF m 109 #[.val (.int zn), .val (.int x0), .val (.int x1), .val (.int x2), .val (.int x3), .val (.int x4), .val (.int (4 : Int32)), .val (.int zc0), .val (.int zc1), .val (.int zc2), .val (.int zc3), .val (.int zc4), .val (.ref za), .unset] [(.int (1 : Int32)), (.int (4 : Int32))])
    have hc109 : ¬ ((4 : Int32) < (1 : Int32)) := by decide
    refine own_go (fun t k => XS.icmpNo X102.here hx rfl (hb hby at_109) rfl (flt hc109).1 k) ?_
    show own_WP _ _ _ _ T102 (mkF m 112 #[.val (.int zn), .val (.int x0), .val (.int x1), .val (.int x2), .val (.int x3), .val (.int x4), .val (.int (4 : Int32)), .val (.int zc0), .val (.int zc1), .val (.int zc2), .val (.int zc3), .val (.int zc4), .val (.ref za), .unset] [])
    refine own_go (fun t k => XS.iload X102.here hx rfl (hb hby at_112) rfl  k) ?_
    show own_WP _ _ _ _ T102 (mkF m 114 #[.val (.int zn), .val (.int x0), .val (.int x1), .val (.int x2), .val (.int x3), .val (.int x4), .val (.int (4 : Int32)), .val (.int zc0), .val (.int zc1), .val (.int zc2), .val (.int zc3), .val (.int zc4), .val (.ref za), .unset] [(.int zc0)])
    obtain ⟨_, _, ⟨T107, L107, k107, n107⟩, -, X107, ⟨Lc107, hQ107, l107, y107, z107⟩, st107⟩ := Jvm.LawKit.callS X102 hx (y := (⟨"com/example/soak/soak/sip/SipMessageIsKeepAlivePinLaw", "ws", "(B)Z"⟩ : MethodName)) hown (mvT hZ (hw _ (List.mem_of_getElem? (i := 10) rfl))) (mvT hZ (hw _ (List.mem_of_getElem? (i := 11) rfl))) (mvT hZ (hw _ (List.mem_of_getElem? (i := 3) rfl))) (mvT hZ (hw _ (List.mem_of_getElem? (i := 12) rfl))) (by decide) (backOf (W := 0) (rm3 l Z a0 hw [] zc0  h102 n0 (own_le Z0 K105) ) hZ (hw _ (List.mem_of_getElem? (i := 12) rfl)) (hw _ (List.mem_of_getElem? (i := 3) rfl)) (by decide) (by decide)) (g := (mkF m 114 #[.val (.int zn), .val (.int x0), .val (.int x1), .val (.int x2), .val (.int x3), .val (.int x4), .val (.int (4 : Int32)), .val (.int zc0), .val (.int zc1), .val (.int zc2), .val (.int zc3), .val (.int zc4), .val (.ref za), .unset] [(.int zc0)])) rfl (by rw [hml]; rfl) (argsL := [(.int zc0)]) (rest := []) (lenOf own_pd61727 rfl) rfl (by show 2 * 0 + _ ≤ _; exact Nat.le_of_eq rfl) (hb hby at_114) (fun _ _ => ⟨rfl, e102, (by decide : 1 + 0 ≤ _), (by decide : 4 + 0 ≤ _)⟩)
    dsimp only [Pt.U, Pt.locs, Pt.cells, Pt.slots] at X107 l107 y107 z107 st107 hQ107
    subst l107 y107 z107
    obtain ⟨rfl, N107q, eq107⟩ := hQ107
    have N107 := Fr.app N106 N107q
    refine own_go st107 ?_
    show own_WP _ _ _ _ T107 (mkF m 117 #[.val (.int zn), .val (.int x0), .val (.int x1), .val (.int x2), .val (.int x3), .val (.int x4), .val (.int (4 : Int32)), .val (.int zc0), .val (.int zc1), .val (.int zc2), .val (.int zc3), .val (.int zc4), .val (.ref za), .unset] [(.int (own_ws zc0))])
    by_cases hc117 : (own_ws zc0) = (0 : Int32)
    · refine own_go (fun t k => XS.ifYes X107.here hx rfl (pc0 := 117) (pc' := 180) rfl (hb hby at_117) rfl ((if0 _ _).trans (teq hc117).1) (by decide) (by decide) k) ?_
      show own_WP _ _ _ _ T107 (mkF m 180 #[.val (.int zn), .val (.int x0), .val (.int x1), .val (.int x2), .val (.int x3), .val (.int x4), .val (.int (4 : Int32)), .val (.int zc0), .val (.int zc1), .val (.int zc2), .val (.int zc3), .val (.int zc4), .val (.ref za), .unset] [])
      refine own_go (fun t k => XS.iconst X107.here hx rfl (hb hby at_180) k) ?_
      show own_WP _ _ _ _ T107 (mkF m 181 #[.val (.int zn), .val (.int x0), .val (.int x1), .val (.int x2), .val (.int x3), .val (.int x4), .val (.int (4 : Int32)), .val (.int zc0), .val (.int zc1), .val (.int zc2), .val (.int zc3), .val (.int zc4), .val (.ref za), .unset] [(.int (0 : Int32))])
      refine own_go (fun t k => XS.istore X107.here hx rfl (hb hby at_181) rfl (l' := #[.val (.int zn), .val (.int x0), .val (.int x1), .val (.int x2), .val (.int x3), .val (.int x4), .val (.int (4 : Int32)), .val (.int zc0), .val (.int zc1), .val (.int zc2), .val (.int zc3), .val (.int zc4), .val (.ref za), .val (.int (0 : Int32))]) rfl k) ?_
      show own_WP _ _ _ _ T107 (mkF m 183 #[.val (.int zn), .val (.int x0), .val (.int x1), .val (.int x2), .val (.int x3), .val (.int x4), .val (.int (4 : Int32)), .val (.int zc0), .val (.int zc1), .val (.int zc2), .val (.int zc3), .val (.int zc4), .val (.ref za), .val (.int (0 : Int32))] [])
      refine own_go (fun t k => XS.aload X107.here hx rfl (hb hby at_183) rfl rfl  k) ?_
      show own_WP _ _ _ _ T107 (mkF m 185 #[.val (.int zn), .val (.int x0), .val (.int x1), .val (.int x2), .val (.int x3), .val (.int x4), .val (.int (4 : Int32)), .val (.int zc0), .val (.int zc1), .val (.int zc2), .val (.int zc3), .val (.int zc4), .val (.ref za), .val (.int (0 : Int32))] [(.ref za)])
      obtain ⟨_, _, ⟨T108, L108, k108, n108⟩, -, X108, ⟨Lc108, hQ108, l108, y108, z108⟩, st108⟩ := Jvm.LawKit.callS X107 hx (y := (⟨"com/example/soak/soak/sip/SipMessage", "isKeepAlive", "([B)Z"⟩ : MethodName)) hown (mvT hZ (hw _ (List.mem_of_getElem? (i := 6) rfl))) (mvT hZ (hw _ (List.mem_of_getElem? (i := 7) rfl))) (mvT hZ (hw _ (List.mem_of_getElem? (i := 8) rfl))) (mvT hZ (hw _ (List.mem_of_getElem? (i := 9) rfl))) (by decide) (backOf (W := 0) (rm2 l Z a0 hw [] za k84 (4 : Int32) [(nar .byte zc0), (nar .byte zc1), (nar .byte zc2), (nar .byte zc3)] h102 n0 (own_le Z0 K105) (f103) (show 0 ≤ (4 : Int32).toInt from by decide) (show ([(nar .byte zc0), (nar .byte zc1), (nar .byte zc2), (nar .byte zc3)].length : Int) = (4 : Int32).toInt from rfl)) hZ (hw _ (List.mem_of_getElem? (i := 9) rfl)) (hw _ (List.mem_of_getElem? (i := 8) rfl)) (by decide) (by decide)) (g := (mkF m 185 #[.val (.int zn), .val (.int x0), .val (.int x1), .val (.int x2), .val (.int x3), .val (.int x4), .val (.int (4 : Int32)), .val (.int zc0), .val (.int zc1), .val (.int zc2), .val (.int zc3), .val (.int zc4), .val (.ref za), .val (.int (0 : Int32))] [(.ref za)])) rfl (by rw [hml]; rfl) (argsL := [(.ref za)]) (rest := []) (lenOf own_pd76616 rfl) rfl (by show 2 * 0 + _ ≤ _; exact Nat.le_of_eq rfl) (hb hby at_185) (fun _ _ => ⟨rfl, eq107, (by decide : 1 + 0 ≤ _), (by decide : 4 + 0 ≤ _)⟩)
      dsimp only [Pt.U, Pt.locs, Pt.cells, Pt.slots] at X108 l108 y108 z108 st108 hQ108
      subst l108 y108 z108
      obtain ⟨rfl, N108q, eq108⟩ := hQ108
      have N108 := Fr.app N107 N108q
      refine own_go st108 ?_
      show own_WP _ _ _ _ T108 (mkF m 188 #[.val (.int zn), .val (.int x0), .val (.int x1), .val (.int x2), .val (.int x3), .val (.int x4), .val (.int (4 : Int32)), .val (.int zc0), .val (.int zc1), .val (.int zc2), .val (.int zc3), .val (.int zc4), .val (.ref za), .val (.int (0 : Int32))] [(.int (own_ka [(nar .byte zc0), (nar .byte zc1), (nar .byte zc2), (nar .byte zc3)]))])
      refine own_go (fun t k => XS.iload X108.here hx rfl (hb hby at_188) rfl  k) ?_
      show own_WP _ _ _ _ T108 (mkF m 190 #[.val (.int zn), .val (.int x0), .val (.int x1), .val (.int x2), .val (.int x3), .val (.int x4), .val (.int (4 : Int32)), .val (.int zc0), .val (.int zc1), .val (.int zc2), .val (.int zc3), .val (.int zc4), .val (.ref za), .val (.int (0 : Int32))] [(.int (0 : Int32)), (.int (own_ka [(nar .byte zc0), (nar .byte zc1), (nar .byte zc2), (nar .byte zc3)]))])
      have hc190 : (own_ka [(nar .byte zc0), (nar .byte zc1), (nar .byte zc2), (nar .byte zc3)]) = (0 : Int32) := by
        simp [own_ka, hr_79, hr_80, hr_81, hr_82, hr_83, hc117]
      refine own_go (fun t k => XS.icmpNo X108.here hx rfl (hb hby at_190) rfl (teq hc190).2 k) ?_
      show own_WP _ _ _ _ T108 (mkF m 193 #[.val (.int zn), .val (.int x0), .val (.int x1), .val (.int x2), .val (.int x3), .val (.int x4), .val (.int (4 : Int32)), .val (.int zc0), .val (.int zc1), .val (.int zc2), .val (.int zc3), .val (.int zc4), .val (.ref za), .val (.int (0 : Int32))] [])
      refine own_go (fun t k => XS.iconst X108.here hx rfl (hb hby at_193) k) ?_
      show own_WP _ _ _ _ T108 (mkF m 194 #[.val (.int zn), .val (.int x0), .val (.int x1), .val (.int x2), .val (.int x3), .val (.int x4), .val (.int (4 : Int32)), .val (.int zc0), .val (.int zc1), .val (.int zc2), .val (.int zc3), .val (.int zc4), .val (.ref za), .val (.int (0 : Int32))] [(.int (1 : Int32))])
      refine own_go (fun t k => XS.goto X108.here hx rfl (pc0 := 194) (pc' := 198) rfl (hb hby at_194) (by decide) (by decide) k) ?_
      show own_WP _ _ _ _ T108 (mkF m 198 #[.val (.int zn), .val (.int x0), .val (.int x1), .val (.int x2), .val (.int x3), .val (.int x4), .val (.int (4 : Int32)), .val (.int zc0), .val (.int zc1), .val (.int zc2), .val (.int zc3), .val (.int zc4), .val (.ref za), .val (.int (0 : Int32))] [(.int (1 : Int32))])
      refine own_retN X108 hx Bd.notSynchronized (t := .boolean) (by simp) Bd.returns (hb hby at_198) (by decide) (by decide) ?_
      rw [eq108]
      exact ⟨rfl, N108⟩
    · refine own_go (fun t k => XS.ifNo X107.here hx rfl (hb hby at_117) rfl ((if0 _ _).trans (feq hc117).1) k) ?_
      show own_WP _ _ _ _ T107 (mkF m 120 #[.val (.int zn), .val (.int x0), .val (.int x1), .val (.int x2), .val (.int x3), .val (.int x4), .val (.int (4 : Int32)), .val (.int zc0), .val (.int zc1), .val (.int zc2), .val (.int zc3), .val (.int zc4), .val (.ref za), .unset] [])
      refine own_go (fun t k => XS.iload X107.here hx rfl (hb hby at_120) rfl  k) ?_
      show own_WP _ _ _ _ T107 (mkF m 122 #[.val (.int zn), .val (.int x0), .val (.int x1), .val (.int x2), .val (.int x3), .val (.int x4), .val (.int (4 : Int32)), .val (.int zc0), .val (.int zc1), .val (.int zc2), .val (.int zc3), .val (.int zc4), .val (.ref za), .unset] [(.int (4 : Int32))])
      refine own_go (fun t k => XS.iconst X107.here hx rfl (hb hby at_122) k) ?_
      show own_WP _ _ _ _ T107 (mkF m 123 #[.val (.int zn), .val (.int x0), .val (.int x1), .val (.int x2), .val (.int x3), .val (.int x4), .val (.int (4 : Int32)), .val (.int zc0), .val (.int zc1), .val (.int zc2), .val (.int zc3), .val (.int zc4), .val (.ref za), .unset] [(.int (2 : Int32)), (.int (4 : Int32))])
      have hc123 : ¬ ((4 : Int32) < (2 : Int32)) := by decide
      refine own_go (fun t k => XS.icmpNo X107.here hx rfl (hb hby at_123) rfl (flt hc123).1 k) ?_
      show own_WP _ _ _ _ T107 (mkF m 126 #[.val (.int zn), .val (.int x0), .val (.int x1), .val (.int x2), .val (.int x3), .val (.int x4), .val (.int (4 : Int32)), .val (.int zc0), .val (.int zc1), .val (.int zc2), .val (.int zc3), .val (.int zc4), .val (.ref za), .unset] [])
      refine own_go (fun t k => XS.iload X107.here hx rfl (hb hby at_126) rfl  k) ?_
      show own_WP _ _ _ _ T107 (mkF m 128 #[.val (.int zn), .val (.int x0), .val (.int x1), .val (.int x2), .val (.int x3), .val (.int x4), .val (.int (4 : Int32)), .val (.int zc0), .val (.int zc1), .val (.int zc2), .val (.int zc3), .val (.int zc4), .val (.ref za), .unset] [(.int zc1)])
      obtain ⟨_, _, ⟨T109, L109, k109, n109⟩, -, X109, ⟨Lc109, hQ109, l109, y109, z109⟩, st109⟩ := Jvm.LawKit.callS X107 hx (y := (⟨"com/example/soak/soak/sip/SipMessageIsKeepAlivePinLaw", "ws", "(B)Z"⟩ : MethodName)) hown (mvT hZ (hw _ (List.mem_of_getElem? (i := 10) rfl))) (mvT hZ (hw _ (List.mem_of_getElem? (i := 11) rfl))) (mvT hZ (hw _ (List.mem_of_getElem? (i := 3) rfl))) (mvT hZ (hw _ (List.mem_of_getElem? (i := 12) rfl))) (by decide) (backOf (W := 0) (rm3 l Z a0 hw [] zc1  h102 n0 (own_le Z0 K105) ) hZ (hw _ (List.mem_of_getElem? (i := 12) rfl)) (hw _ (List.mem_of_getElem? (i := 3) rfl)) (by decide) (by decide)) (g := (mkF m 128 #[.val (.int zn), .val (.int x0), .val (.int x1), .val (.int x2), .val (.int x3), .val (.int x4), .val (.int (4 : Int32)), .val (.int zc0), .val (.int zc1), .val (.int zc2), .val (.int zc3), .val (.int zc4), .val (.ref za), .unset] [(.int zc1)])) rfl (by rw [hml]; rfl) (argsL := [(.int zc1)]) (rest := []) (lenOf own_pd61727 rfl) rfl (by show 2 * 0 + _ ≤ _; exact Nat.le_of_eq rfl) (hb hby at_128) (fun _ _ => ⟨rfl, eq107, (by decide : 1 + 0 ≤ _), (by decide : 4 + 0 ≤ _)⟩)
      dsimp only [Pt.U, Pt.locs, Pt.cells, Pt.slots] at X109 l109 y109 z109 st109 hQ109
      subst l109 y109 z109
      obtain ⟨rfl, N109q, eq109⟩ := hQ109
      have N109 := Fr.app N107 N109q
      refine own_go st109 ?_
      show own_WP _ _ _ _ T109 (mkF m 131 #[.val (.int zn), .val (.int x0), .val (.int x1), .val (.int x2), .val (.int x3), .val (.int x4), .val (.int (4 : Int32)), .val (.int zc0), .val (.int zc1), .val (.int zc2), .val (.int zc3), .val (.int zc4), .val (.ref za), .unset] [(.int (own_ws zc1))])
      by_cases hc131 : (own_ws zc1) = (0 : Int32)
      · refine own_go (fun t k => XS.ifYes X109.here hx rfl (pc0 := 131) (pc' := 180) rfl (hb hby at_131) rfl ((if0 _ _).trans (teq hc131).1) (by decide) (by decide) k) ?_
        show own_WP _ _ _ _ T109 (mkF m 180 #[.val (.int zn), .val (.int x0), .val (.int x1), .val (.int x2), .val (.int x3), .val (.int x4), .val (.int (4 : Int32)), .val (.int zc0), .val (.int zc1), .val (.int zc2), .val (.int zc3), .val (.int zc4), .val (.ref za), .unset] [])
        refine own_go (fun t k => XS.iconst X109.here hx rfl (hb hby at_180) k) ?_
        show own_WP _ _ _ _ T109 (mkF m 181 #[.val (.int zn), .val (.int x0), .val (.int x1), .val (.int x2), .val (.int x3), .val (.int x4), .val (.int (4 : Int32)), .val (.int zc0), .val (.int zc1), .val (.int zc2), .val (.int zc3), .val (.int zc4), .val (.ref za), .unset] [(.int (0 : Int32))])
        refine own_go (fun t k => XS.istore X109.here hx rfl (hb hby at_181) rfl (l' := #[.val (.int zn), .val (.int x0), .val (.int x1), .val (.int x2), .val (.int x3), .val (.int x4), .val (.int (4 : Int32)), .val (.int zc0), .val (.int zc1), .val (.int zc2), .val (.int zc3), .val (.int zc4), .val (.ref za), .val (.int (0 : Int32))]) rfl k) ?_
        show own_WP _ _ _ _ T109 (mkF m 183 #[.val (.int zn), .val (.int x0), .val (.int x1), .val (.int x2), .val (.int x3), .val (.int x4), .val (.int (4 : Int32)), .val (.int zc0), .val (.int zc1), .val (.int zc2), .val (.int zc3), .val (.int zc4), .val (.ref za), .val (.int (0 : Int32))] [])
        refine own_go (fun t k => XS.aload X109.here hx rfl (hb hby at_183) rfl rfl  k) ?_
        show own_WP _ _ _ _ T109 (mkF m 185 #[.val (.int zn), .val (.int x0), .val (.int x1), .val (.int x2), .val (.int x3), .val (.int x4), .val (.int (4 : Int32)), .val (.int zc0), .val (.int zc1), .val (.int zc2), .val (.int zc3), .val (.int zc4), .val (.ref za), .val (.int (0 : Int32))] [(.ref za)])
        obtain ⟨_, _, ⟨T110, L110, k110, n110⟩, -, X110, ⟨Lc110, hQ110, l110, y110, z110⟩, st110⟩ := Jvm.LawKit.callS X109 hx (y := (⟨"com/example/soak/soak/sip/SipMessage", "isKeepAlive", "([B)Z"⟩ : MethodName)) hown (mvT hZ (hw _ (List.mem_of_getElem? (i := 6) rfl))) (mvT hZ (hw _ (List.mem_of_getElem? (i := 7) rfl))) (mvT hZ (hw _ (List.mem_of_getElem? (i := 8) rfl))) (mvT hZ (hw _ (List.mem_of_getElem? (i := 9) rfl))) (by decide) (backOf (W := 0) (rm2 l Z a0 hw [] za k84 (4 : Int32) [(nar .byte zc0), (nar .byte zc1), (nar .byte zc2), (nar .byte zc3)] h102 n0 (own_le Z0 K105) (f103) (show 0 ≤ (4 : Int32).toInt from by decide) (show ([(nar .byte zc0), (nar .byte zc1), (nar .byte zc2), (nar .byte zc3)].length : Int) = (4 : Int32).toInt from rfl)) hZ (hw _ (List.mem_of_getElem? (i := 9) rfl)) (hw _ (List.mem_of_getElem? (i := 8) rfl)) (by decide) (by decide)) (g := (mkF m 185 #[.val (.int zn), .val (.int x0), .val (.int x1), .val (.int x2), .val (.int x3), .val (.int x4), .val (.int (4 : Int32)), .val (.int zc0), .val (.int zc1), .val (.int zc2), .val (.int zc3), .val (.int zc4), .val (.ref za), .val (.int (0 : Int32))] [(.ref za)])) rfl (by rw [hml]; rfl) (argsL := [(.ref za)]) (rest := []) (lenOf own_pd76616 rfl) rfl (by show 2 * 0 + _ ≤ _; exact Nat.le_of_eq rfl) (hb hby at_185) (fun _ _ => ⟨rfl, eq109, (by decide : 1 + 0 ≤ _), (by decide : 4 + 0 ≤ _)⟩)
        dsimp only [Pt.U, Pt.locs, Pt.cells, Pt.slots] at X110 l110 y110 z110 st110 hQ110
        subst l110 y110 z110
        obtain ⟨rfl, N110q, eq110⟩ := hQ110
        have N110 := Fr.app N109 N110q
        refine own_go st110 ?_
        show own_WP _ _ _ _ T110 (mkF m 188 #[.val (.int zn), .val (.int x0), .val (.int x1), .val (.int x2), .val (.int x3), .val (.int x4), .val (.int (4 : Int32)), .val (.int zc0), .val (.int zc1), .val (.int zc2), .val (.int zc3), .val (.int zc4), .val (.ref za), .val (.int (0 : Int32))] [(.int (own_ka [(nar .byte zc0), (nar .byte zc1), (nar .byte zc2), (nar .byte zc3)]))])
        refine own_go (fun t k => XS.iload X110.here hx rfl (hb hby at_188) rfl  k) ?_
        show own_WP _ _ _ _ T110 (mkF m 190 #[.val (.int zn), .val (.int x0), .val (.int x1), .val (.int x2), .val (.int x3), .val (.int x4), .val (.int (4 : Int32)), .val (.int zc0), .val (.int zc1), .val (.int zc2), .val (.int zc3), .val (.int zc4), .val (.ref za), .val (.int (0 : Int32))] [(.int (0 : Int32)), (.int (own_ka [(nar .byte zc0), (nar .byte zc1), (nar .byte zc2), (nar .byte zc3)]))])
        have hc190 : (own_ka [(nar .byte zc0), (nar .byte zc1), (nar .byte zc2), (nar .byte zc3)]) = (0 : Int32) := by
          simp [own_ka, hr_79, hr_80, hr_81, hr_82, hr_83, hc117, hc131]
        refine own_go (fun t k => XS.icmpNo X110.here hx rfl (hb hby at_190) rfl (teq hc190).2 k) ?_
        show own_WP _ _ _ _ T110 (mkF m 193 #[.val (.int zn), .val (.int x0), .val (.int x1), .val (.int x2), .val (.int x3), .val (.int x4), .val (.int (4 : Int32)), .val (.int zc0), .val (.int zc1), .val (.int zc2), .val (.int zc3), .val (.int zc4), .val (.ref za), .val (.int (0 : Int32))] [])
        refine own_go (fun t k => XS.iconst X110.here hx rfl (hb hby at_193) k) ?_
        show own_WP _ _ _ _ T110 (mkF m 194 #[.val (.int zn), .val (.int x0), .val (.int x1), .val (.int x2), .val (.int x3), .val (.int x4), .val (.int (4 : Int32)), .val (.int zc0), .val (.int zc1), .val (.int zc2), .val (.int zc3), .val (.int zc4), .val (.ref za), .val (.int (0 : Int32))] [(.int (1 : Int32))])
        refine own_go (fun t k => XS.goto X110.here hx rfl (pc0 := 194) (pc' := 198) rfl (hb hby at_194) (by decide) (by decide) k) ?_
        show own_WP _ _ _ _ T110 (mkF m 198 #[.val (.int zn), .val (.int x0), .val (.int x1), .val (.int x2), .val (.int x3), .val (.int x4), .val (.int (4 : Int32)), .val (.int zc0), .val (.int zc1), .val (.int zc2), .val (.int zc3), .val (.int zc4), .val (.ref za), .val (.int (0 : Int32))] [(.int (1 : Int32))])
        refine own_retN X110 hx Bd.notSynchronized (t := .boolean) (by simp) Bd.returns (hb hby at_198) (by decide) (by decide) ?_
        rw [eq110]
        exact ⟨rfl, N110⟩
      · refine own_go (fun t k => XS.ifNo X109.here hx rfl (hb hby at_131) rfl ((if0 _ _).trans (feq hc131).1) k) ?_
        show own_WP _ _ _ _ T109 (mkF m 134 #[.val (.int zn), .val (.int x0), .val (.int x1), .val (.int x2), .val (.int x3), .val (.int x4), .val (.int (4 : Int32)), .val (.int zc0), .val (.int zc1), .val (.int zc2), .val (.int zc3), .val (.int zc4), .val (.ref za), .unset] [])
        refine own_go (fun t k => XS.iload X109.here hx rfl (hb hby at_134) rfl  k) ?_
        show own_WP _ _ _ _ T109 (mkF m 136 #[.val (.int zn), .val (.int x0), .val (.int x1), .val (.int x2), .val (.int x3), .val (.int x4), .val (.int (4 : Int32)), .val (.int zc0), .val (.int zc1), .val (.int zc2), .val (.int zc3), .val (.int zc4), .val (.ref za), .unset] [(.int (4 : Int32))])
        refine own_go (fun t k => XS.iconst X109.here hx rfl (hb hby at_136) k) ?_
        show own_WP _ _ _ _ T109 (mkF m 137 #[.val (.int zn), .val (.int x0), .val (.int x1), .val (.int x2), .val (.int x3), .val (.int x4), .val (.int (4 : Int32)), .val (.int zc0), .val (.int zc1), .val (.int zc2), .val (.int zc3), .val (.int zc4), .val (.ref za), .unset] [(.int (3 : Int32)), (.int (4 : Int32))])
        have hc137 : ¬ ((4 : Int32) < (3 : Int32)) := by decide
        refine own_go (fun t k => XS.icmpNo X109.here hx rfl (hb hby at_137) rfl (flt hc137).1 k) ?_
        show own_WP _ _ _ _ T109 (mkF m 140 #[.val (.int zn), .val (.int x0), .val (.int x1), .val (.int x2), .val (.int x3), .val (.int x4), .val (.int (4 : Int32)), .val (.int zc0), .val (.int zc1), .val (.int zc2), .val (.int zc3), .val (.int zc4), .val (.ref za), .unset] [])
        refine own_go (fun t k => XS.iload X109.here hx rfl (hb hby at_140) rfl  k) ?_
        show own_WP _ _ _ _ T109 (mkF m 142 #[.val (.int zn), .val (.int x0), .val (.int x1), .val (.int x2), .val (.int x3), .val (.int x4), .val (.int (4 : Int32)), .val (.int zc0), .val (.int zc1), .val (.int zc2), .val (.int zc3), .val (.int zc4), .val (.ref za), .unset] [(.int zc2)])
        obtain ⟨_, _, ⟨T111, L111, k111, n111⟩, -, X111, ⟨Lc111, hQ111, l111, y111, z111⟩, st111⟩ := Jvm.LawKit.callS X109 hx (y := (⟨"com/example/soak/soak/sip/SipMessageIsKeepAlivePinLaw", "ws", "(B)Z"⟩ : MethodName)) hown (mvT hZ (hw _ (List.mem_of_getElem? (i := 10) rfl))) (mvT hZ (hw _ (List.mem_of_getElem? (i := 11) rfl))) (mvT hZ (hw _ (List.mem_of_getElem? (i := 3) rfl))) (mvT hZ (hw _ (List.mem_of_getElem? (i := 12) rfl))) (by decide) (backOf (W := 0) (rm3 l Z a0 hw [] zc2  h102 n0 (own_le Z0 K105) ) hZ (hw _ (List.mem_of_getElem? (i := 12) rfl)) (hw _ (List.mem_of_getElem? (i := 3) rfl)) (by decide) (by decide)) (g := (mkF m 142 #[.val (.int zn), .val (.int x0), .val (.int x1), .val (.int x2), .val (.int x3), .val (.int x4), .val (.int (4 : Int32)), .val (.int zc0), .val (.int zc1), .val (.int zc2), .val (.int zc3), .val (.int zc4), .val (.ref za), .unset] [(.int zc2)])) rfl (by rw [hml]; rfl) (argsL := [(.int zc2)]) (rest := []) (lenOf own_pd61727 rfl) rfl (by show 2 * 0 + _ ≤ _; exact Nat.le_of_eq rfl) (hb hby at_142) (fun _ _ => ⟨rfl, eq109, (by decide : 1 + 0 ≤ _), (by decide : 4 + 0 ≤ _)⟩)
        dsimp only [Pt.U, Pt.locs, Pt.cells, Pt.slots] at X111 l111 y111 z111 st111 hQ111
        subst l111 y111 z111
        obtain ⟨rfl, N111q, eq111⟩ := hQ111
        have N111 := Fr.app N109 N111q
        refine own_go st111 ?_
        show own_WP _ _ _ _ T111 (mkF m 145 #[.val (.int zn), .val (.int x0), .val (.int x1), .val (.int x2), .val (.int x3), .val (.int x4), .val (.int (4 : Int32)), .val (.int zc0), .val (.int zc1), .val (.int zc2), .val (.int zc3), .val (.int zc4), .val (.ref za), .unset] [(.int (own_ws zc2))])
        by_cases hc145 : (own_ws zc2) = (0 : Int32)
        · refine own_go (fun t k => XS.ifYes X111.here hx rfl (pc0 := 145) (pc' := 180) rfl (hb hby at_145) rfl ((if0 _ _).trans (teq hc145).1) (by decide) (by decide) k) ?_
          show own_WP _ _ _ _ T111 (mkF m 180 #[.val (.int zn), .val (.int x0), .val (.int x1), .val (.int x2), .val (.int x3), .val (.int x4), .val (.int (4 : Int32)), .val (.int zc0), .val (.int zc1), .val (.int zc2), .val (.int zc3), .val (.int zc4), .val (.ref za), .unset] [])
          refine own_go (fun t k => XS.iconst X111.here hx rfl (hb hby at_180) k) ?_
          show own_WP _ _ _ _ T111 (mkF m 181 #[.val (.int zn), .val (.int x0), .val (.int x1), .val (.int x2), .val (.int x3), .val (.int x4), .val (.int (4 : Int32)), .val (.int zc0), .val (.int zc1), .val (.int zc2), .val (.int zc3), .val (.int zc4), .val (.ref za), .unset] [(.int (0 : Int32))])
          refine own_go (fun t k => XS.istore X111.here hx rfl (hb hby at_181) rfl (l' := #[.val (.int zn), .val (.int x0), .val (.int x1), .val (.int x2), .val (.int x3), .val (.int x4), .val (.int (4 : Int32)), .val (.int zc0), .val (.int zc1), .val (.int zc2), .val (.int zc3), .val (.int zc4), .val (.ref za), .val (.int (0 : Int32))]) rfl k) ?_
          show own_WP _ _ _ _ T111 (mkF m 183 #[.val (.int zn), .val (.int x0), .val (.int x1), .val (.int x2), .val (.int x3), .val (.int x4), .val (.int (4 : Int32)), .val (.int zc0), .val (.int zc1), .val (.int zc2), .val (.int zc3), .val (.int zc4), .val (.ref za), .val (.int (0 : Int32))] [])
          refine own_go (fun t k => XS.aload X111.here hx rfl (hb hby at_183) rfl rfl  k) ?_
          show own_WP _ _ _ _ T111 (mkF m 185 #[.val (.int zn), .val (.int x0), .val (.int x1), .val (.int x2), .val (.int x3), .val (.int x4), .val (.int (4 : Int32)), .val (.int zc0), .val (.int zc1), .val (.int zc2), .val (.int zc3), .val (.int zc4), .val (.ref za), .val (.int (0 : Int32))] [(.ref za)])
          obtain ⟨_, _, ⟨T112, L112, k112, n112⟩, -, X112, ⟨Lc112, hQ112, l112, y112, z112⟩, st112⟩ := Jvm.LawKit.callS X111 hx (y := (⟨"com/example/soak/soak/sip/SipMessage", "isKeepAlive", "([B)Z"⟩ : MethodName)) hown (mvT hZ (hw _ (List.mem_of_getElem? (i := 6) rfl))) (mvT hZ (hw _ (List.mem_of_getElem? (i := 7) rfl))) (mvT hZ (hw _ (List.mem_of_getElem? (i := 8) rfl))) (mvT hZ (hw _ (List.mem_of_getElem? (i := 9) rfl))) (by decide) (backOf (W := 0) (rm2 l Z a0 hw [] za k84 (4 : Int32) [(nar .byte zc0), (nar .byte zc1), (nar .byte zc2), (nar .byte zc3)] h102 n0 (own_le Z0 K105) (f103) (show 0 ≤ (4 : Int32).toInt from by decide) (show ([(nar .byte zc0), (nar .byte zc1), (nar .byte zc2), (nar .byte zc3)].length : Int) = (4 : Int32).toInt from rfl)) hZ (hw _ (List.mem_of_getElem? (i := 9) rfl)) (hw _ (List.mem_of_getElem? (i := 8) rfl)) (by decide) (by decide)) (g := (mkF m 185 #[.val (.int zn), .val (.int x0), .val (.int x1), .val (.int x2), .val (.int x3), .val (.int x4), .val (.int (4 : Int32)), .val (.int zc0), .val (.int zc1), .val (.int zc2), .val (.int zc3), .val (.int zc4), .val (.ref za), .val (.int (0 : Int32))] [(.ref za)])) rfl (by rw [hml]; rfl) (argsL := [(.ref za)]) (rest := []) (lenOf own_pd76616 rfl) rfl (by show 2 * 0 + _ ≤ _; exact Nat.le_of_eq rfl) (hb hby at_185) (fun _ _ => ⟨rfl, eq111, (by decide : 1 + 0 ≤ _), (by decide : 4 + 0 ≤ _)⟩)
          dsimp only [Pt.U, Pt.locs, Pt.cells, Pt.slots] at X112 l112 y112 z112 st112 hQ112
          subst l112 y112 z112
          obtain ⟨rfl, N112q, eq112⟩ := hQ112
          have N112 := Fr.app N111 N112q
          refine own_go st112 ?_
          show own_WP _ _ _ _ T112 (mkF m 188 #[.val (.int zn), .val (.int x0), .val (.int x1), .val (.int x2), .val (.int x3), .val (.int x4), .val (.int (4 : Int32)), .val (.int zc0), .val (.int zc1), .val (.int zc2), .val (.int zc3), .val (.int zc4), .val (.ref za), .val (.int (0 : Int32))] [(.int (own_ka [(nar .byte zc0), (nar .byte zc1), (nar .byte zc2), (nar .byte zc3)]))])
          refine own_go (fun t k => XS.iload X112.here hx rfl (hb hby at_188) rfl  k) ?_
          show own_WP _ _ _ _ T112 (mkF m 190 #[.val (.int zn), .val (.int x0), .val (.int x1), .val (.int x2), .val (.int x3), .val (.int x4), .val (.int (4 : Int32)), .val (.int zc0), .val (.int zc1), .val (.int zc2), .val (.int zc3), .val (.int zc4), .val (.ref za), .val (.int (0 : Int32))] [(.int (0 : Int32)), (.int (own_ka [(nar .byte zc0), (nar .byte zc1), (nar .byte zc2), (nar .byte zc3)]))])
          have hc190 : (own_ka [(nar .byte zc0), (nar .byte zc1), (nar .byte zc2), (nar .byte zc3)]) = (0 : Int32) := by
            simp [own_ka, hr_79, hr_80, hr_81, hr_82, hr_83, hc117, hc131, hc145]
          refine own_go (fun t k => XS.icmpNo X112.here hx rfl (hb hby at_190) rfl (teq hc190).2 k) ?_
          show own_WP _ _ _ _ T112 (mkF m 193 #[.val (.int zn), .val (.int x0), .val (.int x1), .val (.int x2), .val (.int x3), .val (.int x4), .val (.int (4 : Int32)), .val (.int zc0), .val (.int zc1), .val (.int zc2), .val (.int zc3), .val (.int zc4), .val (.ref za), .val (.int (0 : Int32))] [])
          refine own_go (fun t k => XS.iconst X112.here hx rfl (hb hby at_193) k) ?_
          show own_WP _ _ _ _ T112 (mkF m 194 #[.val (.int zn), .val (.int x0), .val (.int x1), .val (.int x2), .val (.int x3), .val (.int x4), .val (.int (4 : Int32)), .val (.int zc0), .val (.int zc1), .val (.int zc2), .val (.int zc3), .val (.int zc4), .val (.ref za), .val (.int (0 : Int32))] [(.int (1 : Int32))])
          refine own_go (fun t k => XS.goto X112.here hx rfl (pc0 := 194) (pc' := 198) rfl (hb hby at_194) (by decide) (by decide) k) ?_
          show own_WP _ _ _ _ T112 (mkF m 198 #[.val (.int zn), .val (.int x0), .val (.int x1), .val (.int x2), .val (.int x3), .val (.int x4), .val (.int (4 : Int32)), .val (.int zc0), .val (.int zc1), .val (.int zc2), .val (.int zc3), .val (.int zc4), .val (.ref za), .val (.int (0 : Int32))] [(.int (1 : Int32))])
          refine own_retN X112 hx Bd.notSynchronized (t := .boolean) (by simp) Bd.returns (hb hby at_198) (by decide) (by decide) ?_
          rw [eq112]
          exact ⟨rfl, N112⟩
        · refine own_go (fun t k => XS.ifNo X111.here hx rfl (hb hby at_145) rfl ((if0 _ _).trans (feq hc145).1) k) ?_
          show own_WP _ _ _ _ T111 (mkF m 148 #[.val (.int zn), .val (.int x0), .val (.int x1), .val (.int x2), .val (.int x3), .val (.int x4), .val (.int (4 : Int32)), .val (.int zc0), .val (.int zc1), .val (.int zc2), .val (.int zc3), .val (.int zc4), .val (.ref za), .unset] [])
          refine own_go (fun t k => XS.iload X111.here hx rfl (hb hby at_148) rfl  k) ?_
          show own_WP _ _ _ _ T111 (mkF m 150 #[.val (.int zn), .val (.int x0), .val (.int x1), .val (.int x2), .val (.int x3), .val (.int x4), .val (.int (4 : Int32)), .val (.int zc0), .val (.int zc1), .val (.int zc2), .val (.int zc3), .val (.int zc4), .val (.ref za), .unset] [(.int (4 : Int32))])
          refine own_go (fun t k => XS.iconst X111.here hx rfl (hb hby at_150) k) ?_
          show own_WP _ _ _ _ T111 (mkF m 151 #[.val (.int zn), .val (.int x0), .val (.int x1), .val (.int x2), .val (.int x3), .val (.int x4), .val (.int (4 : Int32)), .val (.int zc0), .val (.int zc1), .val (.int zc2), .val (.int zc3), .val (.int zc4), .val (.ref za), .unset] [(.int (4 : Int32)), (.int (4 : Int32))])
          have hc151 : ¬ ((4 : Int32) < (4 : Int32)) := by decide
          refine own_go (fun t k => XS.icmpNo X111.here hx rfl (hb hby at_151) rfl (flt hc151).1 k) ?_
          show own_WP _ _ _ _ T111 (mkF m 154 #[.val (.int zn), .val (.int x0), .val (.int x1), .val (.int x2), .val (.int x3), .val (.int x4), .val (.int (4 : Int32)), .val (.int zc0), .val (.int zc1), .val (.int zc2), .val (.int zc3), .val (.int zc4), .val (.ref za), .unset] [])
          refine own_go (fun t k => XS.iload X111.here hx rfl (hb hby at_154) rfl  k) ?_
          show own_WP _ _ _ _ T111 (mkF m 156 #[.val (.int zn), .val (.int x0), .val (.int x1), .val (.int x2), .val (.int x3), .val (.int x4), .val (.int (4 : Int32)), .val (.int zc0), .val (.int zc1), .val (.int zc2), .val (.int zc3), .val (.int zc4), .val (.ref za), .unset] [(.int zc3)])
          obtain ⟨_, _, ⟨T113, L113, k113, n113⟩, -, X113, ⟨Lc113, hQ113, l113, y113, z113⟩, st113⟩ := Jvm.LawKit.callS X111 hx (y := (⟨"com/example/soak/soak/sip/SipMessageIsKeepAlivePinLaw", "ws", "(B)Z"⟩ : MethodName)) hown (mvT hZ (hw _ (List.mem_of_getElem? (i := 10) rfl))) (mvT hZ (hw _ (List.mem_of_getElem? (i := 11) rfl))) (mvT hZ (hw _ (List.mem_of_getElem? (i := 3) rfl))) (mvT hZ (hw _ (List.mem_of_getElem? (i := 12) rfl))) (by decide) (backOf (W := 0) (rm3 l Z a0 hw [] zc3  h102 n0 (own_le Z0 K105) ) hZ (hw _ (List.mem_of_getElem? (i := 12) rfl)) (hw _ (List.mem_of_getElem? (i := 3) rfl)) (by decide) (by decide)) (g := (mkF m 156 #[.val (.int zn), .val (.int x0), .val (.int x1), .val (.int x2), .val (.int x3), .val (.int x4), .val (.int (4 : Int32)), .val (.int zc0), .val (.int zc1), .val (.int zc2), .val (.int zc3), .val (.int zc4), .val (.ref za), .unset] [(.int zc3)])) rfl (by rw [hml]; rfl) (argsL := [(.int zc3)]) (rest := []) (lenOf own_pd61727 rfl) rfl (by show 2 * 0 + _ ≤ _; exact Nat.le_of_eq rfl) (hb hby at_156) (fun _ _ => ⟨rfl, eq111, (by decide : 1 + 0 ≤ _), (by decide : 4 + 0 ≤ _)⟩)
          dsimp only [Pt.U, Pt.locs, Pt.cells, Pt.slots] at X113 l113 y113 z113 st113 hQ113
          subst l113 y113 z113
          obtain ⟨rfl, N113q, eq113⟩ := hQ113
          have N113 := Fr.app N111 N113q
          refine own_go st113 ?_
          show own_WP _ _ _ _ T113 (mkF m 159 #[.val (.int zn), .val (.int x0), .val (.int x1), .val (.int x2), .val (.int x3), .val (.int x4), .val (.int (4 : Int32)), .val (.int zc0), .val (.int zc1), .val (.int zc2), .val (.int zc3), .val (.int zc4), .val (.ref za), .unset] [(.int (own_ws zc3))])
          by_cases hc159 : (own_ws zc3) = (0 : Int32)
          · refine own_go (fun t k => XS.ifYes X113.here hx rfl (pc0 := 159) (pc' := 180) rfl (hb hby at_159) rfl ((if0 _ _).trans (teq hc159).1) (by decide) (by decide) k) ?_
            show own_WP _ _ _ _ T113 (mkF m 180 #[.val (.int zn), .val (.int x0), .val (.int x1), .val (.int x2), .val (.int x3), .val (.int x4), .val (.int (4 : Int32)), .val (.int zc0), .val (.int zc1), .val (.int zc2), .val (.int zc3), .val (.int zc4), .val (.ref za), .unset] [])
            refine own_go (fun t k => XS.iconst X113.here hx rfl (hb hby at_180) k) ?_
            show own_WP _ _ _ _ T113 (mkF m 181 #[.val (.int zn), .val (.int x0), .val (.int x1), .val (.int x2), .val (.int x3), .val (.int x4), .val (.int (4 : Int32)), .val (.int zc0), .val (.int zc1), .val (.int zc2), .val (.int zc3), .val (.int zc4), .val (.ref za), .unset] [(.int (0 : Int32))])
            refine own_go (fun t k => XS.istore X113.here hx rfl (hb hby at_181) rfl (l' := #[.val (.int zn), .val (.int x0), .val (.int x1), .val (.int x2), .val (.int x3), .val (.int x4), .val (.int (4 : Int32)), .val (.int zc0), .val (.int zc1), .val (.int zc2), .val (.int zc3), .val (.int zc4), .val (.ref za), .val (.int (0 : Int32))]) rfl k) ?_
            show own_WP _ _ _ _ T113 (mkF m 183 #[.val (.int zn), .val (.int x0), .val (.int x1), .val (.int x2), .val (.int x3), .val (.int x4), .val (.int (4 : Int32)), .val (.int zc0), .val (.int zc1), .val (.int zc2), .val (.int zc3), .val (.int zc4), .val (.ref za), .val (.int (0 : Int32))] [])
            refine own_go (fun t k => XS.aload X113.here hx rfl (hb hby at_183) rfl rfl  k) ?_
            show own_WP _ _ _ _ T113 (mkF m 185 #[.val (.int zn), .val (.int x0), .val (.int x1), .val (.int x2), .val (.int x3), .val (.int x4), .val (.int (4 : Int32)), .val (.int zc0), .val (.int zc1), .val (.int zc2), .val (.int zc3), .val (.int zc4), .val (.ref za), .val (.int (0 : Int32))] [(.ref za)])
            obtain ⟨_, _, ⟨T114, L114, k114, n114⟩, -, X114, ⟨Lc114, hQ114, l114, y114, z114⟩, st114⟩ := Jvm.LawKit.callS X113 hx (y := (⟨"com/example/soak/soak/sip/SipMessage", "isKeepAlive", "([B)Z"⟩ : MethodName)) hown (mvT hZ (hw _ (List.mem_of_getElem? (i := 6) rfl))) (mvT hZ (hw _ (List.mem_of_getElem? (i := 7) rfl))) (mvT hZ (hw _ (List.mem_of_getElem? (i := 8) rfl))) (mvT hZ (hw _ (List.mem_of_getElem? (i := 9) rfl))) (by decide) (backOf (W := 0) (rm2 l Z a0 hw [] za k84 (4 : Int32) [(nar .byte zc0), (nar .byte zc1), (nar .byte zc2), (nar .byte zc3)] h102 n0 (own_le Z0 K105) (f103) (show 0 ≤ (4 : Int32).toInt from by decide) (show ([(nar .byte zc0), (nar .byte zc1), (nar .byte zc2), (nar .byte zc3)].length : Int) = (4 : Int32).toInt from rfl)) hZ (hw _ (List.mem_of_getElem? (i := 9) rfl)) (hw _ (List.mem_of_getElem? (i := 8) rfl)) (by decide) (by decide)) (g := (mkF m 185 #[.val (.int zn), .val (.int x0), .val (.int x1), .val (.int x2), .val (.int x3), .val (.int x4), .val (.int (4 : Int32)), .val (.int zc0), .val (.int zc1), .val (.int zc2), .val (.int zc3), .val (.int zc4), .val (.ref za), .val (.int (0 : Int32))] [(.ref za)])) rfl (by rw [hml]; rfl) (argsL := [(.ref za)]) (rest := []) (lenOf own_pd76616 rfl) rfl (by show 2 * 0 + _ ≤ _; exact Nat.le_of_eq rfl) (hb hby at_185) (fun _ _ => ⟨rfl, eq113, (by decide : 1 + 0 ≤ _), (by decide : 4 + 0 ≤ _)⟩)
            dsimp only [Pt.U, Pt.locs, Pt.cells, Pt.slots] at X114 l114 y114 z114 st114 hQ114
            subst l114 y114 z114
            obtain ⟨rfl, N114q, eq114⟩ := hQ114
            have N114 := Fr.app N113 N114q
            refine own_go st114 ?_
            show own_WP _ _ _ _ T114 (mkF m 188 #[.val (.int zn), .val (.int x0), .val (.int x1), .val (.int x2), .val (.int x3), .val (.int x4), .val (.int (4 : Int32)), .val (.int zc0), .val (.int zc1), .val (.int zc2), .val (.int zc3), .val (.int zc4), .val (.ref za), .val (.int (0 : Int32))] [(.int (own_ka [(nar .byte zc0), (nar .byte zc1), (nar .byte zc2), (nar .byte zc3)]))])
            refine own_go (fun t k => XS.iload X114.here hx rfl (hb hby at_188) rfl  k) ?_
            show own_WP _ _ _ _ T114 (mkF m 190 #[.val (.int zn), .val (.int x0), .val (.int x1), .val (.int x2), .val (.int x3), .val (.int x4), .val (.int (4 : Int32)), .val (.int zc0), .val (.int zc1), .val (.int zc2), .val (.int zc3), .val (.int zc4), .val (.ref za), .val (.int (0 : Int32))] [(.int (0 : Int32)), (.int (own_ka [(nar .byte zc0), (nar .byte zc1), (nar .byte zc2), (nar .byte zc3)]))])
            have hc190 : (own_ka [(nar .byte zc0), (nar .byte zc1), (nar .byte zc2), (nar .byte zc3)]) = (0 : Int32) := by
              simp [own_ka, hr_79, hr_80, hr_81, hr_82, hr_83, hc117, hc131, hc145, hc159]
            refine own_go (fun t k => XS.icmpNo X114.here hx rfl (hb hby at_190) rfl (teq hc190).2 k) ?_
            show own_WP _ _ _ _ T114 (mkF m 193 #[.val (.int zn), .val (.int x0), .val (.int x1), .val (.int x2), .val (.int x3), .val (.int x4), .val (.int (4 : Int32)), .val (.int zc0), .val (.int zc1), .val (.int zc2), .val (.int zc3), .val (.int zc4), .val (.ref za), .val (.int (0 : Int32))] [])
            refine own_go (fun t k => XS.iconst X114.here hx rfl (hb hby at_193) k) ?_
            show own_WP _ _ _ _ T114 (mkF m 194 #[.val (.int zn), .val (.int x0), .val (.int x1), .val (.int x2), .val (.int x3), .val (.int x4), .val (.int (4 : Int32)), .val (.int zc0), .val (.int zc1), .val (.int zc2), .val (.int zc3), .val (.int zc4), .val (.ref za), .val (.int (0 : Int32))] [(.int (1 : Int32))])
            refine own_go (fun t k => XS.goto X114.here hx rfl (pc0 := 194) (pc' := 198) rfl (hb hby at_194) (by decide) (by decide) k) ?_
            show own_WP _ _ _ _ T114 (mkF m 198 #[.val (.int zn), .val (.int x0), .val (.int x1), .val (.int x2), .val (.int x3), .val (.int x4), .val (.int (4 : Int32)), .val (.int zc0), .val (.int zc1), .val (.int zc2), .val (.int zc3), .val (.int zc4), .val (.ref za), .val (.int (0 : Int32))] [(.int (1 : Int32))])
            refine own_retN X114 hx Bd.notSynchronized (t := .boolean) (by simp) Bd.returns (hb hby at_198) (by decide) (by decide) ?_
            rw [eq114]
            exact ⟨rfl, N114⟩
          · refine own_go (fun t k => XS.ifNo X113.here hx rfl (hb hby at_159) rfl ((if0 _ _).trans (feq hc159).1) k) ?_
            show own_WP _ _ _ _ T113 (mkF m 162 #[.val (.int zn), .val (.int x0), .val (.int x1), .val (.int x2), .val (.int x3), .val (.int x4), .val (.int (4 : Int32)), .val (.int zc0), .val (.int zc1), .val (.int zc2), .val (.int zc3), .val (.int zc4), .val (.ref za), .unset] [])
            refine own_go (fun t k => XS.iload X113.here hx rfl (hb hby at_162) rfl  k) ?_
            show own_WP _ _ _ _ T113 (mkF m 164 #[.val (.int zn), .val (.int x0), .val (.int x1), .val (.int x2), .val (.int x3), .val (.int x4), .val (.int (4 : Int32)), .val (.int zc0), .val (.int zc1), .val (.int zc2), .val (.int zc3), .val (.int zc4), .val (.ref za), .unset] [(.int (4 : Int32))])
            refine own_go (fun t k => XS.iconst X113.here hx rfl (hb hby at_164) k) ?_
            show own_WP _ _ _ _ T113 (mkF m 165 #[.val (.int zn), .val (.int x0), .val (.int x1), .val (.int x2), .val (.int x3), .val (.int x4), .val (.int (4 : Int32)), .val (.int zc0), .val (.int zc1), .val (.int zc2), .val (.int zc3), .val (.int zc4), .val (.ref za), .unset] [(.int (5 : Int32)), (.int (4 : Int32))])
            have hc165 : (4 : Int32) < (5 : Int32) := by decide
            refine own_go (fun t k => XS.icmpYes X113.here hx rfl (pc0 := 165) (pc' := 176) rfl (hb hby at_165) rfl (tlt hc165).1 (by decide) (by decide) k) ?_
            show own_WP _ _ _ _ T113 (mkF m 176 #[.val (.int zn), .val (.int x0), .val (.int x1), .val (.int x2), .val (.int x3), .val (.int x4), .val (.int (4 : Int32)), .val (.int zc0), .val (.int zc1), .val (.int zc2), .val (.int zc3), .val (.int zc4), .val (.ref za), .unset] [])
            refine own_go (fun t k => XS.iconst X113.here hx rfl (hb hby at_176) k) ?_
            show own_WP _ _ _ _ T113 (mkF m 177 #[.val (.int zn), .val (.int x0), .val (.int x1), .val (.int x2), .val (.int x3), .val (.int x4), .val (.int (4 : Int32)), .val (.int zc0), .val (.int zc1), .val (.int zc2), .val (.int zc3), .val (.int zc4), .val (.ref za), .unset] [(.int (1 : Int32))])
            refine own_go (fun t k => XS.goto X113.here hx rfl (pc0 := 177) (pc' := 181) rfl (hb hby at_177) (by decide) (by decide) k) ?_
            show own_WP _ _ _ _ T113 (mkF m 181 #[.val (.int zn), .val (.int x0), .val (.int x1), .val (.int x2), .val (.int x3), .val (.int x4), .val (.int (4 : Int32)), .val (.int zc0), .val (.int zc1), .val (.int zc2), .val (.int zc3), .val (.int zc4), .val (.ref za), .unset] [(.int (1 : Int32))])
            refine own_go (fun t k => XS.istore X113.here hx rfl (hb hby at_181) rfl (l' := #[.val (.int zn), .val (.int x0), .val (.int x1), .val (.int x2), .val (.int x3), .val (.int x4), .val (.int (4 : Int32)), .val (.int zc0), .val (.int zc1), .val (.int zc2), .val (.int zc3), .val (.int zc4), .val (.ref za), .val (.int (1 : Int32))]) rfl k) ?_
            show own_WP _ _ _ _ T113 (mkF m 183 #[.val (.int zn), .val (.int x0), .val (.int x1), .val (.int x2), .val (.int x3), .val (.int x4), .val (.int (4 : Int32)), .val (.int zc0), .val (.int zc1), .val (.int zc2), .val (.int zc3), .val (.int zc4), .val (.ref za), .val (.int (1 : Int32))] [])
            refine own_go (fun t k => XS.aload X113.here hx rfl (hb hby at_183) rfl rfl  k) ?_
            show own_WP _ _ _ _ T113 (mkF m 185 #[.val (.int zn), .val (.int x0), .val (.int x1), .val (.int x2), .val (.int x3), .val (.int x4), .val (.int (4 : Int32)), .val (.int zc0), .val (.int zc1), .val (.int zc2), .val (.int zc3), .val (.int zc4), .val (.ref za), .val (.int (1 : Int32))] [(.ref za)])
            obtain ⟨_, _, ⟨T115, L115, k115, n115⟩, -, X115, ⟨Lc115, hQ115, l115, y115, z115⟩, st115⟩ := Jvm.LawKit.callS X113 hx (y := (⟨"com/example/soak/soak/sip/SipMessage", "isKeepAlive", "([B)Z"⟩ : MethodName)) hown (mvT hZ (hw _ (List.mem_of_getElem? (i := 6) rfl))) (mvT hZ (hw _ (List.mem_of_getElem? (i := 7) rfl))) (mvT hZ (hw _ (List.mem_of_getElem? (i := 8) rfl))) (mvT hZ (hw _ (List.mem_of_getElem? (i := 9) rfl))) (by decide) (backOf (W := 0) (rm2 l Z a0 hw [] za k84 (4 : Int32) [(nar .byte zc0), (nar .byte zc1), (nar .byte zc2), (nar .byte zc3)] h102 n0 (own_le Z0 K105) (f103) (show 0 ≤ (4 : Int32).toInt from by decide) (show ([(nar .byte zc0), (nar .byte zc1), (nar .byte zc2), (nar .byte zc3)].length : Int) = (4 : Int32).toInt from rfl)) hZ (hw _ (List.mem_of_getElem? (i := 9) rfl)) (hw _ (List.mem_of_getElem? (i := 8) rfl)) (by decide) (by decide)) (g := (mkF m 185 #[.val (.int zn), .val (.int x0), .val (.int x1), .val (.int x2), .val (.int x3), .val (.int x4), .val (.int (4 : Int32)), .val (.int zc0), .val (.int zc1), .val (.int zc2), .val (.int zc3), .val (.int zc4), .val (.ref za), .val (.int (1 : Int32))] [(.ref za)])) rfl (by rw [hml]; rfl) (argsL := [(.ref za)]) (rest := []) (lenOf own_pd76616 rfl) rfl (by show 2 * 0 + _ ≤ _; exact Nat.le_of_eq rfl) (hb hby at_185) (fun _ _ => ⟨rfl, eq113, (by decide : 1 + 0 ≤ _), (by decide : 4 + 0 ≤ _)⟩)
            dsimp only [Pt.U, Pt.locs, Pt.cells, Pt.slots] at X115 l115 y115 z115 st115 hQ115
            subst l115 y115 z115
            obtain ⟨rfl, N115q, eq115⟩ := hQ115
            have N115 := Fr.app N113 N115q
            refine own_go st115 ?_
            show own_WP _ _ _ _ T115 (mkF m 188 #[.val (.int zn), .val (.int x0), .val (.int x1), .val (.int x2), .val (.int x3), .val (.int x4), .val (.int (4 : Int32)), .val (.int zc0), .val (.int zc1), .val (.int zc2), .val (.int zc3), .val (.int zc4), .val (.ref za), .val (.int (1 : Int32))] [(.int (own_ka [(nar .byte zc0), (nar .byte zc1), (nar .byte zc2), (nar .byte zc3)]))])
            refine own_go (fun t k => XS.iload X115.here hx rfl (hb hby at_188) rfl  k) ?_
            show own_WP _ _ _ _ T115 (mkF m 190 #[.val (.int zn), .val (.int x0), .val (.int x1), .val (.int x2), .val (.int x3), .val (.int x4), .val (.int (4 : Int32)), .val (.int zc0), .val (.int zc1), .val (.int zc2), .val (.int zc3), .val (.int zc4), .val (.ref za), .val (.int (1 : Int32))] [(.int (1 : Int32)), (.int (own_ka [(nar .byte zc0), (nar .byte zc1), (nar .byte zc2), (nar .byte zc3)]))])
            have hc190 : (own_ka [(nar .byte zc0), (nar .byte zc1), (nar .byte zc2), (nar .byte zc3)]) = (1 : Int32) := by
              simp [own_ka, hr_79, hr_80, hr_81, hr_82, hr_83, hc117, hc131, hc145, hc159]
            refine own_go (fun t k => XS.icmpNo X115.here hx rfl (hb hby at_190) rfl (teq hc190).2 k) ?_
            show own_WP _ _ _ _ T115 (mkF m 193 #[.val (.int zn), .val (.int x0), .val (.int x1), .val (.int x2), .val (.int x3), .val (.int x4), .val (.int (4 : Int32)), .val (.int zc0), .val (.int zc1), .val (.int zc2), .val (.int zc3), .val (.int zc4), .val (.ref za), .val (.int (1 : Int32))] [])
            refine own_go (fun t k => XS.iconst X115.here hx rfl (hb hby at_193) k) ?_
            show own_WP _ _ _ _ T115 (mkF m 194 #[.val (.int zn), .val (.int x0), .val (.int x1), .val (.int x2), .val (.int x3), .val (.int x4), .val (.int (4 : Int32)), .val (.int zc0), .val (.int zc1), .val (.int zc2), .val (.int zc3), .val (.int zc4), .val (.ref za), .val (.int (1 : Int32))] [(.int (1 : Int32))])
            refine own_go (fun t k => XS.goto X115.here hx rfl (pc0 := 194) (pc' := 198) rfl (hb hby at_194) (by decide) (by decide) k) ?_
            show own_WP _ _ _ _ T115 (mkF m 198 #[.val (.int zn), .val (.int x0), .val (.int x1), .val (.int x2), .val (.int x3), .val (.int x4), .val (.int (4 : Int32)), .val (.int zc0), .val (.int zc1), .val (.int zc2), .val (.int zc3), .val (.int zc4), .val (.ref za), .val (.int (1 : Int32))] [(.int (1 : Int32))])
            refine own_retN X115 hx Bd.notSynchronized (t := .boolean) (by simp) Bd.returns (hb hby at_198) (by decide) (by decide) ?_
            rw [eq115]
            exact ⟨rfl, N115⟩
  · rw [d_zm] at hl
    subst hl
    show own_WP _ _ _ _ s₁ (mkF m 9 #[.val (.int zn), .val (.int x0), .val (.int x1), .val (.int x2), .val (.int x3), .val (.int x4), .val (.int (5 : Int32)), .unset, .unset, .unset, .unset, .unset, .unset, .unset] [])
    refine own_go (fun t k => XS.iloadN X0.here hx rfl (hb hby at_9) rfl  k) ?_
    show own_WP _ _ _ _ s₁ (mkF m 10 #[.val (.int zn), .val (.int x0), .val (.int x1), .val (.int x2), .val (.int x3), .val (.int x4), .val (.int (5 : Int32)), .unset, .unset, .unset, .unset, .unset, .unset, .unset] [(.int x0)])
    obtain ⟨_, _, ⟨T116, L116, k116, n116⟩, -, X116, ⟨Lc116, hQ116, l116, y116, z116⟩, st116⟩ := Jvm.LawKit.callS X0 hx (y := (⟨"com/example/soak/soak/sip/SipMessageIsKeepAlivePinLaw", "pick", "(I)B"⟩ : MethodName)) hown (mvT hZ (hw _ (List.mem_of_getElem? (i := 1) rfl))) (mvT hZ (hw _ (List.mem_of_getElem? (i := 2) rfl))) (mvT hZ (hw _ (List.mem_of_getElem? (i := 3) rfl))) (mvT hZ (hw _ (List.mem_of_getElem? (i := 4) rfl))) (by decide) (backOf (W := 0) (rm1 l Z a0 hw [] x0  h0 n0 (own_le Z0 K0) ) hZ (hw _ (List.mem_of_getElem? (i := 4) rfl)) (hw _ (List.mem_of_getElem? (i := 3) rfl)) (by decide) (by decide)) (g := (mkF m 10 #[.val (.int zn), .val (.int x0), .val (.int x1), .val (.int x2), .val (.int x3), .val (.int x4), .val (.int (5 : Int32)), .unset, .unset, .unset, .unset, .unset, .unset, .unset] [(.int x0)])) rfl (by rw [hml]; rfl) (argsL := [(.int x0)]) (rest := []) (lenOf own_pd81830 rfl) rfl (by show 2 * 0 + _ ≤ _; exact Nat.le_of_eq rfl) (hb hby at_10) (fun _ _ => ⟨rfl, e0, (by decide : 0 + 0 ≤ _), (by decide : 0 + 0 ≤ _)⟩)
    dsimp only [Pt.U, Pt.locs, Pt.cells, Pt.slots] at X116 l116 y116 z116 st116 hQ116
    subst l116 y116 z116
    obtain ⟨zc0, rfl, N116q, eq116, hr_116⟩ := hQ116
    have N116 := Fr.app N0 N116q
    refine own_go st116 ?_
    show own_WP _ _ _ _ T116 (mkF m 13 #[.val (.int zn), .val (.int x0), .val (.int x1), .val (.int x2), .val (.int x3), .val (.int x4), .val (.int (5 : Int32)), .unset, .unset, .unset, .unset, .unset, .unset, .unset] [(.int zc0)])
    refine own_go (fun t k => XS.istore X116.here hx rfl (hb hby at_13) rfl (l' := #[.val (.int zn), .val (.int x0), .val (.int x1), .val (.int x2), .val (.int x3), .val (.int x4), .val (.int (5 : Int32)), .val (.int zc0), .unset, .unset, .unset, .unset, .unset, .unset]) rfl k) ?_
    show own_WP _ _ _ _ T116 (mkF m 15 #[.val (.int zn), .val (.int x0), .val (.int x1), .val (.int x2), .val (.int x3), .val (.int x4), .val (.int (5 : Int32)), .val (.int zc0), .unset, .unset, .unset, .unset, .unset, .unset] [])
    refine own_go (fun t k => XS.iloadN X116.here hx rfl (hb hby at_15) rfl  k) ?_
    show own_WP _ _ _ _ T116 (mkF m 16 #[.val (.int zn), .val (.int x0), .val (.int x1), .val (.int x2), .val (.int x3), .val (.int x4), .val (.int (5 : Int32)), .val (.int zc0), .unset, .unset, .unset, .unset, .unset, .unset] [(.int x1)])
    obtain ⟨_, _, ⟨T117, L117, k117, n117⟩, -, X117, ⟨Lc117, hQ117, l117, y117, z117⟩, st117⟩ := Jvm.LawKit.callS X116 hx (y := (⟨"com/example/soak/soak/sip/SipMessageIsKeepAlivePinLaw", "pick", "(I)B"⟩ : MethodName)) hown (mvT hZ (hw _ (List.mem_of_getElem? (i := 1) rfl))) (mvT hZ (hw _ (List.mem_of_getElem? (i := 2) rfl))) (mvT hZ (hw _ (List.mem_of_getElem? (i := 3) rfl))) (mvT hZ (hw _ (List.mem_of_getElem? (i := 4) rfl))) (by decide) (backOf (W := 0) (rm1 l Z a0 hw [] x1  h0 n0 (own_le Z0 K0) ) hZ (hw _ (List.mem_of_getElem? (i := 4) rfl)) (hw _ (List.mem_of_getElem? (i := 3) rfl)) (by decide) (by decide)) (g := (mkF m 16 #[.val (.int zn), .val (.int x0), .val (.int x1), .val (.int x2), .val (.int x3), .val (.int x4), .val (.int (5 : Int32)), .val (.int zc0), .unset, .unset, .unset, .unset, .unset, .unset] [(.int x1)])) rfl (by rw [hml]; rfl) (argsL := [(.int x1)]) (rest := []) (lenOf own_pd81830 rfl) rfl (by show 2 * 0 + _ ≤ _; exact Nat.le_of_eq rfl) (hb hby at_16) (fun _ _ => ⟨rfl, eq116, (by decide : 0 + 0 ≤ _), (by decide : 0 + 0 ≤ _)⟩)
    dsimp only [Pt.U, Pt.locs, Pt.cells, Pt.slots] at X117 l117 y117 z117 st117 hQ117
    subst l117 y117 z117
    obtain ⟨zc1, rfl, N117q, eq117, hr_117⟩ := hQ117
    have N117 := Fr.app N116 N117q
    refine own_go st117 ?_
    show own_WP _ _ _ _ T117 (mkF m 19 #[.val (.int zn), .val (.int x0), .val (.int x1), .val (.int x2), .val (.int x3), .val (.int x4), .val (.int (5 : Int32)), .val (.int zc0), .unset, .unset, .unset, .unset, .unset, .unset] [(.int zc1)])
    refine own_go (fun t k => XS.istore X117.here hx rfl (hb hby at_19) rfl (l' := #[.val (.int zn), .val (.int x0), .val (.int x1), .val (.int x2), .val (.int x3), .val (.int x4), .val (.int (5 : Int32)), .val (.int zc0), .val (.int zc1), .unset, .unset, .unset, .unset, .unset]) rfl k) ?_
    show own_WP _ _ _ _ T117 (mkF m 21 #[.val (.int zn), .val (.int x0), .val (.int x1), .val (.int x2), .val (.int x3), .val (.int x4), .val (.int (5 : Int32)), .val (.int zc0), .val (.int zc1), .unset, .unset, .unset, .unset, .unset] [])
    refine own_go (fun t k => XS.iloadN X117.here hx rfl (hb hby at_21) rfl  k) ?_
    show own_WP _ _ _ _ T117 (mkF m 22 #[.val (.int zn), .val (.int x0), .val (.int x1), .val (.int x2), .val (.int x3), .val (.int x4), .val (.int (5 : Int32)), .val (.int zc0), .val (.int zc1), .unset, .unset, .unset, .unset, .unset] [(.int x2)])
    obtain ⟨_, _, ⟨T118, L118, k118, n118⟩, -, X118, ⟨Lc118, hQ118, l118, y118, z118⟩, st118⟩ := Jvm.LawKit.callS X117 hx (y := (⟨"com/example/soak/soak/sip/SipMessageIsKeepAlivePinLaw", "pick", "(I)B"⟩ : MethodName)) hown (mvT hZ (hw _ (List.mem_of_getElem? (i := 1) rfl))) (mvT hZ (hw _ (List.mem_of_getElem? (i := 2) rfl))) (mvT hZ (hw _ (List.mem_of_getElem? (i := 3) rfl))) (mvT hZ (hw _ (List.mem_of_getElem? (i := 4) rfl))) (by decide) (backOf (W := 0) (rm1 l Z a0 hw [] x2  h0 n0 (own_le Z0 K0) ) hZ (hw _ (List.mem_of_getElem? (i := 4) rfl)) (hw _ (List.mem_of_getElem? (i := 3) rfl)) (by decide) (by decide)) (g := (mkF m 22 #[.val (.int zn), .val (.int x0), .val (.int x1), .val (.int x2), .val (.int x3), .val (.int x4), .val (.int (5 : Int32)), .val (.int zc0), .val (.int zc1), .unset, .unset, .unset, .unset, .unset] [(.int x2)])) rfl (by rw [hml]; rfl) (argsL := [(.int x2)]) (rest := []) (lenOf own_pd81830 rfl) rfl (by show 2 * 0 + _ ≤ _; exact Nat.le_of_eq rfl) (hb hby at_22) (fun _ _ => ⟨rfl, eq117, (by decide : 0 + 0 ≤ _), (by decide : 0 + 0 ≤ _)⟩)
    dsimp only [Pt.U, Pt.locs, Pt.cells, Pt.slots] at X118 l118 y118 z118 st118 hQ118
    subst l118 y118 z118
    obtain ⟨zc2, rfl, N118q, eq118, hr_118⟩ := hQ118
    have N118 := Fr.app N117 N118q
    refine own_go st118 ?_
    show own_WP _ _ _ _ T118 (mkF m 25 #[.val (.int zn), .val (.int x0), .val (.int x1), .val (.int x2), .val (.int x3), .val (.int x4), .val (.int (5 : Int32)), .val (.int zc0), .val (.int zc1), .unset, .unset, .unset, .unset, .unset] [(.int zc2)])
    refine own_go (fun t k => XS.istore X118.here hx rfl (hb hby at_25) rfl (l' := #[.val (.int zn), .val (.int x0), .val (.int x1), .val (.int x2), .val (.int x3), .val (.int x4), .val (.int (5 : Int32)), .val (.int zc0), .val (.int zc1), .val (.int zc2), .unset, .unset, .unset, .unset]) rfl k) ?_
    show own_WP _ _ _ _ T118 (mkF m 27 #[.val (.int zn), .val (.int x0), .val (.int x1), .val (.int x2), .val (.int x3), .val (.int x4), .val (.int (5 : Int32)), .val (.int zc0), .val (.int zc1), .val (.int zc2), .unset, .unset, .unset, .unset] [])
    refine own_go (fun t k => XS.iload X118.here hx rfl (hb hby at_27) rfl  k) ?_
    show own_WP _ _ _ _ T118 (mkF m 29 #[.val (.int zn), .val (.int x0), .val (.int x1), .val (.int x2), .val (.int x3), .val (.int x4), .val (.int (5 : Int32)), .val (.int zc0), .val (.int zc1), .val (.int zc2), .unset, .unset, .unset, .unset] [(.int x3)])
    obtain ⟨_, _, ⟨T119, L119, k119, n119⟩, -, X119, ⟨Lc119, hQ119, l119, y119, z119⟩, st119⟩ := Jvm.LawKit.callS X118 hx (y := (⟨"com/example/soak/soak/sip/SipMessageIsKeepAlivePinLaw", "pick", "(I)B"⟩ : MethodName)) hown (mvT hZ (hw _ (List.mem_of_getElem? (i := 1) rfl))) (mvT hZ (hw _ (List.mem_of_getElem? (i := 2) rfl))) (mvT hZ (hw _ (List.mem_of_getElem? (i := 3) rfl))) (mvT hZ (hw _ (List.mem_of_getElem? (i := 4) rfl))) (by decide) (backOf (W := 0) (rm1 l Z a0 hw [] x3  h0 n0 (own_le Z0 K0) ) hZ (hw _ (List.mem_of_getElem? (i := 4) rfl)) (hw _ (List.mem_of_getElem? (i := 3) rfl)) (by decide) (by decide)) (g := (mkF m 29 #[.val (.int zn), .val (.int x0), .val (.int x1), .val (.int x2), .val (.int x3), .val (.int x4), .val (.int (5 : Int32)), .val (.int zc0), .val (.int zc1), .val (.int zc2), .unset, .unset, .unset, .unset] [(.int x3)])) rfl (by rw [hml]; rfl) (argsL := [(.int x3)]) (rest := []) (lenOf own_pd81830 rfl) rfl (by show 2 * 0 + _ ≤ _; exact Nat.le_of_eq rfl) (hb hby at_29) (fun _ _ => ⟨rfl, eq118, (by decide : 0 + 0 ≤ _), (by decide : 0 + 0 ≤ _)⟩)
    dsimp only [Pt.U, Pt.locs, Pt.cells, Pt.slots] at X119 l119 y119 z119 st119 hQ119
    subst l119 y119 z119
    obtain ⟨zc3, rfl, N119q, eq119, hr_119⟩ := hQ119
    have N119 := Fr.app N118 N119q
    refine own_go st119 ?_
    show own_WP _ _ _ _ T119 (mkF m 32 #[.val (.int zn), .val (.int x0), .val (.int x1), .val (.int x2), .val (.int x3), .val (.int x4), .val (.int (5 : Int32)), .val (.int zc0), .val (.int zc1), .val (.int zc2), .unset, .unset, .unset, .unset] [(.int zc3)])
    refine own_go (fun t k => XS.istore X119.here hx rfl (hb hby at_32) rfl (l' := #[.val (.int zn), .val (.int x0), .val (.int x1), .val (.int x2), .val (.int x3), .val (.int x4), .val (.int (5 : Int32)), .val (.int zc0), .val (.int zc1), .val (.int zc2), .val (.int zc3), .unset, .unset, .unset]) rfl k) ?_
    show own_WP _ _ _ _ T119 (mkF m 34 #[.val (.int zn), .val (.int x0), .val (.int x1), .val (.int x2), .val (.int x3), .val (.int x4), .val (.int (5 : Int32)), .val (.int zc0), .val (.int zc1), .val (.int zc2), .val (.int zc3), .unset, .unset, .unset] [])
    refine own_go (fun t k => XS.iload X119.here hx rfl (hb hby at_34) rfl  k) ?_
    show own_WP _ _ _ _ T119 (mkF m 36 #[.val (.int zn), .val (.int x0), .val (.int x1), .val (.int x2), .val (.int x3), .val (.int x4), .val (.int (5 : Int32)), .val (.int zc0), .val (.int zc1), .val (.int zc2), .val (.int zc3), .unset, .unset, .unset] [(.int x4)])
    obtain ⟨_, _, ⟨T120, L120, k120, n120⟩, -, X120, ⟨Lc120, hQ120, l120, y120, z120⟩, st120⟩ := Jvm.LawKit.callS X119 hx (y := (⟨"com/example/soak/soak/sip/SipMessageIsKeepAlivePinLaw", "pick", "(I)B"⟩ : MethodName)) hown (mvT hZ (hw _ (List.mem_of_getElem? (i := 1) rfl))) (mvT hZ (hw _ (List.mem_of_getElem? (i := 2) rfl))) (mvT hZ (hw _ (List.mem_of_getElem? (i := 3) rfl))) (mvT hZ (hw _ (List.mem_of_getElem? (i := 4) rfl))) (by decide) (backOf (W := 0) (rm1 l Z a0 hw [] x4  h0 n0 (own_le Z0 K0) ) hZ (hw _ (List.mem_of_getElem? (i := 4) rfl)) (hw _ (List.mem_of_getElem? (i := 3) rfl)) (by decide) (by decide)) (g := (mkF m 36 #[.val (.int zn), .val (.int x0), .val (.int x1), .val (.int x2), .val (.int x3), .val (.int x4), .val (.int (5 : Int32)), .val (.int zc0), .val (.int zc1), .val (.int zc2), .val (.int zc3), .unset, .unset, .unset] [(.int x4)])) rfl (by rw [hml]; rfl) (argsL := [(.int x4)]) (rest := []) (lenOf own_pd81830 rfl) rfl (by show 2 * 0 + _ ≤ _; exact Nat.le_of_eq rfl) (hb hby at_36) (fun _ _ => ⟨rfl, eq119, (by decide : 0 + 0 ≤ _), (by decide : 0 + 0 ≤ _)⟩)
    dsimp only [Pt.U, Pt.locs, Pt.cells, Pt.slots] at X120 l120 y120 z120 st120 hQ120
    subst l120 y120 z120
    obtain ⟨zc4, rfl, N120q, eq120, hr_120⟩ := hQ120
    have N120 := Fr.app N119 N120q
    refine own_go st120 ?_
    show own_WP _ _ _ _ T120 (mkF m 39 #[.val (.int zn), .val (.int x0), .val (.int x1), .val (.int x2), .val (.int x3), .val (.int x4), .val (.int (5 : Int32)), .val (.int zc0), .val (.int zc1), .val (.int zc2), .val (.int zc3), .unset, .unset, .unset] [(.int zc4)])
    refine own_go (fun t k => XS.istore X120.here hx rfl (hb hby at_39) rfl (l' := #[.val (.int zn), .val (.int x0), .val (.int x1), .val (.int x2), .val (.int x3), .val (.int x4), .val (.int (5 : Int32)), .val (.int zc0), .val (.int zc1), .val (.int zc2), .val (.int zc3), .val (.int zc4), .unset, .unset]) rfl k) ?_
    show own_WP _ _ _ _ T120 (mkF m 41 #[.val (.int zn), .val (.int x0), .val (.int x1), .val (.int x2), .val (.int x3), .val (.int x4), .val (.int (5 : Int32)), .val (.int zc0), .val (.int zc1), .val (.int zc2), .val (.int zc3), .val (.int zc4), .unset, .unset] [])
    refine own_go (fun t k => XS.iload X120.here hx rfl (hb hby at_41) rfl  k) ?_
    show own_WP _ _ _ _ T120 (mkF m 43 #[.val (.int zn), .val (.int x0), .val (.int x1), .val (.int x2), .val (.int x3), .val (.int x4), .val (.int (5 : Int32)), .val (.int zc0), .val (.int zc1), .val (.int zc2), .val (.int zc3), .val (.int zc4), .unset, .unset] [(.int (5 : Int32))])
    obtain ⟨T121, h121, k121, X121, e121, E121, A121, G121, st121⟩ := newPE X120 hx hZ (hw _ (List.mem_of_getElem? (i := 5) rfl)) eq120 (g := (mkF m 43 #[.val (.int zn), .val (.int x0), .val (.int x1), .val (.int x2), .val (.int x3), .val (.int x4), .val (.int (5 : Int32)), .val (.int zc0), .val (.int zc1), .val (.int zc2), .val (.int zc3), .val (.int zc4), .unset, .unset] [(.int (5 : Int32))])) rfl (hb hby at_43) rfl (by decide) (cap := 5) (by decide) (by decide) (by decide) (by decide) (ad := "[B") rfl
    obtain ⟨za, q121⟩ : ∃ z, z = h0.size := ⟨_, rfl⟩
    rw [← q121] at A121 G121 st121
    refine own_go st121 ?_
    have g_za : n0 ≤ za := Nat.le_trans (own_le Z0 K0) (Nat.le_of_eq q121.symm)
    have sz_za : h0.size ≤ za := Nat.le_trans K0.1 (Nat.le_of_eq q121.symm)
    have K122 : Keep h0 h121 [] := K0.ext E121
    have f123 : Arv Z h121 za k121 .byte (5 : Int32) [(.int (0 : Int32)), (.int (0 : Int32)), (.int (0 : Int32)), (.int (0 : Int32)), (.int (0 : Int32))] (.int (0 : Int32)) := (Arv.new A121 (by decide)).pad (pad_rep [] (.int (0 : Int32)) 5)
    show own_WP _ _ _ _ T121 (mkF m 45 #[.val (.int zn), .val (.int x0), .val (.int x1), .val (.int x2), .val (.int x3), .val (.int x4), .val (.int (5 : Int32)), .val (.int zc0), .val (.int zc1), .val (.int zc2), .val (.int zc3), .val (.int zc4), .unset, .unset] [(.ref za)])
    refine own_go (fun t k => XS.astore X121.here hx rfl (hb hby at_45) rfl rfl (l' := #[.val (.int zn), .val (.int x0), .val (.int x1), .val (.int x2), .val (.int x3), .val (.int x4), .val (.int (5 : Int32)), .val (.int zc0), .val (.int zc1), .val (.int zc2), .val (.int zc3), .val (.int zc4), .val (.ref za), .unset]) rfl k) ?_
    show own_WP _ _ _ _ T121 (mkF m 47 #[.val (.int zn), .val (.int x0), .val (.int x1), .val (.int x2), .val (.int x3), .val (.int x4), .val (.int (5 : Int32)), .val (.int zc0), .val (.int zc1), .val (.int zc2), .val (.int zc3), .val (.int zc4), .val (.ref za), .unset] [])
    refine own_go (fun t k => XS.iload X121.here hx rfl (hb hby at_47) rfl  k) ?_
    show own_WP _ _ _ _ T121 (mkF m 49 #[.val (.int zn), .val (.int x0), .val (.int x1), .val (.int x2), .val (.int x3), .val (.int x4), .val (.int (5 : Int32)), .val (.int zc0), .val (.int zc1), .val (.int zc2), .val (.int zc3), .val (.int zc4), .val (.ref za), .unset] [(.int (5 : Int32))])
    have hc49 : (0 : Int32) < (5 : Int32) := by decide
    refine own_go (fun t k => XS.ifNo X121.here hx rfl (hb hby at_49) rfl ((if0 _ _).trans (tlt hc49).2.2.2) k) ?_
    show own_WP _ _ _ _ T121 (mkF m 52 #[.val (.int zn), .val (.int x0), .val (.int x1), .val (.int x2), .val (.int x3), .val (.int x4), .val (.int (5 : Int32)), .val (.int zc0), .val (.int zc1), .val (.int zc2), .val (.int zc3), .val (.int zc4), .val (.ref za), .unset] [])
    refine own_go (fun t k => XS.aload X121.here hx rfl (hb hby at_52) rfl rfl  k) ?_
    show own_WP _ _ _ _ T121 (mkF m 54 #[.val (.int zn), .val (.int x0), .val (.int x1), .val (.int x2), .val (.int x3), .val (.int x4), .val (.int (5 : Int32)), .val (.int zc0), .val (.int zc1), .val (.int zc2), .val (.int zc3), .val (.int zc4), .val (.ref za), .unset] [(.ref za)])
    refine own_go (fun t k => XS.iconst X121.here hx rfl (hb hby at_54) k) ?_
    show own_WP _ _ _ _ T121 (mkF m 55 #[.val (.int zn), .val (.int x0), .val (.int x1), .val (.int x2), .val (.int x3), .val (.int x4), .val (.int (5 : Int32)), .val (.int zc0), .val (.int zc1), .val (.int zc2), .val (.int zc3), .val (.int zc4), .val (.ref za), .unset] [(.int (0 : Int32)), (.ref za)])
    refine own_go (fun t k => XS.iload X121.here hx rfl (hb hby at_55) rfl  k) ?_
    show own_WP _ _ _ _ T121 (mkF m 57 #[.val (.int zn), .val (.int x0), .val (.int x1), .val (.int x2), .val (.int x3), .val (.int x4), .val (.int (5 : Int32)), .val (.int zc0), .val (.int zc1), .val (.int zc2), .val (.int zc3), .val (.int zc4), .val (.ref za), .unset] [(.int zc0), (.int (0 : Int32)), (.ref za)])
    refine own_stB X121 hx hZ e121 f123 (j := (0 : Int32)) ⟨by decide, by decide⟩ (i := 0) rfl (Nat.le_of_ble_eq_true rfl) (hb hby at_57) ?_
    intro T124 h124 X124 e124 W124 V124
    have f125 : Arv Z h124 za k121 .byte (5 : Int32) [(.int (nar .byte zc0)), (.int (0 : Int32)), (.int (0 : Int32)), (.int (0 : Int32)), (.int (0 : Int32))] (.int (0 : Int32)) := V124
    have K127 : Keep h0 h124 [] := K122.wr W124 (Or.inr sz_za)
    have N128 := Fr.snoc X124 N120 g_za
    show own_WP _ _ _ _ T124 (mkF m 58 #[.val (.int zn), .val (.int x0), .val (.int x1), .val (.int x2), .val (.int x3), .val (.int x4), .val (.int (5 : Int32)), .val (.int zc0), .val (.int zc1), .val (.int zc2), .val (.int zc3), .val (.int zc4), .val (.ref za), .unset] [])
    refine own_go (fun t k => XS.iload X124.here hx rfl (hb hby at_58) rfl  k) ?_
    show own_WP _ _ _ _ T124 (mkF m 60 #[.val (.int zn), .val (.int x0), .val (.int x1), .val (.int x2), .val (.int x3), .val (.int x4), .val (.int (5 : Int32)), .val (.int zc0), .val (.int zc1), .val (.int zc2), .val (.int zc3), .val (.int zc4), .val (.ref za), .unset] [(.int (5 : Int32))])
    refine own_go (fun t k => XS.iconst X124.here hx rfl (hb hby at_60) k) ?_
    show own_WP _ _ _ _ T124 (mkF m 61 #[.val (.int zn), .val (.int x0), .val (.int x1), .val (.int x2), .val (.int x3), .val (.int x4), .val (.int (5 : Int32)), .val (.int zc0), .val (.int zc1), .val (.int zc2), .val (.int zc3), .val (.int zc4), .val (.ref za), .unset] [(.int (1 : Int32)), (.int (5 : Int32))])
    have hc61 : (1 : Int32) < (5 : Int32) := by decide
    refine own_go (fun t k => XS.icmpNo X124.here hx rfl (hb hby at_61) rfl (tlt hc61).2.2.2 k) ?_
    show own_WP _ _ _ _ T124 (mkF m 64 #[.val (.int zn), .val (.int x0), .val (.int x1), .val (.int x2), .val (.int x3), .val (.int x4), .val (.int (5 : Int32)), .val (.int zc0), .val (.int zc1), .val (.int zc2), .val (.int zc3), .val (.int zc4), .val (.ref za), .unset] [])
    refine own_go (fun t k => XS.aload X124.here hx rfl (hb hby at_64) rfl rfl  k) ?_
    show own_WP _ _ _ _ T124 (mkF m 66 #[.val (.int zn), .val (.int x0), .val (.int x1), .val (.int x2), .val (.int x3), .val (.int x4), .val (.int (5 : Int32)), .val (.int zc0), .val (.int zc1), .val (.int zc2), .val (.int zc3), .val (.int zc4), .val (.ref za), .unset] [(.ref za)])
    refine own_go (fun t k => XS.iconst X124.here hx rfl (hb hby at_66) k) ?_
    show own_WP _ _ _ _ T124 (mkF m 67 #[.val (.int zn), .val (.int x0), .val (.int x1), .val (.int x2), .val (.int x3), .val (.int x4), .val (.int (5 : Int32)), .val (.int zc0), .val (.int zc1), .val (.int zc2), .val (.int zc3), .val (.int zc4), .val (.ref za), .unset] [(.int (1 : Int32)), (.ref za)])
    refine own_go (fun t k => XS.iload X124.here hx rfl (hb hby at_67) rfl  k) ?_
    show own_WP _ _ _ _ T124 (mkF m 69 #[.val (.int zn), .val (.int x0), .val (.int x1), .val (.int x2), .val (.int x3), .val (.int x4), .val (.int (5 : Int32)), .val (.int zc0), .val (.int zc1), .val (.int zc2), .val (.int zc3), .val (.int zc4), .val (.ref za), .unset] [(.int zc1), (.int (1 : Int32)), (.ref za)])
    refine own_stB X124 hx hZ e124 f125 (j := (1 : Int32)) ⟨by decide, by decide⟩ (i := 1) rfl (Nat.le_of_ble_eq_true rfl) (hb hby at_69) ?_
    intro T129 h129 X129 e129 W129 V129
    have f130 : Arv Z h129 za k121 .byte (5 : Int32) [(.int (nar .byte zc0)), (.int (nar .byte zc1)), (.int (0 : Int32)), (.int (0 : Int32)), (.int (0 : Int32))] (.int (0 : Int32)) := V129
    have K132 : Keep h0 h129 [] := K127.wr W129 (Or.inr sz_za)
    have N133 := Fr.snoc X129 N128 g_za
    show own_WP _ _ _ _ T129 (mkF m 70 #[.val (.int zn), .val (.int x0), .val (.int x1), .val (.int x2), .val (.int x3), .val (.int x4), .val (.int (5 : Int32)), .val (.int zc0), .val (.int zc1), .val (.int zc2), .val (.int zc3), .val (.int zc4), .val (.ref za), .unset] [])
    refine own_go (fun t k => XS.iload X129.here hx rfl (hb hby at_70) rfl  k) ?_
    show own_WP _ _ _ _ T129 (mkF m 72 #[.val (.int zn), .val (.int x0), .val (.int x1), .val (.int x2), .val (.int x3), .val (.int x4), .val (.int (5 : Int32)), .val (.int zc0), .val (.int zc1), .val (.int zc2), .val (.int zc3), .val (.int zc4), .val (.ref za), .unset] [(.int (5 : Int32))])
    refine own_go (fun t k => XS.iconst X129.here hx rfl (hb hby at_72) k) ?_
    show own_WP _ _ _ _ T129 (mkF m 73 #[.val (.int zn), .val (.int x0), .val (.int x1), .val (.int x2), .val (.int x3), .val (.int x4), .val (.int (5 : Int32)), .val (.int zc0), .val (.int zc1), .val (.int zc2), .val (.int zc3), .val (.int zc4), .val (.ref za), .unset] [(.int (2 : Int32)), (.int (5 : Int32))])
    have hc73 : (2 : Int32) < (5 : Int32) := by decide
    refine own_go (fun t k => XS.icmpNo X129.here hx rfl (hb hby at_73) rfl (tlt hc73).2.2.2 k) ?_
    show own_WP _ _ _ _ T129 (mkF m 76 #[.val (.int zn), .val (.int x0), .val (.int x1), .val (.int x2), .val (.int x3), .val (.int x4), .val (.int (5 : Int32)), .val (.int zc0), .val (.int zc1), .val (.int zc2), .val (.int zc3), .val (.int zc4), .val (.ref za), .unset] [])
    refine own_go (fun t k => XS.aload X129.here hx rfl (hb hby at_76) rfl rfl  k) ?_
    show own_WP _ _ _ _ T129 (mkF m 78 #[.val (.int zn), .val (.int x0), .val (.int x1), .val (.int x2), .val (.int x3), .val (.int x4), .val (.int (5 : Int32)), .val (.int zc0), .val (.int zc1), .val (.int zc2), .val (.int zc3), .val (.int zc4), .val (.ref za), .unset] [(.ref za)])
    refine own_go (fun t k => XS.iconst X129.here hx rfl (hb hby at_78) k) ?_
    show own_WP _ _ _ _ T129 (mkF m 79 #[.val (.int zn), .val (.int x0), .val (.int x1), .val (.int x2), .val (.int x3), .val (.int x4), .val (.int (5 : Int32)), .val (.int zc0), .val (.int zc1), .val (.int zc2), .val (.int zc3), .val (.int zc4), .val (.ref za), .unset] [(.int (2 : Int32)), (.ref za)])
    refine own_go (fun t k => XS.iload X129.here hx rfl (hb hby at_79) rfl  k) ?_
    show own_WP _ _ _ _ T129 (mkF m 81 #[.val (.int zn), .val (.int x0), .val (.int x1), .val (.int x2), .val (.int x3), .val (.int x4), .val (.int (5 : Int32)), .val (.int zc0), .val (.int zc1), .val (.int zc2), .val (.int zc3), .val (.int zc4), .val (.ref za), .unset] [(.int zc2), (.int (2 : Int32)), (.ref za)])
    refine own_stB X129 hx hZ e129 f130 (j := (2 : Int32)) ⟨by decide, by decide⟩ (i := 2) rfl (Nat.le_of_ble_eq_true rfl) (hb hby at_81) ?_
    intro T134 h134 X134 e134 W134 V134
    have f135 : Arv Z h134 za k121 .byte (5 : Int32) [(.int (nar .byte zc0)), (.int (nar .byte zc1)), (.int (nar .byte zc2)), (.int (0 : Int32)), (.int (0 : Int32))] (.int (0 : Int32)) := V134
    have K137 : Keep h0 h134 [] := K132.wr W134 (Or.inr sz_za)
    have N138 := Fr.snoc X134 N133 g_za
    show own_WP _ _ _ _ T134 (mkF m 82 #[.val (.int zn), .val (.int x0), .val (.int x1), .val (.int x2), .val (.int x3), .val (.int x4), .val (.int (5 : Int32)), .val (.int zc0), .val (.int zc1), .val (.int zc2), .val (.int zc3), .val (.int zc4), .val (.ref za), .unset] [])
    refine own_go (fun t k => XS.iload X134.here hx rfl (hb hby at_82) rfl  k) ?_
    show own_WP _ _ _ _ T134 (mkF m 84 #[.val (.int zn), .val (.int x0), .val (.int x1), .val (.int x2), .val (.int x3), .val (.int x4), .val (.int (5 : Int32)), .val (.int zc0), .val (.int zc1), .val (.int zc2), .val (.int zc3), .val (.int zc4), .val (.ref za), .unset] [(.int (5 : Int32))])
    refine own_go (fun t k => XS.iconst X134.here hx rfl (hb hby at_84) k) ?_
    show own_WP _ _ _ _ T134 (mkF m 85 #[.val (.int zn), .val (.int x0), .val (.int x1), .val (.int x2), .val (.int x3), .val (.int x4), .val (.int (5 : Int32)), .val (.int zc0), .val (.int zc1), .val (.int zc2), .val (.int zc3), .val (.int zc4), .val (.ref za), .unset] [(.int (3 : Int32)), (.int (5 : Int32))])
    have hc85 : (3 : Int32) < (5 : Int32) := by decide
    refine own_go (fun t k => XS.icmpNo X134.here hx rfl (hb hby at_85) rfl (tlt hc85).2.2.2 k) ?_
    show own_WP _ _ _ _ T134 (mkF m 88 #[.val (.int zn), .val (.int x0), .val (.int x1), .val (.int x2), .val (.int x3), .val (.int x4), .val (.int (5 : Int32)), .val (.int zc0), .val (.int zc1), .val (.int zc2), .val (.int zc3), .val (.int zc4), .val (.ref za), .unset] [])
    refine own_go (fun t k => XS.aload X134.here hx rfl (hb hby at_88) rfl rfl  k) ?_
    show own_WP _ _ _ _ T134 (mkF m 90 #[.val (.int zn), .val (.int x0), .val (.int x1), .val (.int x2), .val (.int x3), .val (.int x4), .val (.int (5 : Int32)), .val (.int zc0), .val (.int zc1), .val (.int zc2), .val (.int zc3), .val (.int zc4), .val (.ref za), .unset] [(.ref za)])
    refine own_go (fun t k => XS.iconst X134.here hx rfl (hb hby at_90) k) ?_
    show own_WP _ _ _ _ T134 (mkF m 91 #[.val (.int zn), .val (.int x0), .val (.int x1), .val (.int x2), .val (.int x3), .val (.int x4), .val (.int (5 : Int32)), .val (.int zc0), .val (.int zc1), .val (.int zc2), .val (.int zc3), .val (.int zc4), .val (.ref za), .unset] [(.int (3 : Int32)), (.ref za)])
    refine own_go (fun t k => XS.iload X134.here hx rfl (hb hby at_91) rfl  k) ?_
    show own_WP _ _ _ _ T134 (mkF m 93 #[.val (.int zn), .val (.int x0), .val (.int x1), .val (.int x2), .val (.int x3), .val (.int x4), .val (.int (5 : Int32)), .val (.int zc0), .val (.int zc1), .val (.int zc2), .val (.int zc3), .val (.int zc4), .val (.ref za), .unset] [(.int zc3), (.int (3 : Int32)), (.ref za)])
    refine own_stB X134 hx hZ e134 f135 (j := (3 : Int32)) ⟨by decide, by decide⟩ (i := 3) rfl (Nat.le_of_ble_eq_true rfl) (hb hby at_93) ?_
    intro T139 h139 X139 e139 W139 V139
    have f140 : Arv Z h139 za k121 .byte (5 : Int32) [(.int (nar .byte zc0)), (.int (nar .byte zc1)), (.int (nar .byte zc2)), (.int (nar .byte zc3)), (.int (0 : Int32))] (.int (0 : Int32)) := V139
    have K142 : Keep h0 h139 [] := K137.wr W139 (Or.inr sz_za)
    have N143 := Fr.snoc X139 N138 g_za
    show own_WP _ _ _ _ T139 (mkF m 94 #[.val (.int zn), .val (.int x0), .val (.int x1), .val (.int x2), .val (.int x3), .val (.int x4), .val (.int (5 : Int32)), .val (.int zc0), .val (.int zc1), .val (.int zc2), .val (.int zc3), .val (.int zc4), .val (.ref za), .unset] [])
    refine own_go (fun t k => XS.iload X139.here hx rfl (hb hby at_94) rfl  k) ?_
    show own_WP _ _ _ _ T139 (mkF m 96 #[.val (.int zn), .val (.int x0), .val (.int x1), .val (.int x2), .val (.int x3), .val (.int x4), .val (.int (5 : Int32)), .val (.int zc0), .val (.int zc1), .val (.int zc2), .val (.int zc3), .val (.int zc4), .val (.ref za), .unset] [(.int (5 : Int32))])
    refine own_go (fun t k => XS.iconst X139.here hx rfl (hb hby at_96) k) ?_
    show own_WP _ _ _ _ T139 (mkF m 97 #[.val (.int zn), .val (.int x0), .val (.int x1), .val (.int x2), .val (.int x3), .val (.int x4), .val (.int (5 : Int32)), .val (.int zc0), .val (.int zc1), .val (.int zc2), .val (.int zc3), .val (.int zc4), .val (.ref za), .unset] [(.int (4 : Int32)), (.int (5 : Int32))])
    have hc97 : (4 : Int32) < (5 : Int32) := by decide
    refine own_go (fun t k => XS.icmpNo X139.here hx rfl (hb hby at_97) rfl (tlt hc97).2.2.2 k) ?_
    show own_WP _ _ _ _ T139 (mkF m 100 #[.val (.int zn), .val (.int x0), .val (.int x1), .val (.int x2), .val (.int x3), .val (.int x4), .val (.int (5 : Int32)), .val (.int zc0), .val (.int zc1), .val (.int zc2), .val (.int zc3), .val (.int zc4), .val (.ref za), .unset] [])
    refine own_go (fun t k => XS.aload X139.here hx rfl (hb hby at_100) rfl rfl  k) ?_
    show own_WP _ _ _ _ T139 (mkF m 102 #[.val (.int zn), .val (.int x0), .val (.int x1), .val (.int x2), .val (.int x3), .val (.int x4), .val (.int (5 : Int32)), .val (.int zc0), .val (.int zc1), .val (.int zc2), .val (.int zc3), .val (.int zc4), .val (.ref za), .unset] [(.ref za)])
    refine own_go (fun t k => XS.iconst X139.here hx rfl (hb hby at_102) k) ?_
    show own_WP _ _ _ _ T139 (mkF m 103 #[.val (.int zn), .val (.int x0), .val (.int x1), .val (.int x2), .val (.int x3), .val (.int x4), .val (.int (5 : Int32)), .val (.int zc0), .val (.int zc1), .val (.int zc2), .val (.int zc3), .val (.int zc4), .val (.ref za), .unset] [(.int (4 : Int32)), (.ref za)])
    refine own_go (fun t k => XS.iload X139.here hx rfl (hb hby at_103) rfl  k) ?_
    show own_WP _ _ _ _ T139 (mkF m 105 #[.val (.int zn), .val (.int x0), .val (.int x1), .val (.int x2), .val (.int x3), .val (.int x4), .val (.int (5 : Int32)), .val (.int zc0), .val (.int zc1), .val (.int zc2), .val (.int zc3), .val (.int zc4), .val (.ref za), .unset] [(.int zc4), (.int (4 : Int32)), (.ref za)])
    refine own_stB X139 hx hZ e139 f140 (j := (4 : Int32)) ⟨by decide, by decide⟩ (i := 4) rfl (Nat.le_of_ble_eq_true rfl) (hb hby at_105) ?_
    intro T144 h144 X144 e144 W144 V144
    have f145 : Arv Z h144 za k121 .byte (5 : Int32) [(.int (nar .byte zc0)), (.int (nar .byte zc1)), (.int (nar .byte zc2)), (.int (nar .byte zc3)), (.int (nar .byte zc4))] (.int (0 : Int32)) := V144
    have K147 : Keep h0 h144 [] := K142.wr W144 (Or.inr sz_za)
    have N148 := Fr.snoc X144 N143 g_za
    show own_WP _ _ _ _ T144 (mkF m 106 #[.val (.int zn), .val (.int x0), .val (.int x1), .val (.int x2), .val (.int x3), .val (.int x4), .val (.int (5 : Int32)), .val (.int zc0), .val (.int zc1), .val (.int zc2), .val (.int zc3), .val (.int zc4), .val (.ref za), .unset] [])
    refine own_go (fun t k => XS.iload X144.here hx rfl (hb hby at_106) rfl  k) ?_
    show own_WP _ _ _ _ T144 (mkF m 108 #[.val (.int zn), .val (.int x0), .val (.int x1), .val (.int x2), .val (.int x3), .val (.int x4), .val (.int (5 : Int32)), .val (.int zc0), .val (.int zc1), .val (.int zc2), .val (.int zc3), .val (.int zc4), .val (.ref za), .unset] [(.int (5 : Int32))])
    refine own_go (fun t k => XS.iconst X144.here hx rfl (hb hby at_108) k) ?_
    show own_WP _ _ _ _ T144 (mkF m 109 #[.val (.int zn), .val (.int x0), .val (.int x1), .val (.int x2), .val (.int x3), .val (.int x4), .val (.int (5 : Int32)), .val (.int zc0), .val (.int zc1), .val (.int zc2), .val (.int zc3), .val (.int zc4), .val (.ref za), .unset] [(.int (1 : Int32)), (.int (5 : Int32))])
    have hc109 : ¬ ((5 : Int32) < (1 : Int32)) := by decide
    refine own_go (fun t k => XS.icmpNo X144.here hx rfl (hb hby at_109) rfl (flt hc109).1 k) ?_
    show own_WP _ _ _ _ T144 (mkF m 112 #[.val (.int zn), .val (.int x0), .val (.int x1), .val (.int x2), .val (.int x3), .val (.int x4), .val (.int (5 : Int32)), .val (.int zc0), .val (.int zc1), .val (.int zc2), .val (.int zc3), .val (.int zc4), .val (.ref za), .unset] [])
    refine own_go (fun t k => XS.iload X144.here hx rfl (hb hby at_112) rfl  k) ?_
    show own_WP _ _ _ _ T144 (mkF m 114 #[.val (.int zn), .val (.int x0), .val (.int x1), .val (.int x2), .val (.int x3), .val (.int x4), .val (.int (5 : Int32)), .val (.int zc0), .val (.int zc1), .val (.int zc2), .val (.int zc3), .val (.int zc4), .val (.ref za), .unset] [(.int zc0)])
    obtain ⟨_, _, ⟨T149, L149, k149, n149⟩, -, X149, ⟨Lc149, hQ149, l149, y149, z149⟩, st149⟩ := Jvm.LawKit.callS X144 hx (y := (⟨"com/example/soak/soak/sip/SipMessageIsKeepAlivePinLaw", "ws", "(B)Z"⟩ : MethodName)) hown (mvT hZ (hw _ (List.mem_of_getElem? (i := 10) rfl))) (mvT hZ (hw _ (List.mem_of_getElem? (i := 11) rfl))) (mvT hZ (hw _ (List.mem_of_getElem? (i := 3) rfl))) (mvT hZ (hw _ (List.mem_of_getElem? (i := 12) rfl))) (by decide) (backOf (W := 0) (rm3 l Z a0 hw [] zc0  h144 n0 (own_le Z0 K147) ) hZ (hw _ (List.mem_of_getElem? (i := 12) rfl)) (hw _ (List.mem_of_getElem? (i := 3) rfl)) (by decide) (by decide)) (g := (mkF m 114 #[.val (.int zn), .val (.int x0), .val (.int x1), .val (.int x2), .val (.int x3), .val (.int x4), .val (.int (5 : Int32)), .val (.int zc0), .val (.int zc1), .val (.int zc2), .val (.int zc3), .val (.int zc4), .val (.ref za), .unset] [(.int zc0)])) rfl (by rw [hml]; rfl) (argsL := [(.int zc0)]) (rest := []) (lenOf own_pd61727 rfl) rfl (by show 2 * 0 + _ ≤ _; exact Nat.le_of_eq rfl) (hb hby at_114) (fun _ _ => ⟨rfl, e144, (by decide : 1 + 0 ≤ _), (by decide : 5 + 0 ≤ _)⟩)
    dsimp only [Pt.U, Pt.locs, Pt.cells, Pt.slots] at X149 l149 y149 z149 st149 hQ149
    subst l149 y149 z149
    obtain ⟨rfl, N149q, eq149⟩ := hQ149
    have N149 := Fr.app N148 N149q
    refine own_go st149 ?_
    show own_WP _ _ _ _ T149 (mkF m 117 #[.val (.int zn), .val (.int x0), .val (.int x1), .val (.int x2), .val (.int x3), .val (.int x4), .val (.int (5 : Int32)), .val (.int zc0), .val (.int zc1), .val (.int zc2), .val (.int zc3), .val (.int zc4), .val (.ref za), .unset] [(.int (own_ws zc0))])
    by_cases hc117 : (own_ws zc0) = (0 : Int32)
    · refine own_go (fun t k => XS.ifYes X149.here hx rfl (pc0 := 117) (pc' := 180) rfl (hb hby at_117) rfl ((if0 _ _).trans (teq hc117).1) (by decide) (by decide) k) ?_
      show own_WP _ _ _ _ T149 (mkF m 180 #[.val (.int zn), .val (.int x0), .val (.int x1), .val (.int x2), .val (.int x3), .val (.int x4), .val (.int (5 : Int32)), .val (.int zc0), .val (.int zc1), .val (.int zc2), .val (.int zc3), .val (.int zc4), .val (.ref za), .unset] [])
      refine own_go (fun t k => XS.iconst X149.here hx rfl (hb hby at_180) k) ?_
      show own_WP _ _ _ _ T149 (mkF m 181 #[.val (.int zn), .val (.int x0), .val (.int x1), .val (.int x2), .val (.int x3), .val (.int x4), .val (.int (5 : Int32)), .val (.int zc0), .val (.int zc1), .val (.int zc2), .val (.int zc3), .val (.int zc4), .val (.ref za), .unset] [(.int (0 : Int32))])
      refine own_go (fun t k => XS.istore X149.here hx rfl (hb hby at_181) rfl (l' := #[.val (.int zn), .val (.int x0), .val (.int x1), .val (.int x2), .val (.int x3), .val (.int x4), .val (.int (5 : Int32)), .val (.int zc0), .val (.int zc1), .val (.int zc2), .val (.int zc3), .val (.int zc4), .val (.ref za), .val (.int (0 : Int32))]) rfl k) ?_
      show own_WP _ _ _ _ T149 (mkF m 183 #[.val (.int zn), .val (.int x0), .val (.int x1), .val (.int x2), .val (.int x3), .val (.int x4), .val (.int (5 : Int32)), .val (.int zc0), .val (.int zc1), .val (.int zc2), .val (.int zc3), .val (.int zc4), .val (.ref za), .val (.int (0 : Int32))] [])
      refine own_go (fun t k => XS.aload X149.here hx rfl (hb hby at_183) rfl rfl  k) ?_
      show own_WP _ _ _ _ T149 (mkF m 185 #[.val (.int zn), .val (.int x0), .val (.int x1), .val (.int x2), .val (.int x3), .val (.int x4), .val (.int (5 : Int32)), .val (.int zc0), .val (.int zc1), .val (.int zc2), .val (.int zc3), .val (.int zc4), .val (.ref za), .val (.int (0 : Int32))] [(.ref za)])
      obtain ⟨_, _, ⟨T150, L150, k150, n150⟩, -, X150, ⟨Lc150, hQ150, l150, y150, z150⟩, st150⟩ := Jvm.LawKit.callS X149 hx (y := (⟨"com/example/soak/soak/sip/SipMessage", "isKeepAlive", "([B)Z"⟩ : MethodName)) hown (mvT hZ (hw _ (List.mem_of_getElem? (i := 6) rfl))) (mvT hZ (hw _ (List.mem_of_getElem? (i := 7) rfl))) (mvT hZ (hw _ (List.mem_of_getElem? (i := 8) rfl))) (mvT hZ (hw _ (List.mem_of_getElem? (i := 9) rfl))) (by decide) (backOf (W := 0) (rm2 l Z a0 hw [] za k121 (5 : Int32) [(nar .byte zc0), (nar .byte zc1), (nar .byte zc2), (nar .byte zc3), (nar .byte zc4)] h144 n0 (own_le Z0 K147) (f145) (show 0 ≤ (5 : Int32).toInt from by decide) (show ([(nar .byte zc0), (nar .byte zc1), (nar .byte zc2), (nar .byte zc3), (nar .byte zc4)].length : Int) = (5 : Int32).toInt from rfl)) hZ (hw _ (List.mem_of_getElem? (i := 9) rfl)) (hw _ (List.mem_of_getElem? (i := 8) rfl)) (by decide) (by decide)) (g := (mkF m 185 #[.val (.int zn), .val (.int x0), .val (.int x1), .val (.int x2), .val (.int x3), .val (.int x4), .val (.int (5 : Int32)), .val (.int zc0), .val (.int zc1), .val (.int zc2), .val (.int zc3), .val (.int zc4), .val (.ref za), .val (.int (0 : Int32))] [(.ref za)])) rfl (by rw [hml]; rfl) (argsL := [(.ref za)]) (rest := []) (lenOf own_pd76616 rfl) rfl (by show 2 * 0 + _ ≤ _; exact Nat.le_of_eq rfl) (hb hby at_185) (fun _ _ => ⟨rfl, eq149, (by decide : 1 + 0 ≤ _), (by decide : 5 + 0 ≤ _)⟩)
      dsimp only [Pt.U, Pt.locs, Pt.cells, Pt.slots] at X150 l150 y150 z150 st150 hQ150
      subst l150 y150 z150
      obtain ⟨rfl, N150q, eq150⟩ := hQ150
      have N150 := Fr.app N149 N150q
      refine own_go st150 ?_
      show own_WP _ _ _ _ T150 (mkF m 188 #[.val (.int zn), .val (.int x0), .val (.int x1), .val (.int x2), .val (.int x3), .val (.int x4), .val (.int (5 : Int32)), .val (.int zc0), .val (.int zc1), .val (.int zc2), .val (.int zc3), .val (.int zc4), .val (.ref za), .val (.int (0 : Int32))] [(.int (own_ka [(nar .byte zc0), (nar .byte zc1), (nar .byte zc2), (nar .byte zc3), (nar .byte zc4)]))])
      refine own_go (fun t k => XS.iload X150.here hx rfl (hb hby at_188) rfl  k) ?_
      show own_WP _ _ _ _ T150 (mkF m 190 #[.val (.int zn), .val (.int x0), .val (.int x1), .val (.int x2), .val (.int x3), .val (.int x4), .val (.int (5 : Int32)), .val (.int zc0), .val (.int zc1), .val (.int zc2), .val (.int zc3), .val (.int zc4), .val (.ref za), .val (.int (0 : Int32))] [(.int (0 : Int32)), (.int (own_ka [(nar .byte zc0), (nar .byte zc1), (nar .byte zc2), (nar .byte zc3), (nar .byte zc4)]))])
      have hc190 : (own_ka [(nar .byte zc0), (nar .byte zc1), (nar .byte zc2), (nar .byte zc3), (nar .byte zc4)]) = (0 : Int32) := by
        simp [own_ka, hr_116, hr_117, hr_118, hr_119, hr_120, hc117]
      refine own_go (fun t k => XS.icmpNo X150.here hx rfl (hb hby at_190) rfl (teq hc190).2 k) ?_
      show own_WP _ _ _ _ T150 (mkF m 193 #[.val (.int zn), .val (.int x0), .val (.int x1), .val (.int x2), .val (.int x3), .val (.int x4), .val (.int (5 : Int32)), .val (.int zc0), .val (.int zc1), .val (.int zc2), .val (.int zc3), .val (.int zc4), .val (.ref za), .val (.int (0 : Int32))] [])
      refine own_go (fun t k => XS.iconst X150.here hx rfl (hb hby at_193) k) ?_
      show own_WP _ _ _ _ T150 (mkF m 194 #[.val (.int zn), .val (.int x0), .val (.int x1), .val (.int x2), .val (.int x3), .val (.int x4), .val (.int (5 : Int32)), .val (.int zc0), .val (.int zc1), .val (.int zc2), .val (.int zc3), .val (.int zc4), .val (.ref za), .val (.int (0 : Int32))] [(.int (1 : Int32))])
      refine own_go (fun t k => XS.goto X150.here hx rfl (pc0 := 194) (pc' := 198) rfl (hb hby at_194) (by decide) (by decide) k) ?_
      show own_WP _ _ _ _ T150 (mkF m 198 #[.val (.int zn), .val (.int x0), .val (.int x1), .val (.int x2), .val (.int x3), .val (.int x4), .val (.int (5 : Int32)), .val (.int zc0), .val (.int zc1), .val (.int zc2), .val (.int zc3), .val (.int zc4), .val (.ref za), .val (.int (0 : Int32))] [(.int (1 : Int32))])
      refine own_retN X150 hx Bd.notSynchronized (t := .boolean) (by simp) Bd.returns (hb hby at_198) (by decide) (by decide) ?_
      rw [eq150]
      exact ⟨rfl, N150⟩
    · refine own_go (fun t k => XS.ifNo X149.here hx rfl (hb hby at_117) rfl ((if0 _ _).trans (feq hc117).1) k) ?_
      show own_WP _ _ _ _ T149 (mkF m 120 #[.val (.int zn), .val (.int x0), .val (.int x1), .val (.int x2), .val (.int x3), .val (.int x4), .val (.int (5 : Int32)), .val (.int zc0), .val (.int zc1), .val (.int zc2), .val (.int zc3), .val (.int zc4), .val (.ref za), .unset] [])
      refine own_go (fun t k => XS.iload X149.here hx rfl (hb hby at_120) rfl  k) ?_
      show own_WP _ _ _ _ T149 (mkF m 122 #[.val (.int zn), .val (.int x0), .val (.int x1), .val (.int x2), .val (.int x3), .val (.int x4), .val (.int (5 : Int32)), .val (.int zc0), .val (.int zc1), .val (.int zc2), .val (.int zc3), .val (.int zc4), .val (.ref za), .unset] [(.int (5 : Int32))])
      refine own_go (fun t k => XS.iconst X149.here hx rfl (hb hby at_122) k) ?_
      show own_WP _ _ _ _ T149 (mkF m 123 #[.val (.int zn), .val (.int x0), .val (.int x1), .val (.int x2), .val (.int x3), .val (.int x4), .val (.int (5 : Int32)), .val (.int zc0), .val (.int zc1), .val (.int zc2), .val (.int zc3), .val (.int zc4), .val (.ref za), .unset] [(.int (2 : Int32)), (.int (5 : Int32))])
      have hc123 : ¬ ((5 : Int32) < (2 : Int32)) := by decide
      refine own_go (fun t k => XS.icmpNo X149.here hx rfl (hb hby at_123) rfl (flt hc123).1 k) ?_
      show own_WP _ _ _ _ T149 (mkF m 126 #[.val (.int zn), .val (.int x0), .val (.int x1), .val (.int x2), .val (.int x3), .val (.int x4), .val (.int (5 : Int32)), .val (.int zc0), .val (.int zc1), .val (.int zc2), .val (.int zc3), .val (.int zc4), .val (.ref za), .unset] [])
      refine own_go (fun t k => XS.iload X149.here hx rfl (hb hby at_126) rfl  k) ?_
      show own_WP _ _ _ _ T149 (mkF m 128 #[.val (.int zn), .val (.int x0), .val (.int x1), .val (.int x2), .val (.int x3), .val (.int x4), .val (.int (5 : Int32)), .val (.int zc0), .val (.int zc1), .val (.int zc2), .val (.int zc3), .val (.int zc4), .val (.ref za), .unset] [(.int zc1)])
      obtain ⟨_, _, ⟨T151, L151, k151, n151⟩, -, X151, ⟨Lc151, hQ151, l151, y151, z151⟩, st151⟩ := Jvm.LawKit.callS X149 hx (y := (⟨"com/example/soak/soak/sip/SipMessageIsKeepAlivePinLaw", "ws", "(B)Z"⟩ : MethodName)) hown (mvT hZ (hw _ (List.mem_of_getElem? (i := 10) rfl))) (mvT hZ (hw _ (List.mem_of_getElem? (i := 11) rfl))) (mvT hZ (hw _ (List.mem_of_getElem? (i := 3) rfl))) (mvT hZ (hw _ (List.mem_of_getElem? (i := 12) rfl))) (by decide) (backOf (W := 0) (rm3 l Z a0 hw [] zc1  h144 n0 (own_le Z0 K147) ) hZ (hw _ (List.mem_of_getElem? (i := 12) rfl)) (hw _ (List.mem_of_getElem? (i := 3) rfl)) (by decide) (by decide)) (g := (mkF m 128 #[.val (.int zn), .val (.int x0), .val (.int x1), .val (.int x2), .val (.int x3), .val (.int x4), .val (.int (5 : Int32)), .val (.int zc0), .val (.int zc1), .val (.int zc2), .val (.int zc3), .val (.int zc4), .val (.ref za), .unset] [(.int zc1)])) rfl (by rw [hml]; rfl) (argsL := [(.int zc1)]) (rest := []) (lenOf own_pd61727 rfl) rfl (by show 2 * 0 + _ ≤ _; exact Nat.le_of_eq rfl) (hb hby at_128) (fun _ _ => ⟨rfl, eq149, (by decide : 1 + 0 ≤ _), (by decide : 5 + 0 ≤ _)⟩)
      dsimp only [Pt.U, Pt.locs, Pt.cells, Pt.slots] at X151 l151 y151 z151 st151 hQ151
      subst l151 y151 z151
      obtain ⟨rfl, N151q, eq151⟩ := hQ151
      have N151 := Fr.app N149 N151q
      refine own_go st151 ?_
      show own_WP _ _ _ _ T151 (mkF m 131 #[.val (.int zn), .val (.int x0), .val (.int x1), .val (.int x2), .val (.int x3), .val (.int x4), .val (.int (5 : Int32)), .val (.int zc0), .val (.int zc1), .val (.int zc2), .val (.int zc3), .val (.int zc4), .val (.ref za), .unset] [(.int (own_ws zc1))])
      by_cases hc131 : (own_ws zc1) = (0 : Int32)
      · refine own_go (fun t k => XS.ifYes X151.here hx rfl (pc0 := 131) (pc' := 180) rfl (hb hby at_131) rfl ((if0 _ _).trans (teq hc131).1) (by decide) (by decide) k) ?_
        show own_WP _ _ _ _ T151 (mkF m 180 #[.val (.int zn), .val (.int x0), .val (.int x1), .val (.int x2), .val (.int x3), .val (.int x4), .val (.int (5 : Int32)), .val (.int zc0), .val (.int zc1), .val (.int zc2), .val (.int zc3), .val (.int zc4), .val (.ref za), .unset] [])
        refine own_go (fun t k => XS.iconst X151.here hx rfl (hb hby at_180) k) ?_
        show own_WP _ _ _ _ T151 (mkF m 181 #[.val (.int zn), .val (.int x0), .val (.int x1), .val (.int x2), .val (.int x3), .val (.int x4), .val (.int (5 : Int32)), .val (.int zc0), .val (.int zc1), .val (.int zc2), .val (.int zc3), .val (.int zc4), .val (.ref za), .unset] [(.int (0 : Int32))])
        refine own_go (fun t k => XS.istore X151.here hx rfl (hb hby at_181) rfl (l' := #[.val (.int zn), .val (.int x0), .val (.int x1), .val (.int x2), .val (.int x3), .val (.int x4), .val (.int (5 : Int32)), .val (.int zc0), .val (.int zc1), .val (.int zc2), .val (.int zc3), .val (.int zc4), .val (.ref za), .val (.int (0 : Int32))]) rfl k) ?_
        show own_WP _ _ _ _ T151 (mkF m 183 #[.val (.int zn), .val (.int x0), .val (.int x1), .val (.int x2), .val (.int x3), .val (.int x4), .val (.int (5 : Int32)), .val (.int zc0), .val (.int zc1), .val (.int zc2), .val (.int zc3), .val (.int zc4), .val (.ref za), .val (.int (0 : Int32))] [])
        refine own_go (fun t k => XS.aload X151.here hx rfl (hb hby at_183) rfl rfl  k) ?_
        show own_WP _ _ _ _ T151 (mkF m 185 #[.val (.int zn), .val (.int x0), .val (.int x1), .val (.int x2), .val (.int x3), .val (.int x4), .val (.int (5 : Int32)), .val (.int zc0), .val (.int zc1), .val (.int zc2), .val (.int zc3), .val (.int zc4), .val (.ref za), .val (.int (0 : Int32))] [(.ref za)])
        obtain ⟨_, _, ⟨T152, L152, k152, n152⟩, -, X152, ⟨Lc152, hQ152, l152, y152, z152⟩, st152⟩ := Jvm.LawKit.callS X151 hx (y := (⟨"com/example/soak/soak/sip/SipMessage", "isKeepAlive", "([B)Z"⟩ : MethodName)) hown (mvT hZ (hw _ (List.mem_of_getElem? (i := 6) rfl))) (mvT hZ (hw _ (List.mem_of_getElem? (i := 7) rfl))) (mvT hZ (hw _ (List.mem_of_getElem? (i := 8) rfl))) (mvT hZ (hw _ (List.mem_of_getElem? (i := 9) rfl))) (by decide) (backOf (W := 0) (rm2 l Z a0 hw [] za k121 (5 : Int32) [(nar .byte zc0), (nar .byte zc1), (nar .byte zc2), (nar .byte zc3), (nar .byte zc4)] h144 n0 (own_le Z0 K147) (f145) (show 0 ≤ (5 : Int32).toInt from by decide) (show ([(nar .byte zc0), (nar .byte zc1), (nar .byte zc2), (nar .byte zc3), (nar .byte zc4)].length : Int) = (5 : Int32).toInt from rfl)) hZ (hw _ (List.mem_of_getElem? (i := 9) rfl)) (hw _ (List.mem_of_getElem? (i := 8) rfl)) (by decide) (by decide)) (g := (mkF m 185 #[.val (.int zn), .val (.int x0), .val (.int x1), .val (.int x2), .val (.int x3), .val (.int x4), .val (.int (5 : Int32)), .val (.int zc0), .val (.int zc1), .val (.int zc2), .val (.int zc3), .val (.int zc4), .val (.ref za), .val (.int (0 : Int32))] [(.ref za)])) rfl (by rw [hml]; rfl) (argsL := [(.ref za)]) (rest := []) (lenOf own_pd76616 rfl) rfl (by show 2 * 0 + _ ≤ _; exact Nat.le_of_eq rfl) (hb hby at_185) (fun _ _ => ⟨rfl, eq151, (by decide : 1 + 0 ≤ _), (by decide : 5 + 0 ≤ _)⟩)
        dsimp only [Pt.U, Pt.locs, Pt.cells, Pt.slots] at X152 l152 y152 z152 st152 hQ152
        subst l152 y152 z152
        obtain ⟨rfl, N152q, eq152⟩ := hQ152
        have N152 := Fr.app N151 N152q
        refine own_go st152 ?_
        show own_WP _ _ _ _ T152 (mkF m 188 #[.val (.int zn), .val (.int x0), .val (.int x1), .val (.int x2), .val (.int x3), .val (.int x4), .val (.int (5 : Int32)), .val (.int zc0), .val (.int zc1), .val (.int zc2), .val (.int zc3), .val (.int zc4), .val (.ref za), .val (.int (0 : Int32))] [(.int (own_ka [(nar .byte zc0), (nar .byte zc1), (nar .byte zc2), (nar .byte zc3), (nar .byte zc4)]))])
        refine own_go (fun t k => XS.iload X152.here hx rfl (hb hby at_188) rfl  k) ?_
        show own_WP _ _ _ _ T152 (mkF m 190 #[.val (.int zn), .val (.int x0), .val (.int x1), .val (.int x2), .val (.int x3), .val (.int x4), .val (.int (5 : Int32)), .val (.int zc0), .val (.int zc1), .val (.int zc2), .val (.int zc3), .val (.int zc4), .val (.ref za), .val (.int (0 : Int32))] [(.int (0 : Int32)), (.int (own_ka [(nar .byte zc0), (nar .byte zc1), (nar .byte zc2), (nar .byte zc3), (nar .byte zc4)]))])
        have hc190 : (own_ka [(nar .byte zc0), (nar .byte zc1), (nar .byte zc2), (nar .byte zc3), (nar .byte zc4)]) = (0 : Int32) := by
          simp [own_ka, hr_116, hr_117, hr_118, hr_119, hr_120, hc117, hc131]
        refine own_go (fun t k => XS.icmpNo X152.here hx rfl (hb hby at_190) rfl (teq hc190).2 k) ?_
        show own_WP _ _ _ _ T152 (mkF m 193 #[.val (.int zn), .val (.int x0), .val (.int x1), .val (.int x2), .val (.int x3), .val (.int x4), .val (.int (5 : Int32)), .val (.int zc0), .val (.int zc1), .val (.int zc2), .val (.int zc3), .val (.int zc4), .val (.ref za), .val (.int (0 : Int32))] [])
        refine own_go (fun t k => XS.iconst X152.here hx rfl (hb hby at_193) k) ?_
        show own_WP _ _ _ _ T152 (mkF m 194 #[.val (.int zn), .val (.int x0), .val (.int x1), .val (.int x2), .val (.int x3), .val (.int x4), .val (.int (5 : Int32)), .val (.int zc0), .val (.int zc1), .val (.int zc2), .val (.int zc3), .val (.int zc4), .val (.ref za), .val (.int (0 : Int32))] [(.int (1 : Int32))])
        refine own_go (fun t k => XS.goto X152.here hx rfl (pc0 := 194) (pc' := 198) rfl (hb hby at_194) (by decide) (by decide) k) ?_
        show own_WP _ _ _ _ T152 (mkF m 198 #[.val (.int zn), .val (.int x0), .val (.int x1), .val (.int x2), .val (.int x3), .val (.int x4), .val (.int (5 : Int32)), .val (.int zc0), .val (.int zc1), .val (.int zc2), .val (.int zc3), .val (.int zc4), .val (.ref za), .val (.int (0 : Int32))] [(.int (1 : Int32))])
        refine own_retN X152 hx Bd.notSynchronized (t := .boolean) (by simp) Bd.returns (hb hby at_198) (by decide) (by decide) ?_
        rw [eq152]
        exact ⟨rfl, N152⟩
      · refine own_go (fun t k => XS.ifNo X151.here hx rfl (hb hby at_131) rfl ((if0 _ _).trans (feq hc131).1) k) ?_
        show own_WP _ _ _ _ T151 (mkF m 134 #[.val (.int zn), .val (.int x0), .val (.int x1), .val (.int x2), .val (.int x3), .val (.int x4), .val (.int (5 : Int32)), .val (.int zc0), .val (.int zc1), .val (.int zc2), .val (.int zc3), .val (.int zc4), .val (.ref za), .unset] [])
        refine own_go (fun t k => XS.iload X151.here hx rfl (hb hby at_134) rfl  k) ?_
        show own_WP _ _ _ _ T151 (mkF m 136 #[.val (.int zn), .val (.int x0), .val (.int x1), .val (.int x2), .val (.int x3), .val (.int x4), .val (.int (5 : Int32)), .val (.int zc0), .val (.int zc1), .val (.int zc2), .val (.int zc3), .val (.int zc4), .val (.ref za), .unset] [(.int (5 : Int32))])
        refine own_go (fun t k => XS.iconst X151.here hx rfl (hb hby at_136) k) ?_
        show own_WP _ _ _ _ T151 (mkF m 137 #[.val (.int zn), .val (.int x0), .val (.int x1), .val (.int x2), .val (.int x3), .val (.int x4), .val (.int (5 : Int32)), .val (.int zc0), .val (.int zc1), .val (.int zc2), .val (.int zc3), .val (.int zc4), .val (.ref za), .unset] [(.int (3 : Int32)), (.int (5 : Int32))])
        have hc137 : ¬ ((5 : Int32) < (3 : Int32)) := by decide
        refine own_go (fun t k => XS.icmpNo X151.here hx rfl (hb hby at_137) rfl (flt hc137).1 k) ?_
        show own_WP _ _ _ _ T151 (mkF m 140 #[.val (.int zn), .val (.int x0), .val (.int x1), .val (.int x2), .val (.int x3), .val (.int x4), .val (.int (5 : Int32)), .val (.int zc0), .val (.int zc1), .val (.int zc2), .val (.int zc3), .val (.int zc4), .val (.ref za), .unset] [])
        refine own_go (fun t k => XS.iload X151.here hx rfl (hb hby at_140) rfl  k) ?_
        show own_WP _ _ _ _ T151 (mkF m 142 #[.val (.int zn), .val (.int x0), .val (.int x1), .val (.int x2), .val (.int x3), .val (.int x4), .val (.int (5 : Int32)), .val (.int zc0), .val (.int zc1), .val (.int zc2), .val (.int zc3), .val (.int zc4), .val (.ref za), .unset] [(.int zc2)])
        obtain ⟨_, _, ⟨T153, L153, k153, n153⟩, -, X153, ⟨Lc153, hQ153, l153, y153, z153⟩, st153⟩ := Jvm.LawKit.callS X151 hx (y := (⟨"com/example/soak/soak/sip/SipMessageIsKeepAlivePinLaw", "ws", "(B)Z"⟩ : MethodName)) hown (mvT hZ (hw _ (List.mem_of_getElem? (i := 10) rfl))) (mvT hZ (hw _ (List.mem_of_getElem? (i := 11) rfl))) (mvT hZ (hw _ (List.mem_of_getElem? (i := 3) rfl))) (mvT hZ (hw _ (List.mem_of_getElem? (i := 12) rfl))) (by decide) (backOf (W := 0) (rm3 l Z a0 hw [] zc2  h144 n0 (own_le Z0 K147) ) hZ (hw _ (List.mem_of_getElem? (i := 12) rfl)) (hw _ (List.mem_of_getElem? (i := 3) rfl)) (by decide) (by decide)) (g := (mkF m 142 #[.val (.int zn), .val (.int x0), .val (.int x1), .val (.int x2), .val (.int x3), .val (.int x4), .val (.int (5 : Int32)), .val (.int zc0), .val (.int zc1), .val (.int zc2), .val (.int zc3), .val (.int zc4), .val (.ref za), .unset] [(.int zc2)])) rfl (by rw [hml]; rfl) (argsL := [(.int zc2)]) (rest := []) (lenOf own_pd61727 rfl) rfl (by show 2 * 0 + _ ≤ _; exact Nat.le_of_eq rfl) (hb hby at_142) (fun _ _ => ⟨rfl, eq151, (by decide : 1 + 0 ≤ _), (by decide : 5 + 0 ≤ _)⟩)
        dsimp only [Pt.U, Pt.locs, Pt.cells, Pt.slots] at X153 l153 y153 z153 st153 hQ153
        subst l153 y153 z153
        obtain ⟨rfl, N153q, eq153⟩ := hQ153
        have N153 := Fr.app N151 N153q
        refine own_go st153 ?_
        show own_WP _ _ _ _ T153 (mkF m 145 #[.val (.int zn), .val (.int x0), .val (.int x1), .val (.int x2), .val (.int x3), .val (.int x4), .val (.int (5 : Int32)), .val (.int zc0), .val (.int zc1), .val (.int zc2), .val (.int zc3), .val (.int zc4), .val (.ref za), .unset] [(.int (own_ws zc2))])
        by_cases hc145 : (own_ws zc2) = (0 : Int32)
        · refine own_go (fun t k => XS.ifYes X153.here hx rfl (pc0 := 145) (pc' := 180) rfl (hb hby at_145) rfl ((if0 _ _).trans (teq hc145).1) (by decide) (by decide) k) ?_
          show own_WP _ _ _ _ T153 (mkF m 180 #[.val (.int zn), .val (.int x0), .val (.int x1), .val (.int x2), .val (.int x3), .val (.int x4), .val (.int (5 : Int32)), .val (.int zc0), .val (.int zc1), .val (.int zc2), .val (.int zc3), .val (.int zc4), .val (.ref za), .unset] [])
          refine own_go (fun t k => XS.iconst X153.here hx rfl (hb hby at_180) k) ?_
          show own_WP _ _ _ _ T153 (mkF m 181 #[.val (.int zn), .val (.int x0), .val (.int x1), .val (.int x2), .val (.int x3), .val (.int x4), .val (.int (5 : Int32)), .val (.int zc0), .val (.int zc1), .val (.int zc2), .val (.int zc3), .val (.int zc4), .val (.ref za), .unset] [(.int (0 : Int32))])
          refine own_go (fun t k => XS.istore X153.here hx rfl (hb hby at_181) rfl (l' := #[.val (.int zn), .val (.int x0), .val (.int x1), .val (.int x2), .val (.int x3), .val (.int x4), .val (.int (5 : Int32)), .val (.int zc0), .val (.int zc1), .val (.int zc2), .val (.int zc3), .val (.int zc4), .val (.ref za), .val (.int (0 : Int32))]) rfl k) ?_
          show own_WP _ _ _ _ T153 (mkF m 183 #[.val (.int zn), .val (.int x0), .val (.int x1), .val (.int x2), .val (.int x3), .val (.int x4), .val (.int (5 : Int32)), .val (.int zc0), .val (.int zc1), .val (.int zc2), .val (.int zc3), .val (.int zc4), .val (.ref za), .val (.int (0 : Int32))] [])
          refine own_go (fun t k => XS.aload X153.here hx rfl (hb hby at_183) rfl rfl  k) ?_
          show own_WP _ _ _ _ T153 (mkF m 185 #[.val (.int zn), .val (.int x0), .val (.int x1), .val (.int x2), .val (.int x3), .val (.int x4), .val (.int (5 : Int32)), .val (.int zc0), .val (.int zc1), .val (.int zc2), .val (.int zc3), .val (.int zc4), .val (.ref za), .val (.int (0 : Int32))] [(.ref za)])
          obtain ⟨_, _, ⟨T154, L154, k154, n154⟩, -, X154, ⟨Lc154, hQ154, l154, y154, z154⟩, st154⟩ := Jvm.LawKit.callS X153 hx (y := (⟨"com/example/soak/soak/sip/SipMessage", "isKeepAlive", "([B)Z"⟩ : MethodName)) hown (mvT hZ (hw _ (List.mem_of_getElem? (i := 6) rfl))) (mvT hZ (hw _ (List.mem_of_getElem? (i := 7) rfl))) (mvT hZ (hw _ (List.mem_of_getElem? (i := 8) rfl))) (mvT hZ (hw _ (List.mem_of_getElem? (i := 9) rfl))) (by decide) (backOf (W := 0) (rm2 l Z a0 hw [] za k121 (5 : Int32) [(nar .byte zc0), (nar .byte zc1), (nar .byte zc2), (nar .byte zc3), (nar .byte zc4)] h144 n0 (own_le Z0 K147) (f145) (show 0 ≤ (5 : Int32).toInt from by decide) (show ([(nar .byte zc0), (nar .byte zc1), (nar .byte zc2), (nar .byte zc3), (nar .byte zc4)].length : Int) = (5 : Int32).toInt from rfl)) hZ (hw _ (List.mem_of_getElem? (i := 9) rfl)) (hw _ (List.mem_of_getElem? (i := 8) rfl)) (by decide) (by decide)) (g := (mkF m 185 #[.val (.int zn), .val (.int x0), .val (.int x1), .val (.int x2), .val (.int x3), .val (.int x4), .val (.int (5 : Int32)), .val (.int zc0), .val (.int zc1), .val (.int zc2), .val (.int zc3), .val (.int zc4), .val (.ref za), .val (.int (0 : Int32))] [(.ref za)])) rfl (by rw [hml]; rfl) (argsL := [(.ref za)]) (rest := []) (lenOf own_pd76616 rfl) rfl (by show 2 * 0 + _ ≤ _; exact Nat.le_of_eq rfl) (hb hby at_185) (fun _ _ => ⟨rfl, eq153, (by decide : 1 + 0 ≤ _), (by decide : 5 + 0 ≤ _)⟩)
          dsimp only [Pt.U, Pt.locs, Pt.cells, Pt.slots] at X154 l154 y154 z154 st154 hQ154
          subst l154 y154 z154
          obtain ⟨rfl, N154q, eq154⟩ := hQ154
          have N154 := Fr.app N153 N154q
          refine own_go st154 ?_
          show own_WP _ _ _ _ T154 (mkF m 188 #[.val (.int zn), .val (.int x0), .val (.int x1), .val (.int x2), .val (.int x3), .val (.int x4), .val (.int (5 : Int32)), .val (.int zc0), .val (.int zc1), .val (.int zc2), .val (.int zc3), .val (.int zc4), .val (.ref za), .val (.int (0 : Int32))] [(.int (own_ka [(nar .byte zc0), (nar .byte zc1), (nar .byte zc2), (nar .byte zc3), (nar .byte zc4)]))])
          refine own_go (fun t k => XS.iload X154.here hx rfl (hb hby at_188) rfl  k) ?_
          show own_WP _ _ _ _ T154 (mkF m 190 #[.val (.int zn), .val (.int x0), .val (.int x1), .val (.int x2), .val (.int x3), .val (.int x4), .val (.int (5 : Int32)), .val (.int zc0), .val (.int zc1), .val (.int zc2), .val (.int zc3), .val (.int zc4), .val (.ref za), .val (.int (0 : Int32))] [(.int (0 : Int32)), (.int (own_ka [(nar .byte zc0), (nar .byte zc1), (nar .byte zc2), (nar .byte zc3), (nar .byte zc4)]))])
          have hc190 : (own_ka [(nar .byte zc0), (nar .byte zc1), (nar .byte zc2), (nar .byte zc3), (nar .byte zc4)]) = (0 : Int32) := by
            simp [own_ka, hr_116, hr_117, hr_118, hr_119, hr_120, hc117, hc131, hc145]
          refine own_go (fun t k => XS.icmpNo X154.here hx rfl (hb hby at_190) rfl (teq hc190).2 k) ?_
          show own_WP _ _ _ _ T154 (mkF m 193 #[.val (.int zn), .val (.int x0), .val (.int x1), .val (.int x2), .val (.int x3), .val (.int x4), .val (.int (5 : Int32)), .val (.int zc0), .val (.int zc1), .val (.int zc2), .val (.int zc3), .val (.int zc4), .val (.ref za), .val (.int (0 : Int32))] [])
          refine own_go (fun t k => XS.iconst X154.here hx rfl (hb hby at_193) k) ?_
          show own_WP _ _ _ _ T154 (mkF m 194 #[.val (.int zn), .val (.int x0), .val (.int x1), .val (.int x2), .val (.int x3), .val (.int x4), .val (.int (5 : Int32)), .val (.int zc0), .val (.int zc1), .val (.int zc2), .val (.int zc3), .val (.int zc4), .val (.ref za), .val (.int (0 : Int32))] [(.int (1 : Int32))])
          refine own_go (fun t k => XS.goto X154.here hx rfl (pc0 := 194) (pc' := 198) rfl (hb hby at_194) (by decide) (by decide) k) ?_
          show own_WP _ _ _ _ T154 (mkF m 198 #[.val (.int zn), .val (.int x0), .val (.int x1), .val (.int x2), .val (.int x3), .val (.int x4), .val (.int (5 : Int32)), .val (.int zc0), .val (.int zc1), .val (.int zc2), .val (.int zc3), .val (.int zc4), .val (.ref za), .val (.int (0 : Int32))] [(.int (1 : Int32))])
          refine own_retN X154 hx Bd.notSynchronized (t := .boolean) (by simp) Bd.returns (hb hby at_198) (by decide) (by decide) ?_
          rw [eq154]
          exact ⟨rfl, N154⟩
        · refine own_go (fun t k => XS.ifNo X153.here hx rfl (hb hby at_145) rfl ((if0 _ _).trans (feq hc145).1) k) ?_
          show own_WP _ _ _ _ T153 (mkF m 148 #[.val (.int zn), .val (.int x0), .val (.int x1), .val (.int x2), .val (.int x3), .val (.int x4), .val (.int (5 : Int32)), .val (.int zc0), .val (.int zc1), .val (.int zc2), .val (.int zc3), .val (.int zc4), .val (.ref za), .unset] [])
          refine own_go (fun t k => XS.iload X153.here hx rfl (hb hby at_148) rfl  k) ?_
          show own_WP _ _ _ _ T153 (mkF m 150 #[.val (.int zn), .val (.int x0), .val (.int x1), .val (.int x2), .val (.int x3), .val (.int x4), .val (.int (5 : Int32)), .val (.int zc0), .val (.int zc1), .val (.int zc2), .val (.int zc3), .val (.int zc4), .val (.ref za), .unset] [(.int (5 : Int32))])
          refine own_go (fun t k => XS.iconst X153.here hx rfl (hb hby at_150) k) ?_
          show own_WP _ _ _ _ T153 (mkF m 151 #[.val (.int zn), .val (.int x0), .val (.int x1), .val (.int x2), .val (.int x3), .val (.int x4), .val (.int (5 : Int32)), .val (.int zc0), .val (.int zc1), .val (.int zc2), .val (.int zc3), .val (.int zc4), .val (.ref za), .unset] [(.int (4 : Int32)), (.int (5 : Int32))])
          have hc151 : ¬ ((5 : Int32) < (4 : Int32)) := by decide
          refine own_go (fun t k => XS.icmpNo X153.here hx rfl (hb hby at_151) rfl (flt hc151).1 k) ?_
          show own_WP _ _ _ _ T153 (mkF m 154 #[.val (.int zn), .val (.int x0), .val (.int x1), .val (.int x2), .val (.int x3), .val (.int x4), .val (.int (5 : Int32)), .val (.int zc0), .val (.int zc1), .val (.int zc2), .val (.int zc3), .val (.int zc4), .val (.ref za), .unset] [])
          refine own_go (fun t k => XS.iload X153.here hx rfl (hb hby at_154) rfl  k) ?_
          show own_WP _ _ _ _ T153 (mkF m 156 #[.val (.int zn), .val (.int x0), .val (.int x1), .val (.int x2), .val (.int x3), .val (.int x4), .val (.int (5 : Int32)), .val (.int zc0), .val (.int zc1), .val (.int zc2), .val (.int zc3), .val (.int zc4), .val (.ref za), .unset] [(.int zc3)])
          obtain ⟨_, _, ⟨T155, L155, k155, n155⟩, -, X155, ⟨Lc155, hQ155, l155, y155, z155⟩, st155⟩ := Jvm.LawKit.callS X153 hx (y := (⟨"com/example/soak/soak/sip/SipMessageIsKeepAlivePinLaw", "ws", "(B)Z"⟩ : MethodName)) hown (mvT hZ (hw _ (List.mem_of_getElem? (i := 10) rfl))) (mvT hZ (hw _ (List.mem_of_getElem? (i := 11) rfl))) (mvT hZ (hw _ (List.mem_of_getElem? (i := 3) rfl))) (mvT hZ (hw _ (List.mem_of_getElem? (i := 12) rfl))) (by decide) (backOf (W := 0) (rm3 l Z a0 hw [] zc3  h144 n0 (own_le Z0 K147) ) hZ (hw _ (List.mem_of_getElem? (i := 12) rfl)) (hw _ (List.mem_of_getElem? (i := 3) rfl)) (by decide) (by decide)) (g := (mkF m 156 #[.val (.int zn), .val (.int x0), .val (.int x1), .val (.int x2), .val (.int x3), .val (.int x4), .val (.int (5 : Int32)), .val (.int zc0), .val (.int zc1), .val (.int zc2), .val (.int zc3), .val (.int zc4), .val (.ref za), .unset] [(.int zc3)])) rfl (by rw [hml]; rfl) (argsL := [(.int zc3)]) (rest := []) (lenOf own_pd61727 rfl) rfl (by show 2 * 0 + _ ≤ _; exact Nat.le_of_eq rfl) (hb hby at_156) (fun _ _ => ⟨rfl, eq153, (by decide : 1 + 0 ≤ _), (by decide : 5 + 0 ≤ _)⟩)
          dsimp only [Pt.U, Pt.locs, Pt.cells, Pt.slots] at X155 l155 y155 z155 st155 hQ155
          subst l155 y155 z155
          obtain ⟨rfl, N155q, eq155⟩ := hQ155
          have N155 := Fr.app N153 N155q
          refine own_go st155 ?_
          show own_WP _ _ _ _ T155 (mkF m 159 #[.val (.int zn), .val (.int x0), .val (.int x1), .val (.int x2), .val (.int x3), .val (.int x4), .val (.int (5 : Int32)), .val (.int zc0), .val (.int zc1), .val (.int zc2), .val (.int zc3), .val (.int zc4), .val (.ref za), .unset] [(.int (own_ws zc3))])
          by_cases hc159 : (own_ws zc3) = (0 : Int32)
          · refine own_go (fun t k => XS.ifYes X155.here hx rfl (pc0 := 159) (pc' := 180) rfl (hb hby at_159) rfl ((if0 _ _).trans (teq hc159).1) (by decide) (by decide) k) ?_
            show own_WP _ _ _ _ T155 (mkF m 180 #[.val (.int zn), .val (.int x0), .val (.int x1), .val (.int x2), .val (.int x3), .val (.int x4), .val (.int (5 : Int32)), .val (.int zc0), .val (.int zc1), .val (.int zc2), .val (.int zc3), .val (.int zc4), .val (.ref za), .unset] [])
            refine own_go (fun t k => XS.iconst X155.here hx rfl (hb hby at_180) k) ?_
            show own_WP _ _ _ _ T155 (mkF m 181 #[.val (.int zn), .val (.int x0), .val (.int x1), .val (.int x2), .val (.int x3), .val (.int x4), .val (.int (5 : Int32)), .val (.int zc0), .val (.int zc1), .val (.int zc2), .val (.int zc3), .val (.int zc4), .val (.ref za), .unset] [(.int (0 : Int32))])
            refine own_go (fun t k => XS.istore X155.here hx rfl (hb hby at_181) rfl (l' := #[.val (.int zn), .val (.int x0), .val (.int x1), .val (.int x2), .val (.int x3), .val (.int x4), .val (.int (5 : Int32)), .val (.int zc0), .val (.int zc1), .val (.int zc2), .val (.int zc3), .val (.int zc4), .val (.ref za), .val (.int (0 : Int32))]) rfl k) ?_
            show own_WP _ _ _ _ T155 (mkF m 183 #[.val (.int zn), .val (.int x0), .val (.int x1), .val (.int x2), .val (.int x3), .val (.int x4), .val (.int (5 : Int32)), .val (.int zc0), .val (.int zc1), .val (.int zc2), .val (.int zc3), .val (.int zc4), .val (.ref za), .val (.int (0 : Int32))] [])
            refine own_go (fun t k => XS.aload X155.here hx rfl (hb hby at_183) rfl rfl  k) ?_
            show own_WP _ _ _ _ T155 (mkF m 185 #[.val (.int zn), .val (.int x0), .val (.int x1), .val (.int x2), .val (.int x3), .val (.int x4), .val (.int (5 : Int32)), .val (.int zc0), .val (.int zc1), .val (.int zc2), .val (.int zc3), .val (.int zc4), .val (.ref za), .val (.int (0 : Int32))] [(.ref za)])
            obtain ⟨_, _, ⟨T156, L156, k156, n156⟩, -, X156, ⟨Lc156, hQ156, l156, y156, z156⟩, st156⟩ := Jvm.LawKit.callS X155 hx (y := (⟨"com/example/soak/soak/sip/SipMessage", "isKeepAlive", "([B)Z"⟩ : MethodName)) hown (mvT hZ (hw _ (List.mem_of_getElem? (i := 6) rfl))) (mvT hZ (hw _ (List.mem_of_getElem? (i := 7) rfl))) (mvT hZ (hw _ (List.mem_of_getElem? (i := 8) rfl))) (mvT hZ (hw _ (List.mem_of_getElem? (i := 9) rfl))) (by decide) (backOf (W := 0) (rm2 l Z a0 hw [] za k121 (5 : Int32) [(nar .byte zc0), (nar .byte zc1), (nar .byte zc2), (nar .byte zc3), (nar .byte zc4)] h144 n0 (own_le Z0 K147) (f145) (show 0 ≤ (5 : Int32).toInt from by decide) (show ([(nar .byte zc0), (nar .byte zc1), (nar .byte zc2), (nar .byte zc3), (nar .byte zc4)].length : Int) = (5 : Int32).toInt from rfl)) hZ (hw _ (List.mem_of_getElem? (i := 9) rfl)) (hw _ (List.mem_of_getElem? (i := 8) rfl)) (by decide) (by decide)) (g := (mkF m 185 #[.val (.int zn), .val (.int x0), .val (.int x1), .val (.int x2), .val (.int x3), .val (.int x4), .val (.int (5 : Int32)), .val (.int zc0), .val (.int zc1), .val (.int zc2), .val (.int zc3), .val (.int zc4), .val (.ref za), .val (.int (0 : Int32))] [(.ref za)])) rfl (by rw [hml]; rfl) (argsL := [(.ref za)]) (rest := []) (lenOf own_pd76616 rfl) rfl (by show 2 * 0 + _ ≤ _; exact Nat.le_of_eq rfl) (hb hby at_185) (fun _ _ => ⟨rfl, eq155, (by decide : 1 + 0 ≤ _), (by decide : 5 + 0 ≤ _)⟩)
            dsimp only [Pt.U, Pt.locs, Pt.cells, Pt.slots] at X156 l156 y156 z156 st156 hQ156
            subst l156 y156 z156
            obtain ⟨rfl, N156q, eq156⟩ := hQ156
            have N156 := Fr.app N155 N156q
            refine own_go st156 ?_
            show own_WP _ _ _ _ T156 (mkF m 188 #[.val (.int zn), .val (.int x0), .val (.int x1), .val (.int x2), .val (.int x3), .val (.int x4), .val (.int (5 : Int32)), .val (.int zc0), .val (.int zc1), .val (.int zc2), .val (.int zc3), .val (.int zc4), .val (.ref za), .val (.int (0 : Int32))] [(.int (own_ka [(nar .byte zc0), (nar .byte zc1), (nar .byte zc2), (nar .byte zc3), (nar .byte zc4)]))])
            refine own_go (fun t k => XS.iload X156.here hx rfl (hb hby at_188) rfl  k) ?_
            show own_WP _ _ _ _ T156 (mkF m 190 #[.val (.int zn), .val (.int x0), .val (.int x1), .val (.int x2), .val (.int x3), .val (.int x4), .val (.int (5 : Int32)), .val (.int zc0), .val (.int zc1), .val (.int zc2), .val (.int zc3), .val (.int zc4), .val (.ref za), .val (.int (0 : Int32))] [(.int (0 : Int32)), (.int (own_ka [(nar .byte zc0), (nar .byte zc1), (nar .byte zc2), (nar .byte zc3), (nar .byte zc4)]))])
            have hc190 : (own_ka [(nar .byte zc0), (nar .byte zc1), (nar .byte zc2), (nar .byte zc3), (nar .byte zc4)]) = (0 : Int32) := by
              simp [own_ka, hr_116, hr_117, hr_118, hr_119, hr_120, hc117, hc131, hc145, hc159]
            refine own_go (fun t k => XS.icmpNo X156.here hx rfl (hb hby at_190) rfl (teq hc190).2 k) ?_
            show own_WP _ _ _ _ T156 (mkF m 193 #[.val (.int zn), .val (.int x0), .val (.int x1), .val (.int x2), .val (.int x3), .val (.int x4), .val (.int (5 : Int32)), .val (.int zc0), .val (.int zc1), .val (.int zc2), .val (.int zc3), .val (.int zc4), .val (.ref za), .val (.int (0 : Int32))] [])
            refine own_go (fun t k => XS.iconst X156.here hx rfl (hb hby at_193) k) ?_
            show own_WP _ _ _ _ T156 (mkF m 194 #[.val (.int zn), .val (.int x0), .val (.int x1), .val (.int x2), .val (.int x3), .val (.int x4), .val (.int (5 : Int32)), .val (.int zc0), .val (.int zc1), .val (.int zc2), .val (.int zc3), .val (.int zc4), .val (.ref za), .val (.int (0 : Int32))] [(.int (1 : Int32))])
            refine own_go (fun t k => XS.goto X156.here hx rfl (pc0 := 194) (pc' := 198) rfl (hb hby at_194) (by decide) (by decide) k) ?_
            show own_WP _ _ _ _ T156 (mkF m 198 #[.val (.int zn), .val (.int x0), .val (.int x1), .val (.int x2), .val (.int x3), .val (.int x4), .val (.int (5 : Int32)), .val (.int zc0), .val (.int zc1), .val (.int zc2), .val (.int zc3), .val (.int zc4), .val (.ref za), .val (.int (0 : Int32))] [(.int (1 : Int32))])
            refine own_retN X156 hx Bd.notSynchronized (t := .boolean) (by simp) Bd.returns (hb hby at_198) (by decide) (by decide) ?_
            rw [eq156]
            exact ⟨rfl, N156⟩
          · refine own_go (fun t k => XS.ifNo X155.here hx rfl (hb hby at_159) rfl ((if0 _ _).trans (feq hc159).1) k) ?_
            show own_WP _ _ _ _ T155 (mkF m 162 #[.val (.int zn), .val (.int x0), .val (.int x1), .val (.int x2), .val (.int x3), .val (.int x4), .val (.int (5 : Int32)), .val (.int zc0), .val (.int zc1), .val (.int zc2), .val (.int zc3), .val (.int zc4), .val (.ref za), .unset] [])
            refine own_go (fun t k => XS.iload X155.here hx rfl (hb hby at_162) rfl  k) ?_
            show own_WP _ _ _ _ T155 (mkF m 164 #[.val (.int zn), .val (.int x0), .val (.int x1), .val (.int x2), .val (.int x3), .val (.int x4), .val (.int (5 : Int32)), .val (.int zc0), .val (.int zc1), .val (.int zc2), .val (.int zc3), .val (.int zc4), .val (.ref za), .unset] [(.int (5 : Int32))])
            refine own_go (fun t k => XS.iconst X155.here hx rfl (hb hby at_164) k) ?_
            show own_WP _ _ _ _ T155 (mkF m 165 #[.val (.int zn), .val (.int x0), .val (.int x1), .val (.int x2), .val (.int x3), .val (.int x4), .val (.int (5 : Int32)), .val (.int zc0), .val (.int zc1), .val (.int zc2), .val (.int zc3), .val (.int zc4), .val (.ref za), .unset] [(.int (5 : Int32)), (.int (5 : Int32))])
            have hc165 : ¬ ((5 : Int32) < (5 : Int32)) := by decide
            refine own_go (fun t k => XS.icmpNo X155.here hx rfl (hb hby at_165) rfl (flt hc165).1 k) ?_
            show own_WP _ _ _ _ T155 (mkF m 168 #[.val (.int zn), .val (.int x0), .val (.int x1), .val (.int x2), .val (.int x3), .val (.int x4), .val (.int (5 : Int32)), .val (.int zc0), .val (.int zc1), .val (.int zc2), .val (.int zc3), .val (.int zc4), .val (.ref za), .unset] [])
            refine own_go (fun t k => XS.iload X155.here hx rfl (hb hby at_168) rfl  k) ?_
            show own_WP _ _ _ _ T155 (mkF m 170 #[.val (.int zn), .val (.int x0), .val (.int x1), .val (.int x2), .val (.int x3), .val (.int x4), .val (.int (5 : Int32)), .val (.int zc0), .val (.int zc1), .val (.int zc2), .val (.int zc3), .val (.int zc4), .val (.ref za), .unset] [(.int zc4)])
            obtain ⟨_, _, ⟨T157, L157, k157, n157⟩, -, X157, ⟨Lc157, hQ157, l157, y157, z157⟩, st157⟩ := Jvm.LawKit.callS X155 hx (y := (⟨"com/example/soak/soak/sip/SipMessageIsKeepAlivePinLaw", "ws", "(B)Z"⟩ : MethodName)) hown (mvT hZ (hw _ (List.mem_of_getElem? (i := 10) rfl))) (mvT hZ (hw _ (List.mem_of_getElem? (i := 11) rfl))) (mvT hZ (hw _ (List.mem_of_getElem? (i := 3) rfl))) (mvT hZ (hw _ (List.mem_of_getElem? (i := 12) rfl))) (by decide) (backOf (W := 0) (rm3 l Z a0 hw [] zc4  h144 n0 (own_le Z0 K147) ) hZ (hw _ (List.mem_of_getElem? (i := 12) rfl)) (hw _ (List.mem_of_getElem? (i := 3) rfl)) (by decide) (by decide)) (g := (mkF m 170 #[.val (.int zn), .val (.int x0), .val (.int x1), .val (.int x2), .val (.int x3), .val (.int x4), .val (.int (5 : Int32)), .val (.int zc0), .val (.int zc1), .val (.int zc2), .val (.int zc3), .val (.int zc4), .val (.ref za), .unset] [(.int zc4)])) rfl (by rw [hml]; rfl) (argsL := [(.int zc4)]) (rest := []) (lenOf own_pd61727 rfl) rfl (by show 2 * 0 + _ ≤ _; exact Nat.le_of_eq rfl) (hb hby at_170) (fun _ _ => ⟨rfl, eq155, (by decide : 1 + 0 ≤ _), (by decide : 5 + 0 ≤ _)⟩)
            dsimp only [Pt.U, Pt.locs, Pt.cells, Pt.slots] at X157 l157 y157 z157 st157 hQ157
            subst l157 y157 z157
            obtain ⟨rfl, N157q, eq157⟩ := hQ157
            have N157 := Fr.app N155 N157q
            refine own_go st157 ?_
            show own_WP _ _ _ _ T157 (mkF m 173 #[.val (.int zn), .val (.int x0), .val (.int x1), .val (.int x2), .val (.int x3), .val (.int x4), .val (.int (5 : Int32)), .val (.int zc0), .val (.int zc1), .val (.int zc2), .val (.int zc3), .val (.int zc4), .val (.ref za), .unset] [(.int (own_ws zc4))])
            by_cases hc173 : (own_ws zc4) = (0 : Int32)
            · refine own_go (fun t k => XS.ifYes X157.here hx rfl (pc0 := 173) (pc' := 180) rfl (hb hby at_173) rfl ((if0 _ _).trans (teq hc173).1) (by decide) (by decide) k) ?_
              show own_WP _ _ _ _ T157 (mkF m 180 #[.val (.int zn), .val (.int x0), .val (.int x1), .val (.int x2), .val (.int x3), .val (.int x4), .val (.int (5 : Int32)), .val (.int zc0), .val (.int zc1), .val (.int zc2), .val (.int zc3), .val (.int zc4), .val (.ref za), .unset] [])
              refine own_go (fun t k => XS.iconst X157.here hx rfl (hb hby at_180) k) ?_
              show own_WP _ _ _ _ T157 (mkF m 181 #[.val (.int zn), .val (.int x0), .val (.int x1), .val (.int x2), .val (.int x3), .val (.int x4), .val (.int (5 : Int32)), .val (.int zc0), .val (.int zc1), .val (.int zc2), .val (.int zc3), .val (.int zc4), .val (.ref za), .unset] [(.int (0 : Int32))])
              refine own_go (fun t k => XS.istore X157.here hx rfl (hb hby at_181) rfl (l' := #[.val (.int zn), .val (.int x0), .val (.int x1), .val (.int x2), .val (.int x3), .val (.int x4), .val (.int (5 : Int32)), .val (.int zc0), .val (.int zc1), .val (.int zc2), .val (.int zc3), .val (.int zc4), .val (.ref za), .val (.int (0 : Int32))]) rfl k) ?_
              show own_WP _ _ _ _ T157 (mkF m 183 #[.val (.int zn), .val (.int x0), .val (.int x1), .val (.int x2), .val (.int x3), .val (.int x4), .val (.int (5 : Int32)), .val (.int zc0), .val (.int zc1), .val (.int zc2), .val (.int zc3), .val (.int zc4), .val (.ref za), .val (.int (0 : Int32))] [])
              refine own_go (fun t k => XS.aload X157.here hx rfl (hb hby at_183) rfl rfl  k) ?_
              show own_WP _ _ _ _ T157 (mkF m 185 #[.val (.int zn), .val (.int x0), .val (.int x1), .val (.int x2), .val (.int x3), .val (.int x4), .val (.int (5 : Int32)), .val (.int zc0), .val (.int zc1), .val (.int zc2), .val (.int zc3), .val (.int zc4), .val (.ref za), .val (.int (0 : Int32))] [(.ref za)])
              obtain ⟨_, _, ⟨T158, L158, k158, n158⟩, -, X158, ⟨Lc158, hQ158, l158, y158, z158⟩, st158⟩ := Jvm.LawKit.callS X157 hx (y := (⟨"com/example/soak/soak/sip/SipMessage", "isKeepAlive", "([B)Z"⟩ : MethodName)) hown (mvT hZ (hw _ (List.mem_of_getElem? (i := 6) rfl))) (mvT hZ (hw _ (List.mem_of_getElem? (i := 7) rfl))) (mvT hZ (hw _ (List.mem_of_getElem? (i := 8) rfl))) (mvT hZ (hw _ (List.mem_of_getElem? (i := 9) rfl))) (by decide) (backOf (W := 0) (rm2 l Z a0 hw [] za k121 (5 : Int32) [(nar .byte zc0), (nar .byte zc1), (nar .byte zc2), (nar .byte zc3), (nar .byte zc4)] h144 n0 (own_le Z0 K147) (f145) (show 0 ≤ (5 : Int32).toInt from by decide) (show ([(nar .byte zc0), (nar .byte zc1), (nar .byte zc2), (nar .byte zc3), (nar .byte zc4)].length : Int) = (5 : Int32).toInt from rfl)) hZ (hw _ (List.mem_of_getElem? (i := 9) rfl)) (hw _ (List.mem_of_getElem? (i := 8) rfl)) (by decide) (by decide)) (g := (mkF m 185 #[.val (.int zn), .val (.int x0), .val (.int x1), .val (.int x2), .val (.int x3), .val (.int x4), .val (.int (5 : Int32)), .val (.int zc0), .val (.int zc1), .val (.int zc2), .val (.int zc3), .val (.int zc4), .val (.ref za), .val (.int (0 : Int32))] [(.ref za)])) rfl (by rw [hml]; rfl) (argsL := [(.ref za)]) (rest := []) (lenOf own_pd76616 rfl) rfl (by show 2 * 0 + _ ≤ _; exact Nat.le_of_eq rfl) (hb hby at_185) (fun _ _ => ⟨rfl, eq157, (by decide : 1 + 0 ≤ _), (by decide : 5 + 0 ≤ _)⟩)
              dsimp only [Pt.U, Pt.locs, Pt.cells, Pt.slots] at X158 l158 y158 z158 st158 hQ158
              subst l158 y158 z158
              obtain ⟨rfl, N158q, eq158⟩ := hQ158
              have N158 := Fr.app N157 N158q
              refine own_go st158 ?_
              show own_WP _ _ _ _ T158 (mkF m 188 #[.val (.int zn), .val (.int x0), .val (.int x1), .val (.int x2), .val (.int x3), .val (.int x4), .val (.int (5 : Int32)), .val (.int zc0), .val (.int zc1), .val (.int zc2), .val (.int zc3), .val (.int zc4), .val (.ref za), .val (.int (0 : Int32))] [(.int (own_ka [(nar .byte zc0), (nar .byte zc1), (nar .byte zc2), (nar .byte zc3), (nar .byte zc4)]))])
              refine own_go (fun t k => XS.iload X158.here hx rfl (hb hby at_188) rfl  k) ?_
              show own_WP _ _ _ _ T158 (mkF m 190 #[.val (.int zn), .val (.int x0), .val (.int x1), .val (.int x2), .val (.int x3), .val (.int x4), .val (.int (5 : Int32)), .val (.int zc0), .val (.int zc1), .val (.int zc2), .val (.int zc3), .val (.int zc4), .val (.ref za), .val (.int (0 : Int32))] [(.int (0 : Int32)), (.int (own_ka [(nar .byte zc0), (nar .byte zc1), (nar .byte zc2), (nar .byte zc3), (nar .byte zc4)]))])
              have hc190 : (own_ka [(nar .byte zc0), (nar .byte zc1), (nar .byte zc2), (nar .byte zc3), (nar .byte zc4)]) = (0 : Int32) := by
                simp [own_ka, hr_116, hr_117, hr_118, hr_119, hr_120, hc117, hc131, hc145, hc159, hc173]
              refine own_go (fun t k => XS.icmpNo X158.here hx rfl (hb hby at_190) rfl (teq hc190).2 k) ?_
              show own_WP _ _ _ _ T158 (mkF m 193 #[.val (.int zn), .val (.int x0), .val (.int x1), .val (.int x2), .val (.int x3), .val (.int x4), .val (.int (5 : Int32)), .val (.int zc0), .val (.int zc1), .val (.int zc2), .val (.int zc3), .val (.int zc4), .val (.ref za), .val (.int (0 : Int32))] [])
              refine own_go (fun t k => XS.iconst X158.here hx rfl (hb hby at_193) k) ?_
              show own_WP _ _ _ _ T158 (mkF m 194 #[.val (.int zn), .val (.int x0), .val (.int x1), .val (.int x2), .val (.int x3), .val (.int x4), .val (.int (5 : Int32)), .val (.int zc0), .val (.int zc1), .val (.int zc2), .val (.int zc3), .val (.int zc4), .val (.ref za), .val (.int (0 : Int32))] [(.int (1 : Int32))])
              refine own_go (fun t k => XS.goto X158.here hx rfl (pc0 := 194) (pc' := 198) rfl (hb hby at_194) (by decide) (by decide) k) ?_
              show own_WP _ _ _ _ T158 (mkF m 198 #[.val (.int zn), .val (.int x0), .val (.int x1), .val (.int x2), .val (.int x3), .val (.int x4), .val (.int (5 : Int32)), .val (.int zc0), .val (.int zc1), .val (.int zc2), .val (.int zc3), .val (.int zc4), .val (.ref za), .val (.int (0 : Int32))] [(.int (1 : Int32))])
              refine own_retN X158 hx Bd.notSynchronized (t := .boolean) (by simp) Bd.returns (hb hby at_198) (by decide) (by decide) ?_
              rw [eq158]
              exact ⟨rfl, N158⟩
            · refine own_go (fun t k => XS.ifNo X157.here hx rfl (hb hby at_173) rfl ((if0 _ _).trans (feq hc173).1) k) ?_
              show own_WP _ _ _ _ T157 (mkF m 176 #[.val (.int zn), .val (.int x0), .val (.int x1), .val (.int x2), .val (.int x3), .val (.int x4), .val (.int (5 : Int32)), .val (.int zc0), .val (.int zc1), .val (.int zc2), .val (.int zc3), .val (.int zc4), .val (.ref za), .unset] [])
              refine own_go (fun t k => XS.iconst X157.here hx rfl (hb hby at_176) k) ?_
              show own_WP _ _ _ _ T157 (mkF m 177 #[.val (.int zn), .val (.int x0), .val (.int x1), .val (.int x2), .val (.int x3), .val (.int x4), .val (.int (5 : Int32)), .val (.int zc0), .val (.int zc1), .val (.int zc2), .val (.int zc3), .val (.int zc4), .val (.ref za), .unset] [(.int (1 : Int32))])
              refine own_go (fun t k => XS.goto X157.here hx rfl (pc0 := 177) (pc' := 181) rfl (hb hby at_177) (by decide) (by decide) k) ?_
              show own_WP _ _ _ _ T157 (mkF m 181 #[.val (.int zn), .val (.int x0), .val (.int x1), .val (.int x2), .val (.int x3), .val (.int x4), .val (.int (5 : Int32)), .val (.int zc0), .val (.int zc1), .val (.int zc2), .val (.int zc3), .val (.int zc4), .val (.ref za), .unset] [(.int (1 : Int32))])
              refine own_go (fun t k => XS.istore X157.here hx rfl (hb hby at_181) rfl (l' := #[.val (.int zn), .val (.int x0), .val (.int x1), .val (.int x2), .val (.int x3), .val (.int x4), .val (.int (5 : Int32)), .val (.int zc0), .val (.int zc1), .val (.int zc2), .val (.int zc3), .val (.int zc4), .val (.ref za), .val (.int (1 : Int32))]) rfl k) ?_
              show own_WP _ _ _ _ T157 (mkF m 183 #[.val (.int zn), .val (.int x0), .val (.int x1), .val (.int x2), .val (.int x3), .val (.int x4), .val (.int (5 : Int32)), .val (.int zc0), .val (.int zc1), .val (.int zc2), .val (.int zc3), .val (.int zc4), .val (.ref za), .val (.int (1 : Int32))] [])
              refine own_go (fun t k => XS.aload X157.here hx rfl (hb hby at_183) rfl rfl  k) ?_
              show own_WP _ _ _ _ T157 (mkF m 185 #[.val (.int zn), .val (.int x0), .val (.int x1), .val (.int x2), .val (.int x3), .val (.int x4), .val (.int (5 : Int32)), .val (.int zc0), .val (.int zc1), .val (.int zc2), .val (.int zc3), .val (.int zc4), .val (.ref za), .val (.int (1 : Int32))] [(.ref za)])
              obtain ⟨_, _, ⟨T159, L159, k159, n159⟩, -, X159, ⟨Lc159, hQ159, l159, y159, z159⟩, st159⟩ := Jvm.LawKit.callS X157 hx (y := (⟨"com/example/soak/soak/sip/SipMessage", "isKeepAlive", "([B)Z"⟩ : MethodName)) hown (mvT hZ (hw _ (List.mem_of_getElem? (i := 6) rfl))) (mvT hZ (hw _ (List.mem_of_getElem? (i := 7) rfl))) (mvT hZ (hw _ (List.mem_of_getElem? (i := 8) rfl))) (mvT hZ (hw _ (List.mem_of_getElem? (i := 9) rfl))) (by decide) (backOf (W := 0) (rm2 l Z a0 hw [] za k121 (5 : Int32) [(nar .byte zc0), (nar .byte zc1), (nar .byte zc2), (nar .byte zc3), (nar .byte zc4)] h144 n0 (own_le Z0 K147) (f145) (show 0 ≤ (5 : Int32).toInt from by decide) (show ([(nar .byte zc0), (nar .byte zc1), (nar .byte zc2), (nar .byte zc3), (nar .byte zc4)].length : Int) = (5 : Int32).toInt from rfl)) hZ (hw _ (List.mem_of_getElem? (i := 9) rfl)) (hw _ (List.mem_of_getElem? (i := 8) rfl)) (by decide) (by decide)) (g := (mkF m 185 #[.val (.int zn), .val (.int x0), .val (.int x1), .val (.int x2), .val (.int x3), .val (.int x4), .val (.int (5 : Int32)), .val (.int zc0), .val (.int zc1), .val (.int zc2), .val (.int zc3), .val (.int zc4), .val (.ref za), .val (.int (1 : Int32))] [(.ref za)])) rfl (by rw [hml]; rfl) (argsL := [(.ref za)]) (rest := []) (lenOf own_pd76616 rfl) rfl (by show 2 * 0 + _ ≤ _; exact Nat.le_of_eq rfl) (hb hby at_185) (fun _ _ => ⟨rfl, eq157, (by decide : 1 + 0 ≤ _), (by decide : 5 + 0 ≤ _)⟩)
              dsimp only [Pt.U, Pt.locs, Pt.cells, Pt.slots] at X159 l159 y159 z159 st159 hQ159
              subst l159 y159 z159
              obtain ⟨rfl, N159q, eq159⟩ := hQ159
              have N159 := Fr.app N157 N159q
              refine own_go st159 ?_
              show own_WP _ _ _ _ T159 (mkF m 188 #[.val (.int zn), .val (.int x0), .val (.int x1), .val (.int x2), .val (.int x3), .val (.int x4), .val (.int (5 : Int32)), .val (.int zc0), .val (.int zc1), .val (.int zc2), .val (.int zc3), .val (.int zc4), .val (.ref za), .val (.int (1 : Int32))] [(.int (own_ka [(nar .byte zc0), (nar .byte zc1), (nar .byte zc2), (nar .byte zc3), (nar .byte zc4)]))])
              refine own_go (fun t k => XS.iload X159.here hx rfl (hb hby at_188) rfl  k) ?_
              show own_WP _ _ _ _ T159 (mkF m 190 #[.val (.int zn), .val (.int x0), .val (.int x1), .val (.int x2), .val (.int x3), .val (.int x4), .val (.int (5 : Int32)), .val (.int zc0), .val (.int zc1), .val (.int zc2), .val (.int zc3), .val (.int zc4), .val (.ref za), .val (.int (1 : Int32))] [(.int (1 : Int32)), (.int (own_ka [(nar .byte zc0), (nar .byte zc1), (nar .byte zc2), (nar .byte zc3), (nar .byte zc4)]))])
              have hc190 : (own_ka [(nar .byte zc0), (nar .byte zc1), (nar .byte zc2), (nar .byte zc3), (nar .byte zc4)]) = (1 : Int32) := by
                simp [own_ka, hr_116, hr_117, hr_118, hr_119, hr_120, hc117, hc131, hc145, hc159, hc173]
              refine own_go (fun t k => XS.icmpNo X159.here hx rfl (hb hby at_190) rfl (teq hc190).2 k) ?_
              show own_WP _ _ _ _ T159 (mkF m 193 #[.val (.int zn), .val (.int x0), .val (.int x1), .val (.int x2), .val (.int x3), .val (.int x4), .val (.int (5 : Int32)), .val (.int zc0), .val (.int zc1), .val (.int zc2), .val (.int zc3), .val (.int zc4), .val (.ref za), .val (.int (1 : Int32))] [])
              refine own_go (fun t k => XS.iconst X159.here hx rfl (hb hby at_193) k) ?_
              show own_WP _ _ _ _ T159 (mkF m 194 #[.val (.int zn), .val (.int x0), .val (.int x1), .val (.int x2), .val (.int x3), .val (.int x4), .val (.int (5 : Int32)), .val (.int zc0), .val (.int zc1), .val (.int zc2), .val (.int zc3), .val (.int zc4), .val (.ref za), .val (.int (1 : Int32))] [(.int (1 : Int32))])
              refine own_go (fun t k => XS.goto X159.here hx rfl (pc0 := 194) (pc' := 198) rfl (hb hby at_194) (by decide) (by decide) k) ?_
              show own_WP _ _ _ _ T159 (mkF m 198 #[.val (.int zn), .val (.int x0), .val (.int x1), .val (.int x2), .val (.int x3), .val (.int x4), .val (.int (5 : Int32)), .val (.int zc0), .val (.int zc1), .val (.int zc2), .val (.int zc3), .val (.int zc4), .val (.ref za), .val (.int (1 : Int32))] [(.int (1 : Int32))])
              refine own_retN X159 hx Bd.notSynchronized (t := .boolean) (by simp) Bd.returns (hb hby at_198) (by decide) (by decide) ?_
              rw [eq159]
              exact ⟨rfl, N159⟩
set_option maxRecDepth 65536 in
set_option maxHeartbeats 40000000 in
theorem comes_1 {Post : Tables → Env → Array Value → State → Outcome → State → Prop} (hpost : ∀ tb e args s v u, (limb_1_1.after args s (.returned v) u = true ∧ limb_1_2.after args s (.returned v) u = true ∧ True) → FrameEnd s (.returned v) u (Jvm.fieldLocs frame_1_writes args s ++ Jvm.arrayLocs frame_1_arrays args s ++ Jvm.staticLocs frame_1_statics s) 16 128 → Post tb e args s (.returned v) u) :
    ArmFor flags0 classFile x code maxLocals ret World_1 tables_1 room_1 Calls_1 rest_1 Pre_1 Post := by
  intro l hfl _ _ p e ha hc hk s m args below hf hA hF happ hP
  obtain ⟨hcalls, hrest, hpre⟩ := hP
  obtain ⟨-, -, -, hnamed, -, -, -, hat⟩ := (Spec.applies_iff hf).mp happ
  obtain ⟨hg, hn⟩ := and_e (Cond.before_iff.mp (show (Jvm.Cond.and given_1 narrow_1).before args s = true from hpre))
  obtain ⟨u0, v0⟩ := and_e hg
  obtain ⟨u1, v1⟩ := and_e v0
  obtain ⟨u2, v2⟩ := and_e v1
  obtain ⟨u3, v3⟩ := and_e v2
  obtain ⟨u4, v4⟩ := and_e v3
  obtain ⟨u5, v5⟩ := and_e v4
  obtain ⟨w0, w1, w2, w3, w4, w5, rfl⟩ : ∃ w0 w1 w2 w3 w4 w5 : Value, args = #[w0, w1, w2, w3, w4, w5] := by
    have hs : args.size = 6 := by simpa [Cond.value, given_1] using u0
    obtain ⟨L⟩ := args
    match L, hs with
    | [w0, w1, w2, w3, w4, w5], _ => exact ⟨w0, w1, w2, w3, w4, w5, rfl⟩
  have hw := fun d (hd : d ∈ tables_1) => atoms_spec (ws := Jvm.Cond.code x code maxLocals ret :: tables_1) hat d (List.mem_cons_of_mem _ hd)
  obtain ⟨i0, ei0⟩ := is_v u1
  obtain rfl : w0 = (.int i0) := Option.some.inj ei0
  obtain ⟨i1, ei1⟩ := is_v u2
  obtain rfl : w1 = (.int i1) := Option.some.inj ei1
  obtain ⟨i2, ei2⟩ := is_v u3
  obtain rfl : w2 = (.int i2) := Option.some.inj ei2
  obtain ⟨i3, ei3⟩ := is_v u4
  obtain rfl : w3 = (.int i3) := Option.some.inj ei3
  obtain ⟨i4, ei4⟩ := is_v u5
  obtain rfl : w4 = (.int i4) := Option.some.inj ei4
  obtain ⟨i5, ei5⟩ := is_v v5
  obtain rfl : w5 = (.int i5) := Option.some.inj ei5
  obtain ⟨n, o, h1, h2, h3, _, L, rfl, ⟨rfl, N⟩, hq⟩ := rm0 l s _ hw tables_1 i0 i1 i2 i3 i4 i5  s.heap s.heap.size (Nat.le_refl _)  p e ha hc hk s m _ below hf ((Spec.applies_iff_loose hf).mp happ).1 ⟨rfl, State.Warmed39.refl s, rfl⟩ trivial
  refine ⟨n, _, h1, h2, h3, hpost _ _ _ _ _ _ ⟨Cond.after_iff.mpr rfl, Cond.after_iff.mpr (eq_i res_at (Term.int_eval (1)) rfl), trivial⟩ ⟨hq.1, hq.2.1, (hq.2.2.sift fun y hy => Or.inr (N y hy)).mono (by decide) (by decide)⟩⟩
theorem main_1_1 : Claimed_1_1 := comes_1 fun _ _ _ _ _ _ h hF => ⟨h.1, hF⟩
theorem main_1_2 : Claimed_1_2 := comes_1 fun _ _ _ _ _ _ h hF => ⟨h.2.1, hF⟩
end Jvm.Pilot.@@N@@
namespace Jvm.Pilot.@@N@@
open Jvm Jvm.ClassFile Sem Op Lib Jvm.Free Jvm.Stand Jvm.Pilot.@@N@@.Jvm.D
/-! MADE BY PROGRAM (witnessworld.py) out of the Statement's table words and the real class files: 9 classes; the members and pool entries that the words name. The judged class is class 1, her method 1. -/
namespace start1
open Jvm.ClassFile
def u (s : String) : CpInfo := .utf8 (stringToUtf16 s)
/-- a pool by its gaps: so many unusable entries, then the entry; so many at the end -/
def gap : Nat → List CpInfo → List CpInfo
  | 0, r => r
  | n + 1, r => .unusable :: gap n r
def poolList (es : List (Nat × CpInfo)) (last : Nat) : List CpInfo := es.foldr (fun e r => gap e.1 (e.2 :: r)) (gap last [])
def pool (es : List (Nat × CpInfo)) (last : Nat) : Array CpInfo := ⟨poolList es last⟩
def fileOf (pool : Array CpInfo) (this : Nat) (attrs : Array Attribute := #[]) (ms : Array MethodInfo := #[]) (fl : Nat := 33) (sup : Nat := 0) (ifs : Array Nat := #[]) (fds : Array FieldInfo := #[]) : ClassFile where
  minorVersion := 0
  majorVersion := 65
  constantPool := pool
  accessFlags := fl
  thisClass := this
  superClass := sup
  interfaces := ifs
  fields := fds
  methods := ms
  attributes := attrs
def plain (name : String) (sup : Option ClassId) : Class where
  name := name
  kind := .ordinary
  loader := none
  accessFlags := 33
  super := sup
  interfaces := #[]
  cf := none
  fields := #[]
  methods := #[]
  instanceTypes := #[]
  staticTypes := #[]
  resolved := #[]
  callSites := []
  init := .initialized
  statics := none
  mirror := none

def pool0 : Array CpInfo := pool [(5, u "<init>"), (0, u "()V"), (1, .class_ 10), (1, u "java/lang/Object")] 113

def k0m0 : Method := { name := "<init>", desc := "()V", sig := { parameters := [], returnType := none }, accessFlags := 1, code := none }
/-- java/lang/Object -/
def k0 : Class := { plain "java/lang/Object" none with
  accessFlags := 33
  interfaces := #[]
  cf := some (fileOf pool0 8 #[] #[{ accessFlags := 1, nameIndex := 5, descriptorIndex := 6, attributes := #[] }] 33 0 #[] #[])
  fields := #[]
  methods := #[k0m0]
  instanceTypes := #[]
  staticTypes := #[]
  resolved := Array.replicate 124 none
  statics := none }

def pool1 : Array CpInfo := pool [(2, .class_ 4), (1, u "java/lang/Object"), (0, u "<init>"), (0, u "()V"), (0, .integer 2147483647), (0, .methodref 9 10), (0, .class_ 11), (0, .nameAndType 12 13), (0, u "com/example/soak/soak/sip/SipMessageIsKeepAlivePinLaw"), (0, u "pick"), (0, u "(I)B"), (0, .methodref 9 15), (0, .nameAndType 16 17), (0, u "ws"), (0, u "(B)Z"), (0, .methodref 19 20), (0, .class_ 21), (0, .nameAndType 22 23), (0, u "com/example/soak/soak/sip/SipMessage"), (0, u "isKeepAlive"), (0, u "([B)Z"), (2, u "law"), (0, u "(IIIIII)Z")] 5

def k1m0 : Method := { name := "<init>", desc := "()V", sig := { parameters := [], returnType := none }, accessFlags := 2, code := none }
def k1c1 : Code := { maxStack := 3, maxLocals := 14, code := code, exceptionTable := #[], attributes := #[] }
def k1m1 : Method := { name := "law", desc := "(IIIIII)Z", sig := { parameters := [.int, .int, .int, .int, .int, .int], returnType := some .boolean }, accessFlags := 9, code := some k1c1 }
def k1c2 : Code := { maxStack := 2, maxLocals := 2, code := method_3_code, exceptionTable := #[], attributes := #[] }
def k1m2 : Method := { name := "pick", desc := "(I)B", sig := { parameters := [.int], returnType := some .byte }, accessFlags := 10, code := some k1c2 }
def k1c3 : Code := { maxStack := 2, maxLocals := 1, code := method_4_code, exceptionTable := #[], attributes := #[] }
def k1m3 : Method := { name := "ws", desc := "(B)Z", sig := { parameters := [.byte], returnType := some .boolean }, accessFlags := 10, code := some k1c3 }
/-- com/example/soak/soak/sip/SipMessageIsKeepAlivePinLaw -/
def k1 : Class := { plain "com/example/soak/soak/sip/SipMessageIsKeepAlivePinLaw" (some 0) with
  accessFlags := 49
  interfaces := #[]
  cf := some (fileOf pool1 9 #[] #[{ accessFlags := 2, nameIndex := 5, descriptorIndex := 6, attributes := #[] }, { accessFlags := 9, nameIndex := 26, descriptorIndex := 27, attributes := #[] }, { accessFlags := 10, nameIndex := 12, descriptorIndex := 13, attributes := #[] }, { accessFlags := 10, nameIndex := 16, descriptorIndex := 17, attributes := #[] }] 49 2 #[] #[])
  fields := #[]
  methods := #[k1m0, k1m1, k1m2, k1m3]
  instanceTypes := #[]
  staticTypes := #[]
  resolved := Array.replicate 33 none
  statics := none }

def pool2 : Array CpInfo := pool [(2, .class_ 4), (1, u "java/lang/Object"), (3, .class_ 10), (1, u "com/example/soak/soak/sip/SipMessage"), (0, u "startLine"), (0, u "Ljava/lang/String;"), (2, u "method"), (2, u "statusCode"), (0, u "I"), (2, u "fields"), (0, u "Ljava/util/List;"), (2, u "body"), (0, u "[B"), (113, .class_ 142), (0, u "com/example/soak/soak/sip/SipMessage$Field"), (103, u "COPIED_TO_RESPONSES"), (0, u "Ljava/util/Set;"), (119, u "FULL_NAMES"), (0, u "Ljava/util/Map;"), (53, u "VERSION"), (1, u "CRLF"), (2, u "MAX_FORWARDS"), (11, u "isKeepAlive"), (0, u "([B)Z")] 64

def k2c0 : Code := { maxStack := 2, maxLocals := 5, code := prog_69_method_4_code, exceptionTable := #[], attributes := #[] }
def k2m0 : Method := { name := "isKeepAlive", desc := "([B)Z", sig := { parameters := [(.array .byte)], returnType := some .boolean }, accessFlags := 9, code := some k2c0 }
/-- com/example/soak/soak/sip/SipMessage -/
def k2 : Class := { plain "com/example/soak/soak/sip/SipMessage" (some 0) with
  accessFlags := 49
  interfaces := #[]
  cf := some (fileOf pool2 8 #[.nestMembers #[141]] #[{ accessFlags := 9, nameIndex := 439, descriptorIndex := 440, attributes := #[] }] 49 2 #[] #[{ accessFlags := 26, nameIndex := 422, descriptorIndex := 12, attributes := #[] }, { accessFlags := 26, nameIndex := 424, descriptorIndex := 12, attributes := #[] }, { accessFlags := 26, nameIndex := 367, descriptorIndex := 368, attributes := #[] }, { accessFlags := 26, nameIndex := 427, descriptorIndex := 12, attributes := #[] }, { accessFlags := 26, nameIndex := 246, descriptorIndex := 247, attributes := #[] }, { accessFlags := 18, nameIndex := 11, descriptorIndex := 12, attributes := #[] }, { accessFlags := 18, nameIndex := 15, descriptorIndex := 12, attributes := #[] }, { accessFlags := 18, nameIndex := 18, descriptorIndex := 19, attributes := #[] }, { accessFlags := 18, nameIndex := 22, descriptorIndex := 23, attributes := #[] }, { accessFlags := 18, nameIndex := 26, descriptorIndex := 27, attributes := #[] }])
  fields := #[{ name := "VERSION", type := (.object "java/lang/String"), accessFlags := 26, slot := 0, constantValue := 0 }, { name := "CRLF", type := (.object "java/lang/String"), accessFlags := 26, slot := 1, constantValue := 0 }, { name := "FULL_NAMES", type := (.object "java/util/Map"), accessFlags := 26, slot := 2, constantValue := 0 }, { name := "MAX_FORWARDS", type := (.object "java/lang/String"), accessFlags := 26, slot := 3, constantValue := 0 }, { name := "COPIED_TO_RESPONSES", type := (.object "java/util/Set"), accessFlags := 26, slot := 4, constantValue := 0 }, { name := "startLine", type := (.object "java/lang/String"), accessFlags := 18, slot := 0, constantValue := 0 }, { name := "method", type := (.object "java/lang/String"), accessFlags := 18, slot := 1, constantValue := 0 }, { name := "statusCode", type := .int, accessFlags := 18, slot := 2, constantValue := 0 }, { name := "fields", type := (.object "java/util/List"), accessFlags := 18, slot := 3, constantValue := 0 }, { name := "body", type := (.array .byte), accessFlags := 18, slot := 4, constantValue := 0 }]
  methods := #[k2m0]
  instanceTypes := #[(.object "java/lang/String"), (.object "java/lang/String"), .int, (.object "java/util/List"), (.array .byte)]
  staticTypes := #[(.object "java/lang/String"), (.object "java/lang/String"), (.object "java/util/Map"), (.object "java/lang/String"), (.object "java/util/Set")]
  resolved := Array.replicate 505 none
  statics := none }

def pool3 : Array CpInfo := pool [(1, u "java/lang/Cloneable"), (0, .class_ 1), (0, u "java/lang/Object"), (0, .class_ 3)] 3

/-- java/lang/Cloneable -/
def k3 : Class := { plain "java/lang/Cloneable" (some 0) with
  accessFlags := 1537
  interfaces := #[]
  cf := some (fileOf pool3 2 #[] #[] 1537 4 #[] #[])
  fields := #[]
  methods := #[]
  instanceTypes := #[]
  staticTypes := #[]
  resolved := Array.replicate 8 none
  statics := none }

def pool4 : Array CpInfo := pool [(1, u "java/io/Serializable"), (0, .class_ 1), (0, u "java/lang/Object"), (0, .class_ 3)] 3

/-- java/io/Serializable -/
def k4 : Class := { plain "java/io/Serializable" (some 0) with
  accessFlags := 1537
  interfaces := #[]
  cf := some (fileOf pool4 2 #[] #[] 1537 4 #[] #[])
  fields := #[]
  methods := #[]
  instanceTypes := #[]
  staticTypes := #[]
  resolved := Array.replicate 8 none
  statics := none }

/-- the primitive byte -/
def k5 : Class := { plain "byte" none with kind := .primitive 'B', accessFlags := 0x411 }
/-- [B -/
def k6 : Class := { plain "[B" (some 0) with kind := .array 5 .byte, interfaces := #[3, 4], accessFlags := 1041 }

/-- the primitive int -/
def k7 : Class := { plain "int" none with kind := .primitive 'I', accessFlags := 0x411 }
/-- [I -/
def k8 : Class := { plain "[I" (some 0) with kind := .array 7 .int, interfaces := #[3, 4], accessFlags := 1041 }

def heap : Heap := #[]
def classes : Array Class := #[k0, k1, k2, k3, k4, k5, k6, k7, k8]
def interned : List (Array UInt16 × Addr) := []
def slotsUsed : Nat := 0
def theMethod : MethodId := ⟨1, 1⟩
def args0 : Array Value := #[.int 5, .int 9, .int 3, .int 2, .int 1, .int 0]
def aboutOver (below : List Frame) : State where
  vm := { classes := classes, interned := interned.toArray }
  heap := heap
  slotsUsed := slotsUsed
  threads := #[{ frames := .invoking theMethod args0 :: below }]
def below0 : List Frame := [.native { method := ⟨0, 0⟩, args := #[] }]
def about1 : State := aboutOver below0
def p0 : Program := .bare "" "" ""
def e0 : Env := launch0.env 0 0 0
theorem w_frames : about1.frames = Frame.invoking theMethod args0 :: below0 := rfl
set_option maxRecDepth 65536 in
theorem w_args : argsFit about1.vm theMethod args0 = true := by decide +kernel
set_option maxRecDepth 65536 in
theorem w_heap : heapFits about1 = true := by decide +kernel
set_option maxRecDepth 65536 in
theorem w_runnable : about1.curStatus? = some .runnable := by decide +kernel
set_option maxRecDepth 65536 in
theorem w_alone : about1.alone = true := by decide +kernel
set_option maxRecDepth 65536 in
theorem w_named : about1.methodNamed? x = some theMethod := by decide +kernel
set_option maxRecDepth 65536 in
theorem w_hears : about1.hears theMethod below0 = true := by decide +kernel
set_option maxRecDepth 65536 in
theorem w_ripe : about1.ripe theMethod args0 below0 = true := by decide +kernel
theorem w_running : about1.status = .running := rfl
set_option maxRecDepth 65536 in
theorem w_room : about1.hasRoom e0.platform room_1 = true :=
  launch0.hasRoom_least _ room_1 (by decide +kernel) (by decide +kernel) (by decide +kernel) (by decide +kernel) (by decide +kernel) (by decide +kernel)
theorem allAtoms_all (ts : List Jvm.Cond) (a : Array Jvm.Value) (st : Jvm.State) : (allAtoms ts).before a st = ts.all (fun c => c.before a st) := by
  induction ts with
  | nil => rfl
  | cons c t ih =>
    show (Jvm.Cond.and c (allAtoms t)).before a st = _
    rw [Jvm.Cond.before_and, ih, List.all_cons]
def words1 : List Jvm.Cond := Jvm.Cond.code x code maxLocals ret :: tables_1
/-- a 'code' word, met by the world's own term for the bytes: nothing is compared byte by byte -/
theorem code_word {y : MethodName} {bytes : ByteArray} {mx : Nat} {rt : Option FieldType} {a : Array Value} {s : State} {m : MethodId} {meth : Method} {c : Code} (h1 : s.methodNamed? y = some m) (h2 : s.vm.method? m = some meth) (h3 : meth.code = some c) (h4 : c.code = bytes)
    (h5 : (c.maxLocals == mx && c.exceptionTable.isEmpty && decide (c.maxStack ≤ mostOperands) && decide (meth.sig.returnType = rt) && !meth.locks && decide (parseMethodDescriptor y.desc = some meth.sig)) = true) : (Jvm.Cond.code y bytes mx rt).before a s = true := by
  simp only [Bool.and_eq_true, beq_iff_eq, Bool.not_eq_true', decide_eq_true_eq] at h5
  obtain ⟨⟨⟨⟨⟨g1, g2⟩, g3⟩, g4⟩, g5⟩, g6⟩ := h5
  simp [Cond.before, Cond.holds, Cond.value, h1, h2, h3, h4, g1, g2, g3, g4, g5, g6]
def isCode : Jvm.Cond → Bool
  | .code _ _ _ _ => true
  | _ => false
theorem all_split {L : List Jvm.Cond} {P : Jvm.Cond → Bool} (h1 : L.all (fun c => isCode c || P c) = true) (h2 : ∀ c ∈ L.filter isCode, P c = true) : L.all P = true := by
  refine List.all_eq_true.mpr fun c hc => ?_
  have h := List.all_eq_true.mp h1 c hc
  rcases Bool.eq_false_or_eq_true (isCode c) with hi | hi
  · exact h2 c (List.mem_filter.mpr ⟨hc, hi⟩)
  · simpa [hi] using h
set_option maxRecDepth 65536 in
theorem w_c0 : (Jvm.Cond.code x code maxLocals ret).before args0 about1 = true := code_word (m := ⟨1, 1⟩) (meth := k1m1) (c := k1c1) (by decide +kernel) rfl rfl rfl (by decide +kernel)
set_option maxRecDepth 65536 in
theorem w_c1 : (Jvm.Cond.code ({ cls := "com/example/soak/soak/sip/SipMessageIsKeepAlivePinLaw", name := "pick", desc := "(I)B" } : Jvm.MethodName) method_3_code (2 : Nat) (Option.some Jvm.ClassFile.FieldType.byte)).before args0 about1 = true := code_word (m := ⟨1, 2⟩) (meth := k1m2) (c := k1c2) (by decide +kernel) rfl rfl rfl (by decide +kernel)
set_option maxRecDepth 65536 in
theorem w_c2 : (Jvm.Cond.code ({ cls := "com/example/soak/soak/sip/SipMessage", name := "isKeepAlive", desc := "([B)Z" } : Jvm.MethodName) prog_69_method_4_code (5 : Nat) (Option.some Jvm.ClassFile.FieldType.boolean)).before args0 about1 = true := code_word (m := ⟨2, 0⟩) (meth := k2m0) (c := k2c0) (by decide +kernel) rfl rfl rfl (by decide +kernel)
set_option maxRecDepth 65536 in
theorem w_c3 : (Jvm.Cond.code ({ cls := "com/example/soak/soak/sip/SipMessageIsKeepAlivePinLaw", name := "ws", desc := "(B)Z" } : Jvm.MethodName) method_4_code (1 : Nat) (Option.some Jvm.ClassFile.FieldType.boolean)).before args0 about1 = true := code_word (m := ⟨1, 3⟩) (meth := k1m3) (c := k1c3) (by decide +kernel) rfl rfl rfl (by decide +kernel)
def codes1 : List Jvm.Cond := [Jvm.Cond.code x code maxLocals ret, Jvm.Cond.code ({ cls := "com/example/soak/soak/sip/SipMessageIsKeepAlivePinLaw", name := "pick", desc := "(I)B" } : Jvm.MethodName) method_3_code (2 : Nat) (Option.some Jvm.ClassFile.FieldType.byte), Jvm.Cond.code ({ cls := "com/example/soak/soak/sip/SipMessage", name := "isKeepAlive", desc := "([B)Z" } : Jvm.MethodName) prog_69_method_4_code (5 : Nat) (Option.some Jvm.ClassFile.FieldType.boolean), Jvm.Cond.code ({ cls := "com/example/soak/soak/sip/SipMessageIsKeepAlivePinLaw", name := "ws", desc := "(B)Z" } : Jvm.MethodName) method_4_code (1 : Nat) (Option.some Jvm.ClassFile.FieldType.boolean)]
set_option maxRecDepth 65536 in
theorem codes_eq : words1.filter isCode = codes1 := rfl
theorem w_codes : ∀ c ∈ words1.filter isCode, c.before args0 about1 = true := by
  rw [codes_eq]
  intro c hc
  simp only [codes1, List.mem_cons, List.not_mem_nil, or_false] at hc
  rcases hc with rfl | rfl | rfl | rfl
  · exact w_c0
  · exact w_c1
  · exact w_c2
  · exact w_c3
set_option maxRecDepth 65536 in
theorem w_t1 : words1.all (fun c => isCode c || c.before args0 about1) = true := by decide +kernel
theorem w_tables : (allAtoms (Jvm.Cond.code x code maxLocals ret :: tables_1)).before args0 about1 = true := by
  rw [allAtoms_all]
  show words1.all (fun c => c.before args0 about1) = true
  refine all_split ?_ w_codes
  rw [w_t1]
set_option maxRecDepth 65536 in
theorem w_case : (Jvm.Cond.and given_1 narrow_1).before args0 about1 = true := by decide +kernel
theorem w_applies : (headSpec (Jvm.Cond.code x code maxLocals ret :: tables_1) room_1).applies x e0.platform about1 = true :=
  (Spec.applies_iff w_frames).mpr ⟨w_running, w_runnable, w_alone, w_named, w_hears, w_ripe, w_room, w_tables⟩
theorem atStart : AtStart classFile x code maxLocals ret World_1 tables_1 room_1 Calls_1 rest_1 Pre_1 launch0 p0 e0 about1 theMethod args0 below0 :=
  ⟨lists_1, trivial, launch0.admits_env _ _ _, launch0.least_env, fairChoices_fair.cas, fairChoices_fair.clock, w_frames, w_args, w_heap, w_applies, trivial, trivial, w_case⟩
end start1
theorem witness_1 : WitnessClaimed_1 := ⟨start1.p0, start1.e0, start1.about1, start1.theMethod, start1.args0, start1.below0, start1.atStart⟩
end Jvm.Pilot.@@N@@
