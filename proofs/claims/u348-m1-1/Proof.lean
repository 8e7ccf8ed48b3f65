import JvmDerived
import JvmDerived.Pilot.@@N@@Statement
import JvmDerived.Pilot.@@N@@Code
set_option linter.unusedVariables false
set_option linter.unusedSimpArgs false
@@BLOCK:NumsL.lean.txt@@
namespace Jvm.Pilot.@@N@@
open Jvm Jvm.ClassFile Sem Op Lib Jvm.Free Jvm.Stand Jvm.LawKit Jvm.RoadKit Bundle Jvm.Pilot.@@N@@.Jvm.D
section OwnKit
variable {p : Program} {l : Launch} {e : Env} {R : Room} {s : State} {m : MethodId} {args : Array Value} {below : List Frame} {meth : Method} {c : Code} {T T' : State} {locs : List Loc} {cells slots : Nat} {Z : State} {h : Heap} {a0 : Array Value}
/-- from the state T with the frame g on top the method comes to its end, and what it leaves meets E -/
def own_WP (p : Program) (e : Env) (below : List Frame) (E : Outcome → State → Prop) (T : State) (g : JFrame) : Prop :=
  ∃ s₂ o, Steps p.tables e below (T.setTop g) s₂ ∧ s₂.status = .running ∧ Ended s₂ below o ∧ E o s₂
/-- it returns, and what it leaves meets Q within K cells and N slots -/
def own_E (s : State) (Q : Option Value → Heap → List Loc → Prop) (K N : Nat) (o : Outcome) (t : State) : Prop := ∃ v L, o = .returned v ∧ Q v t.heap L ∧ FrameEnd s o t L K N
variable {Q : Option Value → Heap → List Loc → Prop} {K N : Nat} {g g' : JFrame} {E : Outcome → State → Prop}
theorem own_go (h : ∀ t, Steps p.tables e below (T'.setTop g') t → Steps p.tables e below (T.setTop g) t) (k : own_WP p e below E T' g') : own_WP p e below E T g := by
  obtain ⟨s₂, o, h1, h2⟩ := k
  exact ⟨s₂, o, h s₂ h1, h2⟩
theorem own_tr (h : Steps p.tables e below (T.setTop g) (T'.setTop g')) (k : own_WP p e below E T' g') : own_WP p e below E T g := by
  obtain ⟨s₂, o, h1, h2⟩ := k
  exact ⟨s₂, o, h.trans h1, h2⟩
theorem own_end (X : Stand p l e R s m args below meth c T locs cells slots) (hlk : meth.locks = false) {v : Option Value} (hv : meth.sig.returnType = none → v = none)
    (hs : ∀ fs, (∀ (f : JFrame) (acts : List Action), f.method = m → f.locked = none → f.entered = [] → (doReturn e (T.setTop f) acts v).1 = T.setFrames fs) → Steps p.tables e below (T.setTop g) (T.setFrames fs))
    (hk : cells ≤ K) (hn : slots ≤ N) (hq : Q v T.heap locs) : own_WP p e below (own_E s Q K N) T g := by
  obtain ⟨fs, hr, hrun, hended, hW, hsame⟩ := X.leave hv hlk
  exact ⟨_, _, hs fs hr, hrun, hended, _, _, rfl, hq, ⟨_, rfl⟩, hW, hsame.mono hk hn⟩
theorem own_retV (X : Stand p l e R s m args below meth c T locs cells slots) (hx : p.tables.exec = Jvm.exec) (hlk : meth.locks = false) {pc : Nat} {Ls : Array Slot} (hret : meth.sig.returnType = none) (hd : decode c.code pc = .ok (.return_, 1))
    (hk : cells ≤ K) (hn : slots ≤ N) (hq : Q none T.heap locs) : own_WP p e below (own_E s Q K N) T (mkF m pc Ls []) :=
  own_end X hlk (fun _ => rfl) (fun fs hr => X.returnOut hx hret hd hr) hk hn hq
theorem own_retI (X : Stand p l e R s m args below meth c T locs cells slots) (hx : p.tables.exec = Jvm.exec) (hlk : meth.locks = false) {pc : Nat} {Ls : Array Slot} {z : Int32} (hret : meth.sig.returnType = some .int) (hd : decode c.code pc = .ok (.ireturn, 1))
    (hk : cells ≤ K) (hn : slots ≤ N) (hq : Q (some (.int z)) T.heap locs) : own_WP p e below (own_E s Q K N) T (mkF m pc Ls [.int z]) :=
  own_end X hlk (fun h => by rw [hret] at h; cases h) (fun fs hr => retOut X hx hret rfl (Or.inl ⟨rfl, Or.inl rfl, z, rfl⟩) hd hr) hk hn hq
theorem own_retJ (X : Stand p l e R s m args below meth c T locs cells slots) (hx : p.tables.exec = Jvm.exec) (hlk : meth.locks = false) {pc : Nat} {Ls : Array Slot} {z : Int64} (hret : meth.sig.returnType = some .long) (hd : decode c.code pc = .ok (.lreturn, 1))
    (hk : cells ≤ K) (hn : slots ≤ N) (hq : Q (some (.long z)) T.heap locs) : own_WP p e below (own_E s Q K N) T (mkF m pc Ls [.long z]) :=
  own_end X hlk (fun h => by rw [hret] at h; cases h) (fun fs hr => X.lreturnOut hx hret hd hr) hk hn hq
theorem own_retA (X : Stand p l e R s m args below meth c T locs cells slots) (hx : p.tables.exec = Jvm.exec) (hlk : meth.locks = false) {pc : Nat} {Ls : Array Slot} {w : Value} (hw : w.isRef = true) {t : FieldType} (ht : t.isReference = true) (hret : meth.sig.returnType = some t) (hd : decode c.code pc = .ok (.areturn, 1))
    (hk : cells ≤ K) (hn : slots ≤ N) (hq : Q (some w) T.heap locs) : own_WP p e below (own_E s Q K N) T (mkF m pc Ls [w]) :=
  own_end X hlk (fun h => by rw [hret] at h; cases h) (fun fs hr => X.areturnOut hx hw hret ht hd hr) hk hn hq
theorem own_retN (X : Stand p l e R s m args below meth c T locs cells slots) (hx : p.tables.exec = Jvm.exec) (hlk : meth.locks = false) {pc : Nat} {Ls : Array Slot} {z : Int32} {t : FieldType} (ht : t = .boolean ∨ t = .byte ∨ t = .char ∨ t = .short) (hret : meth.sig.returnType = some t) (hd : decode c.code pc = .ok (.ireturn, 1))
    (hk : cells ≤ K) (hn : slots ≤ N) (hq : Q (some (.int (nar t z))) T.heap locs) : own_WP p e below (own_E s Q K N) T (mkF m pc Ls [.int z]) :=
  own_end X hlk (fun h => by rw [hret] at h; cases h) (fun fs hr => retN X hx hret ht hd hr) hk hn hq
theorem own_len (X : Stand p l e R s m args below meth c T locs cells slots) (hx : p.tables.exec = Jvm.exec) (hZ : Z.Warmed39 s.vm) (eT : T.heap = h) {a : Addr} {k : ClassId} {ty : FieldType} {n : Int32} {vs : List Value} {d : Value} (V : Arv Z h a k ty n vs d)
    {pc : Nat} {Ls : Array Slot} {S : List Value} (hd : decode c.code pc = .ok (.arraylength, 1)) (kk : own_WP p e below E T (mkF m (pc + 1) Ls (.int n :: S))) : own_WP p e below E T (mkF m pc Ls (.ref a :: S)) := by
  obtain ⟨cl, A, q, S1, M, H, G⟩ := V
  refine own_go (fun t k => X.arraylength hx (by rw [eT]; exact A.1) (State.isArrayOf_alike hZ.alike A.2.1) (g := mkF m pc Ls (.ref a :: S)) rfl rfl hd t k) ?_
  rw [len_of S1 M]
  exact kk
theorem own_at {cl : Cell} {n j : Int32} {vs : List Value} {d w : Value} (S1 : cl.slots.size = n.toNatClampNeg) (H : Has cl vs d) (hj : ¬ j < 0 ∧ j < n) (hv : vs.getD j.toNatClampNeg d = w) : cl.slots[j.toNatClampNeg]? = some w :=
  H.at (inb_of S1 hj) hv
theorem own_ldI (X : Stand p l e R s m args below meth c T locs cells slots) (hx : p.tables.exec = Jvm.exec) (hZ : Z.Warmed39 s.vm) (eT : T.heap = h) {a : Addr} {k : ClassId} {n j w : Int32} {vs : List Value} {d : Value} (V : Arv Z h a k .int n vs d) (hj : ¬ j < 0 ∧ j < n) (hv : vs.getD j.toNatClampNeg d = .int w)
    {pc : Nat} {Ls : Array Slot} {S : List Value} (hd : decode c.code pc = .ok (.iaload, 1)) (kk : own_WP p e below E T (mkF m (pc + 1) Ls (.int w :: S))) : own_WP p e below E T (mkF m pc Ls (.int j :: .ref a :: S)) := by
  obtain ⟨cl, A, q, S1, M, H, G⟩ := V
  exact own_go (fun t k => X.iaload hx (j := j) (v := .int w) (by rw [eT]; exact A.1) (State.isArrayOf_alike hZ.alike A.2.1) A.2.2 (inb_of S1 hj) (own_at S1 H hj hv) (g := mkF m pc Ls (.int j :: .ref a :: S)) rfl rfl hd t k) kk
theorem own_ldJ (X : Stand p l e R s m args below meth c T locs cells slots) (hx : p.tables.exec = Jvm.exec) (hZ : Z.Warmed39 s.vm) (eT : T.heap = h) {a : Addr} {k : ClassId} {n j : Int32} {w : Int64} {vs : List Value} {d : Value} (V : Arv Z h a k .long n vs d) (hj : ¬ j < 0 ∧ j < n) (hv : vs.getD j.toNatClampNeg d = .long w)
    {pc : Nat} {Ls : Array Slot} {S : List Value} (hd : decode c.code pc = .ok (.laload, 1)) (kk : own_WP p e below E T (mkF m (pc + 1) Ls (.long w :: S))) : own_WP p e below E T (mkF m pc Ls (.int j :: .ref a :: S)) := by
  obtain ⟨cl, A, q, S1, M, H, G⟩ := V
  exact own_go (fun t k => X.laload hx (j := j) (v := .long w) (by rw [eT]; exact A.1) (State.isArrayOf_alike hZ.alike A.2.1) A.2.2 (inb_of S1 hj) (own_at S1 H hj hv) (g := mkF m pc Ls (.int j :: .ref a :: S)) rfl rfl hd t k) kk
theorem own_ldB (X : Stand p l e R s m args below meth c T locs cells slots) (hx : p.tables.exec = Jvm.exec) (hZ : Z.Warmed39 s.vm) (eT : T.heap = h) {a : Addr} {k : ClassId} {n j w : Int32} {vs : List Value} {d : Value} (V : Arv Z h a k .byte n vs d) (hj : ¬ j < 0 ∧ j < n) (hv : vs.getD j.toNatClampNeg d = .int w)
    {pc : Nat} {Ls : Array Slot} {S : List Value} (hd : decode c.code pc = .ok (.baload, 1)) (kk : own_WP p e below E T (mkF m (pc + 1) Ls (.int w :: S))) : own_WP p e below E T (mkF m pc Ls (.int j :: .ref a :: S)) := by
  obtain ⟨cl, A, q, S1, M, H, G⟩ := V
  exact own_go (fun t k => X.baloadBytes hx (j := j) (v := .int w) (by rw [eT]; exact A.1) (State.isArrayOf_alike hZ.alike A.2.1) A.2.2 (inb_of S1 hj) (own_at S1 H hj hv) (g := mkF m pc Ls (.int j :: .ref a :: S)) rfl rfl hd t k) kk
theorem own_ldR (X : Stand p l e R s m args below meth c T locs cells slots) (hx : p.tables.exec = Jvm.exec) (hZ : Z.Warmed39 s.vm) (eT : T.heap = h) {a : Addr} {k : ClassId} {ty : FieldType} (hty : ty.isReference = true) {n j : Int32} {w : Value} {vs : List Value} {d : Value} (V : Arv Z h a k ty n vs d) (hj : ¬ j < 0 ∧ j < n) (hv : vs.getD j.toNatClampNeg d = w)
    {pc : Nat} {Ls : Array Slot} {S : List Value} (hd : decode c.code pc = .ok (.aaload, 1)) (kk : own_WP p e below E T (mkF m (pc + 1) Ls (w :: S))) : own_WP p e below E T (mkF m pc Ls (.int j :: .ref a :: S)) := by
  obtain ⟨cl, A, q, S1, M, H, G⟩ := V
  exact own_go (fun t k => X.aaload hx (j := j) (v := w) (by rw [eT]; exact A.1) (State.isArrayOf_alike hZ.alike A.2.1) hty A.2.2 (inb_of S1 hj) (own_at S1 H hj hv) (g := mkF m pc Ls (.int j :: .ref a :: S)) rfl rfl hd t k) kk
theorem own_stI (X : Stand p l e R s m args below meth c T locs cells slots) (hx : p.tables.exec = Jvm.exec) (hZ : Z.Warmed39 s.vm) (eT : T.heap = h) {a : Addr} {k : ClassId} {n j x : Int32} {vs : List Value} {d : Value} (V : Arv Z h a k .int n vs d) (hj : ¬ j < 0 ∧ j < n) {i : Nat} (hji : j.toNatClampNeg = i) (hi : i < vs.length)
    {pc : Nat} {Ls : Array Slot} {S : List Value} (hd : decode c.code pc = .ok (.iastore, 1))
    (kk : ∀ T' h', Stand p l e R s m args below meth c T' (locs ++ [⟨a, j.toNatClampNeg⟩]) cells slots → T'.heap = h' → Wr h h' a j.toNatClampNeg (.int x) → Arv Z h' a k .int n (vs.set i (.int x)) d → own_WP p e below E T' (mkF m (pc + 1) Ls S)) : own_WP p e below E T (mkF m pc Ls (.int x :: .int j :: .ref a :: S)) := by
  obtain ⟨cl, A, q, S1, M, H, G⟩ := V
  obtain ⟨T', h', X', e', W', st⟩ := stI X hx hZ eT A (j := j) (inb_of S1 hj) (g := mkF m pc Ls (.int x :: .int j :: .ref a :: S)) rfl rfl hd
  exact own_go st (kk T' h' X' e' W' (Arv.set A q S1 M H G rfl W' i hji hi))
theorem own_stJ (X : Stand p l e R s m args below meth c T locs cells slots) (hx : p.tables.exec = Jvm.exec) (hZ : Z.Warmed39 s.vm) (eT : T.heap = h) {a : Addr} {k : ClassId} {n j : Int32} {x : Int64} {vs : List Value} {d : Value} (V : Arv Z h a k .long n vs d) (hj : ¬ j < 0 ∧ j < n) {i : Nat} (hji : j.toNatClampNeg = i) (hi : i < vs.length)
    {pc : Nat} {Ls : Array Slot} {S : List Value} (hd : decode c.code pc = .ok (.lastore, 1))
    (kk : ∀ T' h', Stand p l e R s m args below meth c T' (locs ++ [⟨a, j.toNatClampNeg⟩]) cells slots → T'.heap = h' → Wr h h' a j.toNatClampNeg (.long x) → Arv Z h' a k .long n (vs.set i (.long x)) d → own_WP p e below E T' (mkF m (pc + 1) Ls S)) : own_WP p e below E T (mkF m pc Ls (.long x :: .int j :: .ref a :: S)) := by
  obtain ⟨cl, A, q, S1, M, H, G⟩ := V
  obtain ⟨T', h', X', e', W', st⟩ := stJ X hx hZ eT A (j := j) (inb_of S1 hj) (g := mkF m pc Ls (.long x :: .int j :: .ref a :: S)) rfl rfl hd
  exact own_go st (kk T' h' X' e' W' (Arv.set A q S1 M H G rfl W' i hji hi))
theorem own_stB (X : Stand p l e R s m args below meth c T locs cells slots) (hx : p.tables.exec = Jvm.exec) (hZ : Z.Warmed39 s.vm) (eT : T.heap = h) {a : Addr} {k : ClassId} {n j x : Int32} {vs : List Value} {d : Value} (V : Arv Z h a k .byte n vs d) (hj : ¬ j < 0 ∧ j < n) {i : Nat} (hji : j.toNatClampNeg = i) (hi : i < vs.length)
    {pc : Nat} {Ls : Array Slot} {S : List Value} (hd : decode c.code pc = .ok (.bastore, 1))
    (kk : ∀ T' h', Stand p l e R s m args below meth c T' (locs ++ [⟨a, j.toNatClampNeg⟩]) cells slots → T'.heap = h' → Wr h h' a j.toNatClampNeg (.int (nar .byte x)) → Arv Z h' a k .byte n (vs.set i (.int (nar .byte x))) d → own_WP p e below E T' (mkF m (pc + 1) Ls S)) : own_WP p e below E T (mkF m pc Ls (.int x :: .int j :: .ref a :: S)) := by
  obtain ⟨cl, A, q, S1, M, H, G⟩ := V
  obtain ⟨T', h', X', e', W', st⟩ := stB X hx hZ eT A (j := j) (inb_of S1 hj) (g := mkF m pc Ls (.int x :: .int j :: .ref a :: S)) rfl rfl hd
  exact own_go st (kk T' h' X' e' W' (Arv.set A q S1 M H G (fits_nar_byte x) W' i hji hi))
theorem own_nm {x a : Addr} (h : x ≠ a) : x ∉ [a] := fun q => h (List.mem_singleton.mp q)
theorem own_nm0 {x : Addr} : x ∉ ([] : List Addr) := List.not_mem_nil
theorem own_nm2 {x a b : Addr} (h : x ≠ a) (h' : x ≠ b) : x ∉ [a, b] := fun q => by
  rcases List.mem_cons.mp q with r | r
  · exact h r
  · exact h' (List.mem_singleton.mp r)
theorem own_nm4 {x a b c d : Addr} (q1 : x ≠ a) (q2 : x ≠ b) (q3 : x ≠ c) (q4 : x ≠ d) : x ∉ [a, b, c, d] := fun q => by
  simp only [List.mem_cons, List.not_mem_nil, or_false] at q
  rcases q with r | r | r | r
  · exact q1 r
  · exact q2 r
  · exact q3 r
  · exact q4 r
theorem own_le {h0 h : Heap} {n0 : Nat} {ws : List Addr} (Z0 : n0 ≤ h0.size) (K : Keep h0 h ws) : n0 ≤ h.size := Nat.le_trans Z0 K.1
end OwnKit
def own_g (P : List Int32) (x : Int32) : Int32 := P.getD x.toNatClampNeg 0
def own_rt : Nat → List Int32 → Int32 → List Int32 × Int32
  | 0, P, x => (P, x)
  | n + 1, P, x => if own_g P x = x then (P, x) else own_rt n (P.set x.toNatClampNeg (own_g P (own_g P x))) (own_g (P.set x.toNatClampNeg (own_g P (own_g P x))) x)
def own_ok : Nat → List Int32 → Int32 → Bool
  | 0, _, _ => false
  | n + 1, P, x => if own_g P x = x then true else own_ok n (P.set x.toNatClampNeg (own_g P (own_g P x))) (own_g (P.set x.toNatClampNeg (own_g P (own_g P x))) x)
def own_cnt (L : List Int32) (v : Int32) : Int32 := (((if own_g L 0 = v then 1 else 0) + (if own_g L 1 = v then 1 else 0)) + (if own_g L 2 = v then 1 else 0)) + (if own_g L 3 = v then 1 else 0)
def own_fx (o r : Int32) (L : List Int32) (i : Int32) : List Int32 := if own_g L i = o then L.set i.toNatClampNeg r else L
def own_md (L : List Int32) (x y : Int32) : List Int32 :=
  if own_g L x = own_g L y then L else
    (fun r : Int32 => (fun o : Int32 => own_fx o r (own_fx o r (own_fx o r (own_fx o r L 0) 1) 2) 3) (if r = own_g L x then own_g L y else own_g L x)) (if own_cnt L (own_g L x) < own_cnt L (own_g L y) then own_g L y else own_g L x)
def own_jn (P S : List Int32) (x y : Int32) : List Int32 × List Int32 :=
  (fun a : List Int32 × Int32 => (fun b : List Int32 × Int32 => if a.2 = b.2 then (b.1, S) else
    (fun r : Int32 => (fun o : Int32 => (b.1.set o.toNatClampNeg r, S.set r.toNatClampNeg (own_g S r + own_g S o))) (if r = a.2 then b.2 else a.2)) (if own_g S a.2 < own_g S b.2 then b.2 else a.2)) (own_rt 4 a.1 y)) (own_rt 4 P x)
def own_l (P : List Int32) : List Int32 := [(own_rt 4 P 0).2, (own_rt 4 P 1).2, (own_rt 4 P 2).2, (own_rt 4 P 3).2]
def own_up3 (P : List Int32) (x : Int32) : Int32 := own_g P (own_g P (own_g P x))
def own_fr (P : List Int32) : Bool := decide (own_g P (own_up3 P 0) = own_up3 P 0) && decide (own_g P (own_up3 P 1) = own_up3 P 1) && decide (own_g P (own_up3 P 2) = own_up3 P 2) && decide (own_g P (own_up3 P 3) = own_up3 P 3)
def own_4 (n : Fin 4) : Int32 := Int32.ofNat n.1
def own_v1 (z : Int32) : Bool := decide (z = 0) || decide (z = 1) || decide (z = 2) || decide (z = 3)
def own_v (P : List Int32) : Bool := match P with
  | [a, b, c, d] => own_v1 a && own_v1 b && own_v1 c && own_v1 d
  | _ => false
def own_chk (P : List Int32) (x y : Int32) : Bool :=
  (fun L : List Int32 => (fun a : List Int32 × Int32 => (fun b : List Int32 × Int32 =>
    own_v a.1 && own_v b.1 && own_ok 4 P x && own_ok 4 a.1 y && decide (own_g P a.2 = a.2) && decide (own_g P b.2 = b.2) && own_v1 a.2 && own_v1 b.2 && own_v L && own_v (own_md L x y) &&
    (if a.2 = b.2 then own_fr b.1 && decide (own_l b.1 = own_md L x y) && [0, 1, 2, 3].all (fun z : Int32 => !decide (own_g b.1 z = z) || (decide (own_g P z = z) && decide (own_cnt (own_md L x y) z = own_cnt L z)))
     else (fun r : Int32 => (fun o : Int32 => (fun P' : List Int32 => own_v P' && own_fr P' && decide (own_l P' = own_md L x y) &&
        [0, 1, 2, 3].all (fun z : Int32 => !decide (own_g P' z = z) || (!decide (z = o) && decide (own_g P z = z) && decide (own_cnt (own_md L x y) z = if z = r then own_cnt L r + own_cnt L o else own_cnt L z))))
        (b.1.set o.toNatClampNeg r)) (if r = a.2 then b.2 else a.2)) (if own_cnt L a.2 < own_cnt L b.2 then b.2 else a.2)))
    (own_rt 4 a.1 y)) (own_rt 4 P x)) (own_l P)
theorem own_A : ∀ a b c d x y : Fin 4, (!own_fr [own_4 a, own_4 b, own_4 c, own_4 d] || own_chk [own_4 a, own_4 b, own_4 c, own_4 d] (own_4 x) (own_4 y)) = true := by decide +kernel
def own_chr (P : List Int32) (x : Int32) : Bool :=
  (fun a : List Int32 × Int32 => own_v a.1 && own_fr a.1 && decide (own_l a.1 = own_l P) && own_ok 4 P x && decide (a.2 = own_g (own_l P) x) && own_v1 a.2 && own_v (own_l P)) (own_rt 4 P x)
theorem own_B : ∀ a b c d x : Fin 4, (!own_fr [own_4 a, own_4 b, own_4 c, own_4 d] || own_chr [own_4 a, own_4 b, own_4 c, own_4 d] (own_4 x)) = true := by decide +kernel
abbrev own_in (x : Int32) : Prop := ¬ x < 0 ∧ x < 4
theorem own_v1i {z : Int32} (h : own_v1 z = true) : ∃ n : Fin 4, z = own_4 n := by
  simp only [own_v1, Bool.or_eq_true, decide_eq_true_eq] at h
  rcases h with ((h | h) | h) | h
  · exact ⟨0, h⟩
  · exact ⟨1, h⟩
  · exact ⟨2, h⟩
  · exact ⟨3, h⟩
theorem own_ini {x : Int32} (h : own_in x) : ∃ n : Fin 4, x = own_4 n := by
  have e0 : (0 : Int32).toInt = 0 := rfl
  have e4 : (4 : Int32).toInt = 4 := rfl
  obtain ⟨h0, h1⟩ := h
  rw [Int32.lt_iff_toInt_lt] at h0 h1
  refine ⟨⟨x.toInt.toNat, by omega⟩, ?_⟩
  apply Int32.toInt_inj.mp
  unfold own_4
  rw [Int32.toInt_ofNat_of_lt (by show x.toInt.toNat < 2 ^ 31; omega)]
  show x.toInt = (x.toInt.toNat : Int)
  omega
theorem own_4in (n : Fin 4) : own_in (own_4 n) := by revert n; decide
theorem own_v1in {z : Int32} (h : own_v1 z = true) : own_in z := by obtain ⟨n, rfl⟩ := own_v1i h; exact own_4in n
theorem own_vi {P : List Int32} (h : own_v P = true) : ∃ a b c d : Fin 4, P = [own_4 a, own_4 b, own_4 c, own_4 d] := by
  match P, h with
  | [a, b, c, d], h =>
    simp only [own_v, Bool.and_eq_true] at h
    obtain ⟨⟨⟨ha, hb⟩, hc⟩, hd⟩ := h
    obtain ⟨a, rfl⟩ := own_v1i ha
    obtain ⟨b, rfl⟩ := own_v1i hb
    obtain ⟨c, rfl⟩ := own_v1i hc
    obtain ⟨d, rfl⟩ := own_v1i hd
    exact ⟨a, b, c, d, rfl⟩
def own_al (P : List Int32) : Prop := P.length = 4 ∧ ∀ i : Nat, own_in (P.getD i 0)
theorem own_val {P : List Int32} (h : own_v P = true) : own_al P := by
  obtain ⟨a, b, c, d, rfl⟩ := own_vi h
  refine ⟨rfl, fun i => ?_⟩
  match i with
  | 0 => exact own_4in a
  | 1 => exact own_4in b
  | 2 => exact own_4in c
  | 3 => exact own_4in d
  | k + 4 => exact own_4in 0
theorem own_als {P : List Int32} (h : own_al P) (i : Nat) {z : Int32} (hz : own_in z) : own_al (P.set i z) := by
  refine ⟨by rw [List.length_set]; exact h.1, fun j => ?_⟩
  rw [List.getD_eq_getElem?_getD, List.getElem?_set]
  by_cases c : i = j
  · subst c
    by_cases c2 : i < P.length
    · simp only [c2, if_true]; exact hz
    · simp only [c2, if_true, if_false]; exact own_4in 0
  · rw [if_neg c, ← List.getD_eq_getElem?_getD]; exact h.2 j
theorem own_alg {P : List Int32} (h : own_al P) (x : Int32) : own_in (own_g P x) := h.2 _
theorem own_lt4 {x : Int32} (h : own_in x) : x.toNatClampNeg < 4 := by
  have e0 : (0 : Int32).toInt = 0 := rfl
  have e4 : (4 : Int32).toInt = 4 := rfl
  obtain ⟨h0, h1⟩ := h
  rw [Int32.lt_iff_toInt_lt] at h0 h1
  simp only [Int32.toNatClampNeg]; omega
theorem own_rts (n : Nat) (P : List Int32) (x : Int32) : own_rt (n + 1) P x = if own_g P x = x then (P, x) else own_rt n (P.set x.toNatClampNeg (own_g P (own_g P x))) (own_g (P.set x.toNatClampNeg (own_g P (own_g P x))) x) := rfl
theorem own_oks (n : Nat) (P : List Int32) (x : Int32) : own_ok (n + 1) P x = if own_g P x = x then true else own_ok n (P.set x.toNatClampNeg (own_g P (own_g P x))) (own_g (P.set x.toNatClampNeg (own_g P (own_g P x))) x) := rfl
theorem own_okp {n : Nat} {P : List Int32} {x : Int32} (h : own_ok n P x = true) : ∃ j, n = j + 1 := by
  cases n with
  | zero => cases h
  | succ j => exact ⟨j, rfl⟩
theorem own_rtin : ∀ (n : Nat) (P : List Int32) (x : Int32), own_al P → own_in x → own_al (own_rt n P x).1 ∧ own_in (own_rt n P x).2
  | 0, P, x, h, hx => ⟨h, hx⟩
  | n + 1, P, x, h, hx => by
    rw [own_rts]
    by_cases c : own_g P x = x
    · rw [if_pos c]; exact ⟨h, hx⟩
    · rw [if_neg c]
      exact own_rtin n _ _ (own_als h _ (own_alg h _)) (own_alg (own_als h _ (own_alg h _)) _)
theorem own_mg (L : List Int32) (x : Int32) : (List.map Value.int L).getD x.toNatClampNeg (.int (0 : Int32)) = .int (own_g L x) := by
  unfold own_g
  simp only [List.getD_eq_getElem?_getD, List.getElem?_map]
  cases L[x.toNatClampNeg]? <;> rfl
theorem own_jnE {P S : List Int32} {x y r1 r2 : Int32} (d1 : (own_rt 4 P x).2 = r1) (d2 : (own_rt 4 (own_rt 4 P x).1 y).2 = r2) (h : r1 = r2) : own_jn P S x y = ((own_rt 4 (own_rt 4 P x).1 y).1, S) := by
  subst d1 d2
  unfold own_jn
  exact if_pos h
theorem own_jnA {P S : List Int32} {x y r1 r2 : Int32} (d1 : (own_rt 4 P x).2 = r1) (d2 : (own_rt 4 (own_rt 4 P x).1 y).2 = r2) (h : ¬ r1 = r2) (c : ¬ own_g S r1 < own_g S r2) :
    own_jn P S x y = ((own_rt 4 (own_rt 4 P x).1 y).1.set r2.toNatClampNeg r1, S.set r1.toNatClampNeg (own_g S r1 + own_g S r2)) := by
  subst d1 d2
  unfold own_jn
  refine (if_neg h).trans ?_
  simp only [if_neg c, if_true]
theorem own_jnB {P S : List Int32} {x y r1 r2 : Int32} (d1 : (own_rt 4 P x).2 = r1) (d2 : (own_rt 4 (own_rt 4 P x).1 y).2 = r2) (h : ¬ r1 = r2) (c : own_g S r1 < own_g S r2) :
    own_jn P S x y = ((own_rt 4 (own_rt 4 P x).1 y).1.set r1.toNatClampNeg r2, S.set r2.toNatClampNeg (own_g S r2 + own_g S r1)) := by
  subst d1 d2
  unfold own_jn
  refine (if_neg h).trans ?_
  simp only [if_pos c, if_neg (Ne.symm h)]
theorem own_mdE {L : List Int32} {x y r1 r2 : Int32} (d1 : own_g L x = r1) (d2 : own_g L y = r2) (h : r1 = r2) : own_md L x y = L := by
  subst d1 d2
  unfold own_md
  exact if_pos h
def own_f4 (o r : Int32) (L : List Int32) : List Int32 := own_fx o r (own_fx o r (own_fx o r (own_fx o r L 0) 1) 2) 3
theorem own_mdA {L : List Int32} {x y r1 r2 : Int32} (d1 : own_g L x = r1) (d2 : own_g L y = r2) (h : ¬ r1 = r2) (c : ¬ own_cnt L r1 < own_cnt L r2) : own_md L x y = own_f4 r2 r1 L := by
  subst d1 d2
  unfold own_md
  refine (if_neg h).trans ?_
  simp only [if_neg c, if_true]
  rfl
theorem own_mdB {L : List Int32} {x y r1 r2 : Int32} (d1 : own_g L x = r1) (d2 : own_g L y = r2) (h : ¬ r1 = r2) (c : own_cnt L r1 < own_cnt L r2) : own_md L x y = own_f4 r1 r2 L := by
  subst d1 d2
  unfold own_md
  refine (if_neg h).trans ?_
  simp only [if_pos c, if_neg (Ne.symm h)]
  rfl
def own_IR (P L : List Int32) : Prop := own_v P = true ∧ own_fr P = true ∧ L = own_l P
theorem own_irs {P L : List Int32} (I : own_IR P L) {x : Int32} (hx : own_in x) : own_IR (own_rt 4 P x).1 L ∧ (own_rt 4 P x).2 = own_g L x ∧ own_ok 4 P x = true ∧ own_v L = true := by
  obtain ⟨h1, h2, rfl⟩ := I
  obtain ⟨a, b, c, d, rfl⟩ := own_vi h1
  obtain ⟨n, rfl⟩ := own_ini hx
  have q := own_B a b c d n
  rw [h2] at q
  simp only [Bool.not_true, Bool.false_or, own_chr, Bool.and_eq_true, decide_eq_true_eq] at q
  obtain ⟨⟨⟨⟨⟨⟨q1, q2⟩, q3⟩, q4⟩, q5⟩, q6⟩, q7⟩ := q
  exact ⟨⟨q1, q2, q3.symm⟩, q5, q4, q7⟩
def own_Iv (P S L : List Int32) : Prop := own_IR P L ∧ S.length = 4 ∧ ∀ z : Int32, z = 0 ∨ z = 1 ∨ z = 2 ∨ z = 3 → own_g P z = z → own_g S z = own_cnt L z
theorem own_v1m {z : Int32} (h : own_v1 z = true) : z = 0 ∨ z = 1 ∨ z = 2 ∨ z = 3 := by
  simp only [own_v1, Bool.or_eq_true, decide_eq_true_eq] at h
  rcases h with ((h | h) | h) | h
  · exact Or.inl h
  · exact Or.inr (Or.inl h)
  · exact Or.inr (Or.inr (Or.inl h))
  · exact Or.inr (Or.inr (Or.inr h))
theorem own_m4 {z : Int32} (h : z = 0 ∨ z = 1 ∨ z = 2 ∨ z = 3) : z ∈ [(0 : Int32), 1, 2, 3] := by
  rcases h with rfl | rfl | rfl | rfl <;> decide
theorem own_m4i {z : Int32} (h : z = 0 ∨ z = 1 ∨ z = 2 ∨ z = 3) : own_in z := by
  rcases h with rfl | rfl | rfl | rfl <;> decide
theorem own_gs {S : List Int32} (hS : S.length = 4) {r z v : Int32} (hr : own_in r) (hz : own_in z) : own_g (S.set r.toNatClampNeg v) z = if z = r then v else own_g S z := by
  unfold own_g
  rw [List.getD_eq_getElem?_getD, List.getElem?_set]
  by_cases c : z = r
  · subst c
    rw [if_pos rfl, if_pos (by rw [hS]; exact own_lt4 hz), if_pos rfl]; rfl
  · have n : ¬ r.toNatClampNeg = z.toNatClampNeg := fun q => c (by
      obtain ⟨a, rfl⟩ := own_ini hr
      obtain ⟨b, rfl⟩ := own_ini hz
      revert q a b; decide)
    rw [if_neg n, if_neg c, List.getD_eq_getElem?_getD]
theorem own_ivs {P S L : List Int32} (I : own_Iv P S L) {x y : Int32} (hx : own_in x) (hy : own_in y) : own_Iv (own_jn P S x y).1 (own_jn P S x y).2 (own_md L x y) ∧ own_al P ∧ own_al L ∧ own_ok 4 P x = true ∧ own_ok 4 (own_rt 4 P x).1 y = true ∧ S.length = 4 := by
  obtain ⟨⟨h1, h2, rfl⟩, hS, hA⟩ := I
  have hal := own_val h1
  obtain ⟨a, b, c, d, rfl⟩ := own_vi h1
  obtain ⟨nx, rfl⟩ := own_ini hx
  obtain ⟨ny, rfl⟩ := own_ini hy
  have q := own_A a b c d nx ny
  rw [h2] at q
  generalize [own_4 a, own_4 b, own_4 c, own_4 d] = P at *
  generalize own_4 nx = x at *
  generalize own_4 ny = y at *
  simp only [Bool.not_true, Bool.false_or, own_chk, Bool.and_eq_true] at q
  obtain ⟨⟨⟨⟨⟨⟨⟨⟨⟨⟨q1, q2⟩, q3⟩, q4⟩, q5⟩, q6⟩, q7⟩, q8⟩, q9⟩, q10⟩, q11⟩ := q
  have q5 := of_decide_eq_true q5
  have q6 := of_decide_eq_true q6
  refine ⟨?_, hal, own_val q9, q3, q4, hS⟩
  have s1 := hA _ (own_v1m q7) q5
  have s2 := hA _ (own_v1m q8) q6
  by_cases c1 : (own_rt 4 P x).2 = (own_rt 4 (own_rt 4 P x).1 y).2
  · rw [if_pos c1] at q11
    simp only [Bool.and_eq_true, decide_eq_true_eq] at q11
    obtain ⟨⟨t1, t2⟩, t3⟩ := q11
    rw [own_jnE rfl rfl c1]
    refine ⟨⟨q2, t1, t2.symm⟩, hS, fun z hz hg => ?_⟩
    have u := List.all_eq_true.mp t3 z (own_m4 hz)
    have hg' : own_g (own_rt 4 (own_rt 4 P x).1 y).1 z = z := hg
    simp only [hg', decide_true, Bool.not_true, Bool.false_or, Bool.and_eq_true, decide_eq_true_eq] at u
    rw [u.2]; exact hA z hz u.1
  · rw [if_neg c1] at q11
    by_cases c2 : own_cnt (own_l P) (own_rt 4 P x).2 < own_cnt (own_l P) (own_rt 4 (own_rt 4 P x).1 y).2
    · have c2' : own_g S (own_rt 4 P x).2 < own_g S (own_rt 4 (own_rt 4 P x).1 y).2 := by rw [s1, s2]; exact c2
      rw [own_jnB rfl rfl c1 c2']
      simp only [if_pos c2, if_neg (Ne.symm c1), Bool.and_eq_true, decide_eq_true_eq] at q11
      obtain ⟨⟨⟨t0, t1⟩, t2⟩, t3⟩ := q11
      refine ⟨⟨t0, t1, t2.symm⟩, by rw [List.length_set]; exact hS, fun z hz hg => ?_⟩
      have u := List.all_eq_true.mp t3 z (own_m4 hz)
      have hg' : own_g ((own_rt 4 (own_rt 4 P x).1 y).1.set (own_rt 4 P x).2.toNatClampNeg (own_rt 4 (own_rt 4 P x).1 y).2) z = z := hg
      simp only [hg', decide_true, Bool.not_true, Bool.false_or, Bool.and_eq_true, decide_eq_true_eq] at u
      rw [own_gs hS (own_v1in q8) (own_m4i hz), u.2]
      by_cases c3 : z = (own_rt 4 (own_rt 4 P x).1 y).2
      · rw [if_pos c3, if_pos c3, s1, s2]
      · rw [if_neg c3, if_neg c3]; exact hA z hz u.1.2
    · have c2' : ¬ own_g S (own_rt 4 P x).2 < own_g S (own_rt 4 (own_rt 4 P x).1 y).2 := by rw [s1, s2]; exact c2
      rw [own_jnA rfl rfl c1 c2']
      simp only [if_neg c2, if_true, Bool.and_eq_true, decide_eq_true_eq] at q11
      obtain ⟨⟨⟨t0, t1⟩, t2⟩, t3⟩ := q11
      refine ⟨⟨t0, t1, t2.symm⟩, by rw [List.length_set]; exact hS, fun z hz hg => ?_⟩
      have u := List.all_eq_true.mp t3 z (own_m4 hz)
      have hg' : own_g ((own_rt 4 (own_rt 4 P x).1 y).1.set (own_rt 4 (own_rt 4 P x).1 y).2.toNatClampNeg (own_rt 4 P x).2) z = z := hg
      simp only [hg', decide_true, Bool.not_true, Bool.false_or, Bool.and_eq_true, decide_eq_true_eq] at u
      rw [own_gs hS (own_v1in q7) (own_m4i hz), u.2]
      by_cases c3 : z = (own_rt 4 P x).2
      · rw [if_pos c3, if_pos c3, s1, s2]
      · rw [if_neg c3, if_neg c3]; exact hA z hz u.1.2
theorem own_I0 : own_Iv [0, 1, 2, 3] [1, 1, 1, 1] [0, 1, 2, 3] := by
  refine ⟨⟨by decide, by decide, by decide⟩, rfl, fun z hz _ => ?_⟩
  rcases hz with rfl | rfl | rfl | rfl <;> decide
theorem own_m3 (z : Int32) : own_in (z &&& 3) := by
  have e : (z &&& 3).toInt = z.toInt % 2 ^ 2 := Jvm.Kit.i32_mask z 3 (k := 2) (by decide) (by decide)
  have e0 : (0 : Int32).toInt = 0 := rfl
  have e4 : (4 : Int32).toInt = 4 := rfl
  unfold own_in
  rw [Int32.lt_iff_toInt_lt, Int32.lt_iff_toInt_lt]; omega

def own_max (a b : Int32) : Int32 := if a < b then b else a
theorem own_f4s {o r : Int32} {L L1 L2 L3 L4 : List Int32} (e0 : own_fx o r L 0 = L1) (e1 : own_fx o r L1 1 = L2) (e2 : own_fx o r L2 2 = L3) (e3 : own_fx o r L3 3 = L4) : own_f4 o r L = L4 := by
  subst e0; subst e1; subst e2; subst e3
  rfl
theorem d6_0 : decode jdk_29_method_65_code 0 = .ok (.iload_n 0, 1) := by decide +kernel
theorem d6_1 : decode jdk_29_method_65_code 1 = .ok (.iload_n 1, 1) := by decide +kernel
theorem d6_2 : decode jdk_29_method_65_code 2 = .ok (.if_icmp .lt 7, 3) := by decide +kernel
theorem d6_5 : decode jdk_29_method_65_code 5 = .ok (.iload_n 0, 1) := by decide +kernel
theorem d6_6 : decode jdk_29_method_65_code 6 = .ok (.goto 4, 3) := by decide +kernel
theorem d6_9 : decode jdk_29_method_65_code 9 = .ok (.iload_n 1, 1) := by decide +kernel
theorem d6_10 : decode jdk_29_method_65_code 10 = .ok (.ireturn, 1) := by decide +kernel
theorem ef_6 (m : MethodId) (za : Int32) (zb : Int32) : entryFrame m #[(.int za), (.int zb)] 2 = mkF m 0 #[.val (.int za), .val (.int zb)] [] := by first | (simp [entryFrame, mkF, argsToLocals, Value.category]; done) | rfl
def Q6 (Z : State) (za : Int32) (zb : Int32) (h0 : Heap) (n0 : Nat) (v : Option Value) (h : Heap) (L : List Loc) : Prop := v = some (.int (own_max za zb)) ∧ Fr n0 L ∧ h = h0
set_option maxRecDepth 65536 in
set_option maxHeartbeats 40000000 in
theorem rm6 (l : Launch) (Z : State) (a0 : Array Value) (hw : ∀ d ∈ tables_1, d.before a0 Z = true) (ws : List Jvm.Cond) (za : Int32) (zb : Int32) (h0 : Heap) (n0 : Nat) (Z0 : n0 ≤ h0.size)  :
    MetFree l (⟨"java/lang/Math", "max", "(II)I"⟩ : MethodName) (head1 (Jvm.Cond.code (⟨"java/lang/Math", "max", "(II)I"⟩ : MethodName) jdk_29_method_65_code 2 (some .int) :: ws) ({ frames := 0, cells := 0, slots := 0, locals := 0 } : Room)) (fun a U => a = #[(.int za), (.int zb)] ∧ Z.Warmed39 U.vm ∧ U.heap = h0) (fun _ _ _ _ _ => True) (fun _ U o U' => ∃ v L, o = .returned v ∧ Q6 Z za zb h0 n0 v U'.heap L ∧ FrameEnd U o U' L ({ frames := 0, cells := 0, slots := 0, locals := 0 } : Room).cells ({ frames := 0, cells := 0, slots := 0, locals := 0 } : Room).slots) := by
  refine MetFree.of_bodySF (Jvm.Free.JP.mathPlain rfl (by decide +kernel)) hisR ?_
  intro p e s m args below meth c s₁ Bd hml0 hP hK
  obtain ⟨rfl, hZ, hh⟩ := hP
  have hx := Bd.exec
  have hby := Bd.bytes
  have hml : c.maxLocals = 2 := hml0
  have hown : s.vm.findClass "java/lang/Math" = some m.cls := findClass_of_methodNamed Bd.named
  have hnm := (name_of_methodNamed Bd.named Bd.method).1
  have X0 : Stand p l e ({ frames := 0, cells := 0, slots := 0, locals := 0 } : Room) s m #[(.int za), (.int zb)] below meth c s₁ [] 0 0 := Stand.of_body Bd
  have e0 : s₁.heap = h0 := by rw [← hh, Bd.state]; rfl
  have N0 := Fr.nil n0
  have K0 := Keep.refl h0 ([] : List Addr)
  show own_WP p e below (own_E s (Q6 Z za zb h0 n0) 0 0) s₁ (entryFrame m #[(.int za), (.int zb)] 2)
  rw [ef_6 m za zb]
  show own_WP _ _ _ _ s₁ (mkF m 0 #[.val (.int za), .val (.int zb)] [])
  refine own_go (fun t k => XS.iloadN X0.here hx rfl (hb hby d6_0) rfl  k) ?_
  show own_WP _ _ _ _ s₁ (mkF m 1 #[.val (.int za), .val (.int zb)] [(.int za)])
  refine own_go (fun t k => XS.iloadN X0.here hx rfl (hb hby d6_1) rfl  k) ?_
  show own_WP _ _ _ _ s₁ (mkF m 2 #[.val (.int za), .val (.int zb)] [(.int zb), (.int za)])
  by_cases hc2 : za < zb
  · refine own_go (fun t k => XS.icmpYes X0.here hx rfl (pc0 := 2) (pc' := 9) rfl (hb hby d6_2) rfl (tlt hc2).1 (by decide) (by decide) k) ?_
    show own_WP _ _ _ _ s₁ (mkF m 9 #[.val (.int za), .val (.int zb)] [])
    refine own_go (fun t k => XS.iloadN X0.here hx rfl (hb hby d6_9) rfl  k) ?_
    show own_WP _ _ _ _ s₁ (mkF m 10 #[.val (.int za), .val (.int zb)] [(.int zb)])
    refine own_retI X0 hx Bd.notSynchronized Bd.returns (hb hby d6_10) (by decide) (by decide) ?_
    rw [e0]
    exact ⟨(congrArg (fun z => some (Value.int z)) (show zb = (own_max za zb) from by first | (simp [nar, own_max, hc2]; done) | (simp only [if_true, if_false, eq_self, ↓reduceIte, own_max, hc2]; first | done | rfl | decide) | (unfold own_max; rw [if_pos hc2]; first | done | rfl))), N0, rfl⟩
  · refine own_go (fun t k => XS.icmpNo X0.here hx rfl (hb hby d6_2) rfl (flt hc2).1 k) ?_
    show own_WP _ _ _ _ s₁ (mkF m 5 #[.val (.int za), .val (.int zb)] [])
    refine own_go (fun t k => XS.iloadN X0.here hx rfl (hb hby d6_5) rfl  k) ?_
    show own_WP _ _ _ _ s₁ (mkF m 6 #[.val (.int za), .val (.int zb)] [(.int za)])
    refine own_go (fun t k => XS.goto X0.here hx rfl (pc0 := 6) (pc' := 10) rfl (hb hby d6_6) (by decide) (by decide) k) ?_
    show own_WP _ _ _ _ s₁ (mkF m 10 #[.val (.int za), .val (.int zb)] [(.int za)])
    refine own_retI X0 hx Bd.notSynchronized Bd.returns (hb hby d6_10) (by decide) (by decide) ?_
    rw [e0]
    exact ⟨(congrArg (fun z => some (Value.int z)) (show za = (own_max za zb) from by first | (simp [nar, own_max, hc2]; done) | (simp only [if_true, if_false, eq_self, ↓reduceIte, own_max, hc2]; first | done | rfl | decide) | (unfold own_max; rw [if_neg hc2]; first | done | rfl))), N0, rfl⟩
theorem d1_0 : decode prog_71_method_1_code 0 = .ok (.aload_n 0, 1) := by decide +kernel
theorem d1_1 : decode prog_71_method_1_code 1 = .ok (.invokespecial 1, 3) := by decide +kernel
theorem d1_4 : decode prog_71_method_1_code 4 = .ok (.aload_n 0, 1) := by decide +kernel
theorem d1_5 : decode prog_71_method_1_code 5 = .ok (.iload_n 1, 1) := by decide +kernel
theorem d1_6 : decode prog_71_method_1_code 6 = .ok (.newarray .int, 2) := by decide +kernel
theorem d1_8 : decode prog_71_method_1_code 8 = .ok (.putfield 7, 3) := by decide +kernel
theorem d1_11 : decode prog_71_method_1_code 11 = .ok (.aload_n 0, 1) := by decide +kernel
theorem d1_12 : decode prog_71_method_1_code 12 = .ok (.iload_n 1, 1) := by decide +kernel
theorem d1_13 : decode prog_71_method_1_code 13 = .ok (.newarray .int, 2) := by decide +kernel
theorem d1_15 : decode prog_71_method_1_code 15 = .ok (.putfield 13, 3) := by decide +kernel
theorem d1_18 : decode prog_71_method_1_code 18 = .ok (.aload_n 0, 1) := by decide +kernel
theorem d1_19 : decode prog_71_method_1_code 19 = .ok (.iload_n 1, 1) := by decide +kernel
theorem d1_20 : decode prog_71_method_1_code 20 = .ok (.newarray .int, 2) := by decide +kernel
theorem d1_22 : decode prog_71_method_1_code 22 = .ok (.putfield 16, 3) := by decide +kernel
theorem d1_25 : decode prog_71_method_1_code 25 = .ok (.iconst 0, 1) := by decide +kernel
theorem d1_26 : decode prog_71_method_1_code 26 = .ok (.istore_n 2, 1) := by decide +kernel
theorem d1_27 : decode prog_71_method_1_code 27 = .ok (.iload_n 2, 1) := by decide +kernel
theorem d1_28 : decode prog_71_method_1_code 28 = .ok (.iload_n 1, 1) := by decide +kernel
theorem d1_29 : decode prog_71_method_1_code 29 = .ok (.if_icmp .ge 23, 3) := by decide +kernel
theorem d1_32 : decode prog_71_method_1_code 32 = .ok (.aload_n 0, 1) := by decide +kernel
theorem d1_33 : decode prog_71_method_1_code 33 = .ok (.getfield 7, 3) := by decide +kernel
theorem d1_36 : decode prog_71_method_1_code 36 = .ok (.iload_n 2, 1) := by decide +kernel
theorem d1_37 : decode prog_71_method_1_code 37 = .ok (.iload_n 2, 1) := by decide +kernel
theorem d1_38 : decode prog_71_method_1_code 38 = .ok (.iastore, 1) := by decide +kernel
theorem d1_39 : decode prog_71_method_1_code 39 = .ok (.aload_n 0, 1) := by decide +kernel
theorem d1_40 : decode prog_71_method_1_code 40 = .ok (.getfield 13, 3) := by decide +kernel
theorem d1_43 : decode prog_71_method_1_code 43 = .ok (.iload_n 2, 1) := by decide +kernel
theorem d1_44 : decode prog_71_method_1_code 44 = .ok (.iconst 1, 1) := by decide +kernel
theorem d1_45 : decode prog_71_method_1_code 45 = .ok (.iastore, 1) := by decide +kernel
theorem d1_46 : decode prog_71_method_1_code 46 = .ok (.iinc 2 1, 3) := by decide +kernel
theorem d1_49 : decode prog_71_method_1_code 49 = .ok (.goto (-22), 3) := by decide +kernel
theorem d1_52 : decode prog_71_method_1_code 52 = .ok (.aload_n 0, 1) := by decide +kernel
theorem d1_53 : decode prog_71_method_1_code 53 = .ok (.iload_n 1, 1) := by decide +kernel
theorem d1_54 : decode prog_71_method_1_code 54 = .ok (.putfield 19, 3) := by decide +kernel
theorem d1_57 : decode prog_71_method_1_code 57 = .ok (.return_, 1) := by decide +kernel
theorem own_pn85677 : plainName "com/example/ringspan/ringspan/symmetry/Orbits" = true := by first | (simp [plainName, overriddenIn]; done) | decide +kernel
theorem ef_1 (m : MethodId) (zo : Addr) (zn : Int32) : entryFrame m #[(.ref zo), (.int zn)] 3 = mkF m 0 #[.val (.ref zo), .val (.int zn), .unset] [] := by first | (simp [entryFrame, mkF, argsToLocals, Value.category]; done) | rfl
def Q1 (Z : State) (zo : Addr) (zn : Int32) (u0 : Value) (u1 : Value) (u2 : Value) (u3 : Value) (h0 : Heap) (n0 : Nat) (v : Option Value) (h : Heap) (L : List Loc) : Prop := ∃ (rp : Addr), ∃ (rs : Addr), ∃ (rm : Addr), ∃ (kp : ClassId), ∃ (ks : ClassId), ∃ (km : ClassId), v = none ∧ Fr n0 L ∧ Keep h0 h [zo] ∧ n0 ≤ rp ∧ h0.size ≤ rp ∧ n0 ≤ rs ∧ h0.size ≤ rs ∧ n0 ≤ rm ∧ h0.size ≤ rm ∧ Exa Z h zo "com/example/ringspan/ringspan/symmetry/Orbits" ∧ Fld Z h zo "com/example/ringspan/ringspan/symmetry/Orbits" "parents" "[I" (.ref rp) ∧ Fld Z h zo "com/example/ringspan/ringspan/symmetry/Orbits" "sizes" "[I" (.ref rs) ∧ Fld Z h zo "com/example/ringspan/ringspan/symmetry/Orbits" "marks" "[I" (.ref rm) ∧ Fld Z h zo "com/example/ringspan/ringspan/symmetry/Orbits" "count" "I" (.int 4) ∧ Arv Z h rp kp .int (4 : Int32) (List.map Value.int [0, 1, 2, 3]) (.int (0 : Int32)) ∧ Arv Z h rs ks .int (4 : Int32) (List.map Value.int [1, 1, 1, 1]) (.int (0 : Int32)) ∧ Arv Z h rm km .int (4 : Int32) (List.map Value.int [0, 0, 0, 0]) (.int (0 : Int32)) ∧ (rp ≠ rs) ∧ (rp ≠ rm) ∧ (rs ≠ rm)
set_option maxRecDepth 65536 in
set_option maxHeartbeats 40000000 in
theorem rm1 (l : Launch) (Z : State) (a0 : Array Value) (hw : ∀ d ∈ tables_1, d.before a0 Z = true) (ws : List Jvm.Cond) (zo : Addr) (zn : Int32) (u0 : Value) (u1 : Value) (u2 : Value) (u3 : Value) (h0 : Heap) (n0 : Nat) (Z0 : n0 ≤ h0.size) (P0 : Exa Z h0 zo "com/example/ringspan/ringspan/symmetry/Orbits") (P1 : Fld Z h0 zo "com/example/ringspan/ringspan/symmetry/Orbits" "parents" "[I" u0) (P2 : Fld Z h0 zo "com/example/ringspan/ringspan/symmetry/Orbits" "sizes" "[I" u1) (P3 : Fld Z h0 zo "com/example/ringspan/ringspan/symmetry/Orbits" "marks" "[I" u2) (P4 : Fld Z h0 zo "com/example/ringspan/ringspan/symmetry/Orbits" "count" "I" u3) (g_zo : n0 ≤ zo) (hn4 : zn = 4) :
    MetFree l (⟨"com/example/ringspan/ringspan/symmetry/Orbits", "<init>", "(I)V"⟩ : MethodName) (head1 (Jvm.Cond.code (⟨"com/example/ringspan/ringspan/symmetry/Orbits", "<init>", "(I)V"⟩ : MethodName) prog_71_method_1_code 3 none :: ws) ({ frames := 1, cells := 3, slots := 12, locals := 12 } : Room)) (fun a U => a = #[(.ref zo), (.int zn)] ∧ Z.Warmed39 U.vm ∧ U.heap = h0) (fun _ _ _ _ _ => True) (fun _ U o U' => ∃ v L, o = .returned v ∧ Q1 Z zo zn u0 u1 u2 u3 h0 n0 v U'.heap L ∧ FrameEnd U o U' L ({ frames := 1, cells := 3, slots := 12, locals := 12 } : Room).cells ({ frames := 1, cells := 3, slots := 12, locals := 12 } : Room).slots) := by
  refine MetFree.of_bodySF (plainFor_of_name own_pn85677) hisR ?_
  intro p e s m args below meth c s₁ Bd hml0 hP hK
  obtain ⟨rfl, hZ, hh⟩ := hP
  have hx := Bd.exec
  have hby := Bd.bytes
  have hml : c.maxLocals = 3 := hml0
  have hown : s.vm.findClass "com/example/ringspan/ringspan/symmetry/Orbits" = some m.cls := findClass_of_methodNamed Bd.named
  have hnm := (name_of_methodNamed Bd.named Bd.method).1
  have X0 : Stand p l e ({ frames := 1, cells := 3, slots := 12, locals := 12 } : Room) s m #[(.ref zo), (.int zn)] below meth c s₁ [] 0 0 := Stand.of_body Bd
  have e0 : s₁.heap = h0 := by rw [← hh, Bd.state]; rfl
  have N0 := Fr.nil n0
  have K0 := Keep.refl h0 [zo]
  show own_WP p e below (own_E s (Q1 Z zo zn u0 u1 u2 u3 h0 n0) 3 12) s₁ (entryFrame m #[(.ref zo), (.int zn)] 3)
  rw [ef_1 m zo zn]
  subst hn4
  show own_WP _ _ _ _ s₁ (mkF m 0 #[.val (.ref zo), .val (.int (4 : Int32)), .unset] [])
  refine own_go (fun t k => XS.aloadN X0.here hx rfl (hb hby d1_0) rfl rfl  k) ?_
  show own_WP _ _ _ _ s₁ (mkF m 1 #[.val (.ref zo), .val (.int (4 : Int32)), .unset] [(.ref zo)])
  obtain ⟨T1, X1, e1, st1⟩ := initO X0 hx hZ hown (hw _ (List.mem_of_getElem? (i := 6) rfl)) (hw _ (List.mem_of_getElem? (i := 7) rfl)) (hw _ (List.mem_of_getElem? (i := 8) rfl)) e0 (g := (mkF m 1 #[.val (.ref zo), .val (.int (4 : Int32)), .unset] [(.ref zo)])) rfl (by rw [hml]; rfl) rfl (hb hby d1_1) (by decide) (W := 0) (by show 2 * 0 + _ ≤ _; exact Nat.le_of_eq rfl) (by decide)
  refine own_go st1 ?_
  show own_WP _ _ _ _ T1 (mkF m 4 #[.val (.ref zo), .val (.int (4 : Int32)), .unset] [])
  refine own_go (fun t k => XS.aloadN X1.here hx rfl (hb hby d1_4) rfl rfl  k) ?_
  show own_WP _ _ _ _ T1 (mkF m 5 #[.val (.ref zo), .val (.int (4 : Int32)), .unset] [(.ref zo)])
  refine own_go (fun t k => XS.iloadN X1.here hx rfl (hb hby d1_5) rfl  k) ?_
  show own_WP _ _ _ _ T1 (mkF m 6 #[.val (.ref zo), .val (.int (4 : Int32)), .unset] [(.int (4 : Int32)), (.ref zo)])
  obtain ⟨T2, h2, k2, X2, e2, E2, A2, G2, st2⟩ := newPE X1 hx hZ (hw _ (List.mem_of_getElem? (i := 9) rfl)) e1 (g := (mkF m 6 #[.val (.ref zo), .val (.int (4 : Int32)), .unset] [(.int (4 : Int32)), (.ref zo)])) rfl (hb hby d1_6) rfl (by decide) (cap := 4) (by decide) (by decide) (by decide) (by decide) (ad := "[I") rfl
  obtain ⟨zp, q2⟩ : ∃ z, z = h0.size := ⟨_, rfl⟩
  rw [← q2] at A2 G2 st2
  refine own_go st2 ?_
  have g_zp : n0 ≤ zp := Nat.le_trans (own_le Z0 K0) (Nat.le_of_eq q2.symm)
  have sz_zp : h0.size ≤ zp := Nat.le_trans K0.1 (Nat.le_of_eq q2.symm)
  have ne_zo_zp : zo ≠ zp := Nat.ne_of_lt (Nat.lt_of_lt_of_le P0.lt (Nat.le_of_eq q2.symm))
  have f3 : Exa Z h2 zo "com/example/ringspan/ringspan/symmetry/Orbits" := P0.ext E2
  have f4 : Fld Z h2 zo "com/example/ringspan/ringspan/symmetry/Orbits" "parents" "[I" u0 := P1.ext E2
  have f5 : Fld Z h2 zo "com/example/ringspan/ringspan/symmetry/Orbits" "sizes" "[I" u1 := P2.ext E2
  have f6 : Fld Z h2 zo "com/example/ringspan/ringspan/symmetry/Orbits" "marks" "[I" u2 := P3.ext E2
  have f7 : Fld Z h2 zo "com/example/ringspan/ringspan/symmetry/Orbits" "count" "I" u3 := P4.ext E2
  have K8 : Keep h0 h2 [zo] := K0.ext E2
  have f9 : Arv Z h2 zp k2 .int (4 : Int32) [(.int (0 : Int32)), (.int (0 : Int32)), (.int (0 : Int32)), (.int (0 : Int32))] (.int (0 : Int32)) := (Arv.new A2 (by decide)).pad (pad_rep [] (.int (0 : Int32)) 4)
  show own_WP _ _ _ _ T2 (mkF m 8 #[.val (.ref zo), .val (.int (4 : Int32)), .unset] [(.ref zp), (.ref zo)])
  obtain ⟨T10, h10, X10, e10, W10, st10⟩ := putF X2 hx hZ hown (host := "") (Or.inl (hw _ (List.mem_of_getElem? (i := 10) rfl))) Via.refl e2 f4 f3 (Or.inr ⟨(hw _ (List.mem_of_getElem? (i := 11) rfl)), rfl, hnm⟩) (hw _ (List.mem_of_getElem? (i := 1) rfl)) (ty := (.array .int)) (by decide) rfl rfl (g := (mkF m 8 #[.val (.ref zo), .val (.int (4 : Int32)), .unset] [(.ref zp), (.ref zo)])) rfl rfl (hb hby d1_8)
  refine own_go st10 ?_
  have f11 : Fld Z h10 zo "com/example/ringspan/ringspan/symmetry/Orbits" "parents" "[I" (.ref zp) := f4.same W10
  have f12 : Exa Z h10 zo "com/example/ringspan/ringspan/symmetry/Orbits" := f3.wr W10
  have f14 : Fld Z h10 zo "com/example/ringspan/ringspan/symmetry/Orbits" "sizes" "[I" u1 := f5.other W10 (Or.inr (slot_ne (Or.inr (hw _ (List.mem_of_getElem? (i := 13) rfl))) (Or.inr (hw _ (List.mem_of_getElem? (i := 11) rfl))) (by decide) (t := (.array .int)) (t' := (.array .int)) (by decide) (by decide)))
  have f15 : Fld Z h10 zo "com/example/ringspan/ringspan/symmetry/Orbits" "marks" "[I" u2 := f6.other W10 (Or.inr (slot_ne (Or.inr (hw _ (List.mem_of_getElem? (i := 15) rfl))) (Or.inr (hw _ (List.mem_of_getElem? (i := 11) rfl))) (by decide) (t := (.array .int)) (t' := (.array .int)) (by decide) (by decide)))
  have f16 : Fld Z h10 zo "com/example/ringspan/ringspan/symmetry/Orbits" "count" "I" u3 := f7.other W10 (Or.inr (slot_ne (Or.inl (hw _ (List.mem_of_getElem? (i := 17) rfl))) (Or.inr (hw _ (List.mem_of_getElem? (i := 11) rfl))) (by decide) (t := .int) (t' := (.array .int)) (by decide) (by decide)))
  have f17 : Arv Z h10 zp k2 .int (4 : Int32) [(.int (0 : Int32)), (.int (0 : Int32)), (.int (0 : Int32)), (.int (0 : Int32))] (.int (0 : Int32)) := f9.other W10 (Ne.symm ne_zo_zp)
  have K18 : Keep h0 h10 [zo] := K8.wr W10 (Or.inl (List.mem_of_getElem? (i := 0) rfl))
  have N19 := Fr.snoc X10 N0 g_zo
  show own_WP _ _ _ _ T10 (mkF m 11 #[.val (.ref zo), .val (.int (4 : Int32)), .unset] [])
  refine own_go (fun t k => XS.aloadN X10.here hx rfl (hb hby d1_11) rfl rfl  k) ?_
  show own_WP _ _ _ _ T10 (mkF m 12 #[.val (.ref zo), .val (.int (4 : Int32)), .unset] [(.ref zo)])
  refine own_go (fun t k => XS.iloadN X10.here hx rfl (hb hby d1_12) rfl  k) ?_
  show own_WP _ _ _ _ T10 (mkF m 13 #[.val (.ref zo), .val (.int (4 : Int32)), .unset] [(.int (4 : Int32)), (.ref zo)])
  obtain ⟨T20, h20, k20, X20, e20, E20, A20, G20, st20⟩ := newPE X10 hx hZ (hw _ (List.mem_of_getElem? (i := 9) rfl)) e10 (g := (mkF m 13 #[.val (.ref zo), .val (.int (4 : Int32)), .unset] [(.int (4 : Int32)), (.ref zo)])) rfl (hb hby d1_13) rfl (by decide) (cap := 4) (by decide) (by decide) (by decide) (by decide) (ad := "[I") rfl
  obtain ⟨zs, q20⟩ : ∃ z, z = h10.size := ⟨_, rfl⟩
  rw [← q20] at A20 G20 st20
  refine own_go st20 ?_
  have g_zs : n0 ≤ zs := Nat.le_trans (own_le Z0 K18) (Nat.le_of_eq q20.symm)
  have sz_zs : h0.size ≤ zs := Nat.le_trans K18.1 (Nat.le_of_eq q20.symm)
  have ne_zo_zs : zo ≠ zs := Nat.ne_of_lt (Nat.lt_of_lt_of_le f12.lt (Nat.le_of_eq q20.symm))
  have ne_zp_zs : zp ≠ zs := Nat.ne_of_lt (Nat.lt_of_lt_of_le f17.lt (Nat.le_of_eq q20.symm))
  have f21 : Exa Z h20 zo "com/example/ringspan/ringspan/symmetry/Orbits" := f12.ext E20
  have f22 : Fld Z h20 zo "com/example/ringspan/ringspan/symmetry/Orbits" "sizes" "[I" u1 := f14.ext E20
  have f23 : Fld Z h20 zo "com/example/ringspan/ringspan/symmetry/Orbits" "marks" "[I" u2 := f15.ext E20
  have f24 : Fld Z h20 zo "com/example/ringspan/ringspan/symmetry/Orbits" "count" "I" u3 := f16.ext E20
  have f25 : Arv Z h20 zp k2 .int (4 : Int32) [(.int (0 : Int32)), (.int (0 : Int32)), (.int (0 : Int32)), (.int (0 : Int32))] (.int (0 : Int32)) := f17.ext E20
  have f26 : Fld Z h20 zo "com/example/ringspan/ringspan/symmetry/Orbits" "parents" "[I" (.ref zp) := f11.ext E20
  have K27 : Keep h0 h20 [zo] := K18.ext E20
  have f28 : Arv Z h20 zs k20 .int (4 : Int32) [(.int (0 : Int32)), (.int (0 : Int32)), (.int (0 : Int32)), (.int (0 : Int32))] (.int (0 : Int32)) := (Arv.new A20 (by decide)).pad (pad_rep [] (.int (0 : Int32)) 4)
  show own_WP _ _ _ _ T20 (mkF m 15 #[.val (.ref zo), .val (.int (4 : Int32)), .unset] [(.ref zs), (.ref zo)])
  obtain ⟨T29, h29, X29, e29, W29, st29⟩ := putF X20 hx hZ hown (host := "") (Or.inl (hw _ (List.mem_of_getElem? (i := 12) rfl))) Via.refl e20 f22 f21 (Or.inr ⟨(hw _ (List.mem_of_getElem? (i := 13) rfl)), rfl, hnm⟩) (hw _ (List.mem_of_getElem? (i := 1) rfl)) (ty := (.array .int)) (by decide) rfl rfl (g := (mkF m 15 #[.val (.ref zo), .val (.int (4 : Int32)), .unset] [(.ref zs), (.ref zo)])) rfl rfl (hb hby d1_15)
  refine own_go st29 ?_
  have f30 : Fld Z h29 zo "com/example/ringspan/ringspan/symmetry/Orbits" "sizes" "[I" (.ref zs) := f22.same W29
  have f31 : Exa Z h29 zo "com/example/ringspan/ringspan/symmetry/Orbits" := f21.wr W29
  have f33 : Fld Z h29 zo "com/example/ringspan/ringspan/symmetry/Orbits" "marks" "[I" u2 := f23.other W29 (Or.inr (slot_ne (Or.inr (hw _ (List.mem_of_getElem? (i := 15) rfl))) (Or.inr (hw _ (List.mem_of_getElem? (i := 13) rfl))) (by decide) (t := (.array .int)) (t' := (.array .int)) (by decide) (by decide)))
  have f34 : Fld Z h29 zo "com/example/ringspan/ringspan/symmetry/Orbits" "count" "I" u3 := f24.other W29 (Or.inr (slot_ne (Or.inl (hw _ (List.mem_of_getElem? (i := 17) rfl))) (Or.inr (hw _ (List.mem_of_getElem? (i := 13) rfl))) (by decide) (t := .int) (t' := (.array .int)) (by decide) (by decide)))
  have f35 : Arv Z h29 zp k2 .int (4 : Int32) [(.int (0 : Int32)), (.int (0 : Int32)), (.int (0 : Int32)), (.int (0 : Int32))] (.int (0 : Int32)) := f25.other W29 (Ne.symm ne_zo_zp)
  have f36 : Fld Z h29 zo "com/example/ringspan/ringspan/symmetry/Orbits" "parents" "[I" (.ref zp) := f26.other W29 (Or.inr (slot_ne (Or.inr (hw _ (List.mem_of_getElem? (i := 11) rfl))) (Or.inr (hw _ (List.mem_of_getElem? (i := 13) rfl))) (by decide) (t := (.array .int)) (t' := (.array .int)) (by decide) (by decide)))
  have f37 : Arv Z h29 zs k20 .int (4 : Int32) [(.int (0 : Int32)), (.int (0 : Int32)), (.int (0 : Int32)), (.int (0 : Int32))] (.int (0 : Int32)) := f28.other W29 (Ne.symm ne_zo_zs)
  have K38 : Keep h0 h29 [zo] := K27.wr W29 (Or.inl (List.mem_of_getElem? (i := 0) rfl))
  have N39 := Fr.snoc X29 N19 g_zo
  show own_WP _ _ _ _ T29 (mkF m 18 #[.val (.ref zo), .val (.int (4 : Int32)), .unset] [])
  refine own_go (fun t k => XS.aloadN X29.here hx rfl (hb hby d1_18) rfl rfl  k) ?_
  show own_WP _ _ _ _ T29 (mkF m 19 #[.val (.ref zo), .val (.int (4 : Int32)), .unset] [(.ref zo)])
  refine own_go (fun t k => XS.iloadN X29.here hx rfl (hb hby d1_19) rfl  k) ?_
  show own_WP _ _ _ _ T29 (mkF m 20 #[.val (.ref zo), .val (.int (4 : Int32)), .unset] [(.int (4 : Int32)), (.ref zo)])
  obtain ⟨T40, h40, k40, X40, e40, E40, A40, G40, st40⟩ := newPE X29 hx hZ (hw _ (List.mem_of_getElem? (i := 9) rfl)) e29 (g := (mkF m 20 #[.val (.ref zo), .val (.int (4 : Int32)), .unset] [(.int (4 : Int32)), (.ref zo)])) rfl (hb hby d1_20) rfl (by decide) (cap := 4) (by decide) (by decide) (by decide) (by decide) (ad := "[I") rfl
  obtain ⟨zm, q40⟩ : ∃ z, z = h29.size := ⟨_, rfl⟩
  rw [← q40] at A40 G40 st40
  refine own_go st40 ?_
  have g_zm : n0 ≤ zm := Nat.le_trans (own_le Z0 K38) (Nat.le_of_eq q40.symm)
  have sz_zm : h0.size ≤ zm := Nat.le_trans K38.1 (Nat.le_of_eq q40.symm)
  have ne_zo_zm : zo ≠ zm := Nat.ne_of_lt (Nat.lt_of_lt_of_le f31.lt (Nat.le_of_eq q40.symm))
  have ne_zp_zm : zp ≠ zm := Nat.ne_of_lt (Nat.lt_of_lt_of_le f35.lt (Nat.le_of_eq q40.symm))
  have ne_zs_zm : zs ≠ zm := Nat.ne_of_lt (Nat.lt_of_lt_of_le f37.lt (Nat.le_of_eq q40.symm))
  have f41 : Exa Z h40 zo "com/example/ringspan/ringspan/symmetry/Orbits" := f31.ext E40
  have f42 : Fld Z h40 zo "com/example/ringspan/ringspan/symmetry/Orbits" "marks" "[I" u2 := f33.ext E40
  have f43 : Fld Z h40 zo "com/example/ringspan/ringspan/symmetry/Orbits" "count" "I" u3 := f34.ext E40
  have f44 : Arv Z h40 zp k2 .int (4 : Int32) [(.int (0 : Int32)), (.int (0 : Int32)), (.int (0 : Int32)), (.int (0 : Int32))] (.int (0 : Int32)) := f35.ext E40
  have f45 : Fld Z h40 zo "com/example/ringspan/ringspan/symmetry/Orbits" "parents" "[I" (.ref zp) := f36.ext E40
  have f46 : Arv Z h40 zs k20 .int (4 : Int32) [(.int (0 : Int32)), (.int (0 : Int32)), (.int (0 : Int32)), (.int (0 : Int32))] (.int (0 : Int32)) := f37.ext E40
  have f47 : Fld Z h40 zo "com/example/ringspan/ringspan/symmetry/Orbits" "sizes" "[I" (.ref zs) := f30.ext E40
  have K48 : Keep h0 h40 [zo] := K38.ext E40
  have f49 : Arv Z h40 zm k40 .int (4 : Int32) [(.int (0 : Int32)), (.int (0 : Int32)), (.int (0 : Int32)), (.int (0 : Int32))] (.int (0 : Int32)) := (Arv.new A40 (by decide)).pad (pad_rep [] (.int (0 : Int32)) 4)
  show own_WP _ _ _ _ T40 (mkF m 22 #[.val (.ref zo), .val (.int (4 : Int32)), .unset] [(.ref zm), (.ref zo)])
  obtain ⟨T50, h50, X50, e50, W50, st50⟩ := putF X40 hx hZ hown (host := "") (Or.inl (hw _ (List.mem_of_getElem? (i := 14) rfl))) Via.refl e40 f42 f41 (Or.inr ⟨(hw _ (List.mem_of_getElem? (i := 15) rfl)), rfl, hnm⟩) (hw _ (List.mem_of_getElem? (i := 1) rfl)) (ty := (.array .int)) (by decide) rfl rfl (g := (mkF m 22 #[.val (.ref zo), .val (.int (4 : Int32)), .unset] [(.ref zm), (.ref zo)])) rfl rfl (hb hby d1_22)
  refine own_go st50 ?_
  have f51 : Fld Z h50 zo "com/example/ringspan/ringspan/symmetry/Orbits" "marks" "[I" (.ref zm) := f42.same W50
  have f52 : Exa Z h50 zo "com/example/ringspan/ringspan/symmetry/Orbits" := f41.wr W50
  have f54 : Fld Z h50 zo "com/example/ringspan/ringspan/symmetry/Orbits" "count" "I" u3 := f43.other W50 (Or.inr (slot_ne (Or.inl (hw _ (List.mem_of_getElem? (i := 17) rfl))) (Or.inr (hw _ (List.mem_of_getElem? (i := 15) rfl))) (by decide) (t := .int) (t' := (.array .int)) (by decide) (by decide)))
  have f55 : Arv Z h50 zp k2 .int (4 : Int32) [(.int (0 : Int32)), (.int (0 : Int32)), (.int (0 : Int32)), (.int (0 : Int32))] (.int (0 : Int32)) := f44.other W50 (Ne.symm ne_zo_zp)
  have f56 : Fld Z h50 zo "com/example/ringspan/ringspan/symmetry/Orbits" "parents" "[I" (.ref zp) := f45.other W50 (Or.inr (slot_ne (Or.inr (hw _ (List.mem_of_getElem? (i := 11) rfl))) (Or.inr (hw _ (List.mem_of_getElem? (i := 15) rfl))) (by decide) (t := (.array .int)) (t' := (.array .int)) (by decide) (by decide)))
  have f57 : Arv Z h50 zs k20 .int (4 : Int32) [(.int (0 : Int32)), (.int (0 : Int32)), (.int (0 : Int32)), (.int (0 : Int32))] (.int (0 : Int32)) := f46.other W50 (Ne.symm ne_zo_zs)
  have f58 : Fld Z h50 zo "com/example/ringspan/ringspan/symmetry/Orbits" "sizes" "[I" (.ref zs) := f47.other W50 (Or.inr (slot_ne (Or.inr (hw _ (List.mem_of_getElem? (i := 13) rfl))) (Or.inr (hw _ (List.mem_of_getElem? (i := 15) rfl))) (by decide) (t := (.array .int)) (t' := (.array .int)) (by decide) (by decide)))
  have f59 : Arv Z h50 zm k40 .int (4 : Int32) [(.int (0 : Int32)), (.int (0 : Int32)), (.int (0 : Int32)), (.int (0 : Int32))] (.int (0 : Int32)) := f49.other W50 (Ne.symm ne_zo_zm)
  have K60 : Keep h0 h50 [zo] := K48.wr W50 (Or.inl (List.mem_of_getElem? (i := 0) rfl))
  have N61 := Fr.snoc X50 N39 g_zo
  show own_WP _ _ _ _ T50 (mkF m 25 #[.val (.ref zo), .val (.int (4 : Int32)), .unset] [])
  refine own_go (fun t k => XS.iconst X50.here hx rfl (hb hby d1_25) k) ?_
  show own_WP _ _ _ _ T50 (mkF m 26 #[.val (.ref zo), .val (.int (4 : Int32)), .unset] [(.int (0 : Int32))])
  refine own_go (fun t k => XS.istoreN X50.here hx rfl (hb hby d1_26) rfl (l' := #[.val (.ref zo), .val (.int (4 : Int32)), .val (.int (0 : Int32))]) rfl k) ?_
  show own_WP _ _ _ _ T50 (mkF m 27 #[.val (.ref zo), .val (.int (4 : Int32)), .val (.int (0 : Int32))] [])
  refine own_go (fun t k => XS.iloadN X50.here hx rfl (hb hby d1_27) rfl  k) ?_
  show own_WP _ _ _ _ T50 (mkF m 28 #[.val (.ref zo), .val (.int (4 : Int32)), .val (.int (0 : Int32))] [(.int (0 : Int32))])
  refine own_go (fun t k => XS.iloadN X50.here hx rfl (hb hby d1_28) rfl  k) ?_
  show own_WP _ _ _ _ T50 (mkF m 29 #[.val (.ref zo), .val (.int (4 : Int32)), .val (.int (0 : Int32))] [(.int (4 : Int32)), (.int (0 : Int32))])
  have hc29 : (0 : Int32) < (4 : Int32) := by decide
  refine own_go (fun t k => XS.icmpNo X50.here hx rfl (hb hby d1_29) rfl (tlt hc29).2.1 k) ?_
  show own_WP _ _ _ _ T50 (mkF m 32 #[.val (.ref zo), .val (.int (4 : Int32)), .val (.int (0 : Int32))] [])
  refine own_go (fun t k => XS.aloadN X50.here hx rfl (hb hby d1_32) rfl rfl  k) ?_
  show own_WP _ _ _ _ T50 (mkF m 33 #[.val (.ref zo), .val (.int (4 : Int32)), .val (.int (0 : Int32))] [(.ref zo)])
  obtain ⟨T62, X62, e62, st62⟩ := getF X50 hx hZ hown (host := "") (Or.inl (hw _ (List.mem_of_getElem? (i := 10) rfl))) Via.refl e50 f56 (g := (mkF m 33 #[.val (.ref zo), .val (.int (4 : Int32)), .val (.int (0 : Int32))] [(.ref zo)])) rfl rfl (hb hby d1_33)
  refine own_go st62 ?_
  show own_WP _ _ _ _ T62 (mkF m 36 #[.val (.ref zo), .val (.int (4 : Int32)), .val (.int (0 : Int32))] [(.ref zp)])
  refine own_go (fun t k => XS.iloadN X62.here hx rfl (hb hby d1_36) rfl  k) ?_
  show own_WP _ _ _ _ T62 (mkF m 37 #[.val (.ref zo), .val (.int (4 : Int32)), .val (.int (0 : Int32))] [(.int (0 : Int32)), (.ref zp)])
  refine own_go (fun t k => XS.iloadN X62.here hx rfl (hb hby d1_37) rfl  k) ?_
  show own_WP _ _ _ _ T62 (mkF m 38 #[.val (.ref zo), .val (.int (4 : Int32)), .val (.int (0 : Int32))] [(.int (0 : Int32)), (.int (0 : Int32)), (.ref zp)])
  refine own_stI X62 hx hZ e62 f55 (j := (0 : Int32)) ⟨by decide, by decide⟩ (i := 0) rfl (Nat.le_of_ble_eq_true rfl) (hb hby d1_38) ?_
  intro T63 h63 X63 e63 W63 V63
  have f64 : Arv Z h63 zp k2 .int (4 : Int32) [(.int (0 : Int32)), (.int (0 : Int32)), (.int (0 : Int32)), (.int (0 : Int32))] (.int (0 : Int32)) := V63
  have f65 : Exa Z h63 zo "com/example/ringspan/ringspan/symmetry/Orbits" := f52.wr W63
  have f66 : Fld Z h63 zo "com/example/ringspan/ringspan/symmetry/Orbits" "count" "I" u3 := f54.other W63 (Or.inl ne_zo_zp)
  have f68 : Fld Z h63 zo "com/example/ringspan/ringspan/symmetry/Orbits" "parents" "[I" (.ref zp) := f56.other W63 (Or.inl ne_zo_zp)
  have f69 : Arv Z h63 zs k20 .int (4 : Int32) [(.int (0 : Int32)), (.int (0 : Int32)), (.int (0 : Int32)), (.int (0 : Int32))] (.int (0 : Int32)) := f57.other W63 (Ne.symm ne_zp_zs)
  have f70 : Fld Z h63 zo "com/example/ringspan/ringspan/symmetry/Orbits" "sizes" "[I" (.ref zs) := f58.other W63 (Or.inl ne_zo_zp)
  have f71 : Arv Z h63 zm k40 .int (4 : Int32) [(.int (0 : Int32)), (.int (0 : Int32)), (.int (0 : Int32)), (.int (0 : Int32))] (.int (0 : Int32)) := f59.other W63 (Ne.symm ne_zp_zm)
  have f72 : Fld Z h63 zo "com/example/ringspan/ringspan/symmetry/Orbits" "marks" "[I" (.ref zm) := f51.other W63 (Or.inl ne_zo_zp)
  have K73 : Keep h0 h63 [zo] := K60.wr W63 (Or.inr sz_zp)
  have N74 := Fr.snoc X63 N61 g_zp
  show own_WP _ _ _ _ T63 (mkF m 39 #[.val (.ref zo), .val (.int (4 : Int32)), .val (.int (0 : Int32))] [])
  refine own_go (fun t k => XS.aloadN X63.here hx rfl (hb hby d1_39) rfl rfl  k) ?_
  show own_WP _ _ _ _ T63 (mkF m 40 #[.val (.ref zo), .val (.int (4 : Int32)), .val (.int (0 : Int32))] [(.ref zo)])
  obtain ⟨T75, X75, e75, st75⟩ := getF X63 hx hZ hown (host := "") (Or.inl (hw _ (List.mem_of_getElem? (i := 12) rfl))) Via.refl e63 f70 (g := (mkF m 40 #[.val (.ref zo), .val (.int (4 : Int32)), .val (.int (0 : Int32))] [(.ref zo)])) rfl rfl (hb hby d1_40)
  refine own_go st75 ?_
  show own_WP _ _ _ _ T75 (mkF m 43 #[.val (.ref zo), .val (.int (4 : Int32)), .val (.int (0 : Int32))] [(.ref zs)])
  refine own_go (fun t k => XS.iloadN X75.here hx rfl (hb hby d1_43) rfl  k) ?_
  show own_WP _ _ _ _ T75 (mkF m 44 #[.val (.ref zo), .val (.int (4 : Int32)), .val (.int (0 : Int32))] [(.int (0 : Int32)), (.ref zs)])
  refine own_go (fun t k => XS.iconst X75.here hx rfl (hb hby d1_44) k) ?_
  show own_WP _ _ _ _ T75 (mkF m 45 #[.val (.ref zo), .val (.int (4 : Int32)), .val (.int (0 : Int32))] [(.int (1 : Int32)), (.int (0 : Int32)), (.ref zs)])
  refine own_stI X75 hx hZ e75 f69 (j := (0 : Int32)) ⟨by decide, by decide⟩ (i := 0) rfl (Nat.le_of_ble_eq_true rfl) (hb hby d1_45) ?_
  intro T76 h76 X76 e76 W76 V76
  have f77 : Arv Z h76 zs k20 .int (4 : Int32) [(.int (1 : Int32)), (.int (0 : Int32)), (.int (0 : Int32)), (.int (0 : Int32))] (.int (0 : Int32)) := V76
  have f78 : Exa Z h76 zo "com/example/ringspan/ringspan/symmetry/Orbits" := f65.wr W76
  have f79 : Fld Z h76 zo "com/example/ringspan/ringspan/symmetry/Orbits" "count" "I" u3 := f66.other W76 (Or.inl ne_zo_zs)
  have f80 : Fld Z h76 zo "com/example/ringspan/ringspan/symmetry/Orbits" "parents" "[I" (.ref zp) := f68.other W76 (Or.inl ne_zo_zs)
  have f82 : Fld Z h76 zo "com/example/ringspan/ringspan/symmetry/Orbits" "sizes" "[I" (.ref zs) := f70.other W76 (Or.inl ne_zo_zs)
  have f83 : Arv Z h76 zm k40 .int (4 : Int32) [(.int (0 : Int32)), (.int (0 : Int32)), (.int (0 : Int32)), (.int (0 : Int32))] (.int (0 : Int32)) := f71.other W76 (Ne.symm ne_zs_zm)
  have f84 : Fld Z h76 zo "com/example/ringspan/ringspan/symmetry/Orbits" "marks" "[I" (.ref zm) := f72.other W76 (Or.inl ne_zo_zs)
  have f85 : Arv Z h76 zp k2 .int (4 : Int32) [(.int (0 : Int32)), (.int (0 : Int32)), (.int (0 : Int32)), (.int (0 : Int32))] (.int (0 : Int32)) := f64.other W76 ne_zp_zs
  have K86 : Keep h0 h76 [zo] := K73.wr W76 (Or.inr sz_zs)
  have N87 := Fr.snoc X76 N74 g_zs
  show own_WP _ _ _ _ T76 (mkF m 46 #[.val (.ref zo), .val (.int (4 : Int32)), .val (.int (0 : Int32))] [])
  refine own_go (fun t k => XS.iinc X76.here hx rfl (hb hby d1_46) rfl (l' := #[.val (.ref zo), .val (.int (4 : Int32)), .val (.int ((0 : Int32) + (1 : Int32)))]) rfl k) ?_
  show own_WP _ _ _ _ T76 (mkF m 49 #[.val (.ref zo), .val (.int (4 : Int32)), .val (.int ((0 : Int32) + (1 : Int32)))] [])
  rw [show ((0 : Int32) + (1 : Int32)) = (1 : Int32) from by decide]
  show own_WP _ _ _ _ T76 (mkF m 49 #[.val (.ref zo), .val (.int (4 : Int32)), .val (.int (1 : Int32))] [])
  refine own_go (fun t k => XS.goto X76.here hx rfl (pc0 := 49) (pc' := 27) rfl (hb hby d1_49) (by decide) (by decide) k) ?_
  show own_WP _ _ _ _ T76 (mkF m 27 #[.val (.ref zo), .val (.int (4 : Int32)), .val (.int (1 : Int32))] [])
  refine own_go (fun t k => XS.iloadN X76.here hx rfl (hb hby d1_27) rfl  k) ?_
  show own_WP _ _ _ _ T76 (mkF m 28 #[.val (.ref zo), .val (.int (4 : Int32)), .val (.int (1 : Int32))] [(.int (1 : Int32))])
  refine own_go (fun t k => XS.iloadN X76.here hx rfl (hb hby d1_28) rfl  k) ?_
  show own_WP _ _ _ _ T76 (mkF m 29 #[.val (.ref zo), .val (.int (4 : Int32)), .val (.int (1 : Int32))] [(.int (4 : Int32)), (.int (1 : Int32))])
  have hc29_1 : (1 : Int32) < (4 : Int32) := by decide
  refine own_go (fun t k => XS.icmpNo X76.here hx rfl (hb hby d1_29) rfl (tlt hc29_1).2.1 k) ?_
  show own_WP _ _ _ _ T76 (mkF m 32 #[.val (.ref zo), .val (.int (4 : Int32)), .val (.int (1 : Int32))] [])
  refine own_go (fun t k => XS.aloadN X76.here hx rfl (hb hby d1_32) rfl rfl  k) ?_
  show own_WP _ _ _ _ T76 (mkF m 33 #[.val (.ref zo), .val (.int (4 : Int32)), .val (.int (1 : Int32))] [(.ref zo)])
  obtain ⟨T88, X88, e88, st88⟩ := getF X76 hx hZ hown (host := "") (Or.inl (hw _ (List.mem_of_getElem? (i := 10) rfl))) Via.refl e76 f80 (g := (mkF m 33 #[.val (.ref zo), .val (.int (4 : Int32)), .val (.int (1 : Int32))] [(.ref zo)])) rfl rfl (hb hby d1_33)
  refine own_go st88 ?_
  show own_WP _ _ _ _ T88 (mkF m 36 #[.val (.ref zo), .val (.int (4 : Int32)), .val (.int (1 : Int32))] [(.ref zp)])
  refine own_go (fun t k => XS.iloadN X88.here hx rfl (hb hby d1_36) rfl  k) ?_
  show own_WP _ _ _ _ T88 (mkF m 37 #[.val (.ref zo), .val (.int (4 : Int32)), .val (.int (1 : Int32))] [(.int (1 : Int32)), (.ref zp)])
  refine own_go (fun t k => XS.iloadN X88.here hx rfl (hb hby d1_37) rfl  k) ?_
  show own_WP _ _ _ _ T88 (mkF m 38 #[.val (.ref zo), .val (.int (4 : Int32)), .val (.int (1 : Int32))] [(.int (1 : Int32)), (.int (1 : Int32)), (.ref zp)])
  refine own_stI X88 hx hZ e88 f85 (j := (1 : Int32)) ⟨by decide, by decide⟩ (i := 1) rfl (Nat.le_of_ble_eq_true rfl) (hb hby d1_38) ?_
  intro T89 h89 X89 e89 W89 V89
  have f90 : Arv Z h89 zp k2 .int (4 : Int32) [(.int (0 : Int32)), (.int (1 : Int32)), (.int (0 : Int32)), (.int (0 : Int32))] (.int (0 : Int32)) := V89
  have f91 : Exa Z h89 zo "com/example/ringspan/ringspan/symmetry/Orbits" := f78.wr W89
  have f92 : Fld Z h89 zo "com/example/ringspan/ringspan/symmetry/Orbits" "count" "I" u3 := f79.other W89 (Or.inl ne_zo_zp)
  have f93 : Fld Z h89 zo "com/example/ringspan/ringspan/symmetry/Orbits" "parents" "[I" (.ref zp) := f80.other W89 (Or.inl ne_zo_zp)
  have f94 : Fld Z h89 zo "com/example/ringspan/ringspan/symmetry/Orbits" "sizes" "[I" (.ref zs) := f82.other W89 (Or.inl ne_zo_zp)
  have f95 : Arv Z h89 zm k40 .int (4 : Int32) [(.int (0 : Int32)), (.int (0 : Int32)), (.int (0 : Int32)), (.int (0 : Int32))] (.int (0 : Int32)) := f83.other W89 (Ne.symm ne_zp_zm)
  have f96 : Fld Z h89 zo "com/example/ringspan/ringspan/symmetry/Orbits" "marks" "[I" (.ref zm) := f84.other W89 (Or.inl ne_zo_zp)
  have f98 : Arv Z h89 zs k20 .int (4 : Int32) [(.int (1 : Int32)), (.int (0 : Int32)), (.int (0 : Int32)), (.int (0 : Int32))] (.int (0 : Int32)) := f77.other W89 (Ne.symm ne_zp_zs)
  have K99 : Keep h0 h89 [zo] := K86.wr W89 (Or.inr sz_zp)
  have N100 := Fr.snoc X89 N87 g_zp
  show own_WP _ _ _ _ T89 (mkF m 39 #[.val (.ref zo), .val (.int (4 : Int32)), .val (.int (1 : Int32))] [])
  refine own_go (fun t k => XS.aloadN X89.here hx rfl (hb hby d1_39) rfl rfl  k) ?_
  show own_WP _ _ _ _ T89 (mkF m 40 #[.val (.ref zo), .val (.int (4 : Int32)), .val (.int (1 : Int32))] [(.ref zo)])
  obtain ⟨T101, X101, e101, st101⟩ := getF X89 hx hZ hown (host := "") (Or.inl (hw _ (List.mem_of_getElem? (i := 12) rfl))) Via.refl e89 f94 (g := (mkF m 40 #[.val (.ref zo), .val (.int (4 : Int32)), .val (.int (1 : Int32))] [(.ref zo)])) rfl rfl (hb hby d1_40)
  refine own_go st101 ?_
  show own_WP _ _ _ _ T101 (mkF m 43 #[.val (.ref zo), .val (.int (4 : Int32)), .val (.int (1 : Int32))] [(.ref zs)])
  refine own_go (fun t k => XS.iloadN X101.here hx rfl (hb hby d1_43) rfl  k) ?_
  show own_WP _ _ _ _ T101 (mkF m 44 #[.val (.ref zo), .val (.int (4 : Int32)), .val (.int (1 : Int32))] [(.int (1 : Int32)), (.ref zs)])
  refine own_go (fun t k => XS.iconst X101.here hx rfl (hb hby d1_44) k) ?_
  show own_WP _ _ _ _ T101 (mkF m 45 #[.val (.ref zo), .val (.int (4 : Int32)), .val (.int (1 : Int32))] [(.int (1 : Int32)), (.int (1 : Int32)), (.ref zs)])
  refine own_stI X101 hx hZ e101 f98 (j := (1 : Int32)) ⟨by decide, by decide⟩ (i := 1) rfl (Nat.le_of_ble_eq_true rfl) (hb hby d1_45) ?_
  intro T102 h102 X102 e102 W102 V102
  have f103 : Arv Z h102 zs k20 .int (4 : Int32) [(.int (1 : Int32)), (.int (1 : Int32)), (.int (0 : Int32)), (.int (0 : Int32))] (.int (0 : Int32)) := V102
  have f104 : Exa Z h102 zo "com/example/ringspan/ringspan/symmetry/Orbits" := f91.wr W102
  have f105 : Fld Z h102 zo "com/example/ringspan/ringspan/symmetry/Orbits" "count" "I" u3 := f92.other W102 (Or.inl ne_zo_zs)
  have f106 : Fld Z h102 zo "com/example/ringspan/ringspan/symmetry/Orbits" "parents" "[I" (.ref zp) := f93.other W102 (Or.inl ne_zo_zs)
  have f107 : Fld Z h102 zo "com/example/ringspan/ringspan/symmetry/Orbits" "sizes" "[I" (.ref zs) := f94.other W102 (Or.inl ne_zo_zs)
  have f108 : Arv Z h102 zm k40 .int (4 : Int32) [(.int (0 : Int32)), (.int (0 : Int32)), (.int (0 : Int32)), (.int (0 : Int32))] (.int (0 : Int32)) := f95.other W102 (Ne.symm ne_zs_zm)
  have f109 : Fld Z h102 zo "com/example/ringspan/ringspan/symmetry/Orbits" "marks" "[I" (.ref zm) := f96.other W102 (Or.inl ne_zo_zs)
  have f111 : Arv Z h102 zp k2 .int (4 : Int32) [(.int (0 : Int32)), (.int (1 : Int32)), (.int (0 : Int32)), (.int (0 : Int32))] (.int (0 : Int32)) := f90.other W102 ne_zp_zs
  have K112 : Keep h0 h102 [zo] := K99.wr W102 (Or.inr sz_zs)
  have N113 := Fr.snoc X102 N100 g_zs
  show own_WP _ _ _ _ T102 (mkF m 46 #[.val (.ref zo), .val (.int (4 : Int32)), .val (.int (1 : Int32))] [])
  refine own_go (fun t k => XS.iinc X102.here hx rfl (hb hby d1_46) rfl (l' := #[.val (.ref zo), .val (.int (4 : Int32)), .val (.int ((1 : Int32) + (1 : Int32)))]) rfl k) ?_
  show own_WP _ _ _ _ T102 (mkF m 49 #[.val (.ref zo), .val (.int (4 : Int32)), .val (.int ((1 : Int32) + (1 : Int32)))] [])
  rw [show ((1 : Int32) + (1 : Int32)) = (2 : Int32) from by decide]
  show own_WP _ _ _ _ T102 (mkF m 49 #[.val (.ref zo), .val (.int (4 : Int32)), .val (.int (2 : Int32))] [])
  refine own_go (fun t k => XS.goto X102.here hx rfl (pc0 := 49) (pc' := 27) rfl (hb hby d1_49) (by decide) (by decide) k) ?_
  show own_WP _ _ _ _ T102 (mkF m 27 #[.val (.ref zo), .val (.int (4 : Int32)), .val (.int (2 : Int32))] [])
  refine own_go (fun t k => XS.iloadN X102.here hx rfl (hb hby d1_27) rfl  k) ?_
  show own_WP _ _ _ _ T102 (mkF m 28 #[.val (.ref zo), .val (.int (4 : Int32)), .val (.int (2 : Int32))] [(.int (2 : Int32))])
  refine own_go (fun t k => XS.iloadN X102.here hx rfl (hb hby d1_28) rfl  k) ?_
  show own_WP _ _ _ _ T102 (mkF m 29 #[.val (.ref zo), .val (.int (4 : Int32)), .val (.int (2 : Int32))] [(.int (4 : Int32)), (.int (2 : Int32))])
  have hc29_2 : (2 : Int32) < (4 : Int32) := by decide
  refine own_go (fun t k => XS.icmpNo X102.here hx rfl (hb hby d1_29) rfl (tlt hc29_2).2.1 k) ?_
  show own_WP _ _ _ _ T102 (mkF m 32 #[.val (.ref zo), .val (.int (4 : Int32)), .val (.int (2 : Int32))] [])
  refine own_go (fun t k => XS.aloadN X102.here hx rfl (hb hby d1_32) rfl rfl  k) ?_
  show own_WP _ _ _ _ T102 (mkF m 33 #[.val (.ref zo), .val (.int (4 : Int32)), .val (.int (2 : Int32))] [(.ref zo)])
  obtain ⟨T114, X114, e114, st114⟩ := getF X102 hx hZ hown (host := "") (Or.inl (hw _ (List.mem_of_getElem? (i := 10) rfl))) Via.refl e102 f106 (g := (mkF m 33 #[.val (.ref zo), .val (.int (4 : Int32)), .val (.int (2 : Int32))] [(.ref zo)])) rfl rfl (hb hby d1_33)
  refine own_go st114 ?_
  show own_WP _ _ _ _ T114 (mkF m 36 #[.val (.ref zo), .val (.int (4 : Int32)), .val (.int (2 : Int32))] [(.ref zp)])
  refine own_go (fun t k => XS.iloadN X114.here hx rfl (hb hby d1_36) rfl  k) ?_
  show own_WP _ _ _ _ T114 (mkF m 37 #[.val (.ref zo), .val (.int (4 : Int32)), .val (.int (2 : Int32))] [(.int (2 : Int32)), (.ref zp)])
  refine own_go (fun t k => XS.iloadN X114.here hx rfl (hb hby d1_37) rfl  k) ?_
  show own_WP _ _ _ _ T114 (mkF m 38 #[.val (.ref zo), .val (.int (4 : Int32)), .val (.int (2 : Int32))] [(.int (2 : Int32)), (.int (2 : Int32)), (.ref zp)])
  refine own_stI X114 hx hZ e114 f111 (j := (2 : Int32)) ⟨by decide, by decide⟩ (i := 2) rfl (Nat.le_of_ble_eq_true rfl) (hb hby d1_38) ?_
  intro T115 h115 X115 e115 W115 V115
  have f116 : Arv Z h115 zp k2 .int (4 : Int32) [(.int (0 : Int32)), (.int (1 : Int32)), (.int (2 : Int32)), (.int (0 : Int32))] (.int (0 : Int32)) := V115
  have f117 : Exa Z h115 zo "com/example/ringspan/ringspan/symmetry/Orbits" := f104.wr W115
  have f118 : Fld Z h115 zo "com/example/ringspan/ringspan/symmetry/Orbits" "count" "I" u3 := f105.other W115 (Or.inl ne_zo_zp)
  have f119 : Fld Z h115 zo "com/example/ringspan/ringspan/symmetry/Orbits" "parents" "[I" (.ref zp) := f106.other W115 (Or.inl ne_zo_zp)
  have f120 : Fld Z h115 zo "com/example/ringspan/ringspan/symmetry/Orbits" "sizes" "[I" (.ref zs) := f107.other W115 (Or.inl ne_zo_zp)
  have f121 : Arv Z h115 zm k40 .int (4 : Int32) [(.int (0 : Int32)), (.int (0 : Int32)), (.int (0 : Int32)), (.int (0 : Int32))] (.int (0 : Int32)) := f108.other W115 (Ne.symm ne_zp_zm)
  have f122 : Fld Z h115 zo "com/example/ringspan/ringspan/symmetry/Orbits" "marks" "[I" (.ref zm) := f109.other W115 (Or.inl ne_zo_zp)
  have f124 : Arv Z h115 zs k20 .int (4 : Int32) [(.int (1 : Int32)), (.int (1 : Int32)), (.int (0 : Int32)), (.int (0 : Int32))] (.int (0 : Int32)) := f103.other W115 (Ne.symm ne_zp_zs)
  have K125 : Keep h0 h115 [zo] := K112.wr W115 (Or.inr sz_zp)
  have N126 := Fr.snoc X115 N113 g_zp
  show own_WP _ _ _ _ T115 (mkF m 39 #[.val (.ref zo), .val (.int (4 : Int32)), .val (.int (2 : Int32))] [])
  refine own_go (fun t k => XS.aloadN X115.here hx rfl (hb hby d1_39) rfl rfl  k) ?_
  show own_WP _ _ _ _ T115 (mkF m 40 #[.val (.ref zo), .val (.int (4 : Int32)), .val (.int (2 : Int32))] [(.ref zo)])
  obtain ⟨T127, X127, e127, st127⟩ := getF X115 hx hZ hown (host := "") (Or.inl (hw _ (List.mem_of_getElem? (i := 12) rfl))) Via.refl e115 f120 (g := (mkF m 40 #[.val (.ref zo), .val (.int (4 : Int32)), .val (.int (2 : Int32))] [(.ref zo)])) rfl rfl (hb hby d1_40)
  refine own_go st127 ?_
  show own_WP _ _ _ _ T127 (mkF m 43 #[.val (.ref zo), .val (.int (4 : Int32)), .val (.int (2 : Int32))] [(.ref zs)])
  refine own_go (fun t k => XS.iloadN X127.here hx rfl (hb hby d1_43) rfl  k) ?_
  show own_WP _ _ _ _ T127 (mkF m 44 #[.val (.ref zo), .val (.int (4 : Int32)), .val (.int (2 : Int32))] [(.int (2 : Int32)), (.ref zs)])
  refine own_go (fun t k => XS.iconst X127.here hx rfl (hb hby d1_44) k) ?_
  show own_WP _ _ _ _ T127 (mkF m 45 #[.val (.ref zo), .val (.int (4 : Int32)), .val (.int (2 : Int32))] [(.int (1 : Int32)), (.int (2 : Int32)), (.ref zs)])
  refine own_stI X127 hx hZ e127 f124 (j := (2 : Int32)) ⟨by decide, by decide⟩ (i := 2) rfl (Nat.le_of_ble_eq_true rfl) (hb hby d1_45) ?_
  intro T128 h128 X128 e128 W128 V128
  have f129 : Arv Z h128 zs k20 .int (4 : Int32) [(.int (1 : Int32)), (.int (1 : Int32)), (.int (1 : Int32)), (.int (0 : Int32))] (.int (0 : Int32)) := V128
  have f130 : Exa Z h128 zo "com/example/ringspan/ringspan/symmetry/Orbits" := f117.wr W128
  have f131 : Fld Z h128 zo "com/example/ringspan/ringspan/symmetry/Orbits" "count" "I" u3 := f118.other W128 (Or.inl ne_zo_zs)
  have f132 : Fld Z h128 zo "com/example/ringspan/ringspan/symmetry/Orbits" "parents" "[I" (.ref zp) := f119.other W128 (Or.inl ne_zo_zs)
  have f133 : Fld Z h128 zo "com/example/ringspan/ringspan/symmetry/Orbits" "sizes" "[I" (.ref zs) := f120.other W128 (Or.inl ne_zo_zs)
  have f134 : Arv Z h128 zm k40 .int (4 : Int32) [(.int (0 : Int32)), (.int (0 : Int32)), (.int (0 : Int32)), (.int (0 : Int32))] (.int (0 : Int32)) := f121.other W128 (Ne.symm ne_zs_zm)
  have f135 : Fld Z h128 zo "com/example/ringspan/ringspan/symmetry/Orbits" "marks" "[I" (.ref zm) := f122.other W128 (Or.inl ne_zo_zs)
  have f137 : Arv Z h128 zp k2 .int (4 : Int32) [(.int (0 : Int32)), (.int (1 : Int32)), (.int (2 : Int32)), (.int (0 : Int32))] (.int (0 : Int32)) := f116.other W128 ne_zp_zs
  have K138 : Keep h0 h128 [zo] := K125.wr W128 (Or.inr sz_zs)
  have N139 := Fr.snoc X128 N126 g_zs
  show own_WP _ _ _ _ T128 (mkF m 46 #[.val (.ref zo), .val (.int (4 : Int32)), .val (.int (2 : Int32))] [])
  refine own_go (fun t k => XS.iinc X128.here hx rfl (hb hby d1_46) rfl (l' := #[.val (.ref zo), .val (.int (4 : Int32)), .val (.int ((2 : Int32) + (1 : Int32)))]) rfl k) ?_
  show own_WP _ _ _ _ T128 (mkF m 49 #[.val (.ref zo), .val (.int (4 : Int32)), .val (.int ((2 : Int32) + (1 : Int32)))] [])
  rw [show ((2 : Int32) + (1 : Int32)) = (3 : Int32) from by decide]
  show own_WP _ _ _ _ T128 (mkF m 49 #[.val (.ref zo), .val (.int (4 : Int32)), .val (.int (3 : Int32))] [])
  refine own_go (fun t k => XS.goto X128.here hx rfl (pc0 := 49) (pc' := 27) rfl (hb hby d1_49) (by decide) (by decide) k) ?_
  show own_WP _ _ _ _ T128 (mkF m 27 #[.val (.ref zo), .val (.int (4 : Int32)), .val (.int (3 : Int32))] [])
  refine own_go (fun t k => XS.iloadN X128.here hx rfl (hb hby d1_27) rfl  k) ?_
  show own_WP _ _ _ _ T128 (mkF m 28 #[.val (.ref zo), .val (.int (4 : Int32)), .val (.int (3 : Int32))] [(.int (3 : Int32))])
  refine own_go (fun t k => XS.iloadN X128.here hx rfl (hb hby d1_28) rfl  k) ?_
  show own_WP _ _ _ _ T128 (mkF m 29 #[.val (.ref zo), .val (.int (4 : Int32)), .val (.int (3 : Int32))] [(.int (4 : Int32)), (.int (3 : Int32))])
  have hc29_3 : (3 : Int32) < (4 : Int32) := by decide
  refine own_go (fun t k => XS.icmpNo X128.here hx rfl (hb hby d1_29) rfl (tlt hc29_3).2.1 k) ?_
  show own_WP _ _ _ _ T128 (mkF m 32 #[.val (.ref zo), .val (.int (4 : Int32)), .val (.int (3 : Int32))] [])
  refine own_go (fun t k => XS.aloadN X128.here hx rfl (hb hby d1_32) rfl rfl  k) ?_
  show own_WP _ _ _ _ T128 (mkF m 33 #[.val (.ref zo), .val (.int (4 : Int32)), .val (.int (3 : Int32))] [(.ref zo)])
  obtain ⟨T140, X140, e140, st140⟩ := getF X128 hx hZ hown (host := "") (Or.inl (hw _ (List.mem_of_getElem? (i := 10) rfl))) Via.refl e128 f132 (g := (mkF m 33 #[.val (.ref zo), .val (.int (4 : Int32)), .val (.int (3 : Int32))] [(.ref zo)])) rfl rfl (hb hby d1_33)
  refine own_go st140 ?_
  show own_WP _ _ _ _ T140 (mkF m 36 #[.val (.ref zo), .val (.int (4 : Int32)), .val (.int (3 : Int32))] [(.ref zp)])
  refine own_go (fun t k => XS.iloadN X140.here hx rfl (hb hby d1_36) rfl  k) ?_
  show own_WP _ _ _ _ T140 (mkF m 37 #[.val (.ref zo), .val (.int (4 : Int32)), .val (.int (3 : Int32))] [(.int (3 : Int32)), (.ref zp)])
  refine own_go (fun t k => XS.iloadN X140.here hx rfl (hb hby d1_37) rfl  k) ?_
  show own_WP _ _ _ _ T140 (mkF m 38 #[.val (.ref zo), .val (.int (4 : Int32)), .val (.int (3 : Int32))] [(.int (3 : Int32)), (.int (3 : Int32)), (.ref zp)])
  refine own_stI X140 hx hZ e140 f137 (j := (3 : Int32)) ⟨by decide, by decide⟩ (i := 3) rfl (Nat.le_of_ble_eq_true rfl) (hb hby d1_38) ?_
  intro T141 h141 X141 e141 W141 V141
  have f142 : Arv Z h141 zp k2 .int (4 : Int32) [(.int (0 : Int32)), (.int (1 : Int32)), (.int (2 : Int32)), (.int (3 : Int32))] (.int (0 : Int32)) := V141
  have f143 : Exa Z h141 zo "com/example/ringspan/ringspan/symmetry/Orbits" := f130.wr W141
  have f144 : Fld Z h141 zo "com/example/ringspan/ringspan/symmetry/Orbits" "count" "I" u3 := f131.other W141 (Or.inl ne_zo_zp)
  have f145 : Fld Z h141 zo "com/example/ringspan/ringspan/symmetry/Orbits" "parents" "[I" (.ref zp) := f132.other W141 (Or.inl ne_zo_zp)
  have f146 : Fld Z h141 zo "com/example/ringspan/ringspan/symmetry/Orbits" "sizes" "[I" (.ref zs) := f133.other W141 (Or.inl ne_zo_zp)
  have f147 : Arv Z h141 zm k40 .int (4 : Int32) [(.int (0 : Int32)), (.int (0 : Int32)), (.int (0 : Int32)), (.int (0 : Int32))] (.int (0 : Int32)) := f134.other W141 (Ne.symm ne_zp_zm)
  have f148 : Fld Z h141 zo "com/example/ringspan/ringspan/symmetry/Orbits" "marks" "[I" (.ref zm) := f135.other W141 (Or.inl ne_zo_zp)
  have f150 : Arv Z h141 zs k20 .int (4 : Int32) [(.int (1 : Int32)), (.int (1 : Int32)), (.int (1 : Int32)), (.int (0 : Int32))] (.int (0 : Int32)) := f129.other W141 (Ne.symm ne_zp_zs)
  have K151 : Keep h0 h141 [zo] := K138.wr W141 (Or.inr sz_zp)
  have N152 := Fr.snoc X141 N139 g_zp
  show own_WP _ _ _ _ T141 (mkF m 39 #[.val (.ref zo), .val (.int (4 : Int32)), .val (.int (3 : Int32))] [])
  refine own_go (fun t k => XS.aloadN X141.here hx rfl (hb hby d1_39) rfl rfl  k) ?_
  show own_WP _ _ _ _ T141 (mkF m 40 #[.val (.ref zo), .val (.int (4 : Int32)), .val (.int (3 : Int32))] [(.ref zo)])
  obtain ⟨T153, X153, e153, st153⟩ := getF X141 hx hZ hown (host := "") (Or.inl (hw _ (List.mem_of_getElem? (i := 12) rfl))) Via.refl e141 f146 (g := (mkF m 40 #[.val (.ref zo), .val (.int (4 : Int32)), .val (.int (3 : Int32))] [(.ref zo)])) rfl rfl (hb hby d1_40)
  refine own_go st153 ?_
  show own_WP _ _ _ _ T153 (mkF m 43 #[.val (.ref zo), .val (.int (4 : Int32)), .val (.int (3 : Int32))] [(.ref zs)])
  refine own_go (fun t k => XS.iloadN X153.here hx rfl (hb hby d1_43) rfl  k) ?_
  show own_WP _ _ _ _ T153 (mkF m 44 #[.val (.ref zo), .val (.int (4 : Int32)), .val (.int (3 : Int32))] [(.int (3 : Int32)), (.ref zs)])
  refine own_go (fun t k => XS.iconst X153.here hx rfl (hb hby d1_44) k) ?_
  show own_WP _ _ _ _ T153 (mkF m 45 #[.val (.ref zo), .val (.int (4 : Int32)), .val (.int (3 : Int32))] [(.int (1 : Int32)), (.int (3 : Int32)), (.ref zs)])
  refine own_stI X153 hx hZ e153 f150 (j := (3 : Int32)) ⟨by decide, by decide⟩ (i := 3) rfl (Nat.le_of_ble_eq_true rfl) (hb hby d1_45) ?_
  intro T154 h154 X154 e154 W154 V154
  have f155 : Arv Z h154 zs k20 .int (4 : Int32) [(.int (1 : Int32)), (.int (1 : Int32)), (.int (1 : Int32)), (.int (1 : Int32))] (.int (0 : Int32)) := V154
  have f156 : Exa Z h154 zo "com/example/ringspan/ringspan/symmetry/Orbits" := f143.wr W154
  have f157 : Fld Z h154 zo "com/example/ringspan/ringspan/symmetry/Orbits" "count" "I" u3 := f144.other W154 (Or.inl ne_zo_zs)
  have f158 : Fld Z h154 zo "com/example/ringspan/ringspan/symmetry/Orbits" "parents" "[I" (.ref zp) := f145.other W154 (Or.inl ne_zo_zs)
  have f159 : Fld Z h154 zo "com/example/ringspan/ringspan/symmetry/Orbits" "sizes" "[I" (.ref zs) := f146.other W154 (Or.inl ne_zo_zs)
  have f160 : Arv Z h154 zm k40 .int (4 : Int32) [(.int (0 : Int32)), (.int (0 : Int32)), (.int (0 : Int32)), (.int (0 : Int32))] (.int (0 : Int32)) := f147.other W154 (Ne.symm ne_zs_zm)
  have f161 : Fld Z h154 zo "com/example/ringspan/ringspan/symmetry/Orbits" "marks" "[I" (.ref zm) := f148.other W154 (Or.inl ne_zo_zs)
  have f163 : Arv Z h154 zp k2 .int (4 : Int32) [(.int (0 : Int32)), (.int (1 : Int32)), (.int (2 : Int32)), (.int (3 : Int32))] (.int (0 : Int32)) := f142.other W154 ne_zp_zs
  have K164 : Keep h0 h154 [zo] := K151.wr W154 (Or.inr sz_zs)
  have N165 := Fr.snoc X154 N152 g_zs
  show own_WP _ _ _ _ T154 (mkF m 46 #[.val (.ref zo), .val (.int (4 : Int32)), .val (.int (3 : Int32))] [])
  refine own_go (fun t k => XS.iinc X154.here hx rfl (hb hby d1_46) rfl (l' := #[.val (.ref zo), .val (.int (4 : Int32)), .val (.int ((3 : Int32) + (1 : Int32)))]) rfl k) ?_
  show own_WP _ _ _ _ T154 (mkF m 49 #[.val (.ref zo), .val (.int (4 : Int32)), .val (.int ((3 : Int32) + (1 : Int32)))] [])
  rw [show ((3 : Int32) + (1 : Int32)) = (4 : Int32) from by decide]
  show own_WP _ _ _ _ T154 (mkF m 49 #[.val (.ref zo), .val (.int (4 : Int32)), .val (.int (4 : Int32))] [])
  refine own_go (fun t k => XS.goto X154.here hx rfl (pc0 := 49) (pc' := 27) rfl (hb hby d1_49) (by decide) (by decide) k) ?_
  show own_WP _ _ _ _ T154 (mkF m 27 #[.val (.ref zo), .val (.int (4 : Int32)), .val (.int (4 : Int32))] [])
  refine own_go (fun t k => XS.iloadN X154.here hx rfl (hb hby d1_27) rfl  k) ?_
  show own_WP _ _ _ _ T154 (mkF m 28 #[.val (.ref zo), .val (.int (4 : Int32)), .val (.int (4 : Int32))] [(.int (4 : Int32))])
  refine own_go (fun t k => XS.iloadN X154.here hx rfl (hb hby d1_28) rfl  k) ?_
  show own_WP _ _ _ _ T154 (mkF m 29 #[.val (.ref zo), .val (.int (4 : Int32)), .val (.int (4 : Int32))] [(.int (4 : Int32)), (.int (4 : Int32))])
  have hc29_4 : ¬ ((4 : Int32) < (4 : Int32)) := by decide
  refine own_go (fun t k => XS.icmpYes X154.here hx rfl (pc0 := 29) (pc' := 52) rfl (hb hby d1_29) rfl (flt hc29_4).2.1 (by decide) (by decide) k) ?_
  show own_WP _ _ _ _ T154 (mkF m 52 #[.val (.ref zo), .val (.int (4 : Int32)), .val (.int (4 : Int32))] [])
  refine own_go (fun t k => XS.aloadN X154.here hx rfl (hb hby d1_52) rfl rfl  k) ?_
  show own_WP _ _ _ _ T154 (mkF m 53 #[.val (.ref zo), .val (.int (4 : Int32)), .val (.int (4 : Int32))] [(.ref zo)])
  refine own_go (fun t k => XS.iloadN X154.here hx rfl (hb hby d1_53) rfl  k) ?_
  show own_WP _ _ _ _ T154 (mkF m 54 #[.val (.ref zo), .val (.int (4 : Int32)), .val (.int (4 : Int32))] [(.int (4 : Int32)), (.ref zo)])
  obtain ⟨T166, h166, X166, e166, W166, st166⟩ := putF X154 hx hZ hown (host := "") (Or.inl (hw _ (List.mem_of_getElem? (i := 16) rfl))) Via.refl e154 f157 f156 (Or.inl (hw _ (List.mem_of_getElem? (i := 17) rfl))) (hw _ (List.mem_of_getElem? (i := 1) rfl)) (ty := .int) (by decide) rfl rfl (g := (mkF m 54 #[.val (.ref zo), .val (.int (4 : Int32)), .val (.int (4 : Int32))] [(.int (4 : Int32)), (.ref zo)])) rfl rfl (hb hby d1_54)
  refine own_go st166 ?_
  have f167 : Fld Z h166 zo "com/example/ringspan/ringspan/symmetry/Orbits" "count" "I" (.int (4 : Int32)) := f157.same W166
  have f168 : Exa Z h166 zo "com/example/ringspan/ringspan/symmetry/Orbits" := f156.wr W166
  have f170 : Fld Z h166 zo "com/example/ringspan/ringspan/symmetry/Orbits" "parents" "[I" (.ref zp) := f158.other W166 (Or.inr (slot_ne (Or.inr (hw _ (List.mem_of_getElem? (i := 11) rfl))) (Or.inl (hw _ (List.mem_of_getElem? (i := 17) rfl))) (by decide) (t := (.array .int)) (t' := .int) (by decide) (by decide)))
  have f171 : Fld Z h166 zo "com/example/ringspan/ringspan/symmetry/Orbits" "sizes" "[I" (.ref zs) := f159.other W166 (Or.inr (slot_ne (Or.inr (hw _ (List.mem_of_getElem? (i := 13) rfl))) (Or.inl (hw _ (List.mem_of_getElem? (i := 17) rfl))) (by decide) (t := (.array .int)) (t' := .int) (by decide) (by decide)))
  have f172 : Arv Z h166 zm k40 .int (4 : Int32) [(.int (0 : Int32)), (.int (0 : Int32)), (.int (0 : Int32)), (.int (0 : Int32))] (.int (0 : Int32)) := f160.other W166 (Ne.symm ne_zo_zm)
  have f173 : Fld Z h166 zo "com/example/ringspan/ringspan/symmetry/Orbits" "marks" "[I" (.ref zm) := f161.other W166 (Or.inr (slot_ne (Or.inr (hw _ (List.mem_of_getElem? (i := 15) rfl))) (Or.inl (hw _ (List.mem_of_getElem? (i := 17) rfl))) (by decide) (t := (.array .int)) (t' := .int) (by decide) (by decide)))
  have f174 : Arv Z h166 zp k2 .int (4 : Int32) [(.int (0 : Int32)), (.int (1 : Int32)), (.int (2 : Int32)), (.int (3 : Int32))] (.int (0 : Int32)) := f163.other W166 (Ne.symm ne_zo_zp)
  have f175 : Arv Z h166 zs k20 .int (4 : Int32) [(.int (1 : Int32)), (.int (1 : Int32)), (.int (1 : Int32)), (.int (1 : Int32))] (.int (0 : Int32)) := f155.other W166 (Ne.symm ne_zo_zs)
  have K176 : Keep h0 h166 [zo] := K164.wr W166 (Or.inl (List.mem_of_getElem? (i := 0) rfl))
  have N177 := Fr.snoc X166 N165 g_zo
  show own_WP _ _ _ _ T166 (mkF m 57 #[.val (.ref zo), .val (.int (4 : Int32)), .val (.int (4 : Int32))] [])
  refine own_retV X166 hx Bd.notSynchronized Bd.returns (hb hby d1_57) (by decide) (by decide) ?_
  rw [e166]
  exact ⟨zp, zs, zm, k2, k20, k40, rfl, N177, K176, g_zp, sz_zp, g_zs, sz_zs, g_zm, sz_zm, f168, f170, f171, f173, ((show ((.int (4 : Int32)) : Value) = (.int 4) from by rfl) ▸ f167), ((show ([(.int (0 : Int32)), (.int (1 : Int32)), (.int (2 : Int32)), (.int (3 : Int32))] : List Value) = (List.map Value.int [0, 1, 2, 3]) from by rfl) ▸ f174), ((show ([(.int (1 : Int32)), (.int (1 : Int32)), (.int (1 : Int32)), (.int (1 : Int32))] : List Value) = (List.map Value.int [1, 1, 1, 1]) from by rfl) ▸ f175), ((show ([(.int (0 : Int32)), (.int (0 : Int32)), (.int (0 : Int32)), (.int (0 : Int32))] : List Value) = (List.map Value.int [0, 0, 0, 0]) from by rfl) ▸ f172), (by exact ne_zp_zs), (by exact ne_zp_zm), (by exact ne_zs_zm)⟩
theorem d4_0 : decode prog_71_method_3_code 0 = .ok (.iload_n 1, 1) := by decide +kernel
theorem d4_1 : decode prog_71_method_3_code 1 = .ok (.istore_n 2, 1) := by decide +kernel
theorem d4_2 : decode prog_71_method_3_code 2 = .ok (.aload_n 0, 1) := by decide +kernel
theorem d4_3 : decode prog_71_method_3_code 3 = .ok (.getfield 7, 3) := by decide +kernel
theorem d4_6 : decode prog_71_method_3_code 6 = .ok (.iload_n 2, 1) := by decide +kernel
theorem d4_7 : decode prog_71_method_3_code 7 = .ok (.iaload, 1) := by decide +kernel
theorem d4_8 : decode prog_71_method_3_code 8 = .ok (.iload_n 2, 1) := by decide +kernel
theorem d4_9 : decode prog_71_method_3_code 9 = .ok (.if_icmp .eq 30, 3) := by decide +kernel
theorem d4_12 : decode prog_71_method_3_code 12 = .ok (.aload_n 0, 1) := by decide +kernel
theorem d4_13 : decode prog_71_method_3_code 13 = .ok (.getfield 7, 3) := by decide +kernel
theorem d4_16 : decode prog_71_method_3_code 16 = .ok (.iload_n 2, 1) := by decide +kernel
theorem d4_17 : decode prog_71_method_3_code 17 = .ok (.aload_n 0, 1) := by decide +kernel
theorem d4_18 : decode prog_71_method_3_code 18 = .ok (.getfield 7, 3) := by decide +kernel
theorem d4_21 : decode prog_71_method_3_code 21 = .ok (.aload_n 0, 1) := by decide +kernel
theorem d4_22 : decode prog_71_method_3_code 22 = .ok (.getfield 7, 3) := by decide +kernel
theorem d4_25 : decode prog_71_method_3_code 25 = .ok (.iload_n 2, 1) := by decide +kernel
theorem d4_26 : decode prog_71_method_3_code 26 = .ok (.iaload, 1) := by decide +kernel
theorem d4_27 : decode prog_71_method_3_code 27 = .ok (.iaload, 1) := by decide +kernel
theorem d4_28 : decode prog_71_method_3_code 28 = .ok (.iastore, 1) := by decide +kernel
theorem d4_29 : decode prog_71_method_3_code 29 = .ok (.aload_n 0, 1) := by decide +kernel
theorem d4_30 : decode prog_71_method_3_code 30 = .ok (.getfield 7, 3) := by decide +kernel
theorem d4_33 : decode prog_71_method_3_code 33 = .ok (.iload_n 2, 1) := by decide +kernel
theorem d4_34 : decode prog_71_method_3_code 34 = .ok (.iaload, 1) := by decide +kernel
theorem d4_35 : decode prog_71_method_3_code 35 = .ok (.istore_n 2, 1) := by decide +kernel
theorem d4_36 : decode prog_71_method_3_code 36 = .ok (.goto (-34), 3) := by decide +kernel
theorem d4_39 : decode prog_71_method_3_code 39 = .ok (.iload_n 2, 1) := by decide +kernel
theorem d4_40 : decode prog_71_method_3_code 40 = .ok (.ireturn, 1) := by decide +kernel
theorem ef_4 (m : MethodId) (zo : Addr) (zx : Int32) : entryFrame m #[(.ref zo), (.int zx)] 3 = mkF m 0 #[.val (.ref zo), .val (.int zx), .unset] [] := by first | (simp [entryFrame, mkF, argsToLocals, Value.category]; done) | rfl
def Q4 (Z : State) (zo : Addr) (zx : Int32) (zp : Addr) (zk : ClassId) (zP : List Int32) (h0 : Heap) (n0 : Nat) (v : Option Value) (h : Heap) (L : List Loc) : Prop := v = some (.int (own_rt 4 zP zx).2) ∧ Fr n0 L ∧ Keep h0 h [zp] ∧ Arv Z h zp zk .int (4 : Int32) (List.map Value.int (own_rt 4 zP zx).1) (.int (0 : Int32))
set_option maxRecDepth 65536 in
set_option maxHeartbeats 40000000 in
theorem rm4 (l : Launch) (Z : State) (a0 : Array Value) (hw : ∀ d ∈ tables_1, d.before a0 Z = true) (ws : List Jvm.Cond) (zo : Addr) (zx : Int32) (zp : Addr) (zk : ClassId) (zP : List Int32) (h0 : Heap) (n0 : Nat) (Z0 : n0 ≤ h0.size) (P0 : Fld Z h0 zo "com/example/ringspan/ringspan/symmetry/Orbits" "parents" "[I" (.ref zp)) (P1 : Arv Z h0 zp zk .int (4 : Int32) (List.map Value.int zP) (.int (0 : Int32))) (g_zp : n0 ≤ zp) (hne : zo ≠ zp) (hP : own_al zP) (hix : own_in zx) (hok : own_ok 4 zP zx = true) :
    MetFree l (⟨"com/example/ringspan/ringspan/symmetry/Orbits", "root", "(I)I"⟩ : MethodName) (head1 (Jvm.Cond.code (⟨"com/example/ringspan/ringspan/symmetry/Orbits", "root", "(I)I"⟩ : MethodName) prog_71_method_3_code 3 (some .int) :: ws) ({ frames := 0, cells := 0, slots := 0, locals := 0 } : Room)) (fun a U => a = #[(.ref zo), (.int zx)] ∧ Z.Warmed39 U.vm ∧ U.heap = h0) (fun _ _ _ _ _ => True) (fun _ U o U' => ∃ v L, o = .returned v ∧ Q4 Z zo zx zp zk zP h0 n0 v U'.heap L ∧ FrameEnd U o U' L ({ frames := 0, cells := 0, slots := 0, locals := 0 } : Room).cells ({ frames := 0, cells := 0, slots := 0, locals := 0 } : Room).slots) := by
  refine MetFree.of_bodySF (plainFor_of_name own_pn85677) hisR ?_
  intro p e s m args below meth c s₁ Bd hml0 hP hK
  obtain ⟨rfl, hZ, hh⟩ := hP
  have hx := Bd.exec
  have hby := Bd.bytes
  have hml : c.maxLocals = 3 := hml0
  have hown : s.vm.findClass "com/example/ringspan/ringspan/symmetry/Orbits" = some m.cls := findClass_of_methodNamed Bd.named
  have hnm := (name_of_methodNamed Bd.named Bd.method).1
  have X0 : Stand p l e ({ frames := 0, cells := 0, slots := 0, locals := 0 } : Room) s m #[(.ref zo), (.int zx)] below meth c s₁ [] 0 0 := Stand.of_body Bd
  have e0 : s₁.heap = h0 := by rw [← hh, Bd.state]; rfl
  have N0 := Fr.nil n0
  have K0 := Keep.refl h0 [zp]
  show own_WP p e below (own_E s (Q4 Z zo zx zp zk zP h0 n0) 0 0) s₁ (entryFrame m #[(.ref zo), (.int zx)] 3)
  rw [ef_4 m zo zx]
  show own_WP _ _ _ _ s₁ (mkF m 0 #[.val (.ref zo), .val (.int zx), .unset] [])
  refine own_go (fun t k => XS.iloadN X0.here hx rfl (hb hby d4_0) rfl  k) ?_
  show own_WP _ _ _ _ s₁ (mkF m 1 #[.val (.ref zo), .val (.int zx), .unset] [(.int zx)])
  refine own_go (fun t k => XS.istoreN X0.here hx rfl (hb hby d4_1) rfl (l' := #[.val (.ref zo), .val (.int zx), .val (.int zx)]) rfl k) ?_
  have J2 : ∀ (zw : Nat) (zr : Int32) (zQ : List Int32) (T1 : State) (h1 : Heap) (L1 : List Loc), Stand p l e ({ frames := 0, cells := 0, slots := 0, locals := 0 } : Room) s m #[(.ref zo), (.int zx)] below meth c T1 L1 0 0 → T1.heap = h1 → Fr n0 L1 → Keep h0 h1 [zp] → Fld Z h1 zo "com/example/ringspan/ringspan/symmetry/Orbits" "parents" "[I" (.ref zp) → Arv Z h1 zp zk .int (4 : Int32) (List.map Value.int zQ) (.int (0 : Int32)) → (own_al zQ) → (own_in zr) → (own_ok zw zQ zr = true) → (own_rt zw zQ zr = own_rt 4 zP zx) → own_WP p e below (own_E s (Q4 Z zo zx zp zk zP h0 n0) 0 0) T1 (mkF m 2 #[.val (.ref zo), .val (.int zx), .val (.int zr)] []) := by
    intro zw
    induction zw using Nat.strongRecOn with
    | _ zw ih =>
      intro zr zQ T1 h1 L1 X1 e1 N1 K1j f2 f3 hQ hr hk he
      obtain ⟨zj, rfl⟩ := own_okp hk
      show own_WP _ _ _ _ T1 (mkF m 2 #[.val (.ref zo), .val (.int zx), .val (.int zr)] [])
      refine own_go (fun t k => XS.aloadN X1.here hx rfl (hb hby d4_2) rfl rfl  k) ?_
      show own_WP _ _ _ _ T1 (mkF m 3 #[.val (.ref zo), .val (.int zx), .val (.int zr)] [(.ref zo)])
      obtain ⟨T4, X4, e4, st4⟩ := getF X1 hx hZ hown (host := "") (Or.inl (hw _ (List.mem_of_getElem? (i := 10) rfl))) Via.refl e1 f2 (g := (mkF m 3 #[.val (.ref zo), .val (.int zx), .val (.int zr)] [(.ref zo)])) rfl rfl (hb hby d4_3)
      refine own_go st4 ?_
      show own_WP _ _ _ _ T4 (mkF m 6 #[.val (.ref zo), .val (.int zx), .val (.int zr)] [(.ref zp)])
      refine own_go (fun t k => XS.iloadN X4.here hx rfl (hb hby d4_6) rfl  k) ?_
      show own_WP _ _ _ _ T4 (mkF m 7 #[.val (.ref zo), .val (.int zx), .val (.int zr)] [(.int zr), (.ref zp)])
      refine own_ldI X4 hx hZ e4 f3 (j := zr) (w := (own_g zQ zr)) hr (own_mg _ _) (hb hby d4_7) ?_
      show own_WP _ _ _ _ T4 (mkF m 8 #[.val (.ref zo), .val (.int zx), .val (.int zr)] [(.int (own_g zQ zr))])
      refine own_go (fun t k => XS.iloadN X4.here hx rfl (hb hby d4_8) rfl  k) ?_
      show own_WP _ _ _ _ T4 (mkF m 9 #[.val (.ref zo), .val (.int zx), .val (.int zr)] [(.int zr), (.int (own_g zQ zr))])
      by_cases hc9 : (own_g zQ zr) = zr
      · refine own_go (fun t k => XS.icmpYes X4.here hx rfl (pc0 := 9) (pc' := 39) rfl (hb hby d4_9) rfl (teq hc9).1 (by decide) (by decide) k) ?_
        show own_WP _ _ _ _ T4 (mkF m 39 #[.val (.ref zo), .val (.int zx), .val (.int zr)] [])
        refine own_go (fun t k => XS.iloadN X4.here hx rfl (hb hby d4_39) rfl  k) ?_
        show own_WP _ _ _ _ T4 (mkF m 40 #[.val (.ref zo), .val (.int zx), .val (.int zr)] [(.int zr)])
        refine own_retI X4 hx Bd.notSynchronized Bd.returns (hb hby d4_40) (by decide) (by decide) ?_
        rw [e4]
        exact ⟨(congrArg (fun z => some (Value.int z)) (show zr = (own_rt 4 zP zx).2 from by rw [← he, own_rts, if_pos hc9])), N1, K1j, ((show ((List.map Value.int zQ) : List Value) = (List.map Value.int (own_rt 4 zP zx).1) from by rw [← he, own_rts, if_pos hc9]) ▸ f3)⟩
      · refine own_go (fun t k => XS.icmpNo X4.here hx rfl (hb hby d4_9) rfl (feq hc9).1 k) ?_
        show own_WP _ _ _ _ T4 (mkF m 12 #[.val (.ref zo), .val (.int zx), .val (.int zr)] [])
        refine own_go (fun t k => XS.aloadN X4.here hx rfl (hb hby d4_12) rfl rfl  k) ?_
        show own_WP _ _ _ _ T4 (mkF m 13 #[.val (.ref zo), .val (.int zx), .val (.int zr)] [(.ref zo)])
        obtain ⟨T5, X5, e5, st5⟩ := getF X4 hx hZ hown (host := "") (Or.inl (hw _ (List.mem_of_getElem? (i := 10) rfl))) Via.refl e4 f2 (g := (mkF m 13 #[.val (.ref zo), .val (.int zx), .val (.int zr)] [(.ref zo)])) rfl rfl (hb hby d4_13)
        refine own_go st5 ?_
        show own_WP _ _ _ _ T5 (mkF m 16 #[.val (.ref zo), .val (.int zx), .val (.int zr)] [(.ref zp)])
        refine own_go (fun t k => XS.iloadN X5.here hx rfl (hb hby d4_16) rfl  k) ?_
        show own_WP _ _ _ _ T5 (mkF m 17 #[.val (.ref zo), .val (.int zx), .val (.int zr)] [(.int zr), (.ref zp)])
        refine own_go (fun t k => XS.aloadN X5.here hx rfl (hb hby d4_17) rfl rfl  k) ?_
        show own_WP _ _ _ _ T5 (mkF m 18 #[.val (.ref zo), .val (.int zx), .val (.int zr)] [(.ref zo), (.int zr), (.ref zp)])
        obtain ⟨T6, X6, e6, st6⟩ := getF X5 hx hZ hown (host := "") (Or.inl (hw _ (List.mem_of_getElem? (i := 10) rfl))) Via.refl e5 f2 (g := (mkF m 18 #[.val (.ref zo), .val (.int zx), .val (.int zr)] [(.ref zo), (.int zr), (.ref zp)])) rfl rfl (hb hby d4_18)
        refine own_go st6 ?_
        show own_WP _ _ _ _ T6 (mkF m 21 #[.val (.ref zo), .val (.int zx), .val (.int zr)] [(.ref zp), (.int zr), (.ref zp)])
        refine own_go (fun t k => XS.aloadN X6.here hx rfl (hb hby d4_21) rfl rfl  k) ?_
        show own_WP _ _ _ _ T6 (mkF m 22 #[.val (.ref zo), .val (.int zx), .val (.int zr)] [(.ref zo), (.ref zp), (.int zr), (.ref zp)])
        obtain ⟨T7, X7, e7, st7⟩ := getF X6 hx hZ hown (host := "") (Or.inl (hw _ (List.mem_of_getElem? (i := 10) rfl))) Via.refl e6 f2 (g := (mkF m 22 #[.val (.ref zo), .val (.int zx), .val (.int zr)] [(.ref zo), (.ref zp), (.int zr), (.ref zp)])) rfl rfl (hb hby d4_22)
        refine own_go st7 ?_
        show own_WP _ _ _ _ T7 (mkF m 25 #[.val (.ref zo), .val (.int zx), .val (.int zr)] [(.ref zp), (.ref zp), (.int zr), (.ref zp)])
        refine own_go (fun t k => XS.iloadN X7.here hx rfl (hb hby d4_25) rfl  k) ?_
        show own_WP _ _ _ _ T7 (mkF m 26 #[.val (.ref zo), .val (.int zx), .val (.int zr)] [(.int zr), (.ref zp), (.ref zp), (.int zr), (.ref zp)])
        refine own_ldI X7 hx hZ e7 f3 (j := zr) (w := (own_g zQ zr)) hr (own_mg _ _) (hb hby d4_26) ?_
        show own_WP _ _ _ _ T7 (mkF m 27 #[.val (.ref zo), .val (.int zx), .val (.int zr)] [(.int (own_g zQ zr)), (.ref zp), (.int zr), (.ref zp)])
        refine own_ldI X7 hx hZ e7 f3 (j := (own_g zQ zr)) (w := (own_g zQ (own_g zQ zr))) (own_alg hQ _) (own_mg _ _) (hb hby d4_27) ?_
        show own_WP _ _ _ _ T7 (mkF m 28 #[.val (.ref zo), .val (.int zx), .val (.int zr)] [(.int (own_g zQ (own_g zQ zr))), (.int zr), (.ref zp)])
        refine own_stI X7 hx hZ e7 f3 (j := zr) hr (i := zr.toNatClampNeg) rfl (by simp only [List.length_map, List.length_set, hQ.1]; exact own_lt4 hr) (hb hby d4_28) ?_
        intro T8 h8 X8 e8 W8 V8
        have f9 : Arv Z h8 zp zk .int (4 : Int32) (List.map Value.int (zQ.set zr.toNatClampNeg (own_g zQ (own_g zQ zr)))) (.int (0 : Int32)) := (by rw [List.map_set]; exact V8)
        have f10 : Fld Z h8 zo "com/example/ringspan/ringspan/symmetry/Orbits" "parents" "[I" (.ref zp) := f2.other W8 (Or.inl hne)
        have K12 : Keep h0 h8 [zp] := K1j.wr W8 (Or.inl (List.mem_of_getElem? (i := 0) rfl))
        have N13 := Fr.snoc X8 N1 g_zp
        show own_WP _ _ _ _ T8 (mkF m 29 #[.val (.ref zo), .val (.int zx), .val (.int zr)] [])
        refine own_go (fun t k => XS.aloadN X8.here hx rfl (hb hby d4_29) rfl rfl  k) ?_
        show own_WP _ _ _ _ T8 (mkF m 30 #[.val (.ref zo), .val (.int zx), .val (.int zr)] [(.ref zo)])
        obtain ⟨T14, X14, e14, st14⟩ := getF X8 hx hZ hown (host := "") (Or.inl (hw _ (List.mem_of_getElem? (i := 10) rfl))) Via.refl e8 f10 (g := (mkF m 30 #[.val (.ref zo), .val (.int zx), .val (.int zr)] [(.ref zo)])) rfl rfl (hb hby d4_30)
        refine own_go st14 ?_
        show own_WP _ _ _ _ T14 (mkF m 33 #[.val (.ref zo), .val (.int zx), .val (.int zr)] [(.ref zp)])
        refine own_go (fun t k => XS.iloadN X14.here hx rfl (hb hby d4_33) rfl  k) ?_
        show own_WP _ _ _ _ T14 (mkF m 34 #[.val (.ref zo), .val (.int zx), .val (.int zr)] [(.int zr), (.ref zp)])
        refine own_ldI X14 hx hZ e14 f9 (j := zr) (w := (own_g (zQ.set zr.toNatClampNeg (own_g zQ (own_g zQ zr))) zr)) hr (own_mg _ _) (hb hby d4_34) ?_
        show own_WP _ _ _ _ T14 (mkF m 35 #[.val (.ref zo), .val (.int zx), .val (.int zr)] [(.int (own_g (zQ.set zr.toNatClampNeg (own_g zQ (own_g zQ zr))) zr))])
        refine own_go (fun t k => XS.istoreN X14.here hx rfl (hb hby d4_35) rfl (l' := #[.val (.ref zo), .val (.int zx), .val (.int (own_g (zQ.set zr.toNatClampNeg (own_g zQ (own_g zQ zr))) zr))]) rfl k) ?_
        show own_WP _ _ _ _ T14 (mkF m 36 #[.val (.ref zo), .val (.int zx), .val (.int (own_g (zQ.set zr.toNatClampNeg (own_g zQ (own_g zQ zr))) zr))] [])
        refine own_go (fun t k => XS.goto X14.here hx rfl (pc0 := 36) (pc' := 2) rfl (hb hby d4_36) (by decide) (by decide) k) ?_
        show own_WP _ _ _ _ T14 (mkF m 2 #[.val (.ref zo), .val (.int zx), .val (.int (own_g (zQ.set zr.toNatClampNeg (own_g zQ (own_g zQ zr))) zr))] [])
        exact ih zj (Nat.lt_succ_self _) ((own_g (zQ.set zr.toNatClampNeg (own_g zQ (own_g zQ zr))) zr)) ((zQ.set zr.toNatClampNeg (own_g zQ (own_g zQ zr)))) _ _ _ X14 e14 N13 K12 f10 f9 (own_als hQ _ (own_alg hQ _)) (own_alg (own_als hQ _ (own_alg hQ _)) _) (by rw [own_oks, if_neg hc9] at hk; exact hk) (by rw [← he, own_rts, if_neg hc9])
  show own_WP _ _ _ _ s₁ (mkF m 2 #[.val (.ref zo), .val (.int zx), .val (.int zx)] [])
  exact J2 4 zx zP _ _ _ X0 e0 N0 K0 P0 P1 (hP) (hix) (hok) (rfl)
theorem own_pd81837 : parseMethodDescriptor "(I)I" = some ⟨[.int], some .int⟩ := by decide +kernel
theorem own_pd31088 : parseMethodDescriptor "(II)I" = some ⟨[.int, .int], some .int⟩ := by decide +kernel
theorem d3_0 : decode prog_71_method_8_code 0 = .ok (.aload_n 0, 1) := by decide +kernel
theorem d3_1 : decode prog_71_method_8_code 1 = .ok (.iload_n 1, 1) := by decide +kernel
theorem d3_2 : decode prog_71_method_8_code 2 = .ok (.invokevirtual 27, 3) := by decide +kernel
theorem d3_5 : decode prog_71_method_8_code 5 = .ok (.istore_n 3, 1) := by decide +kernel
theorem d3_6 : decode prog_71_method_8_code 6 = .ok (.aload_n 0, 1) := by decide +kernel
theorem d3_7 : decode prog_71_method_8_code 7 = .ok (.iload_n 2, 1) := by decide +kernel
theorem d3_8 : decode prog_71_method_8_code 8 = .ok (.invokevirtual 27, 3) := by decide +kernel
theorem d3_11 : decode prog_71_method_8_code 11 = .ok (.istore 4, 2) := by decide +kernel
theorem d3_13 : decode prog_71_method_8_code 13 = .ok (.iload_n 3, 1) := by decide +kernel
theorem d3_14 : decode prog_71_method_8_code 14 = .ok (.iload 4, 2) := by decide +kernel
theorem d3_16 : decode prog_71_method_8_code 16 = .ok (.if_icmp .eq 101, 3) := by decide +kernel
theorem d3_19 : decode prog_71_method_8_code 19 = .ok (.aload_n 0, 1) := by decide +kernel
theorem d3_20 : decode prog_71_method_8_code 20 = .ok (.getfield 13, 3) := by decide +kernel
theorem d3_23 : decode prog_71_method_8_code 23 = .ok (.iload_n 3, 1) := by decide +kernel
theorem d3_24 : decode prog_71_method_8_code 24 = .ok (.iaload, 1) := by decide +kernel
theorem d3_25 : decode prog_71_method_8_code 25 = .ok (.aload_n 0, 1) := by decide +kernel
theorem d3_26 : decode prog_71_method_8_code 26 = .ok (.getfield 13, 3) := by decide +kernel
theorem d3_29 : decode prog_71_method_8_code 29 = .ok (.iload 4, 2) := by decide +kernel
theorem d3_31 : decode prog_71_method_8_code 31 = .ok (.iaload, 1) := by decide +kernel
theorem d3_32 : decode prog_71_method_8_code 32 = .ok (.if_icmp .lt 7, 3) := by decide +kernel
theorem d3_35 : decode prog_71_method_8_code 35 = .ok (.iload_n 3, 1) := by decide +kernel
theorem d3_36 : decode prog_71_method_8_code 36 = .ok (.goto 5, 3) := by decide +kernel
theorem d3_39 : decode prog_71_method_8_code 39 = .ok (.iload 4, 2) := by decide +kernel
theorem d3_41 : decode prog_71_method_8_code 41 = .ok (.istore 5, 2) := by decide +kernel
theorem d3_43 : decode prog_71_method_8_code 43 = .ok (.iload 5, 2) := by decide +kernel
theorem d3_45 : decode prog_71_method_8_code 45 = .ok (.iload_n 3, 1) := by decide +kernel
theorem d3_46 : decode prog_71_method_8_code 46 = .ok (.if_icmp .ne 8, 3) := by decide +kernel
theorem d3_49 : decode prog_71_method_8_code 49 = .ok (.iload 4, 2) := by decide +kernel
theorem d3_51 : decode prog_71_method_8_code 51 = .ok (.goto 4, 3) := by decide +kernel
theorem d3_54 : decode prog_71_method_8_code 54 = .ok (.iload_n 3, 1) := by decide +kernel
theorem d3_55 : decode prog_71_method_8_code 55 = .ok (.istore 6, 2) := by decide +kernel
theorem d3_57 : decode prog_71_method_8_code 57 = .ok (.aload_n 0, 1) := by decide +kernel
theorem d3_58 : decode prog_71_method_8_code 58 = .ok (.getfield 7, 3) := by decide +kernel
theorem d3_61 : decode prog_71_method_8_code 61 = .ok (.iload 6, 2) := by decide +kernel
theorem d3_63 : decode prog_71_method_8_code 63 = .ok (.iload 5, 2) := by decide +kernel
theorem d3_65 : decode prog_71_method_8_code 65 = .ok (.iastore, 1) := by decide +kernel
theorem d3_66 : decode prog_71_method_8_code 66 = .ok (.aload_n 0, 1) := by decide +kernel
theorem d3_67 : decode prog_71_method_8_code 67 = .ok (.getfield 13, 3) := by decide +kernel
theorem d3_70 : decode prog_71_method_8_code 70 = .ok (.iload 5, 2) := by decide +kernel
theorem d3_72 : decode prog_71_method_8_code 72 = .ok (.dup2, 1) := by decide +kernel
theorem d3_73 : decode prog_71_method_8_code 73 = .ok (.iaload, 1) := by decide +kernel
theorem d3_74 : decode prog_71_method_8_code 74 = .ok (.aload_n 0, 1) := by decide +kernel
theorem d3_75 : decode prog_71_method_8_code 75 = .ok (.getfield 13, 3) := by decide +kernel
theorem d3_78 : decode prog_71_method_8_code 78 = .ok (.iload 6, 2) := by decide +kernel
theorem d3_80 : decode prog_71_method_8_code 80 = .ok (.iaload, 1) := by decide +kernel
theorem d3_81 : decode prog_71_method_8_code 81 = .ok (.iadd, 1) := by decide +kernel
theorem d3_82 : decode prog_71_method_8_code 82 = .ok (.iastore, 1) := by decide +kernel
theorem d3_83 : decode prog_71_method_8_code 83 = .ok (.aload_n 0, 1) := by decide +kernel
theorem d3_84 : decode prog_71_method_8_code 84 = .ok (.getfield 16, 3) := by decide +kernel
theorem d3_87 : decode prog_71_method_8_code 87 = .ok (.iload 5, 2) := by decide +kernel
theorem d3_89 : decode prog_71_method_8_code 89 = .ok (.aload_n 0, 1) := by decide +kernel
theorem d3_90 : decode prog_71_method_8_code 90 = .ok (.getfield 16, 3) := by decide +kernel
theorem d3_93 : decode prog_71_method_8_code 93 = .ok (.iload 5, 2) := by decide +kernel
theorem d3_95 : decode prog_71_method_8_code 95 = .ok (.iaload, 1) := by decide +kernel
theorem d3_96 : decode prog_71_method_8_code 96 = .ok (.aload_n 0, 1) := by decide +kernel
theorem d3_97 : decode prog_71_method_8_code 97 = .ok (.getfield 16, 3) := by decide +kernel
theorem d3_100 : decode prog_71_method_8_code 100 = .ok (.iload 6, 2) := by decide +kernel
theorem d3_102 : decode prog_71_method_8_code 102 = .ok (.iaload, 1) := by decide +kernel
theorem d3_103 : decode prog_71_method_8_code 103 = .ok (.invokestatic 31, 3) := by decide +kernel
theorem d3_106 : decode prog_71_method_8_code 106 = .ok (.iastore, 1) := by decide +kernel
theorem d3_107 : decode prog_71_method_8_code 107 = .ok (.aload_n 0, 1) := by decide +kernel
theorem d3_108 : decode prog_71_method_8_code 108 = .ok (.dup, 1) := by decide +kernel
theorem d3_109 : decode prog_71_method_8_code 109 = .ok (.getfield 19, 3) := by decide +kernel
theorem d3_112 : decode prog_71_method_8_code 112 = .ok (.iconst 1, 1) := by decide +kernel
theorem d3_113 : decode prog_71_method_8_code 113 = .ok (.isub, 1) := by decide +kernel
theorem d3_114 : decode prog_71_method_8_code 114 = .ok (.putfield 19, 3) := by decide +kernel
theorem d3_117 : decode prog_71_method_8_code 117 = .ok (.return_, 1) := by decide +kernel
theorem ef_3 (m : MethodId) (zo : Addr) (zx : Int32) (zy : Int32) : entryFrame m #[(.ref zo), (.int zx), (.int zy)] 7 = mkF m 0 #[.val (.ref zo), .val (.int zx), .val (.int zy), .unset, .unset, .unset, .unset] [] := by first | (simp [entryFrame, mkF, argsToLocals, Value.category]; done) | rfl
def Q3 (Z : State) (zo : Addr) (zx : Int32) (zy : Int32) (zp : Addr) (zs : Addr) (zm : Addr) (zc : Int32) (zk1 : ClassId) (zP : List Int32) (zk2 : ClassId) (zS : List Int32) (zk3 : ClassId) (zM : List Int32) (h0 : Heap) (n0 : Nat) (v : Option Value) (h : Heap) (L : List Loc) : Prop := ∃ (rM : List Int32), ∃ (rc : Int32), v = none ∧ Fr n0 L ∧ Keep h0 h [zo, zp, zs, zm] ∧ Exa Z h zo "com/example/ringspan/ringspan/symmetry/Orbits" ∧ Fld Z h zo "com/example/ringspan/ringspan/symmetry/Orbits" "parents" "[I" (.ref zp) ∧ Fld Z h zo "com/example/ringspan/ringspan/symmetry/Orbits" "sizes" "[I" (.ref zs) ∧ Fld Z h zo "com/example/ringspan/ringspan/symmetry/Orbits" "marks" "[I" (.ref zm) ∧ Fld Z h zo "com/example/ringspan/ringspan/symmetry/Orbits" "count" "I" (.int rc) ∧ Arv Z h zp zk1 .int (4 : Int32) (List.map Value.int (own_jn zP zS zx zy).1) (.int (0 : Int32)) ∧ Arv Z h zs zk2 .int (4 : Int32) (List.map Value.int (own_jn zP zS zx zy).2) (.int (0 : Int32)) ∧ Arv Z h zm zk3 .int (4 : Int32) (List.map Value.int rM) (.int (0 : Int32)) ∧ (rM.length = 4)
set_option maxRecDepth 65536 in
set_option maxHeartbeats 40000000 in
theorem rm3 (l : Launch) (Z : State) (a0 : Array Value) (hw : ∀ d ∈ tables_1, d.before a0 Z = true) (ws : List Jvm.Cond) (zo : Addr) (zx : Int32) (zy : Int32) (zp : Addr) (zs : Addr) (zm : Addr) (zc : Int32) (zk1 : ClassId) (zP : List Int32) (zk2 : ClassId) (zS : List Int32) (zk3 : ClassId) (zM : List Int32) (h0 : Heap) (n0 : Nat) (Z0 : n0 ≤ h0.size) (P0 : Exa Z h0 zo "com/example/ringspan/ringspan/symmetry/Orbits") (P1 : Fld Z h0 zo "com/example/ringspan/ringspan/symmetry/Orbits" "parents" "[I" (.ref zp)) (P2 : Fld Z h0 zo "com/example/ringspan/ringspan/symmetry/Orbits" "sizes" "[I" (.ref zs)) (P3 : Fld Z h0 zo "com/example/ringspan/ringspan/symmetry/Orbits" "marks" "[I" (.ref zm)) (P4 : Fld Z h0 zo "com/example/ringspan/ringspan/symmetry/Orbits" "count" "I" (.int zc)) (P5 : Arv Z h0 zp zk1 .int (4 : Int32) (List.map Value.int zP) (.int (0 : Int32))) (P6 : Arv Z h0 zs zk2 .int (4 : Int32) (List.map Value.int zS) (.int (0 : Int32))) (P7 : Arv Z h0 zm zk3 .int (4 : Int32) (List.map Value.int zM) (.int (0 : Int32))) (g_zo : n0 ≤ zo) (g_zp : n0 ≤ zp) (g_zs : n0 ≤ zs) (g_zm : n0 ≤ zm) (nz1 : zo ≠ zp) (nz2 : zo ≠ zs) (nz3 : zo ≠ zm) (nz4 : zp ≠ zs) (nz5 : zp ≠ zm) (nz6 : zs ≠ zm) (hP : own_al zP) (hix : own_in zx) (hiy : own_in zy) (ho1 : own_ok 4 zP zx = true) (ho2 : own_ok 4 (own_rt 4 zP zx).1 zy = true) (hS : zS.length = 4) (hM : zM.length = 4) :
    MetFree l (⟨"com/example/ringspan/ringspan/symmetry/Orbits", "join", "(II)V"⟩ : MethodName) (head1 (Jvm.Cond.code (⟨"com/example/ringspan/ringspan/symmetry/Orbits", "join", "(II)V"⟩ : MethodName) prog_71_method_8_code 7 none :: ws) ({ frames := 1, cells := 0, slots := 0, locals := 15 } : Room)) (fun a U => a = #[(.ref zo), (.int zx), (.int zy)] ∧ Z.Warmed39 U.vm ∧ U.heap = h0) (fun _ _ _ _ _ => True) (fun _ U o U' => ∃ v L, o = .returned v ∧ Q3 Z zo zx zy zp zs zm zc zk1 zP zk2 zS zk3 zM h0 n0 v U'.heap L ∧ FrameEnd U o U' L ({ frames := 1, cells := 0, slots := 0, locals := 15 } : Room).cells ({ frames := 1, cells := 0, slots := 0, locals := 15 } : Room).slots) := by
  refine MetFree.of_bodySF (plainFor_of_name own_pn85677) hisR ?_
  intro p e s m args below meth c s₁ Bd hml0 hP hK
  obtain ⟨rfl, hZ, hh⟩ := hP
  have hx := Bd.exec
  have hby := Bd.bytes
  have hml : c.maxLocals = 7 := hml0
  have hown : s.vm.findClass "com/example/ringspan/ringspan/symmetry/Orbits" = some m.cls := findClass_of_methodNamed Bd.named
  have hnm := (name_of_methodNamed Bd.named Bd.method).1
  have X0 : Stand p l e ({ frames := 1, cells := 0, slots := 0, locals := 15 } : Room) s m #[(.ref zo), (.int zx), (.int zy)] below meth c s₁ [] 0 0 := Stand.of_body Bd
  have e0 : s₁.heap = h0 := by rw [← hh, Bd.state]; rfl
  have N0 := Fr.nil n0
  have K0 := Keep.refl h0 [zo, zp, zs, zm]
  show own_WP p e below (own_E s (Q3 Z zo zx zy zp zs zm zc zk1 zP zk2 zS zk3 zM h0 n0) 0 0) s₁ (entryFrame m #[(.ref zo), (.int zx), (.int zy)] 7)
  rw [ef_3 m zo zx zy]
  show own_WP _ _ _ _ s₁ (mkF m 0 #[.val (.ref zo), .val (.int zx), .val (.int zy), .unset, .unset, .unset, .unset] [])
  refine own_go (fun t k => XS.aloadN X0.here hx rfl (hb hby d3_0) rfl rfl  k) ?_
  show own_WP _ _ _ _ s₁ (mkF m 1 #[.val (.ref zo), .val (.int zx), .val (.int zy), .unset, .unset, .unset, .unset] [(.ref zo)])
  refine own_go (fun t k => XS.iloadN X0.here hx rfl (hb hby d3_1) rfl  k) ?_
  show own_WP _ _ _ _ s₁ (mkF m 2 #[.val (.ref zo), .val (.int zx), .val (.int zy), .unset, .unset, .unset, .unset] [(.int zx), (.ref zo)])
  obtain ⟨cq1, kq1, q1a, q1b, q1c⟩ := isOf hZ e0 P0
  obtain ⟨_, _, ⟨T1, L1, k1, n1⟩, -, X1, ⟨Lc1, hQ1, l1, y1, z1⟩, st1⟩ := X0.virtualBack hx (y := (⟨"com/example/ringspan/ringspan/symmetry/Orbits", "root", "(I)I"⟩ : MethodName)) (z := (⟨"com/example/ringspan/ringspan/symmetry/Orbits", "root", "(I)I"⟩ : MethodName)) hown (mvT hZ (hw _ (List.mem_of_getElem? (i := 23) rfl))) (mvT hZ (hw _ (List.mem_of_getElem? (i := 24) rfl))) (notFace_of_selects (args := #[]) (mvT hZ (hw _ (List.mem_of_getElem? (i := 26) rfl)))) (mvT hZ (hw _ (List.mem_of_getElem? (i := 26) rfl))) (mvT hZ (hw _ (List.mem_of_getElem? (i := 25) rfl))) (by decide) (backOf (W := 0) (rm4 l Z a0 hw [] zo zx zp zk1 zP h0 n0 (own_le Z0 K0) P1 P5 g_zp nz1 (show own_al zP from hP) (show own_in zx from hix) (show own_ok 4 zP zx = true from ho1)) hZ (hw _ (List.mem_of_getElem? (i := 27) rfl)) (hw _ (List.mem_of_getElem? (i := 2) rfl)) (by decide) (by decide)) q1a q1c (g := (mkF m 2 #[.val (.ref zo), .val (.int zx), .val (.int zy), .unset, .unset, .unset, .unset] [(.int zx), (.ref zo)])) rfl (by rw [hml]; rfl) (Steps.refl _) (argsL := [(.int zx)]) (rest := []) (lenOf own_pd81837 rfl) rfl (by show 2 * 0 + _ ≤ _; exact Nat.le_of_eq rfl) (hb hby d3_2) (fun _ _ => ⟨rfl, e0, (by decide : 0 + 0 ≤ _), (by decide : 0 + 0 ≤ _)⟩)
  dsimp only [Pt.U, Pt.locs, Pt.cells, Pt.slots] at X1 l1 y1 z1 st1 hQ1
  subst l1 y1 z1
  obtain ⟨rfl, N1q, Kc1, f2⟩ := hQ1
  have N1 := Fr.app N0 N1q
  refine own_tr st1 ?_
  have f3 : Exa Z T1.heap zo "com/example/ringspan/ringspan/symmetry/Orbits" := P0.keep Kc1
  have f4 : Fld Z T1.heap zo "com/example/ringspan/ringspan/symmetry/Orbits" "parents" "[I" (.ref zp) := P1.keep Kc1 (own_nm nz1)
  have f5 : Fld Z T1.heap zo "com/example/ringspan/ringspan/symmetry/Orbits" "sizes" "[I" (.ref zs) := P2.keep Kc1 (own_nm nz1)
  have f6 : Fld Z T1.heap zo "com/example/ringspan/ringspan/symmetry/Orbits" "marks" "[I" (.ref zm) := P3.keep Kc1 (own_nm nz1)
  have f7 : Fld Z T1.heap zo "com/example/ringspan/ringspan/symmetry/Orbits" "count" "I" (.int zc) := P4.keep Kc1 (own_nm nz1)
  have f9 : Arv Z T1.heap zs zk2 .int (4 : Int32) (List.map Value.int zS) (.int (0 : Int32)) := P6.keep Kc1 (own_nm (Ne.symm nz4))
  have f10 : Arv Z T1.heap zm zk3 .int (4 : Int32) (List.map Value.int zM) (.int (0 : Int32)) := P7.keep Kc1 (own_nm (Ne.symm nz5))
  have K11 : Keep h0 T1.heap [zo, zp, zs, zm] := K0.trans Kc1 (fun x hx => by cases List.mem_singleton.mp hx; exact Or.inl (List.mem_of_getElem? (i := 1) rfl))
  show own_WP _ _ _ _ T1 (mkF m 5 #[.val (.ref zo), .val (.int zx), .val (.int zy), .unset, .unset, .unset, .unset] [(.int (own_rt 4 zP zx).2)])
  generalize d_zr1 : (own_rt 4 zP zx).2 = zr1
  refine own_go (fun t k => XS.istoreN X1.here hx rfl (hb hby d3_5) rfl (l' := #[.val (.ref zo), .val (.int zx), .val (.int zy), .val (.int zr1), .unset, .unset, .unset]) rfl k) ?_
  have hi1 : own_in zr1 := by rw [← d_zr1]; exact (own_rtin 4 _ _ hP hix).2
  show own_WP _ _ _ _ T1 (mkF m 6 #[.val (.ref zo), .val (.int zx), .val (.int zy), .val (.int zr1), .unset, .unset, .unset] [])
  refine own_go (fun t k => XS.aloadN X1.here hx rfl (hb hby d3_6) rfl rfl  k) ?_
  show own_WP _ _ _ _ T1 (mkF m 7 #[.val (.ref zo), .val (.int zx), .val (.int zy), .val (.int zr1), .unset, .unset, .unset] [(.ref zo)])
  refine own_go (fun t k => XS.iloadN X1.here hx rfl (hb hby d3_7) rfl  k) ?_
  show own_WP _ _ _ _ T1 (mkF m 8 #[.val (.ref zo), .val (.int zx), .val (.int zy), .val (.int zr1), .unset, .unset, .unset] [(.int zy), (.ref zo)])
  obtain ⟨cq12, kq12, q12a, q12b, q12c⟩ := isOf hZ rfl f3
  obtain ⟨_, _, ⟨T12, L12, k12, n12⟩, -, X12, ⟨Lc12, hQ12, l12, y12, z12⟩, st12⟩ := X1.virtualBack hx (y := (⟨"com/example/ringspan/ringspan/symmetry/Orbits", "root", "(I)I"⟩ : MethodName)) (z := (⟨"com/example/ringspan/ringspan/symmetry/Orbits", "root", "(I)I"⟩ : MethodName)) hown (mvT hZ (hw _ (List.mem_of_getElem? (i := 23) rfl))) (mvT hZ (hw _ (List.mem_of_getElem? (i := 24) rfl))) (notFace_of_selects (args := #[]) (mvT hZ (hw _ (List.mem_of_getElem? (i := 26) rfl)))) (mvT hZ (hw _ (List.mem_of_getElem? (i := 26) rfl))) (mvT hZ (hw _ (List.mem_of_getElem? (i := 25) rfl))) (by decide) (backOf (W := 0) (rm4 l Z a0 hw [] zo zy zp zk1 ((own_rt 4 zP zx).1) T1.heap n0 (own_le Z0 K11) f4 f2 g_zp nz1 (show own_al (own_rt 4 zP zx).1 from (own_rtin 4 _ _ hP hix).1) (show own_in zy from hiy) (show own_ok 4 (own_rt 4 zP zx).1 zy = true from ho2)) hZ (hw _ (List.mem_of_getElem? (i := 27) rfl)) (hw _ (List.mem_of_getElem? (i := 2) rfl)) (by decide) (by decide)) q12a q12c (g := (mkF m 8 #[.val (.ref zo), .val (.int zx), .val (.int zy), .val (.int zr1), .unset, .unset, .unset] [(.int zy), (.ref zo)])) rfl (by rw [hml]; rfl) (Steps.refl _) (argsL := [(.int zy)]) (rest := []) (lenOf own_pd81837 rfl) rfl (by show 2 * 0 + _ ≤ _; exact Nat.le_of_eq rfl) (hb hby d3_8) (fun _ _ => ⟨rfl, rfl, (by decide : 0 + 0 ≤ _), (by decide : 0 + 0 ≤ _)⟩)
  dsimp only [Pt.U, Pt.locs, Pt.cells, Pt.slots] at X12 l12 y12 z12 st12 hQ12
  subst l12 y12 z12
  obtain ⟨rfl, N12q, Kc12, f13⟩ := hQ12
  have N12 := Fr.app N1 N12q
  refine own_tr st12 ?_
  have f14 : Exa Z T12.heap zo "com/example/ringspan/ringspan/symmetry/Orbits" := f3.keep Kc12
  have f15 : Fld Z T12.heap zo "com/example/ringspan/ringspan/symmetry/Orbits" "parents" "[I" (.ref zp) := f4.keep Kc12 (own_nm nz1)
  have f16 : Fld Z T12.heap zo "com/example/ringspan/ringspan/symmetry/Orbits" "sizes" "[I" (.ref zs) := f5.keep Kc12 (own_nm nz1)
  have f17 : Fld Z T12.heap zo "com/example/ringspan/ringspan/symmetry/Orbits" "marks" "[I" (.ref zm) := f6.keep Kc12 (own_nm nz1)
  have f18 : Fld Z T12.heap zo "com/example/ringspan/ringspan/symmetry/Orbits" "count" "I" (.int zc) := f7.keep Kc12 (own_nm nz1)
  have f19 : Arv Z T12.heap zs zk2 .int (4 : Int32) (List.map Value.int zS) (.int (0 : Int32)) := f9.keep Kc12 (own_nm (Ne.symm nz4))
  have f20 : Arv Z T12.heap zm zk3 .int (4 : Int32) (List.map Value.int zM) (.int (0 : Int32)) := f10.keep Kc12 (own_nm (Ne.symm nz5))
  have K22 : Keep h0 T12.heap [zo, zp, zs, zm] := K11.trans Kc12 (fun x hx => by cases List.mem_singleton.mp hx; exact Or.inl (List.mem_of_getElem? (i := 1) rfl))
  show own_WP _ _ _ _ T12 (mkF m 11 #[.val (.ref zo), .val (.int zx), .val (.int zy), .val (.int zr1), .unset, .unset, .unset] [(.int (own_rt 4 (own_rt 4 zP zx).1 zy).2)])
  generalize d_zr2 : (own_rt 4 (own_rt 4 zP zx).1 zy).2 = zr2
  refine own_go (fun t k => XS.istore X12.here hx rfl (hb hby d3_11) rfl (l' := #[.val (.ref zo), .val (.int zx), .val (.int zy), .val (.int zr1), .val (.int zr2), .unset, .unset]) rfl k) ?_
  have hi2 : own_in zr2 := by rw [← d_zr2]; exact (own_rtin 4 _ _ (own_rtin 4 _ _ hP hix).1 hiy).2
  show own_WP _ _ _ _ T12 (mkF m 13 #[.val (.ref zo), .val (.int zx), .val (.int zy), .val (.int zr1), .val (.int zr2), .unset, .unset] [])
  refine own_go (fun t k => XS.iloadN X12.here hx rfl (hb hby d3_13) rfl  k) ?_
  show own_WP _ _ _ _ T12 (mkF m 14 #[.val (.ref zo), .val (.int zx), .val (.int zy), .val (.int zr1), .val (.int zr2), .unset, .unset] [(.int zr1)])
  refine own_go (fun t k => XS.iload X12.here hx rfl (hb hby d3_14) rfl  k) ?_
  show own_WP _ _ _ _ T12 (mkF m 16 #[.val (.ref zo), .val (.int zx), .val (.int zy), .val (.int zr1), .val (.int zr2), .unset, .unset] [(.int zr2), (.int zr1)])
  by_cases hc16 : zr1 = zr2
  · refine own_go (fun t k => XS.icmpYes X12.here hx rfl (pc0 := 16) (pc' := 117) rfl (hb hby d3_16) rfl (teq hc16).1 (by decide) (by decide) k) ?_
    show own_WP _ _ _ _ T12 (mkF m 117 #[.val (.ref zo), .val (.int zx), .val (.int zy), .val (.int zr1), .val (.int zr2), .unset, .unset] [])
    refine own_retV X12 hx Bd.notSynchronized Bd.returns (hb hby d3_117) (by decide) (by decide) ?_
    exact ⟨zM, zc, rfl, N12, K22, f14, f15, f16, f17, f18, ((show ((List.map Value.int (own_rt 4 (own_rt 4 zP zx).1 zy).1) : List Value) = (List.map Value.int (own_jn zP zS zx zy).1) from by exact congrArg (fun q : List Int32 × List Int32 => List.map Value.int q.1) (own_jnE d_zr1 d_zr2 hc16).symm) ▸ f13), ((show ((List.map Value.int zS) : List Value) = (List.map Value.int (own_jn zP zS zx zy).2) from by exact congrArg (fun q : List Int32 × List Int32 => List.map Value.int q.2) (own_jnE d_zr1 d_zr2 hc16).symm) ▸ f19), f20, (by simp only [List.length_set, hM])⟩
  · refine own_go (fun t k => XS.icmpNo X12.here hx rfl (hb hby d3_16) rfl (feq hc16).1 k) ?_
    show own_WP _ _ _ _ T12 (mkF m 19 #[.val (.ref zo), .val (.int zx), .val (.int zy), .val (.int zr1), .val (.int zr2), .unset, .unset] [])
    refine own_go (fun t k => XS.aloadN X12.here hx rfl (hb hby d3_19) rfl rfl  k) ?_
    show own_WP _ _ _ _ T12 (mkF m 20 #[.val (.ref zo), .val (.int zx), .val (.int zy), .val (.int zr1), .val (.int zr2), .unset, .unset] [(.ref zo)])
    obtain ⟨T23, X23, e23, st23⟩ := getF X12 hx hZ hown (host := "") (Or.inl (hw _ (List.mem_of_getElem? (i := 12) rfl))) Via.refl rfl f16 (g := (mkF m 20 #[.val (.ref zo), .val (.int zx), .val (.int zy), .val (.int zr1), .val (.int zr2), .unset, .unset] [(.ref zo)])) rfl rfl (hb hby d3_20)
    refine own_go st23 ?_
    show own_WP _ _ _ _ T23 (mkF m 23 #[.val (.ref zo), .val (.int zx), .val (.int zy), .val (.int zr1), .val (.int zr2), .unset, .unset] [(.ref zs)])
    refine own_go (fun t k => XS.iloadN X23.here hx rfl (hb hby d3_23) rfl  k) ?_
    show own_WP _ _ _ _ T23 (mkF m 24 #[.val (.ref zo), .val (.int zx), .val (.int zy), .val (.int zr1), .val (.int zr2), .unset, .unset] [(.int zr1), (.ref zs)])
    refine own_ldI X23 hx hZ e23 f19 (j := zr1) (w := (own_g zS zr1)) hi1 (own_mg _ _) (hb hby d3_24) ?_
    show own_WP _ _ _ _ T23 (mkF m 25 #[.val (.ref zo), .val (.int zx), .val (.int zy), .val (.int zr1), .val (.int zr2), .unset, .unset] [(.int (own_g zS zr1))])
    refine own_go (fun t k => XS.aloadN X23.here hx rfl (hb hby d3_25) rfl rfl  k) ?_
    show own_WP _ _ _ _ T23 (mkF m 26 #[.val (.ref zo), .val (.int zx), .val (.int zy), .val (.int zr1), .val (.int zr2), .unset, .unset] [(.ref zo), (.int (own_g zS zr1))])
    obtain ⟨T24, X24, e24, st24⟩ := getF X23 hx hZ hown (host := "") (Or.inl (hw _ (List.mem_of_getElem? (i := 12) rfl))) Via.refl e23 f16 (g := (mkF m 26 #[.val (.ref zo), .val (.int zx), .val (.int zy), .val (.int zr1), .val (.int zr2), .unset, .unset] [(.ref zo), (.int (own_g zS zr1))])) rfl rfl (hb hby d3_26)
    refine own_go st24 ?_
    show own_WP _ _ _ _ T24 (mkF m 29 #[.val (.ref zo), .val (.int zx), .val (.int zy), .val (.int zr1), .val (.int zr2), .unset, .unset] [(.ref zs), (.int (own_g zS zr1))])
    refine own_go (fun t k => XS.iload X24.here hx rfl (hb hby d3_29) rfl  k) ?_
    show own_WP _ _ _ _ T24 (mkF m 31 #[.val (.ref zo), .val (.int zx), .val (.int zy), .val (.int zr1), .val (.int zr2), .unset, .unset] [(.int zr2), (.ref zs), (.int (own_g zS zr1))])
    refine own_ldI X24 hx hZ e24 f19 (j := zr2) (w := (own_g zS zr2)) hi2 (own_mg _ _) (hb hby d3_31) ?_
    show own_WP _ _ _ _ T24 (mkF m 32 #[.val (.ref zo), .val (.int zx), .val (.int zy), .val (.int zr1), .val (.int zr2), .unset, .unset] [(.int (own_g zS zr2)), (.int (own_g zS zr1))])
    by_cases hc32 : (own_g zS zr1) < (own_g zS zr2)
    · refine own_go (fun t k => XS.icmpYes X24.here hx rfl (pc0 := 32) (pc' := 39) rfl (hb hby d3_32) rfl (tlt hc32).1 (by decide) (by decide) k) ?_
      show own_WP _ _ _ _ T24 (mkF m 39 #[.val (.ref zo), .val (.int zx), .val (.int zy), .val (.int zr1), .val (.int zr2), .unset, .unset] [])
      refine own_go (fun t k => XS.iload X24.here hx rfl (hb hby d3_39) rfl  k) ?_
      show own_WP _ _ _ _ T24 (mkF m 41 #[.val (.ref zo), .val (.int zx), .val (.int zy), .val (.int zr1), .val (.int zr2), .unset, .unset] [(.int zr2)])
      refine own_go (fun t k => XS.istore X24.here hx rfl (hb hby d3_41) rfl (l' := #[.val (.ref zo), .val (.int zx), .val (.int zy), .val (.int zr1), .val (.int zr2), .val (.int zr2), .unset]) rfl k) ?_
      show own_WP _ _ _ _ T24 (mkF m 43 #[.val (.ref zo), .val (.int zx), .val (.int zy), .val (.int zr1), .val (.int zr2), .val (.int zr2), .unset] [])
      refine own_go (fun t k => XS.iload X24.here hx rfl (hb hby d3_43) rfl  k) ?_
      show own_WP _ _ _ _ T24 (mkF m 45 #[.val (.ref zo), .val (.int zx), .val (.int zy), .val (.int zr1), .val (.int zr2), .val (.int zr2), .unset] [(.int zr2)])
      refine own_go (fun t k => XS.iloadN X24.here hx rfl (hb hby d3_45) rfl  k) ?_
      show own_WP _ _ _ _ T24 (mkF m 46 #[.val (.ref zo), .val (.int zx), .val (.int zy), .val (.int zr1), .val (.int zr2), .val (.int zr2), .unset] [(.int zr1), (.int zr2)])
      have hc46 : ¬ (zr2 = zr1) := by
        exact Ne.symm hc16
      refine own_go (fun t k => XS.icmpYes X24.here hx rfl (pc0 := 46) (pc' := 54) rfl (hb hby d3_46) rfl (feq hc46).2 (by decide) (by decide) k) ?_
      show own_WP _ _ _ _ T24 (mkF m 54 #[.val (.ref zo), .val (.int zx), .val (.int zy), .val (.int zr1), .val (.int zr2), .val (.int zr2), .unset] [])
      refine own_go (fun t k => XS.iloadN X24.here hx rfl (hb hby d3_54) rfl  k) ?_
      show own_WP _ _ _ _ T24 (mkF m 55 #[.val (.ref zo), .val (.int zx), .val (.int zy), .val (.int zr1), .val (.int zr2), .val (.int zr2), .unset] [(.int zr1)])
      refine own_go (fun t k => XS.istore X24.here hx rfl (hb hby d3_55) rfl (l' := #[.val (.ref zo), .val (.int zx), .val (.int zy), .val (.int zr1), .val (.int zr2), .val (.int zr2), .val (.int zr1)]) rfl k) ?_
      show own_WP _ _ _ _ T24 (mkF m 57 #[.val (.ref zo), .val (.int zx), .val (.int zy), .val (.int zr1), .val (.int zr2), .val (.int zr2), .val (.int zr1)] [])
      refine own_go (fun t k => XS.aloadN X24.here hx rfl (hb hby d3_57) rfl rfl  k) ?_
      show own_WP _ _ _ _ T24 (mkF m 58 #[.val (.ref zo), .val (.int zx), .val (.int zy), .val (.int zr1), .val (.int zr2), .val (.int zr2), .val (.int zr1)] [(.ref zo)])
      obtain ⟨T25, X25, e25, st25⟩ := getF X24 hx hZ hown (host := "") (Or.inl (hw _ (List.mem_of_getElem? (i := 10) rfl))) Via.refl e24 f15 (g := (mkF m 58 #[.val (.ref zo), .val (.int zx), .val (.int zy), .val (.int zr1), .val (.int zr2), .val (.int zr2), .val (.int zr1)] [(.ref zo)])) rfl rfl (hb hby d3_58)
      refine own_go st25 ?_
      show own_WP _ _ _ _ T25 (mkF m 61 #[.val (.ref zo), .val (.int zx), .val (.int zy), .val (.int zr1), .val (.int zr2), .val (.int zr2), .val (.int zr1)] [(.ref zp)])
      refine own_go (fun t k => XS.iload X25.here hx rfl (hb hby d3_61) rfl  k) ?_
      show own_WP _ _ _ _ T25 (mkF m 63 #[.val (.ref zo), .val (.int zx), .val (.int zy), .val (.int zr1), .val (.int zr2), .val (.int zr2), .val (.int zr1)] [(.int zr1), (.ref zp)])
      refine own_go (fun t k => XS.iload X25.here hx rfl (hb hby d3_63) rfl  k) ?_
      show own_WP _ _ _ _ T25 (mkF m 65 #[.val (.ref zo), .val (.int zx), .val (.int zy), .val (.int zr1), .val (.int zr2), .val (.int zr2), .val (.int zr1)] [(.int zr2), (.int zr1), (.ref zp)])
      refine own_stI X25 hx hZ e25 f13 (j := zr1) hi1 (i := zr1.toNatClampNeg) rfl (by simp only [List.length_map, List.length_set, (own_rtin 4 _ _ (own_rtin 4 _ _ hP hix).1 hiy).1.1]; exact own_lt4 hi1) (hb hby d3_65) ?_
      intro T26 h26 X26 e26 W26 V26
      have f27 : Arv Z h26 zp zk1 .int (4 : Int32) (List.map Value.int ((own_rt 4 (own_rt 4 zP zx).1 zy).1.set zr1.toNatClampNeg zr2)) (.int (0 : Int32)) := (by rw [List.map_set]; exact V26)
      have f28 : Exa Z h26 zo "com/example/ringspan/ringspan/symmetry/Orbits" := f14.wr W26
      have f29 : Fld Z h26 zo "com/example/ringspan/ringspan/symmetry/Orbits" "parents" "[I" (.ref zp) := f15.other W26 (Or.inl nz1)
      have f30 : Fld Z h26 zo "com/example/ringspan/ringspan/symmetry/Orbits" "sizes" "[I" (.ref zs) := f16.other W26 (Or.inl nz1)
      have f31 : Fld Z h26 zo "com/example/ringspan/ringspan/symmetry/Orbits" "marks" "[I" (.ref zm) := f17.other W26 (Or.inl nz1)
      have f32 : Fld Z h26 zo "com/example/ringspan/ringspan/symmetry/Orbits" "count" "I" (.int zc) := f18.other W26 (Or.inl nz1)
      have f33 : Arv Z h26 zs zk2 .int (4 : Int32) (List.map Value.int zS) (.int (0 : Int32)) := f19.other W26 (Ne.symm nz4)
      have f34 : Arv Z h26 zm zk3 .int (4 : Int32) (List.map Value.int zM) (.int (0 : Int32)) := f20.other W26 (Ne.symm nz5)
      have K36 : Keep h0 h26 [zo, zp, zs, zm] := K22.wr W26 (Or.inl (List.mem_of_getElem? (i := 1) rfl))
      have N37 := Fr.snoc X26 N12 g_zp
      show own_WP _ _ _ _ T26 (mkF m 66 #[.val (.ref zo), .val (.int zx), .val (.int zy), .val (.int zr1), .val (.int zr2), .val (.int zr2), .val (.int zr1)] [])
      refine own_go (fun t k => XS.aloadN X26.here hx rfl (hb hby d3_66) rfl rfl  k) ?_
      show own_WP _ _ _ _ T26 (mkF m 67 #[.val (.ref zo), .val (.int zx), .val (.int zy), .val (.int zr1), .val (.int zr2), .val (.int zr2), .val (.int zr1)] [(.ref zo)])
      obtain ⟨T38, X38, e38, st38⟩ := getF X26 hx hZ hown (host := "") (Or.inl (hw _ (List.mem_of_getElem? (i := 12) rfl))) Via.refl e26 f30 (g := (mkF m 67 #[.val (.ref zo), .val (.int zx), .val (.int zy), .val (.int zr1), .val (.int zr2), .val (.int zr2), .val (.int zr1)] [(.ref zo)])) rfl rfl (hb hby d3_67)
      refine own_go st38 ?_
      show own_WP _ _ _ _ T38 (mkF m 70 #[.val (.ref zo), .val (.int zx), .val (.int zy), .val (.int zr1), .val (.int zr2), .val (.int zr2), .val (.int zr1)] [(.ref zs)])
      refine own_go (fun t k => XS.iload X38.here hx rfl (hb hby d3_70) rfl  k) ?_
      show own_WP _ _ _ _ T38 (mkF m 72 #[.val (.ref zo), .val (.int zx), .val (.int zy), .val (.int zr1), .val (.int zr2), .val (.int zr2), .val (.int zr1)] [(.int zr2), (.ref zs)])
      refine own_go (fun t k => XT.dup2 X38.here hx rfl (hb hby d3_72) rfl rfl rfl k) ?_
      show own_WP _ _ _ _ T38 (mkF m 73 #[.val (.ref zo), .val (.int zx), .val (.int zy), .val (.int zr1), .val (.int zr2), .val (.int zr2), .val (.int zr1)] [(.int zr2), (.ref zs), (.int zr2), (.ref zs)])
      refine own_ldI X38 hx hZ e38 f33 (j := zr2) (w := (own_g zS zr2)) hi2 (own_mg _ _) (hb hby d3_73) ?_
      show own_WP _ _ _ _ T38 (mkF m 74 #[.val (.ref zo), .val (.int zx), .val (.int zy), .val (.int zr1), .val (.int zr2), .val (.int zr2), .val (.int zr1)] [(.int (own_g zS zr2)), (.int zr2), (.ref zs)])
      refine own_go (fun t k => XS.aloadN X38.here hx rfl (hb hby d3_74) rfl rfl  k) ?_
      show own_WP _ _ _ _ T38 (mkF m 75 #[.val (.ref zo), .val (.int zx), .val (.int zy), .val (.int zr1), .val (.int zr2), .val (.int zr2), .val (.int zr1)] [(.ref zo), (.int (own_g zS zr2)), (.int zr2), (.ref zs)])
      obtain ⟨T39, X39, e39, st39⟩ := getF X38 hx hZ hown (host := "") (Or.inl (hw _ (List.mem_of_getElem? (i := 12) rfl))) Via.refl e38 f30 (g := (mkF m 75 #[.val (.ref zo), .val (.int zx), .val (.int zy), .val (.int zr1), .val (.int zr2), .val (.int zr2), .val (.int zr1)] [(.ref zo), (.int (own_g zS zr2)), (.int zr2), (.ref zs)])) rfl rfl (hb hby d3_75)
      refine own_go st39 ?_
      show own_WP _ _ _ _ T39 (mkF m 78 #[.val (.ref zo), .val (.int zx), .val (.int zy), .val (.int zr1), .val (.int zr2), .val (.int zr2), .val (.int zr1)] [(.ref zs), (.int (own_g zS zr2)), (.int zr2), (.ref zs)])
      refine own_go (fun t k => XS.iload X39.here hx rfl (hb hby d3_78) rfl  k) ?_
      show own_WP _ _ _ _ T39 (mkF m 80 #[.val (.ref zo), .val (.int zx), .val (.int zy), .val (.int zr1), .val (.int zr2), .val (.int zr2), .val (.int zr1)] [(.int zr1), (.ref zs), (.int (own_g zS zr2)), (.int zr2), (.ref zs)])
      refine own_ldI X39 hx hZ e39 f33 (j := zr1) (w := (own_g zS zr1)) hi1 (own_mg _ _) (hb hby d3_80) ?_
      show own_WP _ _ _ _ T39 (mkF m 81 #[.val (.ref zo), .val (.int zx), .val (.int zy), .val (.int zr1), .val (.int zr2), .val (.int zr2), .val (.int zr1)] [(.int (own_g zS zr1)), (.int (own_g zS zr2)), (.int zr2), (.ref zs)])
      refine own_go (fun t k => XS.iadd X39.here hx rfl (hb hby d3_81) rfl k) ?_
      show own_WP _ _ _ _ T39 (mkF m 82 #[.val (.ref zo), .val (.int zx), .val (.int zy), .val (.int zr1), .val (.int zr2), .val (.int zr2), .val (.int zr1)] [(.int ((own_g zS zr2) + (own_g zS zr1))), (.int zr2), (.ref zs)])
      refine own_stI X39 hx hZ e39 f33 (j := zr2) hi2 (i := zr2.toNatClampNeg) rfl (by simp only [List.length_map, List.length_set, hS]; exact own_lt4 hi2) (hb hby d3_82) ?_
      intro T40 h40 X40 e40 W40 V40
      have f41 : Arv Z h40 zs zk2 .int (4 : Int32) (List.map Value.int (zS.set zr2.toNatClampNeg ((own_g zS zr2) + (own_g zS zr1)))) (.int (0 : Int32)) := (by rw [List.map_set]; exact V40)
      have f42 : Exa Z h40 zo "com/example/ringspan/ringspan/symmetry/Orbits" := f28.wr W40
      have f43 : Fld Z h40 zo "com/example/ringspan/ringspan/symmetry/Orbits" "parents" "[I" (.ref zp) := f29.other W40 (Or.inl nz2)
      have f44 : Fld Z h40 zo "com/example/ringspan/ringspan/symmetry/Orbits" "sizes" "[I" (.ref zs) := f30.other W40 (Or.inl nz2)
      have f45 : Fld Z h40 zo "com/example/ringspan/ringspan/symmetry/Orbits" "marks" "[I" (.ref zm) := f31.other W40 (Or.inl nz2)
      have f46 : Fld Z h40 zo "com/example/ringspan/ringspan/symmetry/Orbits" "count" "I" (.int zc) := f32.other W40 (Or.inl nz2)
      have f48 : Arv Z h40 zm zk3 .int (4 : Int32) (List.map Value.int zM) (.int (0 : Int32)) := f34.other W40 (Ne.symm nz6)
      have f49 : Arv Z h40 zp zk1 .int (4 : Int32) (List.map Value.int ((own_rt 4 (own_rt 4 zP zx).1 zy).1.set zr1.toNatClampNeg zr2)) (.int (0 : Int32)) := f27.other W40 nz4
      have K50 : Keep h0 h40 [zo, zp, zs, zm] := K36.wr W40 (Or.inl (List.mem_of_getElem? (i := 2) rfl))
      have N51 := Fr.snoc X40 N37 g_zs
      show own_WP _ _ _ _ T40 (mkF m 83 #[.val (.ref zo), .val (.int zx), .val (.int zy), .val (.int zr1), .val (.int zr2), .val (.int zr2), .val (.int zr1)] [])
      refine own_go (fun t k => XS.aloadN X40.here hx rfl (hb hby d3_83) rfl rfl  k) ?_
      show own_WP _ _ _ _ T40 (mkF m 84 #[.val (.ref zo), .val (.int zx), .val (.int zy), .val (.int zr1), .val (.int zr2), .val (.int zr2), .val (.int zr1)] [(.ref zo)])
      obtain ⟨T52, X52, e52, st52⟩ := getF X40 hx hZ hown (host := "") (Or.inl (hw _ (List.mem_of_getElem? (i := 14) rfl))) Via.refl e40 f45 (g := (mkF m 84 #[.val (.ref zo), .val (.int zx), .val (.int zy), .val (.int zr1), .val (.int zr2), .val (.int zr2), .val (.int zr1)] [(.ref zo)])) rfl rfl (hb hby d3_84)
      refine own_go st52 ?_
      show own_WP _ _ _ _ T52 (mkF m 87 #[.val (.ref zo), .val (.int zx), .val (.int zy), .val (.int zr1), .val (.int zr2), .val (.int zr2), .val (.int zr1)] [(.ref zm)])
      refine own_go (fun t k => XS.iload X52.here hx rfl (hb hby d3_87) rfl  k) ?_
      show own_WP _ _ _ _ T52 (mkF m 89 #[.val (.ref zo), .val (.int zx), .val (.int zy), .val (.int zr1), .val (.int zr2), .val (.int zr2), .val (.int zr1)] [(.int zr2), (.ref zm)])
      refine own_go (fun t k => XS.aloadN X52.here hx rfl (hb hby d3_89) rfl rfl  k) ?_
      show own_WP _ _ _ _ T52 (mkF m 90 #[.val (.ref zo), .val (.int zx), .val (.int zy), .val (.int zr1), .val (.int zr2), .val (.int zr2), .val (.int zr1)] [(.ref zo), (.int zr2), (.ref zm)])
      obtain ⟨T53, X53, e53, st53⟩ := getF X52 hx hZ hown (host := "") (Or.inl (hw _ (List.mem_of_getElem? (i := 14) rfl))) Via.refl e52 f45 (g := (mkF m 90 #[.val (.ref zo), .val (.int zx), .val (.int zy), .val (.int zr1), .val (.int zr2), .val (.int zr2), .val (.int zr1)] [(.ref zo), (.int zr2), (.ref zm)])) rfl rfl (hb hby d3_90)
      refine own_go st53 ?_
      show own_WP _ _ _ _ T53 (mkF m 93 #[.val (.ref zo), .val (.int zx), .val (.int zy), .val (.int zr1), .val (.int zr2), .val (.int zr2), .val (.int zr1)] [(.ref zm), (.int zr2), (.ref zm)])
      refine own_go (fun t k => XS.iload X53.here hx rfl (hb hby d3_93) rfl  k) ?_
      show own_WP _ _ _ _ T53 (mkF m 95 #[.val (.ref zo), .val (.int zx), .val (.int zy), .val (.int zr1), .val (.int zr2), .val (.int zr2), .val (.int zr1)] [(.int zr2), (.ref zm), (.int zr2), (.ref zm)])
      refine own_ldI X53 hx hZ e53 f48 (j := zr2) (w := (own_g zM zr2)) hi2 (own_mg _ _) (hb hby d3_95) ?_
      show own_WP _ _ _ _ T53 (mkF m 96 #[.val (.ref zo), .val (.int zx), .val (.int zy), .val (.int zr1), .val (.int zr2), .val (.int zr2), .val (.int zr1)] [(.int (own_g zM zr2)), (.int zr2), (.ref zm)])
      refine own_go (fun t k => XS.aloadN X53.here hx rfl (hb hby d3_96) rfl rfl  k) ?_
      show own_WP _ _ _ _ T53 (mkF m 97 #[.val (.ref zo), .val (.int zx), .val (.int zy), .val (.int zr1), .val (.int zr2), .val (.int zr2), .val (.int zr1)] [(.ref zo), (.int (own_g zM zr2)), (.int zr2), (.ref zm)])
      obtain ⟨T54, X54, e54, st54⟩ := getF X53 hx hZ hown (host := "") (Or.inl (hw _ (List.mem_of_getElem? (i := 14) rfl))) Via.refl e53 f45 (g := (mkF m 97 #[.val (.ref zo), .val (.int zx), .val (.int zy), .val (.int zr1), .val (.int zr2), .val (.int zr2), .val (.int zr1)] [(.ref zo), (.int (own_g zM zr2)), (.int zr2), (.ref zm)])) rfl rfl (hb hby d3_97)
      refine own_go st54 ?_
      show own_WP _ _ _ _ T54 (mkF m 100 #[.val (.ref zo), .val (.int zx), .val (.int zy), .val (.int zr1), .val (.int zr2), .val (.int zr2), .val (.int zr1)] [(.ref zm), (.int (own_g zM zr2)), (.int zr2), (.ref zm)])
      refine own_go (fun t k => XS.iload X54.here hx rfl (hb hby d3_100) rfl  k) ?_
      show own_WP _ _ _ _ T54 (mkF m 102 #[.val (.ref zo), .val (.int zx), .val (.int zy), .val (.int zr1), .val (.int zr2), .val (.int zr2), .val (.int zr1)] [(.int zr1), (.ref zm), (.int (own_g zM zr2)), (.int zr2), (.ref zm)])
      refine own_ldI X54 hx hZ e54 f48 (j := zr1) (w := (own_g zM zr1)) hi1 (own_mg _ _) (hb hby d3_102) ?_
      show own_WP _ _ _ _ T54 (mkF m 103 #[.val (.ref zo), .val (.int zx), .val (.int zy), .val (.int zr1), .val (.int zr2), .val (.int zr2), .val (.int zr1)] [(.int (own_g zM zr1)), (.int (own_g zM zr2)), (.int zr2), (.ref zm)])
      obtain ⟨_, _, ⟨T55, L55, k55, n55⟩, -, X55, ⟨Lc55, hQ55, l55, y55, z55⟩, st55⟩ := Jvm.LawKit.callS X54 hx (y := (⟨"java/lang/Math", "max", "(II)I"⟩ : MethodName)) hown (mvT hZ (hw _ (List.mem_of_getElem? (i := 33) rfl))) (mvT hZ (hw _ (List.mem_of_getElem? (i := 34) rfl))) (mvT hZ (hw _ (List.mem_of_getElem? (i := 35) rfl))) (mvT hZ (hw _ (List.mem_of_getElem? (i := 36) rfl))) (by decide) (backOf (W := 2) (rm6 l Z a0 hw [] (own_g zM zr2) (own_g zM zr1)  h40 n0 (own_le Z0 K50) ) hZ (hw _ (List.mem_of_getElem? (i := 36) rfl)) (hw _ (List.mem_of_getElem? (i := 35) rfl)) (by decide) (by decide)) (g := (mkF m 103 #[.val (.ref zo), .val (.int zx), .val (.int zy), .val (.int zr1), .val (.int zr2), .val (.int zr2), .val (.int zr1)] [(.int (own_g zM zr1)), (.int (own_g zM zr2)), (.int zr2), (.ref zm)])) rfl (by rw [hml]; rfl) (argsL := [(.int (own_g zM zr2)), (.int (own_g zM zr1))]) (rest := [(.int zr2), (.ref zm)]) (lenOf own_pd31088 rfl) rfl (by show 2 * 0 + _ ≤ _; exact Nat.le_of_eq rfl) (hb hby d3_103) (fun _ _ => ⟨rfl, e54, (by decide : 0 + 0 ≤ _), (by decide : 0 + 0 ≤ _)⟩)
      dsimp only [Pt.U, Pt.locs, Pt.cells, Pt.slots] at X55 l55 y55 z55 st55 hQ55
      subst l55 y55 z55
      obtain ⟨rfl, N55q, eq55⟩ := hQ55
      have N55 := Fr.app N51 N55q
      refine own_go st55 ?_
      show own_WP _ _ _ _ T55 (mkF m 106 #[.val (.ref zo), .val (.int zx), .val (.int zy), .val (.int zr1), .val (.int zr2), .val (.int zr2), .val (.int zr1)] [(.int (own_max (own_g zM zr2) (own_g zM zr1))), (.int zr2), (.ref zm)])
      refine own_stI X55 hx hZ eq55 f48 (j := zr2) hi2 (i := zr2.toNatClampNeg) rfl (by simp only [List.length_map, List.length_set, hM]; exact own_lt4 hi2) (hb hby d3_106) ?_
      intro T56 h56 X56 e56 W56 V56
      have f57 : Arv Z h56 zm zk3 .int (4 : Int32) (List.map Value.int (zM.set zr2.toNatClampNeg (own_max (own_g zM zr2) (own_g zM zr1)))) (.int (0 : Int32)) := (by rw [List.map_set]; exact V56)
      have f58 : Exa Z h56 zo "com/example/ringspan/ringspan/symmetry/Orbits" := f42.wr W56
      have f59 : Fld Z h56 zo "com/example/ringspan/ringspan/symmetry/Orbits" "parents" "[I" (.ref zp) := f43.other W56 (Or.inl nz3)
      have f60 : Fld Z h56 zo "com/example/ringspan/ringspan/symmetry/Orbits" "sizes" "[I" (.ref zs) := f44.other W56 (Or.inl nz3)
      have f61 : Fld Z h56 zo "com/example/ringspan/ringspan/symmetry/Orbits" "marks" "[I" (.ref zm) := f45.other W56 (Or.inl nz3)
      have f62 : Fld Z h56 zo "com/example/ringspan/ringspan/symmetry/Orbits" "count" "I" (.int zc) := f46.other W56 (Or.inl nz3)
      have f64 : Arv Z h56 zp zk1 .int (4 : Int32) (List.map Value.int ((own_rt 4 (own_rt 4 zP zx).1 zy).1.set zr1.toNatClampNeg zr2)) (.int (0 : Int32)) := f49.other W56 nz5
      have f65 : Arv Z h56 zs zk2 .int (4 : Int32) (List.map Value.int (zS.set zr2.toNatClampNeg ((own_g zS zr2) + (own_g zS zr1)))) (.int (0 : Int32)) := f41.other W56 nz6
      have K66 : Keep h0 h56 [zo, zp, zs, zm] := K50.wr W56 (Or.inl (List.mem_of_getElem? (i := 3) rfl))
      have N67 := Fr.snoc X56 N55 g_zm
      show own_WP _ _ _ _ T56 (mkF m 107 #[.val (.ref zo), .val (.int zx), .val (.int zy), .val (.int zr1), .val (.int zr2), .val (.int zr2), .val (.int zr1)] [])
      refine own_go (fun t k => XS.aloadN X56.here hx rfl (hb hby d3_107) rfl rfl  k) ?_
      show own_WP _ _ _ _ T56 (mkF m 108 #[.val (.ref zo), .val (.int zx), .val (.int zy), .val (.int zr1), .val (.int zr2), .val (.int zr2), .val (.int zr1)] [(.ref zo)])
      refine own_go (fun t k => XS.dup X56.here hx rfl (hb hby d3_108) rfl rfl k) ?_
      show own_WP _ _ _ _ T56 (mkF m 109 #[.val (.ref zo), .val (.int zx), .val (.int zy), .val (.int zr1), .val (.int zr2), .val (.int zr2), .val (.int zr1)] [(.ref zo), (.ref zo)])
      obtain ⟨T68, X68, e68, st68⟩ := getF X56 hx hZ hown (host := "") (Or.inl (hw _ (List.mem_of_getElem? (i := 16) rfl))) Via.refl e56 f62 (g := (mkF m 109 #[.val (.ref zo), .val (.int zx), .val (.int zy), .val (.int zr1), .val (.int zr2), .val (.int zr2), .val (.int zr1)] [(.ref zo), (.ref zo)])) rfl rfl (hb hby d3_109)
      refine own_go st68 ?_
      show own_WP _ _ _ _ T68 (mkF m 112 #[.val (.ref zo), .val (.int zx), .val (.int zy), .val (.int zr1), .val (.int zr2), .val (.int zr2), .val (.int zr1)] [(.int zc), (.ref zo)])
      refine own_go (fun t k => XS.iconst X68.here hx rfl (hb hby d3_112) k) ?_
      show own_WP _ _ _ _ T68 (mkF m 113 #[.val (.ref zo), .val (.int zx), .val (.int zy), .val (.int zr1), .val (.int zr2), .val (.int zr2), .val (.int zr1)] [(.int (1 : Int32)), (.int zc), (.ref zo)])
      refine own_go (fun t k => XS.isub X68.here hx rfl (hb hby d3_113) rfl k) ?_
      show own_WP _ _ _ _ T68 (mkF m 114 #[.val (.ref zo), .val (.int zx), .val (.int zy), .val (.int zr1), .val (.int zr2), .val (.int zr2), .val (.int zr1)] [(.int (zc - (1 : Int32))), (.ref zo)])
      obtain ⟨T69, h69, X69, e69, W69, st69⟩ := putF X68 hx hZ hown (host := "") (Or.inl (hw _ (List.mem_of_getElem? (i := 16) rfl))) Via.refl e68 f62 f58 (Or.inl (hw _ (List.mem_of_getElem? (i := 17) rfl))) (hw _ (List.mem_of_getElem? (i := 1) rfl)) (ty := .int) (by decide) rfl rfl (g := (mkF m 114 #[.val (.ref zo), .val (.int zx), .val (.int zy), .val (.int zr1), .val (.int zr2), .val (.int zr2), .val (.int zr1)] [(.int (zc - (1 : Int32))), (.ref zo)])) rfl rfl (hb hby d3_114)
      refine own_go st69 ?_
      have f70 : Fld Z h69 zo "com/example/ringspan/ringspan/symmetry/Orbits" "count" "I" (.int (zc - (1 : Int32))) := f62.same W69
      have f71 : Exa Z h69 zo "com/example/ringspan/ringspan/symmetry/Orbits" := f58.wr W69
      have f72 : Fld Z h69 zo "com/example/ringspan/ringspan/symmetry/Orbits" "parents" "[I" (.ref zp) := f59.other W69 (Or.inr (slot_ne (Or.inr (hw _ (List.mem_of_getElem? (i := 11) rfl))) (Or.inl (hw _ (List.mem_of_getElem? (i := 17) rfl))) (by decide) (t := (.array .int)) (t' := .int) (by decide) (by decide)))
      have f73 : Fld Z h69 zo "com/example/ringspan/ringspan/symmetry/Orbits" "sizes" "[I" (.ref zs) := f60.other W69 (Or.inr (slot_ne (Or.inr (hw _ (List.mem_of_getElem? (i := 13) rfl))) (Or.inl (hw _ (List.mem_of_getElem? (i := 17) rfl))) (by decide) (t := (.array .int)) (t' := .int) (by decide) (by decide)))
      have f74 : Fld Z h69 zo "com/example/ringspan/ringspan/symmetry/Orbits" "marks" "[I" (.ref zm) := f61.other W69 (Or.inr (slot_ne (Or.inr (hw _ (List.mem_of_getElem? (i := 15) rfl))) (Or.inl (hw _ (List.mem_of_getElem? (i := 17) rfl))) (by decide) (t := (.array .int)) (t' := .int) (by decide) (by decide)))
      have f76 : Arv Z h69 zp zk1 .int (4 : Int32) (List.map Value.int ((own_rt 4 (own_rt 4 zP zx).1 zy).1.set zr1.toNatClampNeg zr2)) (.int (0 : Int32)) := f64.other W69 (Ne.symm nz1)
      have f77 : Arv Z h69 zs zk2 .int (4 : Int32) (List.map Value.int (zS.set zr2.toNatClampNeg ((own_g zS zr2) + (own_g zS zr1)))) (.int (0 : Int32)) := f65.other W69 (Ne.symm nz2)
      have f78 : Arv Z h69 zm zk3 .int (4 : Int32) (List.map Value.int (zM.set zr2.toNatClampNeg (own_max (own_g zM zr2) (own_g zM zr1)))) (.int (0 : Int32)) := f57.other W69 (Ne.symm nz3)
      have K79 : Keep h0 h69 [zo, zp, zs, zm] := K66.wr W69 (Or.inl (List.mem_of_getElem? (i := 0) rfl))
      have N80 := Fr.snoc X69 N67 g_zo
      show own_WP _ _ _ _ T69 (mkF m 117 #[.val (.ref zo), .val (.int zx), .val (.int zy), .val (.int zr1), .val (.int zr2), .val (.int zr2), .val (.int zr1)] [])
      refine own_retV X69 hx Bd.notSynchronized Bd.returns (hb hby d3_117) (by decide) (by decide) ?_
      rw [e69]
      exact ⟨(zM.set zr2.toNatClampNeg (own_max (own_g zM zr2) (own_g zM zr1))), (zc - (1 : Int32)), rfl, N80, K79, f71, f72, f73, f74, f70, ((show ((List.map Value.int ((own_rt 4 (own_rt 4 zP zx).1 zy).1.set zr1.toNatClampNeg zr2)) : List Value) = (List.map Value.int (own_jn zP zS zx zy).1) from by exact congrArg (fun q : List Int32 × List Int32 => List.map Value.int q.1) (own_jnB d_zr1 d_zr2 hc16 hc32).symm) ▸ f76), ((show ((List.map Value.int (zS.set zr2.toNatClampNeg ((own_g zS zr2) + (own_g zS zr1)))) : List Value) = (List.map Value.int (own_jn zP zS zx zy).2) from by exact congrArg (fun q : List Int32 × List Int32 => List.map Value.int q.2) (own_jnB d_zr1 d_zr2 hc16 hc32).symm) ▸ f77), f78, (by simp only [List.length_set, hM])⟩
    · refine own_go (fun t k => XS.icmpNo X24.here hx rfl (hb hby d3_32) rfl (flt hc32).1 k) ?_
      show own_WP _ _ _ _ T24 (mkF m 35 #[.val (.ref zo), .val (.int zx), .val (.int zy), .val (.int zr1), .val (.int zr2), .unset, .unset] [])
      refine own_go (fun t k => XS.iloadN X24.here hx rfl (hb hby d3_35) rfl  k) ?_
      show own_WP _ _ _ _ T24 (mkF m 36 #[.val (.ref zo), .val (.int zx), .val (.int zy), .val (.int zr1), .val (.int zr2), .unset, .unset] [(.int zr1)])
      refine own_go (fun t k => XS.goto X24.here hx rfl (pc0 := 36) (pc' := 41) rfl (hb hby d3_36) (by decide) (by decide) k) ?_
      show own_WP _ _ _ _ T24 (mkF m 41 #[.val (.ref zo), .val (.int zx), .val (.int zy), .val (.int zr1), .val (.int zr2), .unset, .unset] [(.int zr1)])
      refine own_go (fun t k => XS.istore X24.here hx rfl (hb hby d3_41) rfl (l' := #[.val (.ref zo), .val (.int zx), .val (.int zy), .val (.int zr1), .val (.int zr2), .val (.int zr1), .unset]) rfl k) ?_
      show own_WP _ _ _ _ T24 (mkF m 43 #[.val (.ref zo), .val (.int zx), .val (.int zy), .val (.int zr1), .val (.int zr2), .val (.int zr1), .unset] [])
      refine own_go (fun t k => XS.iload X24.here hx rfl (hb hby d3_43) rfl  k) ?_
      show own_WP _ _ _ _ T24 (mkF m 45 #[.val (.ref zo), .val (.int zx), .val (.int zy), .val (.int zr1), .val (.int zr2), .val (.int zr1), .unset] [(.int zr1)])
      refine own_go (fun t k => XS.iloadN X24.here hx rfl (hb hby d3_45) rfl  k) ?_
      show own_WP _ _ _ _ T24 (mkF m 46 #[.val (.ref zo), .val (.int zx), .val (.int zy), .val (.int zr1), .val (.int zr2), .val (.int zr1), .unset] [(.int zr1), (.int zr1)])
      have hc46 : zr1 = zr1 := rfl
      refine own_go (fun t k => XS.icmpNo X24.here hx rfl (hb hby d3_46) rfl (teq hc46).2 k) ?_
      show own_WP _ _ _ _ T24 (mkF m 49 #[.val (.ref zo), .val (.int zx), .val (.int zy), .val (.int zr1), .val (.int zr2), .val (.int zr1), .unset] [])
      refine own_go (fun t k => XS.iload X24.here hx rfl (hb hby d3_49) rfl  k) ?_
      show own_WP _ _ _ _ T24 (mkF m 51 #[.val (.ref zo), .val (.int zx), .val (.int zy), .val (.int zr1), .val (.int zr2), .val (.int zr1), .unset] [(.int zr2)])
      refine own_go (fun t k => XS.goto X24.here hx rfl (pc0 := 51) (pc' := 55) rfl (hb hby d3_51) (by decide) (by decide) k) ?_
      show own_WP _ _ _ _ T24 (mkF m 55 #[.val (.ref zo), .val (.int zx), .val (.int zy), .val (.int zr1), .val (.int zr2), .val (.int zr1), .unset] [(.int zr2)])
      refine own_go (fun t k => XS.istore X24.here hx rfl (hb hby d3_55) rfl (l' := #[.val (.ref zo), .val (.int zx), .val (.int zy), .val (.int zr1), .val (.int zr2), .val (.int zr1), .val (.int zr2)]) rfl k) ?_
      show own_WP _ _ _ _ T24 (mkF m 57 #[.val (.ref zo), .val (.int zx), .val (.int zy), .val (.int zr1), .val (.int zr2), .val (.int zr1), .val (.int zr2)] [])
      refine own_go (fun t k => XS.aloadN X24.here hx rfl (hb hby d3_57) rfl rfl  k) ?_
      show own_WP _ _ _ _ T24 (mkF m 58 #[.val (.ref zo), .val (.int zx), .val (.int zy), .val (.int zr1), .val (.int zr2), .val (.int zr1), .val (.int zr2)] [(.ref zo)])
      obtain ⟨T81, X81, e81, st81⟩ := getF X24 hx hZ hown (host := "") (Or.inl (hw _ (List.mem_of_getElem? (i := 10) rfl))) Via.refl e24 f15 (g := (mkF m 58 #[.val (.ref zo), .val (.int zx), .val (.int zy), .val (.int zr1), .val (.int zr2), .val (.int zr1), .val (.int zr2)] [(.ref zo)])) rfl rfl (hb hby d3_58)
      refine own_go st81 ?_
      show own_WP _ _ _ _ T81 (mkF m 61 #[.val (.ref zo), .val (.int zx), .val (.int zy), .val (.int zr1), .val (.int zr2), .val (.int zr1), .val (.int zr2)] [(.ref zp)])
      refine own_go (fun t k => XS.iload X81.here hx rfl (hb hby d3_61) rfl  k) ?_
      show own_WP _ _ _ _ T81 (mkF m 63 #[.val (.ref zo), .val (.int zx), .val (.int zy), .val (.int zr1), .val (.int zr2), .val (.int zr1), .val (.int zr2)] [(.int zr2), (.ref zp)])
      refine own_go (fun t k => XS.iload X81.here hx rfl (hb hby d3_63) rfl  k) ?_
      show own_WP _ _ _ _ T81 (mkF m 65 #[.val (.ref zo), .val (.int zx), .val (.int zy), .val (.int zr1), .val (.int zr2), .val (.int zr1), .val (.int zr2)] [(.int zr1), (.int zr2), (.ref zp)])
      refine own_stI X81 hx hZ e81 f13 (j := zr2) hi2 (i := zr2.toNatClampNeg) rfl (by simp only [List.length_map, List.length_set, (own_rtin 4 _ _ (own_rtin 4 _ _ hP hix).1 hiy).1.1]; exact own_lt4 hi2) (hb hby d3_65) ?_
      intro T82 h82 X82 e82 W82 V82
      have f83 : Arv Z h82 zp zk1 .int (4 : Int32) (List.map Value.int ((own_rt 4 (own_rt 4 zP zx).1 zy).1.set zr2.toNatClampNeg zr1)) (.int (0 : Int32)) := (by rw [List.map_set]; exact V82)
      have f84 : Exa Z h82 zo "com/example/ringspan/ringspan/symmetry/Orbits" := f14.wr W82
      have f85 : Fld Z h82 zo "com/example/ringspan/ringspan/symmetry/Orbits" "parents" "[I" (.ref zp) := f15.other W82 (Or.inl nz1)
      have f86 : Fld Z h82 zo "com/example/ringspan/ringspan/symmetry/Orbits" "sizes" "[I" (.ref zs) := f16.other W82 (Or.inl nz1)
      have f87 : Fld Z h82 zo "com/example/ringspan/ringspan/symmetry/Orbits" "marks" "[I" (.ref zm) := f17.other W82 (Or.inl nz1)
      have f88 : Fld Z h82 zo "com/example/ringspan/ringspan/symmetry/Orbits" "count" "I" (.int zc) := f18.other W82 (Or.inl nz1)
      have f89 : Arv Z h82 zs zk2 .int (4 : Int32) (List.map Value.int zS) (.int (0 : Int32)) := f19.other W82 (Ne.symm nz4)
      have f90 : Arv Z h82 zm zk3 .int (4 : Int32) (List.map Value.int zM) (.int (0 : Int32)) := f20.other W82 (Ne.symm nz5)
      have K92 : Keep h0 h82 [zo, zp, zs, zm] := K22.wr W82 (Or.inl (List.mem_of_getElem? (i := 1) rfl))
      have N93 := Fr.snoc X82 N12 g_zp
      show own_WP _ _ _ _ T82 (mkF m 66 #[.val (.ref zo), .val (.int zx), .val (.int zy), .val (.int zr1), .val (.int zr2), .val (.int zr1), .val (.int zr2)] [])
      refine own_go (fun t k => XS.aloadN X82.here hx rfl (hb hby d3_66) rfl rfl  k) ?_
      show own_WP _ _ _ _ T82 (mkF m 67 #[.val (.ref zo), .val (.int zx), .val (.int zy), .val (.int zr1), .val (.int zr2), .val (.int zr1), .val (.int zr2)] [(.ref zo)])
      obtain ⟨T94, X94, e94, st94⟩ := getF X82 hx hZ hown (host := "") (Or.inl (hw _ (List.mem_of_getElem? (i := 12) rfl))) Via.refl e82 f86 (g := (mkF m 67 #[.val (.ref zo), .val (.int zx), .val (.int zy), .val (.int zr1), .val (.int zr2), .val (.int zr1), .val (.int zr2)] [(.ref zo)])) rfl rfl (hb hby d3_67)
      refine own_go st94 ?_
      show own_WP _ _ _ _ T94 (mkF m 70 #[.val (.ref zo), .val (.int zx), .val (.int zy), .val (.int zr1), .val (.int zr2), .val (.int zr1), .val (.int zr2)] [(.ref zs)])
      refine own_go (fun t k => XS.iload X94.here hx rfl (hb hby d3_70) rfl  k) ?_
      show own_WP _ _ _ _ T94 (mkF m 72 #[.val (.ref zo), .val (.int zx), .val (.int zy), .val (.int zr1), .val (.int zr2), .val (.int zr1), .val (.int zr2)] [(.int zr1), (.ref zs)])
      refine own_go (fun t k => XT.dup2 X94.here hx rfl (hb hby d3_72) rfl rfl rfl k) ?_
      show own_WP _ _ _ _ T94 (mkF m 73 #[.val (.ref zo), .val (.int zx), .val (.int zy), .val (.int zr1), .val (.int zr2), .val (.int zr1), .val (.int zr2)] [(.int zr1), (.ref zs), (.int zr1), (.ref zs)])
      refine own_ldI X94 hx hZ e94 f89 (j := zr1) (w := (own_g zS zr1)) hi1 (own_mg _ _) (hb hby d3_73) ?_
      show own_WP _ _ _ _ T94 (mkF m 74 #[.val (.ref zo), .val (.int zx), .val (.int zy), .val (.int zr1), .val (.int zr2), .val (.int zr1), .val (.int zr2)] [(.int (own_g zS zr1)), (.int zr1), (.ref zs)])
      refine own_go (fun t k => XS.aloadN X94.here hx rfl (hb hby d3_74) rfl rfl  k) ?_
      show own_WP _ _ _ _ T94 (mkF m 75 #[.val (.ref zo), .val (.int zx), .val (.int zy), .val (.int zr1), .val (.int zr2), .val (.int zr1), .val (.int zr2)] [(.ref zo), (.int (own_g zS zr1)), (.int zr1), (.ref zs)])
      obtain ⟨T95, X95, e95, st95⟩ := getF X94 hx hZ hown (host := "") (Or.inl (hw _ (List.mem_of_getElem? (i := 12) rfl))) Via.refl e94 f86 (g := (mkF m 75 #[.val (.ref zo), .val (.int zx), .val (.int zy), .val (.int zr1), .val (.int zr2), .val (.int zr1), .val (.int zr2)] [(.ref zo), (.int (own_g zS zr1)), (.int zr1), (.ref zs)])) rfl rfl (hb hby d3_75)
      refine own_go st95 ?_
      show own_WP _ _ _ _ T95 (mkF m 78 #[.val (.ref zo), .val (.int zx), .val (.int zy), .val (.int zr1), .val (.int zr2), .val (.int zr1), .val (.int zr2)] [(.ref zs), (.int (own_g zS zr1)), (.int zr1), (.ref zs)])
      refine own_go (fun t k => XS.iload X95.here hx rfl (hb hby d3_78) rfl  k) ?_
      show own_WP _ _ _ _ T95 (mkF m 80 #[.val (.ref zo), .val (.int zx), .val (.int zy), .val (.int zr1), .val (.int zr2), .val (.int zr1), .val (.int zr2)] [(.int zr2), (.ref zs), (.int (own_g zS zr1)), (.int zr1), (.ref zs)])
      refine own_ldI X95 hx hZ e95 f89 (j := zr2) (w := (own_g zS zr2)) hi2 (own_mg _ _) (hb hby d3_80) ?_
      show own_WP _ _ _ _ T95 (mkF m 81 #[.val (.ref zo), .val (.int zx), .val (.int zy), .val (.int zr1), .val (.int zr2), .val (.int zr1), .val (.int zr2)] [(.int (own_g zS zr2)), (.int (own_g zS zr1)), (.int zr1), (.ref zs)])
      refine own_go (fun t k => XS.iadd X95.here hx rfl (hb hby d3_81) rfl k) ?_
      show own_WP _ _ _ _ T95 (mkF m 82 #[.val (.ref zo), .val (.int zx), .val (.int zy), .val (.int zr1), .val (.int zr2), .val (.int zr1), .val (.int zr2)] [(.int ((own_g zS zr1) + (own_g zS zr2))), (.int zr1), (.ref zs)])
      refine own_stI X95 hx hZ e95 f89 (j := zr1) hi1 (i := zr1.toNatClampNeg) rfl (by simp only [List.length_map, List.length_set, hS]; exact own_lt4 hi1) (hb hby d3_82) ?_
      intro T96 h96 X96 e96 W96 V96
      have f97 : Arv Z h96 zs zk2 .int (4 : Int32) (List.map Value.int (zS.set zr1.toNatClampNeg ((own_g zS zr1) + (own_g zS zr2)))) (.int (0 : Int32)) := (by rw [List.map_set]; exact V96)
      have f98 : Exa Z h96 zo "com/example/ringspan/ringspan/symmetry/Orbits" := f84.wr W96
      have f99 : Fld Z h96 zo "com/example/ringspan/ringspan/symmetry/Orbits" "parents" "[I" (.ref zp) := f85.other W96 (Or.inl nz2)
      have f100 : Fld Z h96 zo "com/example/ringspan/ringspan/symmetry/Orbits" "sizes" "[I" (.ref zs) := f86.other W96 (Or.inl nz2)
      have f101 : Fld Z h96 zo "com/example/ringspan/ringspan/symmetry/Orbits" "marks" "[I" (.ref zm) := f87.other W96 (Or.inl nz2)
      have f102 : Fld Z h96 zo "com/example/ringspan/ringspan/symmetry/Orbits" "count" "I" (.int zc) := f88.other W96 (Or.inl nz2)
      have f104 : Arv Z h96 zm zk3 .int (4 : Int32) (List.map Value.int zM) (.int (0 : Int32)) := f90.other W96 (Ne.symm nz6)
      have f105 : Arv Z h96 zp zk1 .int (4 : Int32) (List.map Value.int ((own_rt 4 (own_rt 4 zP zx).1 zy).1.set zr2.toNatClampNeg zr1)) (.int (0 : Int32)) := f83.other W96 nz4
      have K106 : Keep h0 h96 [zo, zp, zs, zm] := K92.wr W96 (Or.inl (List.mem_of_getElem? (i := 2) rfl))
      have N107 := Fr.snoc X96 N93 g_zs
      show own_WP _ _ _ _ T96 (mkF m 83 #[.val (.ref zo), .val (.int zx), .val (.int zy), .val (.int zr1), .val (.int zr2), .val (.int zr1), .val (.int zr2)] [])
      refine own_go (fun t k => XS.aloadN X96.here hx rfl (hb hby d3_83) rfl rfl  k) ?_
      show own_WP _ _ _ _ T96 (mkF m 84 #[.val (.ref zo), .val (.int zx), .val (.int zy), .val (.int zr1), .val (.int zr2), .val (.int zr1), .val (.int zr2)] [(.ref zo)])
      obtain ⟨T108, X108, e108, st108⟩ := getF X96 hx hZ hown (host := "") (Or.inl (hw _ (List.mem_of_getElem? (i := 14) rfl))) Via.refl e96 f101 (g := (mkF m 84 #[.val (.ref zo), .val (.int zx), .val (.int zy), .val (.int zr1), .val (.int zr2), .val (.int zr1), .val (.int zr2)] [(.ref zo)])) rfl rfl (hb hby d3_84)
      refine own_go st108 ?_
      show own_WP _ _ _ _ T108 (mkF m 87 #[.val (.ref zo), .val (.int zx), .val (.int zy), .val (.int zr1), .val (.int zr2), .val (.int zr1), .val (.int zr2)] [(.ref zm)])
      refine own_go (fun t k => XS.iload X108.here hx rfl (hb hby d3_87) rfl  k) ?_
      show own_WP _ _ _ _ T108 (mkF m 89 #[.val (.ref zo), .val (.int zx), .val (.int zy), .val (.int zr1), .val (.int zr2), .val (.int zr1), .val (.int zr2)] [(.int zr1), (.ref zm)])
      refine own_go (fun t k => XS.aloadN X108.here hx rfl (hb hby d3_89) rfl rfl  k) ?_
      show own_WP _ _ _ _ T108 (mkF m 90 #[.val (.ref zo), .val (.int zx), .val (.int zy), .val (.int zr1), .val (.int zr2), .val (.int zr1), .val (.int zr2)] [(.ref zo), (.int zr1), (.ref zm)])
      obtain ⟨T109, X109, e109, st109⟩ := getF X108 hx hZ hown (host := "") (Or.inl (hw _ (List.mem_of_getElem? (i := 14) rfl))) Via.refl e108 f101 (g := (mkF m 90 #[.val (.ref zo), .val (.int zx), .val (.int zy), .val (.int zr1), .val (.int zr2), .val (.int zr1), .val (.int zr2)] [(.ref zo), (.int zr1), (.ref zm)])) rfl rfl (hb hby d3_90)
      refine own_go st109 ?_
      show own_WP _ _ _ _ T109 (mkF m 93 #[.val (.ref zo), .val (.int zx), .val (.int zy), .val (.int zr1), .val (.int zr2), .val (.int zr1), .val (.int zr2)] [(.ref zm), (.int zr1), (.ref zm)])
      refine own_go (fun t k => XS.iload X109.here hx rfl (hb hby d3_93) rfl  k) ?_
      show own_WP _ _ _ _ T109 (mkF m 95 #[.val (.ref zo), .val (.int zx), .val (.int zy), .val (.int zr1), .val (.int zr2), .val (.int zr1), .val (.int zr2)] [(.int zr1), (.ref zm), (.int zr1), (.ref zm)])
      refine own_ldI X109 hx hZ e109 f104 (j := zr1) (w := (own_g zM zr1)) hi1 (own_mg _ _) (hb hby d3_95) ?_
      show own_WP _ _ _ _ T109 (mkF m 96 #[.val (.ref zo), .val (.int zx), .val (.int zy), .val (.int zr1), .val (.int zr2), .val (.int zr1), .val (.int zr2)] [(.int (own_g zM zr1)), (.int zr1), (.ref zm)])
      refine own_go (fun t k => XS.aloadN X109.here hx rfl (hb hby d3_96) rfl rfl  k) ?_
      show own_WP _ _ _ _ T109 (mkF m 97 #[.val (.ref zo), .val (.int zx), .val (.int zy), .val (.int zr1), .val (.int zr2), .val (.int zr1), .val (.int zr2)] [(.ref zo), (.int (own_g zM zr1)), (.int zr1), (.ref zm)])
      obtain ⟨T110, X110, e110, st110⟩ := getF X109 hx hZ hown (host := "") (Or.inl (hw _ (List.mem_of_getElem? (i := 14) rfl))) Via.refl e109 f101 (g := (mkF m 97 #[.val (.ref zo), .val (.int zx), .val (.int zy), .val (.int zr1), .val (.int zr2), .val (.int zr1), .val (.int zr2)] [(.ref zo), (.int (own_g zM zr1)), (.int zr1), (.ref zm)])) rfl rfl (hb hby d3_97)
      refine own_go st110 ?_
      show own_WP _ _ _ _ T110 (mkF m 100 #[.val (.ref zo), .val (.int zx), .val (.int zy), .val (.int zr1), .val (.int zr2), .val (.int zr1), .val (.int zr2)] [(.ref zm), (.int (own_g zM zr1)), (.int zr1), (.ref zm)])
      refine own_go (fun t k => XS.iload X110.here hx rfl (hb hby d3_100) rfl  k) ?_
      show own_WP _ _ _ _ T110 (mkF m 102 #[.val (.ref zo), .val (.int zx), .val (.int zy), .val (.int zr1), .val (.int zr2), .val (.int zr1), .val (.int zr2)] [(.int zr2), (.ref zm), (.int (own_g zM zr1)), (.int zr1), (.ref zm)])
      refine own_ldI X110 hx hZ e110 f104 (j := zr2) (w := (own_g zM zr2)) hi2 (own_mg _ _) (hb hby d3_102) ?_
      show own_WP _ _ _ _ T110 (mkF m 103 #[.val (.ref zo), .val (.int zx), .val (.int zy), .val (.int zr1), .val (.int zr2), .val (.int zr1), .val (.int zr2)] [(.int (own_g zM zr2)), (.int (own_g zM zr1)), (.int zr1), (.ref zm)])
      obtain ⟨_, _, ⟨T111, L111, k111, n111⟩, -, X111, ⟨Lc111, hQ111, l111, y111, z111⟩, st111⟩ := Jvm.LawKit.callS X110 hx (y := (⟨"java/lang/Math", "max", "(II)I"⟩ : MethodName)) hown (mvT hZ (hw _ (List.mem_of_getElem? (i := 33) rfl))) (mvT hZ (hw _ (List.mem_of_getElem? (i := 34) rfl))) (mvT hZ (hw _ (List.mem_of_getElem? (i := 35) rfl))) (mvT hZ (hw _ (List.mem_of_getElem? (i := 36) rfl))) (by decide) (backOf (W := 2) (rm6 l Z a0 hw [] (own_g zM zr1) (own_g zM zr2)  h96 n0 (own_le Z0 K106) ) hZ (hw _ (List.mem_of_getElem? (i := 36) rfl)) (hw _ (List.mem_of_getElem? (i := 35) rfl)) (by decide) (by decide)) (g := (mkF m 103 #[.val (.ref zo), .val (.int zx), .val (.int zy), .val (.int zr1), .val (.int zr2), .val (.int zr1), .val (.int zr2)] [(.int (own_g zM zr2)), (.int (own_g zM zr1)), (.int zr1), (.ref zm)])) rfl (by rw [hml]; rfl) (argsL := [(.int (own_g zM zr1)), (.int (own_g zM zr2))]) (rest := [(.int zr1), (.ref zm)]) (lenOf own_pd31088 rfl) rfl (by show 2 * 0 + _ ≤ _; exact Nat.le_of_eq rfl) (hb hby d3_103) (fun _ _ => ⟨rfl, e110, (by decide : 0 + 0 ≤ _), (by decide : 0 + 0 ≤ _)⟩)
      dsimp only [Pt.U, Pt.locs, Pt.cells, Pt.slots] at X111 l111 y111 z111 st111 hQ111
      subst l111 y111 z111
      obtain ⟨rfl, N111q, eq111⟩ := hQ111
      have N111 := Fr.app N107 N111q
      refine own_go st111 ?_
      show own_WP _ _ _ _ T111 (mkF m 106 #[.val (.ref zo), .val (.int zx), .val (.int zy), .val (.int zr1), .val (.int zr2), .val (.int zr1), .val (.int zr2)] [(.int (own_max (own_g zM zr1) (own_g zM zr2))), (.int zr1), (.ref zm)])
      refine own_stI X111 hx hZ eq111 f104 (j := zr1) hi1 (i := zr1.toNatClampNeg) rfl (by simp only [List.length_map, List.length_set, hM]; exact own_lt4 hi1) (hb hby d3_106) ?_
      intro T112 h112 X112 e112 W112 V112
      have f113 : Arv Z h112 zm zk3 .int (4 : Int32) (List.map Value.int (zM.set zr1.toNatClampNeg (own_max (own_g zM zr1) (own_g zM zr2)))) (.int (0 : Int32)) := (by rw [List.map_set]; exact V112)
      have f114 : Exa Z h112 zo "com/example/ringspan/ringspan/symmetry/Orbits" := f98.wr W112
      have f115 : Fld Z h112 zo "com/example/ringspan/ringspan/symmetry/Orbits" "parents" "[I" (.ref zp) := f99.other W112 (Or.inl nz3)
      have f116 : Fld Z h112 zo "com/example/ringspan/ringspan/symmetry/Orbits" "sizes" "[I" (.ref zs) := f100.other W112 (Or.inl nz3)
      have f117 : Fld Z h112 zo "com/example/ringspan/ringspan/symmetry/Orbits" "marks" "[I" (.ref zm) := f101.other W112 (Or.inl nz3)
      have f118 : Fld Z h112 zo "com/example/ringspan/ringspan/symmetry/Orbits" "count" "I" (.int zc) := f102.other W112 (Or.inl nz3)
      have f120 : Arv Z h112 zp zk1 .int (4 : Int32) (List.map Value.int ((own_rt 4 (own_rt 4 zP zx).1 zy).1.set zr2.toNatClampNeg zr1)) (.int (0 : Int32)) := f105.other W112 nz5
      have f121 : Arv Z h112 zs zk2 .int (4 : Int32) (List.map Value.int (zS.set zr1.toNatClampNeg ((own_g zS zr1) + (own_g zS zr2)))) (.int (0 : Int32)) := f97.other W112 nz6
      have K122 : Keep h0 h112 [zo, zp, zs, zm] := K106.wr W112 (Or.inl (List.mem_of_getElem? (i := 3) rfl))
      have N123 := Fr.snoc X112 N111 g_zm
      show own_WP _ _ _ _ T112 (mkF m 107 #[.val (.ref zo), .val (.int zx), .val (.int zy), .val (.int zr1), .val (.int zr2), .val (.int zr1), .val (.int zr2)] [])
      refine own_go (fun t k => XS.aloadN X112.here hx rfl (hb hby d3_107) rfl rfl  k) ?_
      show own_WP _ _ _ _ T112 (mkF m 108 #[.val (.ref zo), .val (.int zx), .val (.int zy), .val (.int zr1), .val (.int zr2), .val (.int zr1), .val (.int zr2)] [(.ref zo)])
      refine own_go (fun t k => XS.dup X112.here hx rfl (hb hby d3_108) rfl rfl k) ?_
      show own_WP _ _ _ _ T112 (mkF m 109 #[.val (.ref zo), .val (.int zx), .val (.int zy), .val (.int zr1), .val (.int zr2), .val (.int zr1), .val (.int zr2)] [(.ref zo), (.ref zo)])
      obtain ⟨T124, X124, e124, st124⟩ := getF X112 hx hZ hown (host := "") (Or.inl (hw _ (List.mem_of_getElem? (i := 16) rfl))) Via.refl e112 f118 (g := (mkF m 109 #[.val (.ref zo), .val (.int zx), .val (.int zy), .val (.int zr1), .val (.int zr2), .val (.int zr1), .val (.int zr2)] [(.ref zo), (.ref zo)])) rfl rfl (hb hby d3_109)
      refine own_go st124 ?_
      show own_WP _ _ _ _ T124 (mkF m 112 #[.val (.ref zo), .val (.int zx), .val (.int zy), .val (.int zr1), .val (.int zr2), .val (.int zr1), .val (.int zr2)] [(.int zc), (.ref zo)])
      refine own_go (fun t k => XS.iconst X124.here hx rfl (hb hby d3_112) k) ?_
      show own_WP _ _ _ _ T124 (mkF m 113 #[.val (.ref zo), .val (.int zx), .val (.int zy), .val (.int zr1), .val (.int zr2), .val (.int zr1), .val (.int zr2)] [(.int (1 : Int32)), (.int zc), (.ref zo)])
      refine own_go (fun t k => XS.isub X124.here hx rfl (hb hby d3_113) rfl k) ?_
      show own_WP _ _ _ _ T124 (mkF m 114 #[.val (.ref zo), .val (.int zx), .val (.int zy), .val (.int zr1), .val (.int zr2), .val (.int zr1), .val (.int zr2)] [(.int (zc - (1 : Int32))), (.ref zo)])
      obtain ⟨T125, h125, X125, e125, W125, st125⟩ := putF X124 hx hZ hown (host := "") (Or.inl (hw _ (List.mem_of_getElem? (i := 16) rfl))) Via.refl e124 f118 f114 (Or.inl (hw _ (List.mem_of_getElem? (i := 17) rfl))) (hw _ (List.mem_of_getElem? (i := 1) rfl)) (ty := .int) (by decide) rfl rfl (g := (mkF m 114 #[.val (.ref zo), .val (.int zx), .val (.int zy), .val (.int zr1), .val (.int zr2), .val (.int zr1), .val (.int zr2)] [(.int (zc - (1 : Int32))), (.ref zo)])) rfl rfl (hb hby d3_114)
      refine own_go st125 ?_
      have f126 : Fld Z h125 zo "com/example/ringspan/ringspan/symmetry/Orbits" "count" "I" (.int (zc - (1 : Int32))) := f118.same W125
      have f127 : Exa Z h125 zo "com/example/ringspan/ringspan/symmetry/Orbits" := f114.wr W125
      have f128 : Fld Z h125 zo "com/example/ringspan/ringspan/symmetry/Orbits" "parents" "[I" (.ref zp) := f115.other W125 (Or.inr (slot_ne (Or.inr (hw _ (List.mem_of_getElem? (i := 11) rfl))) (Or.inl (hw _ (List.mem_of_getElem? (i := 17) rfl))) (by decide) (t := (.array .int)) (t' := .int) (by decide) (by decide)))
      have f129 : Fld Z h125 zo "com/example/ringspan/ringspan/symmetry/Orbits" "sizes" "[I" (.ref zs) := f116.other W125 (Or.inr (slot_ne (Or.inr (hw _ (List.mem_of_getElem? (i := 13) rfl))) (Or.inl (hw _ (List.mem_of_getElem? (i := 17) rfl))) (by decide) (t := (.array .int)) (t' := .int) (by decide) (by decide)))
      have f130 : Fld Z h125 zo "com/example/ringspan/ringspan/symmetry/Orbits" "marks" "[I" (.ref zm) := f117.other W125 (Or.inr (slot_ne (Or.inr (hw _ (List.mem_of_getElem? (i := 15) rfl))) (Or.inl (hw _ (List.mem_of_getElem? (i := 17) rfl))) (by decide) (t := (.array .int)) (t' := .int) (by decide) (by decide)))
      have f132 : Arv Z h125 zp zk1 .int (4 : Int32) (List.map Value.int ((own_rt 4 (own_rt 4 zP zx).1 zy).1.set zr2.toNatClampNeg zr1)) (.int (0 : Int32)) := f120.other W125 (Ne.symm nz1)
      have f133 : Arv Z h125 zs zk2 .int (4 : Int32) (List.map Value.int (zS.set zr1.toNatClampNeg ((own_g zS zr1) + (own_g zS zr2)))) (.int (0 : Int32)) := f121.other W125 (Ne.symm nz2)
      have f134 : Arv Z h125 zm zk3 .int (4 : Int32) (List.map Value.int (zM.set zr1.toNatClampNeg (own_max (own_g zM zr1) (own_g zM zr2)))) (.int (0 : Int32)) := f113.other W125 (Ne.symm nz3)
      have K135 : Keep h0 h125 [zo, zp, zs, zm] := K122.wr W125 (Or.inl (List.mem_of_getElem? (i := 0) rfl))
      have N136 := Fr.snoc X125 N123 g_zo
      show own_WP _ _ _ _ T125 (mkF m 117 #[.val (.ref zo), .val (.int zx), .val (.int zy), .val (.int zr1), .val (.int zr2), .val (.int zr1), .val (.int zr2)] [])
      refine own_retV X125 hx Bd.notSynchronized Bd.returns (hb hby d3_117) (by decide) (by decide) ?_
      rw [e125]
      exact ⟨(zM.set zr1.toNatClampNeg (own_max (own_g zM zr1) (own_g zM zr2))), (zc - (1 : Int32)), rfl, N136, K135, f127, f128, f129, f130, f126, ((show ((List.map Value.int ((own_rt 4 (own_rt 4 zP zx).1 zy).1.set zr2.toNatClampNeg zr1)) : List Value) = (List.map Value.int (own_jn zP zS zx zy).1) from by exact congrArg (fun q : List Int32 × List Int32 => List.map Value.int q.1) (own_jnA d_zr1 d_zr2 hc16 hc32).symm) ▸ f132), ((show ((List.map Value.int (zS.set zr1.toNatClampNeg ((own_g zS zr1) + (own_g zS zr2)))) : List Value) = (List.map Value.int (own_jn zP zS zx zy).2) from by exact congrArg (fun q : List Int32 × List Int32 => List.map Value.int q.2) (own_jnA d_zr1 d_zr2 hc16 hc32).symm) ▸ f133), f134, (by simp only [List.length_set, hM])⟩
theorem d7_0 : decode method_2_code 0 = .ok (.aload_n 0, 1) := by decide +kernel
theorem d7_1 : decode method_2_code 1 = .ok (.iconst 0, 1) := by decide +kernel
theorem d7_2 : decode method_2_code 2 = .ok (.iaload, 1) := by decide +kernel
theorem d7_3 : decode method_2_code 3 = .ok (.iload_n 1, 1) := by decide +kernel
theorem d7_4 : decode method_2_code 4 = .ok (.if_icmp .ne 7, 3) := by decide +kernel
theorem d7_7 : decode method_2_code 7 = .ok (.iconst 1, 1) := by decide +kernel
theorem d7_8 : decode method_2_code 8 = .ok (.goto 4, 3) := by decide +kernel
theorem d7_11 : decode method_2_code 11 = .ok (.iconst 0, 1) := by decide +kernel
theorem d7_12 : decode method_2_code 12 = .ok (.aload_n 0, 1) := by decide +kernel
theorem d7_13 : decode method_2_code 13 = .ok (.iconst 1, 1) := by decide +kernel
theorem d7_14 : decode method_2_code 14 = .ok (.iaload, 1) := by decide +kernel
theorem d7_15 : decode method_2_code 15 = .ok (.iload_n 1, 1) := by decide +kernel
theorem d7_16 : decode method_2_code 16 = .ok (.if_icmp .ne 7, 3) := by decide +kernel
theorem d7_19 : decode method_2_code 19 = .ok (.iconst 1, 1) := by decide +kernel
theorem d7_20 : decode method_2_code 20 = .ok (.goto 4, 3) := by decide +kernel
theorem d7_23 : decode method_2_code 23 = .ok (.iconst 0, 1) := by decide +kernel
theorem d7_24 : decode method_2_code 24 = .ok (.iadd, 1) := by decide +kernel
theorem d7_25 : decode method_2_code 25 = .ok (.aload_n 0, 1) := by decide +kernel
theorem d7_26 : decode method_2_code 26 = .ok (.iconst 2, 1) := by decide +kernel
theorem d7_27 : decode method_2_code 27 = .ok (.iaload, 1) := by decide +kernel
theorem d7_28 : decode method_2_code 28 = .ok (.iload_n 1, 1) := by decide +kernel
theorem d7_29 : decode method_2_code 29 = .ok (.if_icmp .ne 7, 3) := by decide +kernel
theorem d7_32 : decode method_2_code 32 = .ok (.iconst 1, 1) := by decide +kernel
theorem d7_33 : decode method_2_code 33 = .ok (.goto 4, 3) := by decide +kernel
theorem d7_36 : decode method_2_code 36 = .ok (.iconst 0, 1) := by decide +kernel
theorem d7_37 : decode method_2_code 37 = .ok (.iadd, 1) := by decide +kernel
theorem d7_38 : decode method_2_code 38 = .ok (.aload_n 0, 1) := by decide +kernel
theorem d7_39 : decode method_2_code 39 = .ok (.iconst 3, 1) := by decide +kernel
theorem d7_40 : decode method_2_code 40 = .ok (.iaload, 1) := by decide +kernel
theorem d7_41 : decode method_2_code 41 = .ok (.iload_n 1, 1) := by decide +kernel
theorem d7_42 : decode method_2_code 42 = .ok (.if_icmp .ne 7, 3) := by decide +kernel
theorem d7_45 : decode method_2_code 45 = .ok (.iconst 1, 1) := by decide +kernel
theorem d7_46 : decode method_2_code 46 = .ok (.goto 4, 3) := by decide +kernel
theorem d7_49 : decode method_2_code 49 = .ok (.iconst 0, 1) := by decide +kernel
theorem d7_50 : decode method_2_code 50 = .ok (.iadd, 1) := by decide +kernel
theorem d7_51 : decode method_2_code 51 = .ok (.ireturn, 1) := by decide +kernel
theorem own_pn20476 : plainName "com/example/ringspan/ringspan/symmetry/OrbitsRootPinLaw" = true := by first | (simp [plainName, overriddenIn]; done) | decide +kernel
theorem ef_7 (m : MethodId) (za : Addr) (zv : Int32) : entryFrame m #[(.ref za), (.int zv)] 2 = mkF m 0 #[.val (.ref za), .val (.int zv)] [] := by first | (simp [entryFrame, mkF, argsToLocals, Value.category]; done) | rfl
def Q7 (Z : State) (za : Addr) (zv : Int32) (zk : ClassId) (zL : List Int32) (h0 : Heap) (n0 : Nat) (v : Option Value) (h : Heap) (L : List Loc) : Prop := v = some (.int (own_cnt zL zv)) ∧ Fr n0 L ∧ h = h0
set_option maxRecDepth 65536 in
set_option maxHeartbeats 40000000 in
theorem rm7 (l : Launch) (Z : State) (a0 : Array Value) (hw : ∀ d ∈ tables_1, d.before a0 Z = true) (ws : List Jvm.Cond) (za : Addr) (zv : Int32) (zk : ClassId) (zL : List Int32) (h0 : Heap) (n0 : Nat) (Z0 : n0 ≤ h0.size) (P0 : Arv Z h0 za zk .int (4 : Int32) (List.map Value.int zL) (.int (0 : Int32))) :
    MetFree l (⟨"com/example/ringspan/ringspan/symmetry/OrbitsRootPinLaw", "cnt", "([II)I"⟩ : MethodName) (head1 (Jvm.Cond.code (⟨"com/example/ringspan/ringspan/symmetry/OrbitsRootPinLaw", "cnt", "([II)I"⟩ : MethodName) method_2_code 2 (some .int) :: ws) ({ frames := 0, cells := 0, slots := 0, locals := 0 } : Room)) (fun a U => a = #[(.ref za), (.int zv)] ∧ Z.Warmed39 U.vm ∧ U.heap = h0) (fun _ _ _ _ _ => True) (fun _ U o U' => ∃ v L, o = .returned v ∧ Q7 Z za zv zk zL h0 n0 v U'.heap L ∧ FrameEnd U o U' L ({ frames := 0, cells := 0, slots := 0, locals := 0 } : Room).cells ({ frames := 0, cells := 0, slots := 0, locals := 0 } : Room).slots) := by
  refine MetFree.of_bodySF (plainFor_of_name own_pn20476) hisR ?_
  intro p e s m args below meth c s₁ Bd hml0 hP hK
  obtain ⟨rfl, hZ, hh⟩ := hP
  have hx := Bd.exec
  have hby := Bd.bytes
  have hml : c.maxLocals = 2 := hml0
  have hown : s.vm.findClass "com/example/ringspan/ringspan/symmetry/OrbitsRootPinLaw" = some m.cls := findClass_of_methodNamed Bd.named
  have hnm := (name_of_methodNamed Bd.named Bd.method).1
  have X0 : Stand p l e ({ frames := 0, cells := 0, slots := 0, locals := 0 } : Room) s m #[(.ref za), (.int zv)] below meth c s₁ [] 0 0 := Stand.of_body Bd
  have e0 : s₁.heap = h0 := by rw [← hh, Bd.state]; rfl
  have N0 := Fr.nil n0
  have K0 := Keep.refl h0 ([] : List Addr)
  show own_WP p e below (own_E s (Q7 Z za zv zk zL h0 n0) 0 0) s₁ (entryFrame m #[(.ref za), (.int zv)] 2)
  rw [ef_7 m za zv]
  show own_WP _ _ _ _ s₁ (mkF m 0 #[.val (.ref za), .val (.int zv)] [])
  refine own_go (fun t k => XS.aloadN X0.here hx rfl (hb hby d7_0) rfl rfl  k) ?_
  show own_WP _ _ _ _ s₁ (mkF m 1 #[.val (.ref za), .val (.int zv)] [(.ref za)])
  refine own_go (fun t k => XS.iconst X0.here hx rfl (hb hby d7_1) k) ?_
  show own_WP _ _ _ _ s₁ (mkF m 2 #[.val (.ref za), .val (.int zv)] [(.int (0 : Int32)), (.ref za)])
  refine own_ldI X0 hx hZ e0 P0 (j := (0 : Int32)) (w := (own_g zL (0 : Int32))) ⟨by decide, by decide⟩ (own_mg _ _) (hb hby d7_2) ?_
  show own_WP _ _ _ _ s₁ (mkF m 3 #[.val (.ref za), .val (.int zv)] [(.int (own_g zL (0 : Int32)))])
  refine own_go (fun t k => XS.iloadN X0.here hx rfl (hb hby d7_3) rfl  k) ?_
  show own_WP _ _ _ _ s₁ (mkF m 4 #[.val (.ref za), .val (.int zv)] [(.int zv), (.int (own_g zL (0 : Int32)))])
  by_cases hc4 : (own_g zL (0 : Int32)) = zv
  · refine own_go (fun t k => XS.icmpNo X0.here hx rfl (hb hby d7_4) rfl (teq hc4).2 k) ?_
    show own_WP _ _ _ _ s₁ (mkF m 7 #[.val (.ref za), .val (.int zv)] [])
    refine own_go (fun t k => XS.iconst X0.here hx rfl (hb hby d7_7) k) ?_
    show own_WP _ _ _ _ s₁ (mkF m 8 #[.val (.ref za), .val (.int zv)] [(.int (1 : Int32))])
    refine own_go (fun t k => XS.goto X0.here hx rfl (pc0 := 8) (pc' := 12) rfl (hb hby d7_8) (by decide) (by decide) k) ?_
    show own_WP _ _ _ _ s₁ (mkF m 12 #[.val (.ref za), .val (.int zv)] [(.int (1 : Int32))])
    refine own_go (fun t k => XS.aloadN X0.here hx rfl (hb hby d7_12) rfl rfl  k) ?_
    show own_WP _ _ _ _ s₁ (mkF m 13 #[.val (.ref za), .val (.int zv)] [(.ref za), (.int (1 : Int32))])
    refine own_go (fun t k => XS.iconst X0.here hx rfl (hb hby d7_13) k) ?_
    show own_WP _ _ _ _ s₁ (mkF m 14 #[.val (.ref za), .val (.int zv)] [(.int (1 : Int32)), (.ref za), (.int (1 : Int32))])
    refine own_ldI X0 hx hZ e0 P0 (j := (1 : Int32)) (w := (own_g zL (1 : Int32))) ⟨by decide, by decide⟩ (own_mg _ _) (hb hby d7_14) ?_
    show own_WP _ _ _ _ s₁ (mkF m 15 #[.val (.ref za), .val (.int zv)] [(.int (own_g zL (1 : Int32))), (.int (1 : Int32))])
    refine own_go (fun t k => XS.iloadN X0.here hx rfl (hb hby d7_15) rfl  k) ?_
    show own_WP _ _ _ _ s₁ (mkF m 16 #[.val (.ref za), .val (.int zv)] [(.int zv), (.int (own_g zL (1 : Int32))), (.int (1 : Int32))])
    by_cases hc16 : (own_g zL (1 : Int32)) = zv
    · refine own_go (fun t k => XS.icmpNo X0.here hx rfl (hb hby d7_16) rfl (teq hc16).2 k) ?_
      show own_WP _ _ _ _ s₁ (mkF m 19 #[.val (.ref za), .val (.int zv)] [(.int (1 : Int32))])
      refine own_go (fun t k => XS.iconst X0.here hx rfl (hb hby d7_19) k) ?_
      show own_WP _ _ _ _ s₁ (mkF m 20 #[.val (.ref za), .val (.int zv)] [(.int (1 : Int32)), (.int (1 : Int32))])
      refine own_go (fun t k => XS.goto X0.here hx rfl (pc0 := 20) (pc' := 24) rfl (hb hby d7_20) (by decide) (by decide) k) ?_
      show own_WP _ _ _ _ s₁ (mkF m 24 #[.val (.ref za), .val (.int zv)] [(.int (1 : Int32)), (.int (1 : Int32))])
      refine own_go (fun t k => XS.iadd X0.here hx rfl (hb hby d7_24) rfl k) ?_
      show own_WP _ _ _ _ s₁ (mkF m 25 #[.val (.ref za), .val (.int zv)] [(.int ((1 : Int32) + (1 : Int32)))])
      refine own_go (fun t k => XS.aloadN X0.here hx rfl (hb hby d7_25) rfl rfl  k) ?_
      show own_WP _ _ _ _ s₁ (mkF m 26 #[.val (.ref za), .val (.int zv)] [(.ref za), (.int ((1 : Int32) + (1 : Int32)))])
      refine own_go (fun t k => XS.iconst X0.here hx rfl (hb hby d7_26) k) ?_
      show own_WP _ _ _ _ s₁ (mkF m 27 #[.val (.ref za), .val (.int zv)] [(.int (2 : Int32)), (.ref za), (.int ((1 : Int32) + (1 : Int32)))])
      refine own_ldI X0 hx hZ e0 P0 (j := (2 : Int32)) (w := (own_g zL (2 : Int32))) ⟨by decide, by decide⟩ (own_mg _ _) (hb hby d7_27) ?_
      show own_WP _ _ _ _ s₁ (mkF m 28 #[.val (.ref za), .val (.int zv)] [(.int (own_g zL (2 : Int32))), (.int ((1 : Int32) + (1 : Int32)))])
      refine own_go (fun t k => XS.iloadN X0.here hx rfl (hb hby d7_28) rfl  k) ?_
      show own_WP _ _ _ _ s₁ (mkF m 29 #[.val (.ref za), .val (.int zv)] [(.int zv), (.int (own_g zL (2 : Int32))), (.int ((1 : Int32) + (1 : Int32)))])
      by_cases hc29 : (own_g zL (2 : Int32)) = zv
      · refine own_go (fun t k => XS.icmpNo X0.here hx rfl (hb hby d7_29) rfl (teq hc29).2 k) ?_
        show own_WP _ _ _ _ s₁ (mkF m 32 #[.val (.ref za), .val (.int zv)] [(.int ((1 : Int32) + (1 : Int32)))])
        refine own_go (fun t k => XS.iconst X0.here hx rfl (hb hby d7_32) k) ?_
        show own_WP _ _ _ _ s₁ (mkF m 33 #[.val (.ref za), .val (.int zv)] [(.int (1 : Int32)), (.int ((1 : Int32) + (1 : Int32)))])
        refine own_go (fun t k => XS.goto X0.here hx rfl (pc0 := 33) (pc' := 37) rfl (hb hby d7_33) (by decide) (by decide) k) ?_
        show own_WP _ _ _ _ s₁ (mkF m 37 #[.val (.ref za), .val (.int zv)] [(.int (1 : Int32)), (.int ((1 : Int32) + (1 : Int32)))])
        refine own_go (fun t k => XS.iadd X0.here hx rfl (hb hby d7_37) rfl k) ?_
        show own_WP _ _ _ _ s₁ (mkF m 38 #[.val (.ref za), .val (.int zv)] [(.int (((1 : Int32) + (1 : Int32)) + (1 : Int32)))])
        refine own_go (fun t k => XS.aloadN X0.here hx rfl (hb hby d7_38) rfl rfl  k) ?_
        show own_WP _ _ _ _ s₁ (mkF m 39 #[.val (.ref za), .val (.int zv)] [(.ref za), (.int (((1 : Int32) + (1 : Int32)) + (1 : Int32)))])
        refine own_go (fun t k => XS.iconst X0.here hx rfl (hb hby d7_39) k) ?_
        show own_WP _ _ _ _ s₁ (mkF m 40 #[.val (.ref za), .val (.int zv)] [(.int (3 : Int32)), (.ref za), (.int (((1 : Int32) + (1 : Int32)) + (1 : Int32)))])
        refine own_ldI X0 hx hZ e0 P0 (j := (3 : Int32)) (w := (own_g zL (3 : Int32))) ⟨by decide, by decide⟩ (own_mg _ _) (hb hby d7_40) ?_
        show own_WP _ _ _ _ s₁ (mkF m 41 #[.val (.ref za), .val (.int zv)] [(.int (own_g zL (3 : Int32))), (.int (((1 : Int32) + (1 : Int32)) + (1 : Int32)))])
        refine own_go (fun t k => XS.iloadN X0.here hx rfl (hb hby d7_41) rfl  k) ?_
        show own_WP _ _ _ _ s₁ (mkF m 42 #[.val (.ref za), .val (.int zv)] [(.int zv), (.int (own_g zL (3 : Int32))), (.int (((1 : Int32) + (1 : Int32)) + (1 : Int32)))])
        by_cases hc42 : (own_g zL (3 : Int32)) = zv
        · refine own_go (fun t k => XS.icmpNo X0.here hx rfl (hb hby d7_42) rfl (teq hc42).2 k) ?_
          show own_WP _ _ _ _ s₁ (mkF m 45 #[.val (.ref za), .val (.int zv)] [(.int (((1 : Int32) + (1 : Int32)) + (1 : Int32)))])
          refine own_go (fun t k => XS.iconst X0.here hx rfl (hb hby d7_45) k) ?_
          show own_WP _ _ _ _ s₁ (mkF m 46 #[.val (.ref za), .val (.int zv)] [(.int (1 : Int32)), (.int (((1 : Int32) + (1 : Int32)) + (1 : Int32)))])
          refine own_go (fun t k => XS.goto X0.here hx rfl (pc0 := 46) (pc' := 50) rfl (hb hby d7_46) (by decide) (by decide) k) ?_
          show own_WP _ _ _ _ s₁ (mkF m 50 #[.val (.ref za), .val (.int zv)] [(.int (1 : Int32)), (.int (((1 : Int32) + (1 : Int32)) + (1 : Int32)))])
          refine own_go (fun t k => XS.iadd X0.here hx rfl (hb hby d7_50) rfl k) ?_
          show own_WP _ _ _ _ s₁ (mkF m 51 #[.val (.ref za), .val (.int zv)] [(.int ((((1 : Int32) + (1 : Int32)) + (1 : Int32)) + (1 : Int32)))])
          refine own_retI X0 hx Bd.notSynchronized Bd.returns (hb hby d7_51) (by decide) (by decide) ?_
          rw [e0]
          exact ⟨(congrArg (fun z => some (Value.int z)) (show ((((1 : Int32) + (1 : Int32)) + (1 : Int32)) + (1 : Int32)) = (own_cnt zL zv) from by unfold own_cnt; rw [if_pos hc4, if_pos hc16, if_pos hc29, if_pos hc42])), N0, rfl⟩
        · refine own_go (fun t k => XS.icmpYes X0.here hx rfl (pc0 := 42) (pc' := 49) rfl (hb hby d7_42) rfl (feq hc42).2 (by decide) (by decide) k) ?_
          show own_WP _ _ _ _ s₁ (mkF m 49 #[.val (.ref za), .val (.int zv)] [(.int (((1 : Int32) + (1 : Int32)) + (1 : Int32)))])
          refine own_go (fun t k => XS.iconst X0.here hx rfl (hb hby d7_49) k) ?_
          show own_WP _ _ _ _ s₁ (mkF m 50 #[.val (.ref za), .val (.int zv)] [(.int (0 : Int32)), (.int (((1 : Int32) + (1 : Int32)) + (1 : Int32)))])
          refine own_go (fun t k => XS.iadd X0.here hx rfl (hb hby d7_50) rfl k) ?_
          show own_WP _ _ _ _ s₁ (mkF m 51 #[.val (.ref za), .val (.int zv)] [(.int ((((1 : Int32) + (1 : Int32)) + (1 : Int32)) + (0 : Int32)))])
          refine own_retI X0 hx Bd.notSynchronized Bd.returns (hb hby d7_51) (by decide) (by decide) ?_
          rw [e0]
          exact ⟨(congrArg (fun z => some (Value.int z)) (show ((((1 : Int32) + (1 : Int32)) + (1 : Int32)) + (0 : Int32)) = (own_cnt zL zv) from by unfold own_cnt; rw [if_pos hc4, if_pos hc16, if_pos hc29, if_neg hc42])), N0, rfl⟩
      · refine own_go (fun t k => XS.icmpYes X0.here hx rfl (pc0 := 29) (pc' := 36) rfl (hb hby d7_29) rfl (feq hc29).2 (by decide) (by decide) k) ?_
        show own_WP _ _ _ _ s₁ (mkF m 36 #[.val (.ref za), .val (.int zv)] [(.int ((1 : Int32) + (1 : Int32)))])
        refine own_go (fun t k => XS.iconst X0.here hx rfl (hb hby d7_36) k) ?_
        show own_WP _ _ _ _ s₁ (mkF m 37 #[.val (.ref za), .val (.int zv)] [(.int (0 : Int32)), (.int ((1 : Int32) + (1 : Int32)))])
        refine own_go (fun t k => XS.iadd X0.here hx rfl (hb hby d7_37) rfl k) ?_
        show own_WP _ _ _ _ s₁ (mkF m 38 #[.val (.ref za), .val (.int zv)] [(.int (((1 : Int32) + (1 : Int32)) + (0 : Int32)))])
        refine own_go (fun t k => XS.aloadN X0.here hx rfl (hb hby d7_38) rfl rfl  k) ?_
        show own_WP _ _ _ _ s₁ (mkF m 39 #[.val (.ref za), .val (.int zv)] [(.ref za), (.int (((1 : Int32) + (1 : Int32)) + (0 : Int32)))])
        refine own_go (fun t k => XS.iconst X0.here hx rfl (hb hby d7_39) k) ?_
        show own_WP _ _ _ _ s₁ (mkF m 40 #[.val (.ref za), .val (.int zv)] [(.int (3 : Int32)), (.ref za), (.int (((1 : Int32) + (1 : Int32)) + (0 : Int32)))])
        refine own_ldI X0 hx hZ e0 P0 (j := (3 : Int32)) (w := (own_g zL (3 : Int32))) ⟨by decide, by decide⟩ (own_mg _ _) (hb hby d7_40) ?_
        show own_WP _ _ _ _ s₁ (mkF m 41 #[.val (.ref za), .val (.int zv)] [(.int (own_g zL (3 : Int32))), (.int (((1 : Int32) + (1 : Int32)) + (0 : Int32)))])
        refine own_go (fun t k => XS.iloadN X0.here hx rfl (hb hby d7_41) rfl  k) ?_
        show own_WP _ _ _ _ s₁ (mkF m 42 #[.val (.ref za), .val (.int zv)] [(.int zv), (.int (own_g zL (3 : Int32))), (.int (((1 : Int32) + (1 : Int32)) + (0 : Int32)))])
        by_cases hc42 : (own_g zL (3 : Int32)) = zv
        · refine own_go (fun t k => XS.icmpNo X0.here hx rfl (hb hby d7_42) rfl (teq hc42).2 k) ?_
          show own_WP _ _ _ _ s₁ (mkF m 45 #[.val (.ref za), .val (.int zv)] [(.int (((1 : Int32) + (1 : Int32)) + (0 : Int32)))])
          refine own_go (fun t k => XS.iconst X0.here hx rfl (hb hby d7_45) k) ?_
          show own_WP _ _ _ _ s₁ (mkF m 46 #[.val (.ref za), .val (.int zv)] [(.int (1 : Int32)), (.int (((1 : Int32) + (1 : Int32)) + (0 : Int32)))])
          refine own_go (fun t k => XS.goto X0.here hx rfl (pc0 := 46) (pc' := 50) rfl (hb hby d7_46) (by decide) (by decide) k) ?_
          show own_WP _ _ _ _ s₁ (mkF m 50 #[.val (.ref za), .val (.int zv)] [(.int (1 : Int32)), (.int (((1 : Int32) + (1 : Int32)) + (0 : Int32)))])
          refine own_go (fun t k => XS.iadd X0.here hx rfl (hb hby d7_50) rfl k) ?_
          show own_WP _ _ _ _ s₁ (mkF m 51 #[.val (.ref za), .val (.int zv)] [(.int ((((1 : Int32) + (1 : Int32)) + (0 : Int32)) + (1 : Int32)))])
          refine own_retI X0 hx Bd.notSynchronized Bd.returns (hb hby d7_51) (by decide) (by decide) ?_
          rw [e0]
          exact ⟨(congrArg (fun z => some (Value.int z)) (show ((((1 : Int32) + (1 : Int32)) + (0 : Int32)) + (1 : Int32)) = (own_cnt zL zv) from by unfold own_cnt; rw [if_pos hc4, if_pos hc16, if_neg hc29, if_pos hc42])), N0, rfl⟩
        · refine own_go (fun t k => XS.icmpYes X0.here hx rfl (pc0 := 42) (pc' := 49) rfl (hb hby d7_42) rfl (feq hc42).2 (by decide) (by decide) k) ?_
          show own_WP _ _ _ _ s₁ (mkF m 49 #[.val (.ref za), .val (.int zv)] [(.int (((1 : Int32) + (1 : Int32)) + (0 : Int32)))])
          refine own_go (fun t k => XS.iconst X0.here hx rfl (hb hby d7_49) k) ?_
          show own_WP _ _ _ _ s₁ (mkF m 50 #[.val (.ref za), .val (.int zv)] [(.int (0 : Int32)), (.int (((1 : Int32) + (1 : Int32)) + (0 : Int32)))])
          refine own_go (fun t k => XS.iadd X0.here hx rfl (hb hby d7_50) rfl k) ?_
          show own_WP _ _ _ _ s₁ (mkF m 51 #[.val (.ref za), .val (.int zv)] [(.int ((((1 : Int32) + (1 : Int32)) + (0 : Int32)) + (0 : Int32)))])
          refine own_retI X0 hx Bd.notSynchronized Bd.returns (hb hby d7_51) (by decide) (by decide) ?_
          rw [e0]
          exact ⟨(congrArg (fun z => some (Value.int z)) (show ((((1 : Int32) + (1 : Int32)) + (0 : Int32)) + (0 : Int32)) = (own_cnt zL zv) from by unfold own_cnt; rw [if_pos hc4, if_pos hc16, if_neg hc29, if_neg hc42])), N0, rfl⟩
    · refine own_go (fun t k => XS.icmpYes X0.here hx rfl (pc0 := 16) (pc' := 23) rfl (hb hby d7_16) rfl (feq hc16).2 (by decide) (by decide) k) ?_
      show own_WP _ _ _ _ s₁ (mkF m 23 #[.val (.ref za), .val (.int zv)] [(.int (1 : Int32))])
      refine own_go (fun t k => XS.iconst X0.here hx rfl (hb hby d7_23) k) ?_
      show own_WP _ _ _ _ s₁ (mkF m 24 #[.val (.ref za), .val (.int zv)] [(.int (0 : Int32)), (.int (1 : Int32))])
      refine own_go (fun t k => XS.iadd X0.here hx rfl (hb hby d7_24) rfl k) ?_
      show own_WP _ _ _ _ s₁ (mkF m 25 #[.val (.ref za), .val (.int zv)] [(.int ((1 : Int32) + (0 : Int32)))])
      refine own_go (fun t k => XS.aloadN X0.here hx rfl (hb hby d7_25) rfl rfl  k) ?_
      show own_WP _ _ _ _ s₁ (mkF m 26 #[.val (.ref za), .val (.int zv)] [(.ref za), (.int ((1 : Int32) + (0 : Int32)))])
      refine own_go (fun t k => XS.iconst X0.here hx rfl (hb hby d7_26) k) ?_
      show own_WP _ _ _ _ s₁ (mkF m 27 #[.val (.ref za), .val (.int zv)] [(.int (2 : Int32)), (.ref za), (.int ((1 : Int32) + (0 : Int32)))])
      refine own_ldI X0 hx hZ e0 P0 (j := (2 : Int32)) (w := (own_g zL (2 : Int32))) ⟨by decide, by decide⟩ (own_mg _ _) (hb hby d7_27) ?_
      show own_WP _ _ _ _ s₁ (mkF m 28 #[.val (.ref za), .val (.int zv)] [(.int (own_g zL (2 : Int32))), (.int ((1 : Int32) + (0 : Int32)))])
      refine own_go (fun t k => XS.iloadN X0.here hx rfl (hb hby d7_28) rfl  k) ?_
      show own_WP _ _ _ _ s₁ (mkF m 29 #[.val (.ref za), .val (.int zv)] [(.int zv), (.int (own_g zL (2 : Int32))), (.int ((1 : Int32) + (0 : Int32)))])
      by_cases hc29 : (own_g zL (2 : Int32)) = zv
      · refine own_go (fun t k => XS.icmpNo X0.here hx rfl (hb hby d7_29) rfl (teq hc29).2 k) ?_
        show own_WP _ _ _ _ s₁ (mkF m 32 #[.val (.ref za), .val (.int zv)] [(.int ((1 : Int32) + (0 : Int32)))])
        refine own_go (fun t k => XS.iconst X0.here hx rfl (hb hby d7_32) k) ?_
        show own_WP _ _ _ _ s₁ (mkF m 33 #[.val (.ref za), .val (.int zv)] [(.int (1 : Int32)), (.int ((1 : Int32) + (0 : Int32)))])
        refine own_go (fun t k => XS.goto X0.here hx rfl (pc0 := 33) (pc' := 37) rfl (hb hby d7_33) (by decide) (by decide) k) ?_
        show own_WP _ _ _ _ s₁ (mkF m 37 #[.val (.ref za), .val (.int zv)] [(.int (1 : Int32)), (.int ((1 : Int32) + (0 : Int32)))])
        refine own_go (fun t k => XS.iadd X0.here hx rfl (hb hby d7_37) rfl k) ?_
        show own_WP _ _ _ _ s₁ (mkF m 38 #[.val (.ref za), .val (.int zv)] [(.int (((1 : Int32) + (0 : Int32)) + (1 : Int32)))])
        refine own_go (fun t k => XS.aloadN X0.here hx rfl (hb hby d7_38) rfl rfl  k) ?_
        show own_WP _ _ _ _ s₁ (mkF m 39 #[.val (.ref za), .val (.int zv)] [(.ref za), (.int (((1 : Int32) + (0 : Int32)) + (1 : Int32)))])
        refine own_go (fun t k => XS.iconst X0.here hx rfl (hb hby d7_39) k) ?_
        show own_WP _ _ _ _ s₁ (mkF m 40 #[.val (.ref za), .val (.int zv)] [(.int (3 : Int32)), (.ref za), (.int (((1 : Int32) + (0 : Int32)) + (1 : Int32)))])
        refine own_ldI X0 hx hZ e0 P0 (j := (3 : Int32)) (w := (own_g zL (3 : Int32))) ⟨by decide, by decide⟩ (own_mg _ _) (hb hby d7_40) ?_
        show own_WP _ _ _ _ s₁ (mkF m 41 #[.val (.ref za), .val (.int zv)] [(.int (own_g zL (3 : Int32))), (.int (((1 : Int32) + (0 : Int32)) + (1 : Int32)))])
        refine own_go (fun t k => XS.iloadN X0.here hx rfl (hb hby d7_41) rfl  k) ?_
        show own_WP _ _ _ _ s₁ (mkF m 42 #[.val (.ref za), .val (.int zv)] [(.int zv), (.int (own_g zL (3 : Int32))), (.int (((1 : Int32) + (0 : Int32)) + (1 : Int32)))])
        by_cases hc42 : (own_g zL (3 : Int32)) = zv
        · refine own_go (fun t k => XS.icmpNo X0.here hx rfl (hb hby d7_42) rfl (teq hc42).2 k) ?_
          show own_WP _ _ _ _ s₁ (mkF m 45 #[.val (.ref za), .val (.int zv)] [(.int (((1 : Int32) + (0 : Int32)) + (1 : Int32)))])
          refine own_go (fun t k => XS.iconst X0.here hx rfl (hb hby d7_45) k) ?_
          show own_WP _ _ _ _ s₁ (mkF m 46 #[.val (.ref za), .val (.int zv)] [(.int (1 : Int32)), (.int (((1 : Int32) + (0 : Int32)) + (1 : Int32)))])
          refine own_go (fun t k => XS.goto X0.here hx rfl (pc0 := 46) (pc' := 50) rfl (hb hby d7_46) (by decide) (by decide) k) ?_
          show own_WP _ _ _ _ s₁ (mkF m 50 #[.val (.ref za), .val (.int zv)] [(.int (1 : Int32)), (.int (((1 : Int32) + (0 : Int32)) + (1 : Int32)))])
          refine own_go (fun t k => XS.iadd X0.here hx rfl (hb hby d7_50) rfl k) ?_
          show own_WP _ _ _ _ s₁ (mkF m 51 #[.val (.ref za), .val (.int zv)] [(.int ((((1 : Int32) + (0 : Int32)) + (1 : Int32)) + (1 : Int32)))])
          refine own_retI X0 hx Bd.notSynchronized Bd.returns (hb hby d7_51) (by decide) (by decide) ?_
          rw [e0]
          exact ⟨(congrArg (fun z => some (Value.int z)) (show ((((1 : Int32) + (0 : Int32)) + (1 : Int32)) + (1 : Int32)) = (own_cnt zL zv) from by unfold own_cnt; rw [if_pos hc4, if_neg hc16, if_pos hc29, if_pos hc42])), N0, rfl⟩
        · refine own_go (fun t k => XS.icmpYes X0.here hx rfl (pc0 := 42) (pc' := 49) rfl (hb hby d7_42) rfl (feq hc42).2 (by decide) (by decide) k) ?_
          show own_WP _ _ _ _ s₁ (mkF m 49 #[.val (.ref za), .val (.int zv)] [(.int (((1 : Int32) + (0 : Int32)) + (1 : Int32)))])
          refine own_go (fun t k => XS.iconst X0.here hx rfl (hb hby d7_49) k) ?_
          show own_WP _ _ _ _ s₁ (mkF m 50 #[.val (.ref za), .val (.int zv)] [(.int (0 : Int32)), (.int (((1 : Int32) + (0 : Int32)) + (1 : Int32)))])
          refine own_go (fun t k => XS.iadd X0.here hx rfl (hb hby d7_50) rfl k) ?_
          show own_WP _ _ _ _ s₁ (mkF m 51 #[.val (.ref za), .val (.int zv)] [(.int ((((1 : Int32) + (0 : Int32)) + (1 : Int32)) + (0 : Int32)))])
          refine own_retI X0 hx Bd.notSynchronized Bd.returns (hb hby d7_51) (by decide) (by decide) ?_
          rw [e0]
          exact ⟨(congrArg (fun z => some (Value.int z)) (show ((((1 : Int32) + (0 : Int32)) + (1 : Int32)) + (0 : Int32)) = (own_cnt zL zv) from by unfold own_cnt; rw [if_pos hc4, if_neg hc16, if_pos hc29, if_neg hc42])), N0, rfl⟩
      · refine own_go (fun t k => XS.icmpYes X0.here hx rfl (pc0 := 29) (pc' := 36) rfl (hb hby d7_29) rfl (feq hc29).2 (by decide) (by decide) k) ?_
        show own_WP _ _ _ _ s₁ (mkF m 36 #[.val (.ref za), .val (.int zv)] [(.int ((1 : Int32) + (0 : Int32)))])
        refine own_go (fun t k => XS.iconst X0.here hx rfl (hb hby d7_36) k) ?_
        show own_WP _ _ _ _ s₁ (mkF m 37 #[.val (.ref za), .val (.int zv)] [(.int (0 : Int32)), (.int ((1 : Int32) + (0 : Int32)))])
        refine own_go (fun t k => XS.iadd X0.here hx rfl (hb hby d7_37) rfl k) ?_
        show own_WP _ _ _ _ s₁ (mkF m 38 #[.val (.ref za), .val (.int zv)] [(.int (((1 : Int32) + (0 : Int32)) + (0 : Int32)))])
        refine own_go (fun t k => XS.aloadN X0.here hx rfl (hb hby d7_38) rfl rfl  k) ?_
        show own_WP _ _ _ _ s₁ (mkF m 39 #[.val (.ref za), .val (.int zv)] [(.ref za), (.int (((1 : Int32) + (0 : Int32)) + (0 : Int32)))])
        refine own_go (fun t k => XS.iconst X0.here hx rfl (hb hby d7_39) k) ?_
        show own_WP _ _ _ _ s₁ (mkF m 40 #[.val (.ref za), .val (.int zv)] [(.int (3 : Int32)), (.ref za), (.int (((1 : Int32) + (0 : Int32)) + (0 : Int32)))])
        refine own_ldI X0 hx hZ e0 P0 (j := (3 : Int32)) (w := (own_g zL (3 : Int32))) ⟨by decide, by decide⟩ (own_mg _ _) (hb hby d7_40) ?_
        show own_WP _ _ _ _ s₁ (mkF m 41 #[.val (.ref za), .val (.int zv)] [(.int (own_g zL (3 : Int32))), (.int (((1 : Int32) + (0 : Int32)) + (0 : Int32)))])
        refine own_go (fun t k => XS.iloadN X0.here hx rfl (hb hby d7_41) rfl  k) ?_
        show own_WP _ _ _ _ s₁ (mkF m 42 #[.val (.ref za), .val (.int zv)] [(.int zv), (.int (own_g zL (3 : Int32))), (.int (((1 : Int32) + (0 : Int32)) + (0 : Int32)))])
        by_cases hc42 : (own_g zL (3 : Int32)) = zv
        · refine own_go (fun t k => XS.icmpNo X0.here hx rfl (hb hby d7_42) rfl (teq hc42).2 k) ?_
          show own_WP _ _ _ _ s₁ (mkF m 45 #[.val (.ref za), .val (.int zv)] [(.int (((1 : Int32) + (0 : Int32)) + (0 : Int32)))])
          refine own_go (fun t k => XS.iconst X0.here hx rfl (hb hby d7_45) k) ?_
          show own_WP _ _ _ _ s₁ (mkF m 46 #[.val (.ref za), .val (.int zv)] [(.int (1 : Int32)), (.int (((1 : Int32) + (0 : Int32)) + (0 : Int32)))])
          refine own_go (fun t k => XS.goto X0.here hx rfl (pc0 := 46) (pc' := 50) rfl (hb hby d7_46) (by decide) (by decide) k) ?_
          show own_WP _ _ _ _ s₁ (mkF m 50 #[.val (.ref za), .val (.int zv)] [(.int (1 : Int32)), (.int (((1 : Int32) + (0 : Int32)) + (0 : Int32)))])
          refine own_go (fun t k => XS.iadd X0.here hx rfl (hb hby d7_50) rfl k) ?_
          show own_WP _ _ _ _ s₁ (mkF m 51 #[.val (.ref za), .val (.int zv)] [(.int ((((1 : Int32) + (0 : Int32)) + (0 : Int32)) + (1 : Int32)))])
          refine own_retI X0 hx Bd.notSynchronized Bd.returns (hb hby d7_51) (by decide) (by decide) ?_
          rw [e0]
          exact ⟨(congrArg (fun z => some (Value.int z)) (show ((((1 : Int32) + (0 : Int32)) + (0 : Int32)) + (1 : Int32)) = (own_cnt zL zv) from by unfold own_cnt; rw [if_pos hc4, if_neg hc16, if_neg hc29, if_pos hc42])), N0, rfl⟩
        · refine own_go (fun t k => XS.icmpYes X0.here hx rfl (pc0 := 42) (pc' := 49) rfl (hb hby d7_42) rfl (feq hc42).2 (by decide) (by decide) k) ?_
          show own_WP _ _ _ _ s₁ (mkF m 49 #[.val (.ref za), .val (.int zv)] [(.int (((1 : Int32) + (0 : Int32)) + (0 : Int32)))])
          refine own_go (fun t k => XS.iconst X0.here hx rfl (hb hby d7_49) k) ?_
          show own_WP _ _ _ _ s₁ (mkF m 50 #[.val (.ref za), .val (.int zv)] [(.int (0 : Int32)), (.int (((1 : Int32) + (0 : Int32)) + (0 : Int32)))])
          refine own_go (fun t k => XS.iadd X0.here hx rfl (hb hby d7_50) rfl k) ?_
          show own_WP _ _ _ _ s₁ (mkF m 51 #[.val (.ref za), .val (.int zv)] [(.int ((((1 : Int32) + (0 : Int32)) + (0 : Int32)) + (0 : Int32)))])
          refine own_retI X0 hx Bd.notSynchronized Bd.returns (hb hby d7_51) (by decide) (by decide) ?_
          rw [e0]
          exact ⟨(congrArg (fun z => some (Value.int z)) (show ((((1 : Int32) + (0 : Int32)) + (0 : Int32)) + (0 : Int32)) = (own_cnt zL zv) from by unfold own_cnt; rw [if_pos hc4, if_neg hc16, if_neg hc29, if_neg hc42])), N0, rfl⟩
  · refine own_go (fun t k => XS.icmpYes X0.here hx rfl (pc0 := 4) (pc' := 11) rfl (hb hby d7_4) rfl (feq hc4).2 (by decide) (by decide) k) ?_
    show own_WP _ _ _ _ s₁ (mkF m 11 #[.val (.ref za), .val (.int zv)] [])
    refine own_go (fun t k => XS.iconst X0.here hx rfl (hb hby d7_11) k) ?_
    show own_WP _ _ _ _ s₁ (mkF m 12 #[.val (.ref za), .val (.int zv)] [(.int (0 : Int32))])
    refine own_go (fun t k => XS.aloadN X0.here hx rfl (hb hby d7_12) rfl rfl  k) ?_
    show own_WP _ _ _ _ s₁ (mkF m 13 #[.val (.ref za), .val (.int zv)] [(.ref za), (.int (0 : Int32))])
    refine own_go (fun t k => XS.iconst X0.here hx rfl (hb hby d7_13) k) ?_
    show own_WP _ _ _ _ s₁ (mkF m 14 #[.val (.ref za), .val (.int zv)] [(.int (1 : Int32)), (.ref za), (.int (0 : Int32))])
    refine own_ldI X0 hx hZ e0 P0 (j := (1 : Int32)) (w := (own_g zL (1 : Int32))) ⟨by decide, by decide⟩ (own_mg _ _) (hb hby d7_14) ?_
    show own_WP _ _ _ _ s₁ (mkF m 15 #[.val (.ref za), .val (.int zv)] [(.int (own_g zL (1 : Int32))), (.int (0 : Int32))])
    refine own_go (fun t k => XS.iloadN X0.here hx rfl (hb hby d7_15) rfl  k) ?_
    show own_WP _ _ _ _ s₁ (mkF m 16 #[.val (.ref za), .val (.int zv)] [(.int zv), (.int (own_g zL (1 : Int32))), (.int (0 : Int32))])
    by_cases hc16 : (own_g zL (1 : Int32)) = zv
    · refine own_go (fun t k => XS.icmpNo X0.here hx rfl (hb hby d7_16) rfl (teq hc16).2 k) ?_
      show own_WP _ _ _ _ s₁ (mkF m 19 #[.val (.ref za), .val (.int zv)] [(.int (0 : Int32))])
      refine own_go (fun t k => XS.iconst X0.here hx rfl (hb hby d7_19) k) ?_
      show own_WP _ _ _ _ s₁ (mkF m 20 #[.val (.ref za), .val (.int zv)] [(.int (1 : Int32)), (.int (0 : Int32))])
      refine own_go (fun t k => XS.goto X0.here hx rfl (pc0 := 20) (pc' := 24) rfl (hb hby d7_20) (by decide) (by decide) k) ?_
      show own_WP _ _ _ _ s₁ (mkF m 24 #[.val (.ref za), .val (.int zv)] [(.int (1 : Int32)), (.int (0 : Int32))])
      refine own_go (fun t k => XS.iadd X0.here hx rfl (hb hby d7_24) rfl k) ?_
      show own_WP _ _ _ _ s₁ (mkF m 25 #[.val (.ref za), .val (.int zv)] [(.int ((0 : Int32) + (1 : Int32)))])
      refine own_go (fun t k => XS.aloadN X0.here hx rfl (hb hby d7_25) rfl rfl  k) ?_
      show own_WP _ _ _ _ s₁ (mkF m 26 #[.val (.ref za), .val (.int zv)] [(.ref za), (.int ((0 : Int32) + (1 : Int32)))])
      refine own_go (fun t k => XS.iconst X0.here hx rfl (hb hby d7_26) k) ?_
      show own_WP _ _ _ _ s₁ (mkF m 27 #[.val (.ref za), .val (.int zv)] [(.int (2 : Int32)), (.ref za), (.int ((0 : Int32) + (1 : Int32)))])
      refine own_ldI X0 hx hZ e0 P0 (j := (2 : Int32)) (w := (own_g zL (2 : Int32))) ⟨by decide, by decide⟩ (own_mg _ _) (hb hby d7_27) ?_
      show own_WP _ _ _ _ s₁ (mkF m 28 #[.val (.ref za), .val (.int zv)] [(.int (own_g zL (2 : Int32))), (.int ((0 : Int32) + (1 : Int32)))])
      refine own_go (fun t k => XS.iloadN X0.here hx rfl (hb hby d7_28) rfl  k) ?_
      show own_WP _ _ _ _ s₁ (mkF m 29 #[.val (.ref za), .val (.int zv)] [(.int zv), (.int (own_g zL (2 : Int32))), (.int ((0 : Int32) + (1 : Int32)))])
      by_cases hc29 : (own_g zL (2 : Int32)) = zv
      · refine own_go (fun t k => XS.icmpNo X0.here hx rfl (hb hby d7_29) rfl (teq hc29).2 k) ?_
        show own_WP _ _ _ _ s₁ (mkF m 32 #[.val (.ref za), .val (.int zv)] [(.int ((0 : Int32) + (1 : Int32)))])
        refine own_go (fun t k => XS.iconst X0.here hx rfl (hb hby d7_32) k) ?_
        show own_WP _ _ _ _ s₁ (mkF m 33 #[.val (.ref za), .val (.int zv)] [(.int (1 : Int32)), (.int ((0 : Int32) + (1 : Int32)))])
        refine own_go (fun t k => XS.goto X0.here hx rfl (pc0 := 33) (pc' := 37) rfl (hb hby d7_33) (by decide) (by decide) k) ?_
        show own_WP _ _ _ _ s₁ (mkF m 37 #[.val (.ref za), .val (.int zv)] [(.int (1 : Int32)), (.int ((0 : Int32) + (1 : Int32)))])
        refine own_go (fun t k => XS.iadd X0.here hx rfl (hb hby d7_37) rfl k) ?_
        show own_WP _ _ _ _ s₁ (mkF m 38 #[.val (.ref za), .val (.int zv)] [(.int (((0 : Int32) + (1 : Int32)) + (1 : Int32)))])
        refine own_go (fun t k => XS.aloadN X0.here hx rfl (hb hby d7_38) rfl rfl  k) ?_
        show own_WP _ _ _ _ s₁ (mkF m 39 #[.val (.ref za), .val (.int zv)] [(.ref za), (.int (((0 : Int32) + (1 : Int32)) + (1 : Int32)))])
        refine own_go (fun t k => XS.iconst X0.here hx rfl (hb hby d7_39) k) ?_
        show own_WP _ _ _ _ s₁ (mkF m 40 #[.val (.ref za), .val (.int zv)] [(.int (3 : Int32)), (.ref za), (.int (((0 : Int32) + (1 : Int32)) + (1 : Int32)))])
        refine own_ldI X0 hx hZ e0 P0 (j := (3 : Int32)) (w := (own_g zL (3 : Int32))) ⟨by decide, by decide⟩ (own_mg _ _) (hb hby d7_40) ?_
        show own_WP _ _ _ _ s₁ (mkF m 41 #[.val (.ref za), .val (.int zv)] [(.int (own_g zL (3 : Int32))), (.int (((0 : Int32) + (1 : Int32)) + (1 : Int32)))])
        refine own_go (fun t k => XS.iloadN X0.here hx rfl (hb hby d7_41) rfl  k) ?_
        show own_WP _ _ _ _ s₁ (mkF m 42 #[.val (.ref za), .val (.int zv)] [(.int zv), (.int (own_g zL (3 : Int32))), (.int (((0 : Int32) + (1 : Int32)) + (1 : Int32)))])
        by_cases hc42 : (own_g zL (3 : Int32)) = zv
        · refine own_go (fun t k => XS.icmpNo X0.here hx rfl (hb hby d7_42) rfl (teq hc42).2 k) ?_
          show own_WP _ _ _ _ s₁ (mkF m 45 #[.val (.ref za), .val (.int zv)] [(.int (((0 : Int32) + (1 : Int32)) + (1 : Int32)))])
          refine own_go (fun t k => XS.iconst X0.here hx rfl (hb hby d7_45) k) ?_
          show own_WP _ _ _ _ s₁ (mkF m 46 #[.val (.ref za), .val (.int zv)] [(.int (1 : Int32)), (.int (((0 : Int32) + (1 : Int32)) + (1 : Int32)))])
          refine own_go (fun t k => XS.goto X0.here hx rfl (pc0 := 46) (pc' := 50) rfl (hb hby d7_46) (by decide) (by decide) k) ?_
          show own_WP _ _ _ _ s₁ (mkF m 50 #[.val (.ref za), .val (.int zv)] [(.int (1 : Int32)), (.int (((0 : Int32) + (1 : Int32)) + (1 : Int32)))])
          refine own_go (fun t k => XS.iadd X0.here hx rfl (hb hby d7_50) rfl k) ?_
          show own_WP _ _ _ _ s₁ (mkF m 51 #[.val (.ref za), .val (.int zv)] [(.int ((((0 : Int32) + (1 : Int32)) + (1 : Int32)) + (1 : Int32)))])
          refine own_retI X0 hx Bd.notSynchronized Bd.returns (hb hby d7_51) (by decide) (by decide) ?_
          rw [e0]
          exact ⟨(congrArg (fun z => some (Value.int z)) (show ((((0 : Int32) + (1 : Int32)) + (1 : Int32)) + (1 : Int32)) = (own_cnt zL zv) from by unfold own_cnt; rw [if_neg hc4, if_pos hc16, if_pos hc29, if_pos hc42])), N0, rfl⟩
        · refine own_go (fun t k => XS.icmpYes X0.here hx rfl (pc0 := 42) (pc' := 49) rfl (hb hby d7_42) rfl (feq hc42).2 (by decide) (by decide) k) ?_
          show own_WP _ _ _ _ s₁ (mkF m 49 #[.val (.ref za), .val (.int zv)] [(.int (((0 : Int32) + (1 : Int32)) + (1 : Int32)))])
          refine own_go (fun t k => XS.iconst X0.here hx rfl (hb hby d7_49) k) ?_
          show own_WP _ _ _ _ s₁ (mkF m 50 #[.val (.ref za), .val (.int zv)] [(.int (0 : Int32)), (.int (((0 : Int32) + (1 : Int32)) + (1 : Int32)))])
          refine own_go (fun t k => XS.iadd X0.here hx rfl (hb hby d7_50) rfl k) ?_
          show own_WP _ _ _ _ s₁ (mkF m 51 #[.val (.ref za), .val (.int zv)] [(.int ((((0 : Int32) + (1 : Int32)) + (1 : Int32)) + (0 : Int32)))])
          refine own_retI X0 hx Bd.notSynchronized Bd.returns (hb hby d7_51) (by decide) (by decide) ?_
          rw [e0]
          exact ⟨(congrArg (fun z => some (Value.int z)) (show ((((0 : Int32) + (1 : Int32)) + (1 : Int32)) + (0 : Int32)) = (own_cnt zL zv) from by unfold own_cnt; rw [if_neg hc4, if_pos hc16, if_pos hc29, if_neg hc42])), N0, rfl⟩
      · refine own_go (fun t k => XS.icmpYes X0.here hx rfl (pc0 := 29) (pc' := 36) rfl (hb hby d7_29) rfl (feq hc29).2 (by decide) (by decide) k) ?_
        show own_WP _ _ _ _ s₁ (mkF m 36 #[.val (.ref za), .val (.int zv)] [(.int ((0 : Int32) + (1 : Int32)))])
        refine own_go (fun t k => XS.iconst X0.here hx rfl (hb hby d7_36) k) ?_
        show own_WP _ _ _ _ s₁ (mkF m 37 #[.val (.ref za), .val (.int zv)] [(.int (0 : Int32)), (.int ((0 : Int32) + (1 : Int32)))])
        refine own_go (fun t k => XS.iadd X0.here hx rfl (hb hby d7_37) rfl k) ?_
        show own_WP _ _ _ _ s₁ (mkF m 38 #[.val (.ref za), .val (.int zv)] [(.int (((0 : Int32) + (1 : Int32)) + (0 : Int32)))])
        refine own_go (fun t k => XS.aloadN X0.here hx rfl (hb hby d7_38) rfl rfl  k) ?_
        show own_WP _ _ _ _ s₁ (mkF m 39 #[.val (.ref za), .val (.int zv)] [(.ref za), (.int (((0 : Int32) + (1 : Int32)) + (0 : Int32)))])
        refine own_go (fun t k => XS.iconst X0.here hx rfl (hb hby d7_39) k) ?_
        show own_WP _ _ _ _ s₁ (mkF m 40 #[.val (.ref za), .val (.int zv)] [(.int (3 : Int32)), (.ref za), (.int (((0 : Int32) + (1 : Int32)) + (0 : Int32)))])
        refine own_ldI X0 hx hZ e0 P0 (j := (3 : Int32)) (w := (own_g zL (3 : Int32))) ⟨by decide, by decide⟩ (own_mg _ _) (hb hby d7_40) ?_
        show own_WP _ _ _ _ s₁ (mkF m 41 #[.val (.ref za), .val (.int zv)] [(.int (own_g zL (3 : Int32))), (.int (((0 : Int32) + (1 : Int32)) + (0 : Int32)))])
        refine own_go (fun t k => XS.iloadN X0.here hx rfl (hb hby d7_41) rfl  k) ?_
        show own_WP _ _ _ _ s₁ (mkF m 42 #[.val (.ref za), .val (.int zv)] [(.int zv), (.int (own_g zL (3 : Int32))), (.int (((0 : Int32) + (1 : Int32)) + (0 : Int32)))])
        by_cases hc42 : (own_g zL (3 : Int32)) = zv
        · refine own_go (fun t k => XS.icmpNo X0.here hx rfl (hb hby d7_42) rfl (teq hc42).2 k) ?_
          show own_WP _ _ _ _ s₁ (mkF m 45 #[.val (.ref za), .val (.int zv)] [(.int (((0 : Int32) + (1 : Int32)) + (0 : Int32)))])
          refine own_go (fun t k => XS.iconst X0.here hx rfl (hb hby d7_45) k) ?_
          show own_WP _ _ _ _ s₁ (mkF m 46 #[.val (.ref za), .val (.int zv)] [(.int (1 : Int32)), (.int (((0 : Int32) + (1 : Int32)) + (0 : Int32)))])
          refine own_go (fun t k => XS.goto X0.here hx rfl (pc0 := 46) (pc' := 50) rfl (hb hby d7_46) (by decide) (by decide) k) ?_
          show own_WP _ _ _ _ s₁ (mkF m 50 #[.val (.ref za), .val (.int zv)] [(.int (1 : Int32)), (.int (((0 : Int32) + (1 : Int32)) + (0 : Int32)))])
          refine own_go (fun t k => XS.iadd X0.here hx rfl (hb hby d7_50) rfl k) ?_
          show own_WP _ _ _ _ s₁ (mkF m 51 #[.val (.ref za), .val (.int zv)] [(.int ((((0 : Int32) + (1 : Int32)) + (0 : Int32)) + (1 : Int32)))])
          refine own_retI X0 hx Bd.notSynchronized Bd.returns (hb hby d7_51) (by decide) (by decide) ?_
          rw [e0]
          exact ⟨(congrArg (fun z => some (Value.int z)) (show ((((0 : Int32) + (1 : Int32)) + (0 : Int32)) + (1 : Int32)) = (own_cnt zL zv) from by unfold own_cnt; rw [if_neg hc4, if_pos hc16, if_neg hc29, if_pos hc42])), N0, rfl⟩
        · refine own_go (fun t k => XS.icmpYes X0.here hx rfl (pc0 := 42) (pc' := 49) rfl (hb hby d7_42) rfl (feq hc42).2 (by decide) (by decide) k) ?_
          show own_WP _ _ _ _ s₁ (mkF m 49 #[.val (.ref za), .val (.int zv)] [(.int (((0 : Int32) + (1 : Int32)) + (0 : Int32)))])
          refine own_go (fun t k => XS.iconst X0.here hx rfl (hb hby d7_49) k) ?_
          show own_WP _ _ _ _ s₁ (mkF m 50 #[.val (.ref za), .val (.int zv)] [(.int (0 : Int32)), (.int (((0 : Int32) + (1 : Int32)) + (0 : Int32)))])
          refine own_go (fun t k => XS.iadd X0.here hx rfl (hb hby d7_50) rfl k) ?_
          show own_WP _ _ _ _ s₁ (mkF m 51 #[.val (.ref za), .val (.int zv)] [(.int ((((0 : Int32) + (1 : Int32)) + (0 : Int32)) + (0 : Int32)))])
          refine own_retI X0 hx Bd.notSynchronized Bd.returns (hb hby d7_51) (by decide) (by decide) ?_
          rw [e0]
          exact ⟨(congrArg (fun z => some (Value.int z)) (show ((((0 : Int32) + (1 : Int32)) + (0 : Int32)) + (0 : Int32)) = (own_cnt zL zv) from by unfold own_cnt; rw [if_neg hc4, if_pos hc16, if_neg hc29, if_neg hc42])), N0, rfl⟩
    · refine own_go (fun t k => XS.icmpYes X0.here hx rfl (pc0 := 16) (pc' := 23) rfl (hb hby d7_16) rfl (feq hc16).2 (by decide) (by decide) k) ?_
      show own_WP _ _ _ _ s₁ (mkF m 23 #[.val (.ref za), .val (.int zv)] [(.int (0 : Int32))])
      refine own_go (fun t k => XS.iconst X0.here hx rfl (hb hby d7_23) k) ?_
      show own_WP _ _ _ _ s₁ (mkF m 24 #[.val (.ref za), .val (.int zv)] [(.int (0 : Int32)), (.int (0 : Int32))])
      refine own_go (fun t k => XS.iadd X0.here hx rfl (hb hby d7_24) rfl k) ?_
      show own_WP _ _ _ _ s₁ (mkF m 25 #[.val (.ref za), .val (.int zv)] [(.int ((0 : Int32) + (0 : Int32)))])
      refine own_go (fun t k => XS.aloadN X0.here hx rfl (hb hby d7_25) rfl rfl  k) ?_
      show own_WP _ _ _ _ s₁ (mkF m 26 #[.val (.ref za), .val (.int zv)] [(.ref za), (.int ((0 : Int32) + (0 : Int32)))])
      refine own_go (fun t k => XS.iconst X0.here hx rfl (hb hby d7_26) k) ?_
      show own_WP _ _ _ _ s₁ (mkF m 27 #[.val (.ref za), .val (.int zv)] [(.int (2 : Int32)), (.ref za), (.int ((0 : Int32) + (0 : Int32)))])
      refine own_ldI X0 hx hZ e0 P0 (j := (2 : Int32)) (w := (own_g zL (2 : Int32))) ⟨by decide, by decide⟩ (own_mg _ _) (hb hby d7_27) ?_
      show own_WP _ _ _ _ s₁ (mkF m 28 #[.val (.ref za), .val (.int zv)] [(.int (own_g zL (2 : Int32))), (.int ((0 : Int32) + (0 : Int32)))])
      refine own_go (fun t k => XS.iloadN X0.here hx rfl (hb hby d7_28) rfl  k) ?_
      show own_WP _ _ _ _ s₁ (mkF m 29 #[.val (.ref za), .val (.int zv)] [(.int zv), (.int (own_g zL (2 : Int32))), (.int ((0 : Int32) + (0 : Int32)))])
      by_cases hc29 : (own_g zL (2 : Int32)) = zv
      · refine own_go (fun t k => XS.icmpNo X0.here hx rfl (hb hby d7_29) rfl (teq hc29).2 k) ?_
        show own_WP _ _ _ _ s₁ (mkF m 32 #[.val (.ref za), .val (.int zv)] [(.int ((0 : Int32) + (0 : Int32)))])
        refine own_go (fun t k => XS.iconst X0.here hx rfl (hb hby d7_32) k) ?_
        show own_WP _ _ _ _ s₁ (mkF m 33 #[.val (.ref za), .val (.int zv)] [(.int (1 : Int32)), (.int ((0 : Int32) + (0 : Int32)))])
        refine own_go (fun t k => XS.goto X0.here hx rfl (pc0 := 33) (pc' := 37) rfl (hb hby d7_33) (by decide) (by decide) k) ?_
        show own_WP _ _ _ _ s₁ (mkF m 37 #[.val (.ref za), .val (.int zv)] [(.int (1 : Int32)), (.int ((0 : Int32) + (0 : Int32)))])
        refine own_go (fun t k => XS.iadd X0.here hx rfl (hb hby d7_37) rfl k) ?_
        show own_WP _ _ _ _ s₁ (mkF m 38 #[.val (.ref za), .val (.int zv)] [(.int (((0 : Int32) + (0 : Int32)) + (1 : Int32)))])
        refine own_go (fun t k => XS.aloadN X0.here hx rfl (hb hby d7_38) rfl rfl  k) ?_
        show own_WP _ _ _ _ s₁ (mkF m 39 #[.val (.ref za), .val (.int zv)] [(.ref za), (.int (((0 : Int32) + (0 : Int32)) + (1 : Int32)))])
        refine own_go (fun t k => XS.iconst X0.here hx rfl (hb hby d7_39) k) ?_
        show own_WP _ _ _ _ s₁ (mkF m 40 #[.val (.ref za), .val (.int zv)] [(.int (3 : Int32)), (.ref za), (.int (((0 : Int32) + (0 : Int32)) + (1 : Int32)))])
        refine own_ldI X0 hx hZ e0 P0 (j := (3 : Int32)) (w := (own_g zL (3 : Int32))) ⟨by decide, by decide⟩ (own_mg _ _) (hb hby d7_40) ?_
        show own_WP _ _ _ _ s₁ (mkF m 41 #[.val (.ref za), .val (.int zv)] [(.int (own_g zL (3 : Int32))), (.int (((0 : Int32) + (0 : Int32)) + (1 : Int32)))])
        refine own_go (fun t k => XS.iloadN X0.here hx rfl (hb hby d7_41) rfl  k) ?_
        show own_WP _ _ _ _ s₁ (mkF m 42 #[.val (.ref za), .val (.int zv)] [(.int zv), (.int (own_g zL (3 : Int32))), (.int (((0 : Int32) + (0 : Int32)) + (1 : Int32)))])
        by_cases hc42 : (own_g zL (3 : Int32)) = zv
        · refine own_go (fun t k => XS.icmpNo X0.here hx rfl (hb hby d7_42) rfl (teq hc42).2 k) ?_
          show own_WP _ _ _ _ s₁ (mkF m 45 #[.val (.ref za), .val (.int zv)] [(.int (((0 : Int32) + (0 : Int32)) + (1 : Int32)))])
          refine own_go (fun t k => XS.iconst X0.here hx rfl (hb hby d7_45) k) ?_
          show own_WP _ _ _ _ s₁ (mkF m 46 #[.val (.ref za), .val (.int zv)] [(.int (1 : Int32)), (.int (((0 : Int32) + (0 : Int32)) + (1 : Int32)))])
          refine own_go (fun t k => XS.goto X0.here hx rfl (pc0 := 46) (pc' := 50) rfl (hb hby d7_46) (by decide) (by decide) k) ?_
          show own_WP _ _ _ _ s₁ (mkF m 50 #[.val (.ref za), .val (.int zv)] [(.int (1 : Int32)), (.int (((0 : Int32) + (0 : Int32)) + (1 : Int32)))])
          refine own_go (fun t k => XS.iadd X0.here hx rfl (hb hby d7_50) rfl k) ?_
          show own_WP _ _ _ _ s₁ (mkF m 51 #[.val (.ref za), .val (.int zv)] [(.int ((((0 : Int32) + (0 : Int32)) + (1 : Int32)) + (1 : Int32)))])
          refine own_retI X0 hx Bd.notSynchronized Bd.returns (hb hby d7_51) (by decide) (by decide) ?_
          rw [e0]
          exact ⟨(congrArg (fun z => some (Value.int z)) (show ((((0 : Int32) + (0 : Int32)) + (1 : Int32)) + (1 : Int32)) = (own_cnt zL zv) from by unfold own_cnt; rw [if_neg hc4, if_neg hc16, if_pos hc29, if_pos hc42])), N0, rfl⟩
        · refine own_go (fun t k => XS.icmpYes X0.here hx rfl (pc0 := 42) (pc' := 49) rfl (hb hby d7_42) rfl (feq hc42).2 (by decide) (by decide) k) ?_
          show own_WP _ _ _ _ s₁ (mkF m 49 #[.val (.ref za), .val (.int zv)] [(.int (((0 : Int32) + (0 : Int32)) + (1 : Int32)))])
          refine own_go (fun t k => XS.iconst X0.here hx rfl (hb hby d7_49) k) ?_
          show own_WP _ _ _ _ s₁ (mkF m 50 #[.val (.ref za), .val (.int zv)] [(.int (0 : Int32)), (.int (((0 : Int32) + (0 : Int32)) + (1 : Int32)))])
          refine own_go (fun t k => XS.iadd X0.here hx rfl (hb hby d7_50) rfl k) ?_
          show own_WP _ _ _ _ s₁ (mkF m 51 #[.val (.ref za), .val (.int zv)] [(.int ((((0 : Int32) + (0 : Int32)) + (1 : Int32)) + (0 : Int32)))])
          refine own_retI X0 hx Bd.notSynchronized Bd.returns (hb hby d7_51) (by decide) (by decide) ?_
          rw [e0]
          exact ⟨(congrArg (fun z => some (Value.int z)) (show ((((0 : Int32) + (0 : Int32)) + (1 : Int32)) + (0 : Int32)) = (own_cnt zL zv) from by unfold own_cnt; rw [if_neg hc4, if_neg hc16, if_pos hc29, if_neg hc42])), N0, rfl⟩
      · refine own_go (fun t k => XS.icmpYes X0.here hx rfl (pc0 := 29) (pc' := 36) rfl (hb hby d7_29) rfl (feq hc29).2 (by decide) (by decide) k) ?_
        show own_WP _ _ _ _ s₁ (mkF m 36 #[.val (.ref za), .val (.int zv)] [(.int ((0 : Int32) + (0 : Int32)))])
        refine own_go (fun t k => XS.iconst X0.here hx rfl (hb hby d7_36) k) ?_
        show own_WP _ _ _ _ s₁ (mkF m 37 #[.val (.ref za), .val (.int zv)] [(.int (0 : Int32)), (.int ((0 : Int32) + (0 : Int32)))])
        refine own_go (fun t k => XS.iadd X0.here hx rfl (hb hby d7_37) rfl k) ?_
        show own_WP _ _ _ _ s₁ (mkF m 38 #[.val (.ref za), .val (.int zv)] [(.int (((0 : Int32) + (0 : Int32)) + (0 : Int32)))])
        refine own_go (fun t k => XS.aloadN X0.here hx rfl (hb hby d7_38) rfl rfl  k) ?_
        show own_WP _ _ _ _ s₁ (mkF m 39 #[.val (.ref za), .val (.int zv)] [(.ref za), (.int (((0 : Int32) + (0 : Int32)) + (0 : Int32)))])
        refine own_go (fun t k => XS.iconst X0.here hx rfl (hb hby d7_39) k) ?_
        show own_WP _ _ _ _ s₁ (mkF m 40 #[.val (.ref za), .val (.int zv)] [(.int (3 : Int32)), (.ref za), (.int (((0 : Int32) + (0 : Int32)) + (0 : Int32)))])
        refine own_ldI X0 hx hZ e0 P0 (j := (3 : Int32)) (w := (own_g zL (3 : Int32))) ⟨by decide, by decide⟩ (own_mg _ _) (hb hby d7_40) ?_
        show own_WP _ _ _ _ s₁ (mkF m 41 #[.val (.ref za), .val (.int zv)] [(.int (own_g zL (3 : Int32))), (.int (((0 : Int32) + (0 : Int32)) + (0 : Int32)))])
        refine own_go (fun t k => XS.iloadN X0.here hx rfl (hb hby d7_41) rfl  k) ?_
        show own_WP _ _ _ _ s₁ (mkF m 42 #[.val (.ref za), .val (.int zv)] [(.int zv), (.int (own_g zL (3 : Int32))), (.int (((0 : Int32) + (0 : Int32)) + (0 : Int32)))])
        by_cases hc42 : (own_g zL (3 : Int32)) = zv
        · refine own_go (fun t k => XS.icmpNo X0.here hx rfl (hb hby d7_42) rfl (teq hc42).2 k) ?_
          show own_WP _ _ _ _ s₁ (mkF m 45 #[.val (.ref za), .val (.int zv)] [(.int (((0 : Int32) + (0 : Int32)) + (0 : Int32)))])
          refine own_go (fun t k => XS.iconst X0.here hx rfl (hb hby d7_45) k) ?_
          show own_WP _ _ _ _ s₁ (mkF m 46 #[.val (.ref za), .val (.int zv)] [(.int (1 : Int32)), (.int (((0 : Int32) + (0 : Int32)) + (0 : Int32)))])
          refine own_go (fun t k => XS.goto X0.here hx rfl (pc0 := 46) (pc' := 50) rfl (hb hby d7_46) (by decide) (by decide) k) ?_
          show own_WP _ _ _ _ s₁ (mkF m 50 #[.val (.ref za), .val (.int zv)] [(.int (1 : Int32)), (.int (((0 : Int32) + (0 : Int32)) + (0 : Int32)))])
          refine own_go (fun t k => XS.iadd X0.here hx rfl (hb hby d7_50) rfl k) ?_
          show own_WP _ _ _ _ s₁ (mkF m 51 #[.val (.ref za), .val (.int zv)] [(.int ((((0 : Int32) + (0 : Int32)) + (0 : Int32)) + (1 : Int32)))])
          refine own_retI X0 hx Bd.notSynchronized Bd.returns (hb hby d7_51) (by decide) (by decide) ?_
          rw [e0]
          exact ⟨(congrArg (fun z => some (Value.int z)) (show ((((0 : Int32) + (0 : Int32)) + (0 : Int32)) + (1 : Int32)) = (own_cnt zL zv) from by unfold own_cnt; rw [if_neg hc4, if_neg hc16, if_neg hc29, if_pos hc42])), N0, rfl⟩
        · refine own_go (fun t k => XS.icmpYes X0.here hx rfl (pc0 := 42) (pc' := 49) rfl (hb hby d7_42) rfl (feq hc42).2 (by decide) (by decide) k) ?_
          show own_WP _ _ _ _ s₁ (mkF m 49 #[.val (.ref za), .val (.int zv)] [(.int (((0 : Int32) + (0 : Int32)) + (0 : Int32)))])
          refine own_go (fun t k => XS.iconst X0.here hx rfl (hb hby d7_49) k) ?_
          show own_WP _ _ _ _ s₁ (mkF m 50 #[.val (.ref za), .val (.int zv)] [(.int (0 : Int32)), (.int (((0 : Int32) + (0 : Int32)) + (0 : Int32)))])
          refine own_go (fun t k => XS.iadd X0.here hx rfl (hb hby d7_50) rfl k) ?_
          show own_WP _ _ _ _ s₁ (mkF m 51 #[.val (.ref za), .val (.int zv)] [(.int ((((0 : Int32) + (0 : Int32)) + (0 : Int32)) + (0 : Int32)))])
          refine own_retI X0 hx Bd.notSynchronized Bd.returns (hb hby d7_51) (by decide) (by decide) ?_
          rw [e0]
          exact ⟨(congrArg (fun z => some (Value.int z)) (show ((((0 : Int32) + (0 : Int32)) + (0 : Int32)) + (0 : Int32)) = (own_cnt zL zv) from by unfold own_cnt; rw [if_neg hc4, if_neg hc16, if_neg hc29, if_neg hc42])), N0, rfl⟩
theorem own_pd84651 : parseMethodDescriptor "([II)I" = some ⟨[(.array .int), .int], some .int⟩ := by decide +kernel
theorem d5_0 : decode method_3_code 0 = .ok (.aload_n 0, 1) := by decide +kernel
theorem d5_1 : decode method_3_code 1 = .ok (.iload_n 1, 1) := by decide +kernel
theorem d5_2 : decode method_3_code 2 = .ok (.iaload, 1) := by decide +kernel
theorem d5_3 : decode method_3_code 3 = .ok (.istore_n 3, 1) := by decide +kernel
theorem d5_4 : decode method_3_code 4 = .ok (.aload_n 0, 1) := by decide +kernel
theorem d5_5 : decode method_3_code 5 = .ok (.iload_n 2, 1) := by decide +kernel
theorem d5_6 : decode method_3_code 6 = .ok (.iaload, 1) := by decide +kernel
theorem d5_7 : decode method_3_code 7 = .ok (.istore 4, 2) := by decide +kernel
theorem d5_9 : decode method_3_code 9 = .ok (.iload_n 3, 1) := by decide +kernel
theorem d5_10 : decode method_3_code 10 = .ok (.iload 4, 2) := by decide +kernel
theorem d5_12 : decode method_3_code 12 = .ok (.if_icmp .ne 4, 3) := by decide +kernel
theorem d5_15 : decode method_3_code 15 = .ok (.return_, 1) := by decide +kernel
theorem d5_16 : decode method_3_code 16 = .ok (.aload_n 0, 1) := by decide +kernel
theorem d5_17 : decode method_3_code 17 = .ok (.iload_n 3, 1) := by decide +kernel
theorem d5_18 : decode method_3_code 18 = .ok (.invokestatic 7, 3) := by decide +kernel
theorem d5_21 : decode method_3_code 21 = .ok (.istore 5, 2) := by decide +kernel
theorem d5_23 : decode method_3_code 23 = .ok (.aload_n 0, 1) := by decide +kernel
theorem d5_24 : decode method_3_code 24 = .ok (.iload 4, 2) := by decide +kernel
theorem d5_26 : decode method_3_code 26 = .ok (.invokestatic 7, 3) := by decide +kernel
theorem d5_29 : decode method_3_code 29 = .ok (.istore 6, 2) := by decide +kernel
theorem d5_31 : decode method_3_code 31 = .ok (.iload 5, 2) := by decide +kernel
theorem d5_33 : decode method_3_code 33 = .ok (.iload 6, 2) := by decide +kernel
theorem d5_35 : decode method_3_code 35 = .ok (.if_icmp .lt 7, 3) := by decide +kernel
theorem d5_38 : decode method_3_code 38 = .ok (.iload_n 3, 1) := by decide +kernel
theorem d5_39 : decode method_3_code 39 = .ok (.goto 5, 3) := by decide +kernel
theorem d5_42 : decode method_3_code 42 = .ok (.iload 4, 2) := by decide +kernel
theorem d5_44 : decode method_3_code 44 = .ok (.istore 7, 2) := by decide +kernel
theorem d5_46 : decode method_3_code 46 = .ok (.iload 7, 2) := by decide +kernel
theorem d5_48 : decode method_3_code 48 = .ok (.iload_n 3, 1) := by decide +kernel
theorem d5_49 : decode method_3_code 49 = .ok (.if_icmp .ne 8, 3) := by decide +kernel
theorem d5_52 : decode method_3_code 52 = .ok (.iload 4, 2) := by decide +kernel
theorem d5_54 : decode method_3_code 54 = .ok (.goto 4, 3) := by decide +kernel
theorem d5_57 : decode method_3_code 57 = .ok (.iload_n 3, 1) := by decide +kernel
theorem d5_58 : decode method_3_code 58 = .ok (.istore 8, 2) := by decide +kernel
theorem d5_60 : decode method_3_code 60 = .ok (.aload_n 0, 1) := by decide +kernel
theorem d5_61 : decode method_3_code 61 = .ok (.iconst 0, 1) := by decide +kernel
theorem d5_62 : decode method_3_code 62 = .ok (.iaload, 1) := by decide +kernel
theorem d5_63 : decode method_3_code 63 = .ok (.iload 8, 2) := by decide +kernel
theorem d5_65 : decode method_3_code 65 = .ok (.if_icmp .ne 8, 3) := by decide +kernel
theorem d5_68 : decode method_3_code 68 = .ok (.aload_n 0, 1) := by decide +kernel
theorem d5_69 : decode method_3_code 69 = .ok (.iconst 0, 1) := by decide +kernel
theorem d5_70 : decode method_3_code 70 = .ok (.iload 7, 2) := by decide +kernel
theorem d5_72 : decode method_3_code 72 = .ok (.iastore, 1) := by decide +kernel
theorem d5_73 : decode method_3_code 73 = .ok (.aload_n 0, 1) := by decide +kernel
theorem d5_74 : decode method_3_code 74 = .ok (.iconst 1, 1) := by decide +kernel
theorem d5_75 : decode method_3_code 75 = .ok (.iaload, 1) := by decide +kernel
theorem d5_76 : decode method_3_code 76 = .ok (.iload 8, 2) := by decide +kernel
theorem d5_78 : decode method_3_code 78 = .ok (.if_icmp .ne 8, 3) := by decide +kernel
theorem d5_81 : decode method_3_code 81 = .ok (.aload_n 0, 1) := by decide +kernel
theorem d5_82 : decode method_3_code 82 = .ok (.iconst 1, 1) := by decide +kernel
theorem d5_83 : decode method_3_code 83 = .ok (.iload 7, 2) := by decide +kernel
theorem d5_85 : decode method_3_code 85 = .ok (.iastore, 1) := by decide +kernel
theorem d5_86 : decode method_3_code 86 = .ok (.aload_n 0, 1) := by decide +kernel
theorem d5_87 : decode method_3_code 87 = .ok (.iconst 2, 1) := by decide +kernel
theorem d5_88 : decode method_3_code 88 = .ok (.iaload, 1) := by decide +kernel
theorem d5_89 : decode method_3_code 89 = .ok (.iload 8, 2) := by decide +kernel
theorem d5_91 : decode method_3_code 91 = .ok (.if_icmp .ne 8, 3) := by decide +kernel
theorem d5_94 : decode method_3_code 94 = .ok (.aload_n 0, 1) := by decide +kernel
theorem d5_95 : decode method_3_code 95 = .ok (.iconst 2, 1) := by decide +kernel
theorem d5_96 : decode method_3_code 96 = .ok (.iload 7, 2) := by decide +kernel
theorem d5_98 : decode method_3_code 98 = .ok (.iastore, 1) := by decide +kernel
theorem d5_99 : decode method_3_code 99 = .ok (.aload_n 0, 1) := by decide +kernel
theorem d5_100 : decode method_3_code 100 = .ok (.iconst 3, 1) := by decide +kernel
theorem d5_101 : decode method_3_code 101 = .ok (.iaload, 1) := by decide +kernel
theorem d5_102 : decode method_3_code 102 = .ok (.iload 8, 2) := by decide +kernel
theorem d5_104 : decode method_3_code 104 = .ok (.if_icmp .ne 8, 3) := by decide +kernel
theorem d5_107 : decode method_3_code 107 = .ok (.aload_n 0, 1) := by decide +kernel
theorem d5_108 : decode method_3_code 108 = .ok (.iconst 3, 1) := by decide +kernel
theorem d5_109 : decode method_3_code 109 = .ok (.iload 7, 2) := by decide +kernel
theorem d5_111 : decode method_3_code 111 = .ok (.iastore, 1) := by decide +kernel
theorem d5_112 : decode method_3_code 112 = .ok (.return_, 1) := by decide +kernel
theorem ef_5 (m : MethodId) (za : Addr) (zx : Int32) (zy : Int32) : entryFrame m #[(.ref za), (.int zx), (.int zy)] 9 = mkF m 0 #[.val (.ref za), .val (.int zx), .val (.int zy), .unset, .unset, .unset, .unset, .unset, .unset] [] := by first | (simp [entryFrame, mkF, argsToLocals, Value.category]; done) | rfl
def Q5 (Z : State) (za : Addr) (zx : Int32) (zy : Int32) (zk : ClassId) (zL : List Int32) (h0 : Heap) (n0 : Nat) (v : Option Value) (h : Heap) (L : List Loc) : Prop := v = none ∧ Fr n0 L ∧ Keep h0 h [za] ∧ Arv Z h za zk .int (4 : Int32) (List.map Value.int (own_md zL zx zy)) (.int (0 : Int32))
set_option maxRecDepth 65536 in
set_option maxHeartbeats 40000000 in
theorem rm5 (l : Launch) (Z : State) (a0 : Array Value) (hw : ∀ d ∈ tables_1, d.before a0 Z = true) (ws : List Jvm.Cond) (za : Addr) (zx : Int32) (zy : Int32) (zk : ClassId) (zL : List Int32) (h0 : Heap) (n0 : Nat) (Z0 : n0 ≤ h0.size) (P0 : Arv Z h0 za zk .int (4 : Int32) (List.map Value.int zL) (.int (0 : Int32))) (g_za : n0 ≤ za) (hl : zL.length = 4) (hix : own_in zx) (hiy : own_in zy) :
    MetFree l (⟨"com/example/ringspan/ringspan/symmetry/OrbitsRootPinLaw", "model", "([III)V"⟩ : MethodName) (head1 (Jvm.Cond.code (⟨"com/example/ringspan/ringspan/symmetry/OrbitsRootPinLaw", "model", "([III)V"⟩ : MethodName) method_3_code 9 none :: ws) ({ frames := 1, cells := 0, slots := 0, locals := 13 } : Room)) (fun a U => a = #[(.ref za), (.int zx), (.int zy)] ∧ Z.Warmed39 U.vm ∧ U.heap = h0) (fun _ _ _ _ _ => True) (fun _ U o U' => ∃ v L, o = .returned v ∧ Q5 Z za zx zy zk zL h0 n0 v U'.heap L ∧ FrameEnd U o U' L ({ frames := 1, cells := 0, slots := 0, locals := 13 } : Room).cells ({ frames := 1, cells := 0, slots := 0, locals := 13 } : Room).slots) := by
  refine MetFree.of_bodySF (plainFor_of_name own_pn20476) hisR ?_
  intro p e s m args below meth c s₁ Bd hml0 hP hK
  obtain ⟨rfl, hZ, hh⟩ := hP
  have hx := Bd.exec
  have hby := Bd.bytes
  have hml : c.maxLocals = 9 := hml0
  have hown : s.vm.findClass "com/example/ringspan/ringspan/symmetry/OrbitsRootPinLaw" = some m.cls := findClass_of_methodNamed Bd.named
  have hnm := (name_of_methodNamed Bd.named Bd.method).1
  have X0 : Stand p l e ({ frames := 1, cells := 0, slots := 0, locals := 13 } : Room) s m #[(.ref za), (.int zx), (.int zy)] below meth c s₁ [] 0 0 := Stand.of_body Bd
  have e0 : s₁.heap = h0 := by rw [← hh, Bd.state]; rfl
  have N0 := Fr.nil n0
  have K0 := Keep.refl h0 [za]
  show own_WP p e below (own_E s (Q5 Z za zx zy zk zL h0 n0) 0 0) s₁ (entryFrame m #[(.ref za), (.int zx), (.int zy)] 9)
  rw [ef_5 m za zx zy]
  show own_WP _ _ _ _ s₁ (mkF m 0 #[.val (.ref za), .val (.int zx), .val (.int zy), .unset, .unset, .unset, .unset, .unset, .unset] [])
  refine own_go (fun t k => XS.aloadN X0.here hx rfl (hb hby d5_0) rfl rfl  k) ?_
  show own_WP _ _ _ _ s₁ (mkF m 1 #[.val (.ref za), .val (.int zx), .val (.int zy), .unset, .unset, .unset, .unset, .unset, .unset] [(.ref za)])
  refine own_go (fun t k => XS.iloadN X0.here hx rfl (hb hby d5_1) rfl  k) ?_
  show own_WP _ _ _ _ s₁ (mkF m 2 #[.val (.ref za), .val (.int zx), .val (.int zy), .unset, .unset, .unset, .unset, .unset, .unset] [(.int zx), (.ref za)])
  refine own_ldI X0 hx hZ e0 P0 (j := zx) (w := (own_g zL zx)) hix (own_mg _ _) (hb hby d5_2) ?_
  show own_WP _ _ _ _ s₁ (mkF m 3 #[.val (.ref za), .val (.int zx), .val (.int zy), .unset, .unset, .unset, .unset, .unset, .unset] [(.int (own_g zL zx))])
  generalize d_zr1 : (own_g zL zx) = zr1
  refine own_go (fun t k => XS.istoreN X0.here hx rfl (hb hby d5_3) rfl (l' := #[.val (.ref za), .val (.int zx), .val (.int zy), .val (.int zr1), .unset, .unset, .unset, .unset, .unset]) rfl k) ?_
  show own_WP _ _ _ _ s₁ (mkF m 4 #[.val (.ref za), .val (.int zx), .val (.int zy), .val (.int zr1), .unset, .unset, .unset, .unset, .unset] [])
  refine own_go (fun t k => XS.aloadN X0.here hx rfl (hb hby d5_4) rfl rfl  k) ?_
  show own_WP _ _ _ _ s₁ (mkF m 5 #[.val (.ref za), .val (.int zx), .val (.int zy), .val (.int zr1), .unset, .unset, .unset, .unset, .unset] [(.ref za)])
  refine own_go (fun t k => XS.iloadN X0.here hx rfl (hb hby d5_5) rfl  k) ?_
  show own_WP _ _ _ _ s₁ (mkF m 6 #[.val (.ref za), .val (.int zx), .val (.int zy), .val (.int zr1), .unset, .unset, .unset, .unset, .unset] [(.int zy), (.ref za)])
  refine own_ldI X0 hx hZ e0 P0 (j := zy) (w := (own_g zL zy)) hiy (own_mg _ _) (hb hby d5_6) ?_
  show own_WP _ _ _ _ s₁ (mkF m 7 #[.val (.ref za), .val (.int zx), .val (.int zy), .val (.int zr1), .unset, .unset, .unset, .unset, .unset] [(.int (own_g zL zy))])
  generalize d_zr2 : (own_g zL zy) = zr2
  refine own_go (fun t k => XS.istore X0.here hx rfl (hb hby d5_7) rfl (l' := #[.val (.ref za), .val (.int zx), .val (.int zy), .val (.int zr1), .val (.int zr2), .unset, .unset, .unset, .unset]) rfl k) ?_
  show own_WP _ _ _ _ s₁ (mkF m 9 #[.val (.ref za), .val (.int zx), .val (.int zy), .val (.int zr1), .val (.int zr2), .unset, .unset, .unset, .unset] [])
  refine own_go (fun t k => XS.iloadN X0.here hx rfl (hb hby d5_9) rfl  k) ?_
  show own_WP _ _ _ _ s₁ (mkF m 10 #[.val (.ref za), .val (.int zx), .val (.int zy), .val (.int zr1), .val (.int zr2), .unset, .unset, .unset, .unset] [(.int zr1)])
  refine own_go (fun t k => XS.iload X0.here hx rfl (hb hby d5_10) rfl  k) ?_
  show own_WP _ _ _ _ s₁ (mkF m 12 #[.val (.ref za), .val (.int zx), .val (.int zy), .val (.int zr1), .val (.int zr2), .unset, .unset, .unset, .unset] [(.int zr2), (.int zr1)])
  by_cases hc12 : zr1 = zr2
  · refine own_go (fun t k => XS.icmpNo X0.here hx rfl (hb hby d5_12) rfl (teq hc12).2 k) ?_
    show own_WP _ _ _ _ s₁ (mkF m 15 #[.val (.ref za), .val (.int zx), .val (.int zy), .val (.int zr1), .val (.int zr2), .unset, .unset, .unset, .unset] [])
    refine own_retV X0 hx Bd.notSynchronized Bd.returns (hb hby d5_15) (by decide) (by decide) ?_
    rw [e0]
    exact ⟨rfl, N0, K0, ((show ((List.map Value.int zL) : List Value) = (List.map Value.int (own_md zL zx zy)) from by exact congrArg (List.map Value.int) (own_mdE d_zr1 d_zr2 hc12).symm) ▸ P0)⟩
  · refine own_go (fun t k => XS.icmpYes X0.here hx rfl (pc0 := 12) (pc' := 16) rfl (hb hby d5_12) rfl (feq hc12).2 (by decide) (by decide) k) ?_
    show own_WP _ _ _ _ s₁ (mkF m 16 #[.val (.ref za), .val (.int zx), .val (.int zy), .val (.int zr1), .val (.int zr2), .unset, .unset, .unset, .unset] [])
    refine own_go (fun t k => XS.aloadN X0.here hx rfl (hb hby d5_16) rfl rfl  k) ?_
    show own_WP _ _ _ _ s₁ (mkF m 17 #[.val (.ref za), .val (.int zx), .val (.int zy), .val (.int zr1), .val (.int zr2), .unset, .unset, .unset, .unset] [(.ref za)])
    refine own_go (fun t k => XS.iloadN X0.here hx rfl (hb hby d5_17) rfl  k) ?_
    show own_WP _ _ _ _ s₁ (mkF m 18 #[.val (.ref za), .val (.int zx), .val (.int zy), .val (.int zr1), .val (.int zr2), .unset, .unset, .unset, .unset] [(.int zr1), (.ref za)])
    obtain ⟨_, _, ⟨T1, L1, k1, n1⟩, -, X1, ⟨Lc1, hQ1, l1, y1, z1⟩, st1⟩ := Jvm.LawKit.callS X0 hx (y := (⟨"com/example/ringspan/ringspan/symmetry/OrbitsRootPinLaw", "cnt", "([II)I"⟩ : MethodName)) hown (mvT hZ (hw _ (List.mem_of_getElem? (i := 37) rfl))) (mvT hZ (hw _ (List.mem_of_getElem? (i := 38) rfl))) (mvT hZ (hw _ (List.mem_of_getElem? (i := 30) rfl))) (mvT hZ (hw _ (List.mem_of_getElem? (i := 39) rfl))) (by decide) (backOf (W := 0) (rm7 l Z a0 hw [] za zr1 zk zL h0 n0 (own_le Z0 K0) P0) hZ (hw _ (List.mem_of_getElem? (i := 39) rfl)) (hw _ (List.mem_of_getElem? (i := 30) rfl)) (by decide) (by decide)) (g := (mkF m 18 #[.val (.ref za), .val (.int zx), .val (.int zy), .val (.int zr1), .val (.int zr2), .unset, .unset, .unset, .unset] [(.int zr1), (.ref za)])) rfl (by rw [hml]; rfl) (argsL := [(.ref za), (.int zr1)]) (rest := []) (lenOf own_pd84651 rfl) rfl (by show 2 * 0 + _ ≤ _; exact Nat.le_of_eq rfl) (hb hby d5_18) (fun _ _ => ⟨rfl, e0, (by decide : 0 + 0 ≤ _), (by decide : 0 + 0 ≤ _)⟩)
    dsimp only [Pt.U, Pt.locs, Pt.cells, Pt.slots] at X1 l1 y1 z1 st1 hQ1
    subst l1 y1 z1
    obtain ⟨rfl, N1q, eq1⟩ := hQ1
    have N1 := Fr.app N0 N1q
    refine own_go st1 ?_
    show own_WP _ _ _ _ T1 (mkF m 21 #[.val (.ref za), .val (.int zx), .val (.int zy), .val (.int zr1), .val (.int zr2), .unset, .unset, .unset, .unset] [(.int (own_cnt zL zr1))])
    refine own_go (fun t k => XS.istore X1.here hx rfl (hb hby d5_21) rfl (l' := #[.val (.ref za), .val (.int zx), .val (.int zy), .val (.int zr1), .val (.int zr2), .val (.int (own_cnt zL zr1)), .unset, .unset, .unset]) rfl k) ?_
    show own_WP _ _ _ _ T1 (mkF m 23 #[.val (.ref za), .val (.int zx), .val (.int zy), .val (.int zr1), .val (.int zr2), .val (.int (own_cnt zL zr1)), .unset, .unset, .unset] [])
    refine own_go (fun t k => XS.aloadN X1.here hx rfl (hb hby d5_23) rfl rfl  k) ?_
    show own_WP _ _ _ _ T1 (mkF m 24 #[.val (.ref za), .val (.int zx), .val (.int zy), .val (.int zr1), .val (.int zr2), .val (.int (own_cnt zL zr1)), .unset, .unset, .unset] [(.ref za)])
    refine own_go (fun t k => XS.iload X1.here hx rfl (hb hby d5_24) rfl  k) ?_
    show own_WP _ _ _ _ T1 (mkF m 26 #[.val (.ref za), .val (.int zx), .val (.int zy), .val (.int zr1), .val (.int zr2), .val (.int (own_cnt zL zr1)), .unset, .unset, .unset] [(.int zr2), (.ref za)])
    obtain ⟨_, _, ⟨T2, L2, k2, n2⟩, -, X2, ⟨Lc2, hQ2, l2, y2, z2⟩, st2⟩ := Jvm.LawKit.callS X1 hx (y := (⟨"com/example/ringspan/ringspan/symmetry/OrbitsRootPinLaw", "cnt", "([II)I"⟩ : MethodName)) hown (mvT hZ (hw _ (List.mem_of_getElem? (i := 37) rfl))) (mvT hZ (hw _ (List.mem_of_getElem? (i := 38) rfl))) (mvT hZ (hw _ (List.mem_of_getElem? (i := 30) rfl))) (mvT hZ (hw _ (List.mem_of_getElem? (i := 39) rfl))) (by decide) (backOf (W := 0) (rm7 l Z a0 hw [] za zr2 zk zL h0 n0 (own_le Z0 K0) P0) hZ (hw _ (List.mem_of_getElem? (i := 39) rfl)) (hw _ (List.mem_of_getElem? (i := 30) rfl)) (by decide) (by decide)) (g := (mkF m 26 #[.val (.ref za), .val (.int zx), .val (.int zy), .val (.int zr1), .val (.int zr2), .val (.int (own_cnt zL zr1)), .unset, .unset, .unset] [(.int zr2), (.ref za)])) rfl (by rw [hml]; rfl) (argsL := [(.ref za), (.int zr2)]) (rest := []) (lenOf own_pd84651 rfl) rfl (by show 2 * 0 + _ ≤ _; exact Nat.le_of_eq rfl) (hb hby d5_26) (fun _ _ => ⟨rfl, eq1, (by decide : 0 + 0 ≤ _), (by decide : 0 + 0 ≤ _)⟩)
    dsimp only [Pt.U, Pt.locs, Pt.cells, Pt.slots] at X2 l2 y2 z2 st2 hQ2
    subst l2 y2 z2
    obtain ⟨rfl, N2q, eq2⟩ := hQ2
    have N2 := Fr.app N1 N2q
    refine own_go st2 ?_
    show own_WP _ _ _ _ T2 (mkF m 29 #[.val (.ref za), .val (.int zx), .val (.int zy), .val (.int zr1), .val (.int zr2), .val (.int (own_cnt zL zr1)), .unset, .unset, .unset] [(.int (own_cnt zL zr2))])
    refine own_go (fun t k => XS.istore X2.here hx rfl (hb hby d5_29) rfl (l' := #[.val (.ref za), .val (.int zx), .val (.int zy), .val (.int zr1), .val (.int zr2), .val (.int (own_cnt zL zr1)), .val (.int (own_cnt zL zr2)), .unset, .unset]) rfl k) ?_
    show own_WP _ _ _ _ T2 (mkF m 31 #[.val (.ref za), .val (.int zx), .val (.int zy), .val (.int zr1), .val (.int zr2), .val (.int (own_cnt zL zr1)), .val (.int (own_cnt zL zr2)), .unset, .unset] [])
    refine own_go (fun t k => XS.iload X2.here hx rfl (hb hby d5_31) rfl  k) ?_
    show own_WP _ _ _ _ T2 (mkF m 33 #[.val (.ref za), .val (.int zx), .val (.int zy), .val (.int zr1), .val (.int zr2), .val (.int (own_cnt zL zr1)), .val (.int (own_cnt zL zr2)), .unset, .unset] [(.int (own_cnt zL zr1))])
    refine own_go (fun t k => XS.iload X2.here hx rfl (hb hby d5_33) rfl  k) ?_
    show own_WP _ _ _ _ T2 (mkF m 35 #[.val (.ref za), .val (.int zx), .val (.int zy), .val (.int zr1), .val (.int zr2), .val (.int (own_cnt zL zr1)), .val (.int (own_cnt zL zr2)), .unset, .unset] [(.int (own_cnt zL zr2)), (.int (own_cnt zL zr1))])
    by_cases hc35 : (own_cnt zL zr1) < (own_cnt zL zr2)
    · refine own_go (fun t k => XS.icmpYes X2.here hx rfl (pc0 := 35) (pc' := 42) rfl (hb hby d5_35) rfl (tlt hc35).1 (by decide) (by decide) k) ?_
      show own_WP _ _ _ _ T2 (mkF m 42 #[.val (.ref za), .val (.int zx), .val (.int zy), .val (.int zr1), .val (.int zr2), .val (.int (own_cnt zL zr1)), .val (.int (own_cnt zL zr2)), .unset, .unset] [])
      refine own_go (fun t k => XS.iload X2.here hx rfl (hb hby d5_42) rfl  k) ?_
      show own_WP _ _ _ _ T2 (mkF m 44 #[.val (.ref za), .val (.int zx), .val (.int zy), .val (.int zr1), .val (.int zr2), .val (.int (own_cnt zL zr1)), .val (.int (own_cnt zL zr2)), .unset, .unset] [(.int zr2)])
      refine own_go (fun t k => XS.istore X2.here hx rfl (hb hby d5_44) rfl (l' := #[.val (.ref za), .val (.int zx), .val (.int zy), .val (.int zr1), .val (.int zr2), .val (.int (own_cnt zL zr1)), .val (.int (own_cnt zL zr2)), .val (.int zr2), .unset]) rfl k) ?_
      show own_WP _ _ _ _ T2 (mkF m 46 #[.val (.ref za), .val (.int zx), .val (.int zy), .val (.int zr1), .val (.int zr2), .val (.int (own_cnt zL zr1)), .val (.int (own_cnt zL zr2)), .val (.int zr2), .unset] [])
      refine own_go (fun t k => XS.iload X2.here hx rfl (hb hby d5_46) rfl  k) ?_
      show own_WP _ _ _ _ T2 (mkF m 48 #[.val (.ref za), .val (.int zx), .val (.int zy), .val (.int zr1), .val (.int zr2), .val (.int (own_cnt zL zr1)), .val (.int (own_cnt zL zr2)), .val (.int zr2), .unset] [(.int zr2)])
      refine own_go (fun t k => XS.iloadN X2.here hx rfl (hb hby d5_48) rfl  k) ?_
      show own_WP _ _ _ _ T2 (mkF m 49 #[.val (.ref za), .val (.int zx), .val (.int zy), .val (.int zr1), .val (.int zr2), .val (.int (own_cnt zL zr1)), .val (.int (own_cnt zL zr2)), .val (.int zr2), .unset] [(.int zr1), (.int zr2)])
      have hc49 : ¬ (zr2 = zr1) := by
        exact Ne.symm hc12
      refine own_go (fun t k => XS.icmpYes X2.here hx rfl (pc0 := 49) (pc' := 57) rfl (hb hby d5_49) rfl (feq hc49).2 (by decide) (by decide) k) ?_
      show own_WP _ _ _ _ T2 (mkF m 57 #[.val (.ref za), .val (.int zx), .val (.int zy), .val (.int zr1), .val (.int zr2), .val (.int (own_cnt zL zr1)), .val (.int (own_cnt zL zr2)), .val (.int zr2), .unset] [])
      refine own_go (fun t k => XS.iloadN X2.here hx rfl (hb hby d5_57) rfl  k) ?_
      show own_WP _ _ _ _ T2 (mkF m 58 #[.val (.ref za), .val (.int zx), .val (.int zy), .val (.int zr1), .val (.int zr2), .val (.int (own_cnt zL zr1)), .val (.int (own_cnt zL zr2)), .val (.int zr2), .unset] [(.int zr1)])
      refine own_go (fun t k => XS.istore X2.here hx rfl (hb hby d5_58) rfl (l' := #[.val (.ref za), .val (.int zx), .val (.int zy), .val (.int zr1), .val (.int zr2), .val (.int (own_cnt zL zr1)), .val (.int (own_cnt zL zr2)), .val (.int zr2), .val (.int zr1)]) rfl k) ?_
      show own_WP _ _ _ _ T2 (mkF m 60 #[.val (.ref za), .val (.int zx), .val (.int zy), .val (.int zr1), .val (.int zr2), .val (.int (own_cnt zL zr1)), .val (.int (own_cnt zL zr2)), .val (.int zr2), .val (.int zr1)] [])
      refine own_go (fun t k => XS.aloadN X2.here hx rfl (hb hby d5_60) rfl rfl  k) ?_
      show own_WP _ _ _ _ T2 (mkF m 61 #[.val (.ref za), .val (.int zx), .val (.int zy), .val (.int zr1), .val (.int zr2), .val (.int (own_cnt zL zr1)), .val (.int (own_cnt zL zr2)), .val (.int zr2), .val (.int zr1)] [(.ref za)])
      refine own_go (fun t k => XS.iconst X2.here hx rfl (hb hby d5_61) k) ?_
      show own_WP _ _ _ _ T2 (mkF m 62 #[.val (.ref za), .val (.int zx), .val (.int zy), .val (.int zr1), .val (.int zr2), .val (.int (own_cnt zL zr1)), .val (.int (own_cnt zL zr2)), .val (.int zr2), .val (.int zr1)] [(.int (0 : Int32)), (.ref za)])
      refine own_ldI X2 hx hZ eq2 P0 (j := (0 : Int32)) (w := (own_g zL (0 : Int32))) ⟨by decide, by decide⟩ (own_mg _ _) (hb hby d5_62) ?_
      show own_WP _ _ _ _ T2 (mkF m 63 #[.val (.ref za), .val (.int zx), .val (.int zy), .val (.int zr1), .val (.int zr2), .val (.int (own_cnt zL zr1)), .val (.int (own_cnt zL zr2)), .val (.int zr2), .val (.int zr1)] [(.int (own_g zL (0 : Int32)))])
      refine own_go (fun t k => XS.iload X2.here hx rfl (hb hby d5_63) rfl  k) ?_
      show own_WP _ _ _ _ T2 (mkF m 65 #[.val (.ref za), .val (.int zx), .val (.int zy), .val (.int zr1), .val (.int zr2), .val (.int (own_cnt zL zr1)), .val (.int (own_cnt zL zr2)), .val (.int zr2), .val (.int zr1)] [(.int zr1), (.int (own_g zL (0 : Int32)))])
      by_cases hc65 : (own_g zL (0 : Int32)) = zr1
      · refine own_go (fun t k => XS.icmpNo X2.here hx rfl (hb hby d5_65) rfl (teq hc65).2 k) ?_
        show own_WP _ _ _ _ T2 (mkF m 68 #[.val (.ref za), .val (.int zx), .val (.int zy), .val (.int zr1), .val (.int zr2), .val (.int (own_cnt zL zr1)), .val (.int (own_cnt zL zr2)), .val (.int zr2), .val (.int zr1)] [])
        refine own_go (fun t k => XS.aloadN X2.here hx rfl (hb hby d5_68) rfl rfl  k) ?_
        show own_WP _ _ _ _ T2 (mkF m 69 #[.val (.ref za), .val (.int zx), .val (.int zy), .val (.int zr1), .val (.int zr2), .val (.int (own_cnt zL zr1)), .val (.int (own_cnt zL zr2)), .val (.int zr2), .val (.int zr1)] [(.ref za)])
        refine own_go (fun t k => XS.iconst X2.here hx rfl (hb hby d5_69) k) ?_
        show own_WP _ _ _ _ T2 (mkF m 70 #[.val (.ref za), .val (.int zx), .val (.int zy), .val (.int zr1), .val (.int zr2), .val (.int (own_cnt zL zr1)), .val (.int (own_cnt zL zr2)), .val (.int zr2), .val (.int zr1)] [(.int (0 : Int32)), (.ref za)])
        refine own_go (fun t k => XS.iload X2.here hx rfl (hb hby d5_70) rfl  k) ?_
        show own_WP _ _ _ _ T2 (mkF m 72 #[.val (.ref za), .val (.int zx), .val (.int zy), .val (.int zr1), .val (.int zr2), .val (.int (own_cnt zL zr1)), .val (.int (own_cnt zL zr2)), .val (.int zr2), .val (.int zr1)] [(.int zr2), (.int (0 : Int32)), (.ref za)])
        refine own_stI X2 hx hZ eq2 P0 (j := (0 : Int32)) ⟨by decide, by decide⟩ (i := (0 : Int32).toNatClampNeg) rfl (by simp only [List.length_map, List.length_set, hl]; exact own_lt4 ⟨by decide, by decide⟩) (hb hby d5_72) ?_
        intro T3 h3 X3 e3 W3 V3
        have f4 : Arv Z h3 za zk .int (4 : Int32) (List.map Value.int (zL.set (0 : Int32).toNatClampNeg zr2)) (.int (0 : Int32)) := (by rw [List.map_set]; exact V3)
        have K6 : Keep h0 h3 [za] := K0.wr W3 (Or.inl (List.mem_of_getElem? (i := 0) rfl))
        have N7 := Fr.snoc X3 N2 g_za
        show own_WP _ _ _ _ T3 (mkF m 73 #[.val (.ref za), .val (.int zx), .val (.int zy), .val (.int zr1), .val (.int zr2), .val (.int (own_cnt zL zr1)), .val (.int (own_cnt zL zr2)), .val (.int zr2), .val (.int zr1)] [])
        refine own_go (fun t k => XS.aloadN X3.here hx rfl (hb hby d5_73) rfl rfl  k) ?_
        show own_WP _ _ _ _ T3 (mkF m 74 #[.val (.ref za), .val (.int zx), .val (.int zy), .val (.int zr1), .val (.int zr2), .val (.int (own_cnt zL zr1)), .val (.int (own_cnt zL zr2)), .val (.int zr2), .val (.int zr1)] [(.ref za)])
        refine own_go (fun t k => XS.iconst X3.here hx rfl (hb hby d5_74) k) ?_
        show own_WP _ _ _ _ T3 (mkF m 75 #[.val (.ref za), .val (.int zx), .val (.int zy), .val (.int zr1), .val (.int zr2), .val (.int (own_cnt zL zr1)), .val (.int (own_cnt zL zr2)), .val (.int zr2), .val (.int zr1)] [(.int (1 : Int32)), (.ref za)])
        refine own_ldI X3 hx hZ e3 f4 (j := (1 : Int32)) (w := (own_g (zL.set (0 : Int32).toNatClampNeg zr2) (1 : Int32))) ⟨by decide, by decide⟩ (own_mg _ _) (hb hby d5_75) ?_
        show own_WP _ _ _ _ T3 (mkF m 76 #[.val (.ref za), .val (.int zx), .val (.int zy), .val (.int zr1), .val (.int zr2), .val (.int (own_cnt zL zr1)), .val (.int (own_cnt zL zr2)), .val (.int zr2), .val (.int zr1)] [(.int (own_g (zL.set (0 : Int32).toNatClampNeg zr2) (1 : Int32)))])
        refine own_go (fun t k => XS.iload X3.here hx rfl (hb hby d5_76) rfl  k) ?_
        show own_WP _ _ _ _ T3 (mkF m 78 #[.val (.ref za), .val (.int zx), .val (.int zy), .val (.int zr1), .val (.int zr2), .val (.int (own_cnt zL zr1)), .val (.int (own_cnt zL zr2)), .val (.int zr2), .val (.int zr1)] [(.int zr1), (.int (own_g (zL.set (0 : Int32).toNatClampNeg zr2) (1 : Int32)))])
        by_cases hc78 : (own_g (zL.set (0 : Int32).toNatClampNeg zr2) (1 : Int32)) = zr1
        · refine own_go (fun t k => XS.icmpNo X3.here hx rfl (hb hby d5_78) rfl (teq hc78).2 k) ?_
          show own_WP _ _ _ _ T3 (mkF m 81 #[.val (.ref za), .val (.int zx), .val (.int zy), .val (.int zr1), .val (.int zr2), .val (.int (own_cnt zL zr1)), .val (.int (own_cnt zL zr2)), .val (.int zr2), .val (.int zr1)] [])
          refine own_go (fun t k => XS.aloadN X3.here hx rfl (hb hby d5_81) rfl rfl  k) ?_
          show own_WP _ _ _ _ T3 (mkF m 82 #[.val (.ref za), .val (.int zx), .val (.int zy), .val (.int zr1), .val (.int zr2), .val (.int (own_cnt zL zr1)), .val (.int (own_cnt zL zr2)), .val (.int zr2), .val (.int zr1)] [(.ref za)])
          refine own_go (fun t k => XS.iconst X3.here hx rfl (hb hby d5_82) k) ?_
          show own_WP _ _ _ _ T3 (mkF m 83 #[.val (.ref za), .val (.int zx), .val (.int zy), .val (.int zr1), .val (.int zr2), .val (.int (own_cnt zL zr1)), .val (.int (own_cnt zL zr2)), .val (.int zr2), .val (.int zr1)] [(.int (1 : Int32)), (.ref za)])
          refine own_go (fun t k => XS.iload X3.here hx rfl (hb hby d5_83) rfl  k) ?_
          show own_WP _ _ _ _ T3 (mkF m 85 #[.val (.ref za), .val (.int zx), .val (.int zy), .val (.int zr1), .val (.int zr2), .val (.int (own_cnt zL zr1)), .val (.int (own_cnt zL zr2)), .val (.int zr2), .val (.int zr1)] [(.int zr2), (.int (1 : Int32)), (.ref za)])
          refine own_stI X3 hx hZ e3 f4 (j := (1 : Int32)) ⟨by decide, by decide⟩ (i := (1 : Int32).toNatClampNeg) rfl (by simp only [List.length_map, List.length_set, hl]; exact own_lt4 ⟨by decide, by decide⟩) (hb hby d5_85) ?_
          intro T8 h8 X8 e8 W8 V8
          have f9 : Arv Z h8 za zk .int (4 : Int32) (List.map Value.int ((zL.set (0 : Int32).toNatClampNeg zr2).set (1 : Int32).toNatClampNeg zr2)) (.int (0 : Int32)) := (by rw [List.map_set]; exact V8)
          have K11 : Keep h0 h8 [za] := K6.wr W8 (Or.inl (List.mem_of_getElem? (i := 0) rfl))
          have N12 := Fr.snoc X8 N7 g_za
          show own_WP _ _ _ _ T8 (mkF m 86 #[.val (.ref za), .val (.int zx), .val (.int zy), .val (.int zr1), .val (.int zr2), .val (.int (own_cnt zL zr1)), .val (.int (own_cnt zL zr2)), .val (.int zr2), .val (.int zr1)] [])
          refine own_go (fun t k => XS.aloadN X8.here hx rfl (hb hby d5_86) rfl rfl  k) ?_
          show own_WP _ _ _ _ T8 (mkF m 87 #[.val (.ref za), .val (.int zx), .val (.int zy), .val (.int zr1), .val (.int zr2), .val (.int (own_cnt zL zr1)), .val (.int (own_cnt zL zr2)), .val (.int zr2), .val (.int zr1)] [(.ref za)])
          refine own_go (fun t k => XS.iconst X8.here hx rfl (hb hby d5_87) k) ?_
          show own_WP _ _ _ _ T8 (mkF m 88 #[.val (.ref za), .val (.int zx), .val (.int zy), .val (.int zr1), .val (.int zr2), .val (.int (own_cnt zL zr1)), .val (.int (own_cnt zL zr2)), .val (.int zr2), .val (.int zr1)] [(.int (2 : Int32)), (.ref za)])
          refine own_ldI X8 hx hZ e8 f9 (j := (2 : Int32)) (w := (own_g ((zL.set (0 : Int32).toNatClampNeg zr2).set (1 : Int32).toNatClampNeg zr2) (2 : Int32))) ⟨by decide, by decide⟩ (own_mg _ _) (hb hby d5_88) ?_
          show own_WP _ _ _ _ T8 (mkF m 89 #[.val (.ref za), .val (.int zx), .val (.int zy), .val (.int zr1), .val (.int zr2), .val (.int (own_cnt zL zr1)), .val (.int (own_cnt zL zr2)), .val (.int zr2), .val (.int zr1)] [(.int (own_g ((zL.set (0 : Int32).toNatClampNeg zr2).set (1 : Int32).toNatClampNeg zr2) (2 : Int32)))])
          refine own_go (fun t k => XS.iload X8.here hx rfl (hb hby d5_89) rfl  k) ?_
          show own_WP _ _ _ _ T8 (mkF m 91 #[.val (.ref za), .val (.int zx), .val (.int zy), .val (.int zr1), .val (.int zr2), .val (.int (own_cnt zL zr1)), .val (.int (own_cnt zL zr2)), .val (.int zr2), .val (.int zr1)] [(.int zr1), (.int (own_g ((zL.set (0 : Int32).toNatClampNeg zr2).set (1 : Int32).toNatClampNeg zr2) (2 : Int32)))])
          by_cases hc91 : (own_g ((zL.set (0 : Int32).toNatClampNeg zr2).set (1 : Int32).toNatClampNeg zr2) (2 : Int32)) = zr1
          · refine own_go (fun t k => XS.icmpNo X8.here hx rfl (hb hby d5_91) rfl (teq hc91).2 k) ?_
            show own_WP _ _ _ _ T8 (mkF m 94 #[.val (.ref za), .val (.int zx), .val (.int zy), .val (.int zr1), .val (.int zr2), .val (.int (own_cnt zL zr1)), .val (.int (own_cnt zL zr2)), .val (.int zr2), .val (.int zr1)] [])
            refine own_go (fun t k => XS.aloadN X8.here hx rfl (hb hby d5_94) rfl rfl  k) ?_
            show own_WP _ _ _ _ T8 (mkF m 95 #[.val (.ref za), .val (.int zx), .val (.int zy), .val (.int zr1), .val (.int zr2), .val (.int (own_cnt zL zr1)), .val (.int (own_cnt zL zr2)), .val (.int zr2), .val (.int zr1)] [(.ref za)])
            refine own_go (fun t k => XS.iconst X8.here hx rfl (hb hby d5_95) k) ?_
            show own_WP _ _ _ _ T8 (mkF m 96 #[.val (.ref za), .val (.int zx), .val (.int zy), .val (.int zr1), .val (.int zr2), .val (.int (own_cnt zL zr1)), .val (.int (own_cnt zL zr2)), .val (.int zr2), .val (.int zr1)] [(.int (2 : Int32)), (.ref za)])
            refine own_go (fun t k => XS.iload X8.here hx rfl (hb hby d5_96) rfl  k) ?_
            show own_WP _ _ _ _ T8 (mkF m 98 #[.val (.ref za), .val (.int zx), .val (.int zy), .val (.int zr1), .val (.int zr2), .val (.int (own_cnt zL zr1)), .val (.int (own_cnt zL zr2)), .val (.int zr2), .val (.int zr1)] [(.int zr2), (.int (2 : Int32)), (.ref za)])
            refine own_stI X8 hx hZ e8 f9 (j := (2 : Int32)) ⟨by decide, by decide⟩ (i := (2 : Int32).toNatClampNeg) rfl (by simp only [List.length_map, List.length_set, hl]; exact own_lt4 ⟨by decide, by decide⟩) (hb hby d5_98) ?_
            intro T13 h13 X13 e13 W13 V13
            have f14 : Arv Z h13 za zk .int (4 : Int32) (List.map Value.int (((zL.set (0 : Int32).toNatClampNeg zr2).set (1 : Int32).toNatClampNeg zr2).set (2 : Int32).toNatClampNeg zr2)) (.int (0 : Int32)) := (by rw [List.map_set]; exact V13)
            have K16 : Keep h0 h13 [za] := K11.wr W13 (Or.inl (List.mem_of_getElem? (i := 0) rfl))
            have N17 := Fr.snoc X13 N12 g_za
            show own_WP _ _ _ _ T13 (mkF m 99 #[.val (.ref za), .val (.int zx), .val (.int zy), .val (.int zr1), .val (.int zr2), .val (.int (own_cnt zL zr1)), .val (.int (own_cnt zL zr2)), .val (.int zr2), .val (.int zr1)] [])
            refine own_go (fun t k => XS.aloadN X13.here hx rfl (hb hby d5_99) rfl rfl  k) ?_
            show own_WP _ _ _ _ T13 (mkF m 100 #[.val (.ref za), .val (.int zx), .val (.int zy), .val (.int zr1), .val (.int zr2), .val (.int (own_cnt zL zr1)), .val (.int (own_cnt zL zr2)), .val (.int zr2), .val (.int zr1)] [(.ref za)])
            refine own_go (fun t k => XS.iconst X13.here hx rfl (hb hby d5_100) k) ?_
            show own_WP _ _ _ _ T13 (mkF m 101 #[.val (.ref za), .val (.int zx), .val (.int zy), .val (.int zr1), .val (.int zr2), .val (.int (own_cnt zL zr1)), .val (.int (own_cnt zL zr2)), .val (.int zr2), .val (.int zr1)] [(.int (3 : Int32)), (.ref za)])
            refine own_ldI X13 hx hZ e13 f14 (j := (3 : Int32)) (w := (own_g (((zL.set (0 : Int32).toNatClampNeg zr2).set (1 : Int32).toNatClampNeg zr2).set (2 : Int32).toNatClampNeg zr2) (3 : Int32))) ⟨by decide, by decide⟩ (own_mg _ _) (hb hby d5_101) ?_
            show own_WP _ _ _ _ T13 (mkF m 102 #[.val (.ref za), .val (.int zx), .val (.int zy), .val (.int zr1), .val (.int zr2), .val (.int (own_cnt zL zr1)), .val (.int (own_cnt zL zr2)), .val (.int zr2), .val (.int zr1)] [(.int (own_g (((zL.set (0 : Int32).toNatClampNeg zr2).set (1 : Int32).toNatClampNeg zr2).set (2 : Int32).toNatClampNeg zr2) (3 : Int32)))])
            refine own_go (fun t k => XS.iload X13.here hx rfl (hb hby d5_102) rfl  k) ?_
            show own_WP _ _ _ _ T13 (mkF m 104 #[.val (.ref za), .val (.int zx), .val (.int zy), .val (.int zr1), .val (.int zr2), .val (.int (own_cnt zL zr1)), .val (.int (own_cnt zL zr2)), .val (.int zr2), .val (.int zr1)] [(.int zr1), (.int (own_g (((zL.set (0 : Int32).toNatClampNeg zr2).set (1 : Int32).toNatClampNeg zr2).set (2 : Int32).toNatClampNeg zr2) (3 : Int32)))])
            by_cases hc104 : (own_g (((zL.set (0 : Int32).toNatClampNeg zr2).set (1 : Int32).toNatClampNeg zr2).set (2 : Int32).toNatClampNeg zr2) (3 : Int32)) = zr1
            · refine own_go (fun t k => XS.icmpNo X13.here hx rfl (hb hby d5_104) rfl (teq hc104).2 k) ?_
              show own_WP _ _ _ _ T13 (mkF m 107 #[.val (.ref za), .val (.int zx), .val (.int zy), .val (.int zr1), .val (.int zr2), .val (.int (own_cnt zL zr1)), .val (.int (own_cnt zL zr2)), .val (.int zr2), .val (.int zr1)] [])
              refine own_go (fun t k => XS.aloadN X13.here hx rfl (hb hby d5_107) rfl rfl  k) ?_
              show own_WP _ _ _ _ T13 (mkF m 108 #[.val (.ref za), .val (.int zx), .val (.int zy), .val (.int zr1), .val (.int zr2), .val (.int (own_cnt zL zr1)), .val (.int (own_cnt zL zr2)), .val (.int zr2), .val (.int zr1)] [(.ref za)])
              refine own_go (fun t k => XS.iconst X13.here hx rfl (hb hby d5_108) k) ?_
              show own_WP _ _ _ _ T13 (mkF m 109 #[.val (.ref za), .val (.int zx), .val (.int zy), .val (.int zr1), .val (.int zr2), .val (.int (own_cnt zL zr1)), .val (.int (own_cnt zL zr2)), .val (.int zr2), .val (.int zr1)] [(.int (3 : Int32)), (.ref za)])
              refine own_go (fun t k => XS.iload X13.here hx rfl (hb hby d5_109) rfl  k) ?_
              show own_WP _ _ _ _ T13 (mkF m 111 #[.val (.ref za), .val (.int zx), .val (.int zy), .val (.int zr1), .val (.int zr2), .val (.int (own_cnt zL zr1)), .val (.int (own_cnt zL zr2)), .val (.int zr2), .val (.int zr1)] [(.int zr2), (.int (3 : Int32)), (.ref za)])
              refine own_stI X13 hx hZ e13 f14 (j := (3 : Int32)) ⟨by decide, by decide⟩ (i := (3 : Int32).toNatClampNeg) rfl (by simp only [List.length_map, List.length_set, hl]; exact own_lt4 ⟨by decide, by decide⟩) (hb hby d5_111) ?_
              intro T18 h18 X18 e18 W18 V18
              have f19 : Arv Z h18 za zk .int (4 : Int32) (List.map Value.int ((((zL.set (0 : Int32).toNatClampNeg zr2).set (1 : Int32).toNatClampNeg zr2).set (2 : Int32).toNatClampNeg zr2).set (3 : Int32).toNatClampNeg zr2)) (.int (0 : Int32)) := (by rw [List.map_set]; exact V18)
              have K21 : Keep h0 h18 [za] := K16.wr W18 (Or.inl (List.mem_of_getElem? (i := 0) rfl))
              have N22 := Fr.snoc X18 N17 g_za
              show own_WP _ _ _ _ T18 (mkF m 112 #[.val (.ref za), .val (.int zx), .val (.int zy), .val (.int zr1), .val (.int zr2), .val (.int (own_cnt zL zr1)), .val (.int (own_cnt zL zr2)), .val (.int zr2), .val (.int zr1)] [])
              refine own_retV X18 hx Bd.notSynchronized Bd.returns (hb hby d5_112) (by decide) (by decide) ?_
              rw [e18]
              exact ⟨rfl, N22, K21, ((show ((List.map Value.int ((((zL.set (0 : Int32).toNatClampNeg zr2).set (1 : Int32).toNatClampNeg zr2).set (2 : Int32).toNatClampNeg zr2).set (3 : Int32).toNatClampNeg zr2)) : List Value) = (List.map Value.int (own_md zL zx zy)) from by exact congrArg (List.map Value.int) ((own_mdB d_zr1 d_zr2 hc12 hc35).trans (own_f4s (if_pos hc65) (if_pos hc78) (if_pos hc91) (if_pos hc104))).symm) ▸ f19)⟩
            · refine own_go (fun t k => XS.icmpYes X13.here hx rfl (pc0 := 104) (pc' := 112) rfl (hb hby d5_104) rfl (feq hc104).2 (by decide) (by decide) k) ?_
              show own_WP _ _ _ _ T13 (mkF m 112 #[.val (.ref za), .val (.int zx), .val (.int zy), .val (.int zr1), .val (.int zr2), .val (.int (own_cnt zL zr1)), .val (.int (own_cnt zL zr2)), .val (.int zr2), .val (.int zr1)] [])
              refine own_retV X13 hx Bd.notSynchronized Bd.returns (hb hby d5_112) (by decide) (by decide) ?_
              rw [e13]
              exact ⟨rfl, N17, K16, ((show ((List.map Value.int (((zL.set (0 : Int32).toNatClampNeg zr2).set (1 : Int32).toNatClampNeg zr2).set (2 : Int32).toNatClampNeg zr2)) : List Value) = (List.map Value.int (own_md zL zx zy)) from by exact congrArg (List.map Value.int) ((own_mdB d_zr1 d_zr2 hc12 hc35).trans (own_f4s (if_pos hc65) (if_pos hc78) (if_pos hc91) (if_neg hc104))).symm) ▸ f14)⟩
          · refine own_go (fun t k => XS.icmpYes X8.here hx rfl (pc0 := 91) (pc' := 99) rfl (hb hby d5_91) rfl (feq hc91).2 (by decide) (by decide) k) ?_
            show own_WP _ _ _ _ T8 (mkF m 99 #[.val (.ref za), .val (.int zx), .val (.int zy), .val (.int zr1), .val (.int zr2), .val (.int (own_cnt zL zr1)), .val (.int (own_cnt zL zr2)), .val (.int zr2), .val (.int zr1)] [])
            refine own_go (fun t k => XS.aloadN X8.here hx rfl (hb hby d5_99) rfl rfl  k) ?_
            show own_WP _ _ _ _ T8 (mkF m 100 #[.val (.ref za), .val (.int zx), .val (.int zy), .val (.int zr1), .val (.int zr2), .val (.int (own_cnt zL zr1)), .val (.int (own_cnt zL zr2)), .val (.int zr2), .val (.int zr1)] [(.ref za)])
            refine own_go (fun t k => XS.iconst X8.here hx rfl (hb hby d5_100) k) ?_
            show own_WP _ _ _ _ T8 (mkF m 101 #[.val (.ref za), .val (.int zx), .val (.int zy), .val (.int zr1), .val (.int zr2), .val (.int (own_cnt zL zr1)), .val (.int (own_cnt zL zr2)), .val (.int zr2), .val (.int zr1)] [(.int (3 : Int32)), (.ref za)])
            refine own_ldI X8 hx hZ e8 f9 (j := (3 : Int32)) (w := (own_g ((zL.set (0 : Int32).toNatClampNeg zr2).set (1 : Int32).toNatClampNeg zr2) (3 : Int32))) ⟨by decide, by decide⟩ (own_mg _ _) (hb hby d5_101) ?_
            show own_WP _ _ _ _ T8 (mkF m 102 #[.val (.ref za), .val (.int zx), .val (.int zy), .val (.int zr1), .val (.int zr2), .val (.int (own_cnt zL zr1)), .val (.int (own_cnt zL zr2)), .val (.int zr2), .val (.int zr1)] [(.int (own_g ((zL.set (0 : Int32).toNatClampNeg zr2).set (1 : Int32).toNatClampNeg zr2) (3 : Int32)))])
            refine own_go (fun t k => XS.iload X8.here hx rfl (hb hby d5_102) rfl  k) ?_
            show own_WP _ _ _ _ T8 (mkF m 104 #[.val (.ref za), .val (.int zx), .val (.int zy), .val (.int zr1), .val (.int zr2), .val (.int (own_cnt zL zr1)), .val (.int (own_cnt zL zr2)), .val (.int zr2), .val (.int zr1)] [(.int zr1), (.int (own_g ((zL.set (0 : Int32).toNatClampNeg zr2).set (1 : Int32).toNatClampNeg zr2) (3 : Int32)))])
            by_cases hc104 : (own_g ((zL.set (0 : Int32).toNatClampNeg zr2).set (1 : Int32).toNatClampNeg zr2) (3 : Int32)) = zr1
            · refine own_go (fun t k => XS.icmpNo X8.here hx rfl (hb hby d5_104) rfl (teq hc104).2 k) ?_
              show own_WP _ _ _ _ T8 (mkF m 107 #[.val (.ref za), .val (.int zx), .val (.int zy), .val (.int zr1), .val (.int zr2), .val (.int (own_cnt zL zr1)), .val (.int (own_cnt zL zr2)), .val (.int zr2), .val (.int zr1)] [])
              refine own_go (fun t k => XS.aloadN X8.here hx rfl (hb hby d5_107) rfl rfl  k) ?_
              show own_WP _ _ _ _ T8 (mkF m 108 #[.val (.ref za), .val (.int zx), .val (.int zy), .val (.int zr1), .val (.int zr2), .val (.int (own_cnt zL zr1)), .val (.int (own_cnt zL zr2)), .val (.int zr2), .val (.int zr1)] [(.ref za)])
              refine own_go (fun t k => XS.iconst X8.here hx rfl (hb hby d5_108) k) ?_
              show own_WP _ _ _ _ T8 (mkF m 109 #[.val (.ref za), .val (.int zx), .val (.int zy), .val (.int zr1), .val (.int zr2), .val (.int (own_cnt zL zr1)), .val (.int (own_cnt zL zr2)), .val (.int zr2), .val (.int zr1)] [(.int (3 : Int32)), (.ref za)])
              refine own_go (fun t k => XS.iload X8.here hx rfl (hb hby d5_109) rfl  k) ?_
              show own_WP _ _ _ _ T8 (mkF m 111 #[.val (.ref za), .val (.int zx), .val (.int zy), .val (.int zr1), .val (.int zr2), .val (.int (own_cnt zL zr1)), .val (.int (own_cnt zL zr2)), .val (.int zr2), .val (.int zr1)] [(.int zr2), (.int (3 : Int32)), (.ref za)])
              refine own_stI X8 hx hZ e8 f9 (j := (3 : Int32)) ⟨by decide, by decide⟩ (i := (3 : Int32).toNatClampNeg) rfl (by simp only [List.length_map, List.length_set, hl]; exact own_lt4 ⟨by decide, by decide⟩) (hb hby d5_111) ?_
              intro T23 h23 X23 e23 W23 V23
              have f24 : Arv Z h23 za zk .int (4 : Int32) (List.map Value.int (((zL.set (0 : Int32).toNatClampNeg zr2).set (1 : Int32).toNatClampNeg zr2).set (3 : Int32).toNatClampNeg zr2)) (.int (0 : Int32)) := (by rw [List.map_set]; exact V23)
              have K26 : Keep h0 h23 [za] := K11.wr W23 (Or.inl (List.mem_of_getElem? (i := 0) rfl))
              have N27 := Fr.snoc X23 N12 g_za
              show own_WP _ _ _ _ T23 (mkF m 112 #[.val (.ref za), .val (.int zx), .val (.int zy), .val (.int zr1), .val (.int zr2), .val (.int (own_cnt zL zr1)), .val (.int (own_cnt zL zr2)), .val (.int zr2), .val (.int zr1)] [])
              refine own_retV X23 hx Bd.notSynchronized Bd.returns (hb hby d5_112) (by decide) (by decide) ?_
              rw [e23]
              exact ⟨rfl, N27, K26, ((show ((List.map Value.int (((zL.set (0 : Int32).toNatClampNeg zr2).set (1 : Int32).toNatClampNeg zr2).set (3 : Int32).toNatClampNeg zr2)) : List Value) = (List.map Value.int (own_md zL zx zy)) from by exact congrArg (List.map Value.int) ((own_mdB d_zr1 d_zr2 hc12 hc35).trans (own_f4s (if_pos hc65) (if_pos hc78) (if_neg hc91) (if_pos hc104))).symm) ▸ f24)⟩
            · refine own_go (fun t k => XS.icmpYes X8.here hx rfl (pc0 := 104) (pc' := 112) rfl (hb hby d5_104) rfl (feq hc104).2 (by decide) (by decide) k) ?_
              show own_WP _ _ _ _ T8 (mkF m 112 #[.val (.ref za), .val (.int zx), .val (.int zy), .val (.int zr1), .val (.int zr2), .val (.int (own_cnt zL zr1)), .val (.int (own_cnt zL zr2)), .val (.int zr2), .val (.int zr1)] [])
              refine own_retV X8 hx Bd.notSynchronized Bd.returns (hb hby d5_112) (by decide) (by decide) ?_
              rw [e8]
              exact ⟨rfl, N12, K11, ((show ((List.map Value.int ((zL.set (0 : Int32).toNatClampNeg zr2).set (1 : Int32).toNatClampNeg zr2)) : List Value) = (List.map Value.int (own_md zL zx zy)) from by exact congrArg (List.map Value.int) ((own_mdB d_zr1 d_zr2 hc12 hc35).trans (own_f4s (if_pos hc65) (if_pos hc78) (if_neg hc91) (if_neg hc104))).symm) ▸ f9)⟩
        · refine own_go (fun t k => XS.icmpYes X3.here hx rfl (pc0 := 78) (pc' := 86) rfl (hb hby d5_78) rfl (feq hc78).2 (by decide) (by decide) k) ?_
          show own_WP _ _ _ _ T3 (mkF m 86 #[.val (.ref za), .val (.int zx), .val (.int zy), .val (.int zr1), .val (.int zr2), .val (.int (own_cnt zL zr1)), .val (.int (own_cnt zL zr2)), .val (.int zr2), .val (.int zr1)] [])
          refine own_go (fun t k => XS.aloadN X3.here hx rfl (hb hby d5_86) rfl rfl  k) ?_
          show own_WP _ _ _ _ T3 (mkF m 87 #[.val (.ref za), .val (.int zx), .val (.int zy), .val (.int zr1), .val (.int zr2), .val (.int (own_cnt zL zr1)), .val (.int (own_cnt zL zr2)), .val (.int zr2), .val (.int zr1)] [(.ref za)])
          refine own_go (fun t k => XS.iconst X3.here hx rfl (hb hby d5_87) k) ?_
          show own_WP _ _ _ _ T3 (mkF m 88 #[.val (.ref za), .val (.int zx), .val (.int zy), .val (.int zr1), .val (.int zr2), .val (.int (own_cnt zL zr1)), .val (.int (own_cnt zL zr2)), .val (.int zr2), .val (.int zr1)] [(.int (2 : Int32)), (.ref za)])
          refine own_ldI X3 hx hZ e3 f4 (j := (2 : Int32)) (w := (own_g (zL.set (0 : Int32).toNatClampNeg zr2) (2 : Int32))) ⟨by decide, by decide⟩ (own_mg _ _) (hb hby d5_88) ?_
          show own_WP _ _ _ _ T3 (mkF m 89 #[.val (.ref za), .val (.int zx), .val (.int zy), .val (.int zr1), .val (.int zr2), .val (.int (own_cnt zL zr1)), .val (.int (own_cnt zL zr2)), .val (.int zr2), .val (.int zr1)] [(.int (own_g (zL.set (0 : Int32).toNatClampNeg zr2) (2 : Int32)))])
          refine own_go (fun t k => XS.iload X3.here hx rfl (hb hby d5_89) rfl  k) ?_
          show own_WP _ _ _ _ T3 (mkF m 91 #[.val (.ref za), .val (.int zx), .val (.int zy), .val (.int zr1), .val (.int zr2), .val (.int (own_cnt zL zr1)), .val (.int (own_cnt zL zr2)), .val (.int zr2), .val (.int zr1)] [(.int zr1), (.int (own_g (zL.set (0 : Int32).toNatClampNeg zr2) (2 : Int32)))])
          by_cases hc91 : (own_g (zL.set (0 : Int32).toNatClampNeg zr2) (2 : Int32)) = zr1
          · refine own_go (fun t k => XS.icmpNo X3.here hx rfl (hb hby d5_91) rfl (teq hc91).2 k) ?_
            show own_WP _ _ _ _ T3 (mkF m 94 #[.val (.ref za), .val (.int zx), .val (.int zy), .val (.int zr1), .val (.int zr2), .val (.int (own_cnt zL zr1)), .val (.int (own_cnt zL zr2)), .val (.int zr2), .val (.int zr1)] [])
            refine own_go (fun t k => XS.aloadN X3.here hx rfl (hb hby d5_94) rfl rfl  k) ?_
            show own_WP _ _ _ _ T3 (mkF m 95 #[.val (.ref za), .val (.int zx), .val (.int zy), .val (.int zr1), .val (.int zr2), .val (.int (own_cnt zL zr1)), .val (.int (own_cnt zL zr2)), .val (.int zr2), .val (.int zr1)] [(.ref za)])
            refine own_go (fun t k => XS.iconst X3.here hx rfl (hb hby d5_95) k) ?_
            show own_WP _ _ _ _ T3 (mkF m 96 #[.val (.ref za), .val (.int zx), .val (.int zy), .val (.int zr1), .val (.int zr2), .val (.int (own_cnt zL zr1)), .val (.int (own_cnt zL zr2)), .val (.int zr2), .val (.int zr1)] [(.int (2 : Int32)), (.ref za)])
            refine own_go (fun t k => XS.iload X3.here hx rfl (hb hby d5_96) rfl  k) ?_
            show own_WP _ _ _ _ T3 (mkF m 98 #[.val (.ref za), .val (.int zx), .val (.int zy), .val (.int zr1), .val (.int zr2), .val (.int (own_cnt zL zr1)), .val (.int (own_cnt zL zr2)), .val (.int zr2), .val (.int zr1)] [(.int zr2), (.int (2 : Int32)), (.ref za)])
            refine own_stI X3 hx hZ e3 f4 (j := (2 : Int32)) ⟨by decide, by decide⟩ (i := (2 : Int32).toNatClampNeg) rfl (by simp only [List.length_map, List.length_set, hl]; exact own_lt4 ⟨by decide, by decide⟩) (hb hby d5_98) ?_
            intro T28 h28 X28 e28 W28 V28
            have f29 : Arv Z h28 za zk .int (4 : Int32) (List.map Value.int ((zL.set (0 : Int32).toNatClampNeg zr2).set (2 : Int32).toNatClampNeg zr2)) (.int (0 : Int32)) := (by rw [List.map_set]; exact V28)
            have K31 : Keep h0 h28 [za] := K6.wr W28 (Or.inl (List.mem_of_getElem? (i := 0) rfl))
            have N32 := Fr.snoc X28 N7 g_za
            show own_WP _ _ _ _ T28 (mkF m 99 #[.val (.ref za), .val (.int zx), .val (.int zy), .val (.int zr1), .val (.int zr2), .val (.int (own_cnt zL zr1)), .val (.int (own_cnt zL zr2)), .val (.int zr2), .val (.int zr1)] [])
            refine own_go (fun t k => XS.aloadN X28.here hx rfl (hb hby d5_99) rfl rfl  k) ?_
            show own_WP _ _ _ _ T28 (mkF m 100 #[.val (.ref za), .val (.int zx), .val (.int zy), .val (.int zr1), .val (.int zr2), .val (.int (own_cnt zL zr1)), .val (.int (own_cnt zL zr2)), .val (.int zr2), .val (.int zr1)] [(.ref za)])
            refine own_go (fun t k => XS.iconst X28.here hx rfl (hb hby d5_100) k) ?_
            show own_WP _ _ _ _ T28 (mkF m 101 #[.val (.ref za), .val (.int zx), .val (.int zy), .val (.int zr1), .val (.int zr2), .val (.int (own_cnt zL zr1)), .val (.int (own_cnt zL zr2)), .val (.int zr2), .val (.int zr1)] [(.int (3 : Int32)), (.ref za)])
            refine own_ldI X28 hx hZ e28 f29 (j := (3 : Int32)) (w := (own_g ((zL.set (0 : Int32).toNatClampNeg zr2).set (2 : Int32).toNatClampNeg zr2) (3 : Int32))) ⟨by decide, by decide⟩ (own_mg _ _) (hb hby d5_101) ?_
            show own_WP _ _ _ _ T28 (mkF m 102 #[.val (.ref za), .val (.int zx), .val (.int zy), .val (.int zr1), .val (.int zr2), .val (.int (own_cnt zL zr1)), .val (.int (own_cnt zL zr2)), .val (.int zr2), .val (.int zr1)] [(.int (own_g ((zL.set (0 : Int32).toNatClampNeg zr2).set (2 : Int32).toNatClampNeg zr2) (3 : Int32)))])
            refine own_go (fun t k => XS.iload X28.here hx rfl (hb hby d5_102) rfl  k) ?_
            show own_WP _ _ _ _ T28 (mkF m 104 #[.val (.ref za), .val (.int zx), .val (.int zy), .val (.int zr1), .val (.int zr2), .val (.int (own_cnt zL zr1)), .val (.int (own_cnt zL zr2)), .val (.int zr2), .val (.int zr1)] [(.int zr1), (.int (own_g ((zL.set (0 : Int32).toNatClampNeg zr2).set (2 : Int32).toNatClampNeg zr2) (3 : Int32)))])
            by_cases hc104 : (own_g ((zL.set (0 : Int32).toNatClampNeg zr2).set (2 : Int32).toNatClampNeg zr2) (3 : Int32)) = zr1
            · refine own_go (fun t k => XS.icmpNo X28.here hx rfl (hb hby d5_104) rfl (teq hc104).2 k) ?_
              show own_WP _ _ _ _ T28 (mkF m 107 #[.val (.ref za), .val (.int zx), .val (.int zy), .val (.int zr1), .val (.int zr2), .val (.int (own_cnt zL zr1)), .val (.int (own_cnt zL zr2)), .val (.int zr2), .val (.int zr1)] [])
              refine own_go (fun t k => XS.aloadN X28.here hx rfl (hb hby d5_107) rfl rfl  k) ?_
              show own_WP _ _ _ _ T28 (mkF m 108 #[.val (.ref za), .val (.int zx), .val (.int zy), .val (.int zr1), .val (.int zr2), .val (.int (own_cnt zL zr1)), .val (.int (own_cnt zL zr2)), .val (.int zr2), .val (.int zr1)] [(.ref za)])
              refine own_go (fun t k => XS.iconst X28.here hx rfl (hb hby d5_108) k) ?_
              show own_WP _ _ _ _ T28 (mkF m 109 #[.val (.ref za), .val (.int zx), .val (.int zy), .val (.int zr1), .val (.int zr2), .val (.int (own_cnt zL zr1)), .val (.int (own_cnt zL zr2)), .val (.int zr2), .val (.int zr1)] [(.int (3 : Int32)), (.ref za)])
              refine own_go (fun t k => XS.iload X28.here hx rfl (hb hby d5_109) rfl  k) ?_
              show own_WP _ _ _ _ T28 (mkF m 111 #[.val (.ref za), .val (.int zx), .val (.int zy), .val (.int zr1), .val (.int zr2), .val (.int (own_cnt zL zr1)), .val (.int (own_cnt zL zr2)), .val (.int zr2), .val (.int zr1)] [(.int zr2), (.int (3 : Int32)), (.ref za)])
              refine own_stI X28 hx hZ e28 f29 (j := (3 : Int32)) ⟨by decide, by decide⟩ (i := (3 : Int32).toNatClampNeg) rfl (by simp only [List.length_map, List.length_set, hl]; exact own_lt4 ⟨by decide, by decide⟩) (hb hby d5_111) ?_
              intro T33 h33 X33 e33 W33 V33
              have f34 : Arv Z h33 za zk .int (4 : Int32) (List.map Value.int (((zL.set (0 : Int32).toNatClampNeg zr2).set (2 : Int32).toNatClampNeg zr2).set (3 : Int32).toNatClampNeg zr2)) (.int (0 : Int32)) := (by rw [List.map_set]; exact V33)
              have K36 : Keep h0 h33 [za] := K31.wr W33 (Or.inl (List.mem_of_getElem? (i := 0) rfl))
              have N37 := Fr.snoc X33 N32 g_za
              show own_WP _ _ _ _ T33 (mkF m 112 #[.val (.ref za), .val (.int zx), .val (.int zy), .val (.int zr1), .val (.int zr2), .val (.int (own_cnt zL zr1)), .val (.int (own_cnt zL zr2)), .val (.int zr2), .val (.int zr1)] [])
              refine own_retV X33 hx Bd.notSynchronized Bd.returns (hb hby d5_112) (by decide) (by decide) ?_
              rw [e33]
              exact ⟨rfl, N37, K36, ((show ((List.map Value.int (((zL.set (0 : Int32).toNatClampNeg zr2).set (2 : Int32).toNatClampNeg zr2).set (3 : Int32).toNatClampNeg zr2)) : List Value) = (List.map Value.int (own_md zL zx zy)) from by exact congrArg (List.map Value.int) ((own_mdB d_zr1 d_zr2 hc12 hc35).trans (own_f4s (if_pos hc65) (if_neg hc78) (if_pos hc91) (if_pos hc104))).symm) ▸ f34)⟩
            · refine own_go (fun t k => XS.icmpYes X28.here hx rfl (pc0 := 104) (pc' := 112) rfl (hb hby d5_104) rfl (feq hc104).2 (by decide) (by decide) k) ?_
              show own_WP _ _ _ _ T28 (mkF m 112 #[.val (.ref za), .val (.int zx), .val (.int zy), .val (.int zr1), .val (.int zr2), .val (.int (own_cnt zL zr1)), .val (.int (own_cnt zL zr2)), .val (.int zr2), .val (.int zr1)] [])
              refine own_retV X28 hx Bd.notSynchronized Bd.returns (hb hby d5_112) (by decide) (by decide) ?_
              rw [e28]
              exact ⟨rfl, N32, K31, ((show ((List.map Value.int ((zL.set (0 : Int32).toNatClampNeg zr2).set (2 : Int32).toNatClampNeg zr2)) : List Value) = (List.map Value.int (own_md zL zx zy)) from by exact congrArg (List.map Value.int) ((own_mdB d_zr1 d_zr2 hc12 hc35).trans (own_f4s (if_pos hc65) (if_neg hc78) (if_pos hc91) (if_neg hc104))).symm) ▸ f29)⟩
          · refine own_go (fun t k => XS.icmpYes X3.here hx rfl (pc0 := 91) (pc' := 99) rfl (hb hby d5_91) rfl (feq hc91).2 (by decide) (by decide) k) ?_
            show own_WP _ _ _ _ T3 (mkF m 99 #[.val (.ref za), .val (.int zx), .val (.int zy), .val (.int zr1), .val (.int zr2), .val (.int (own_cnt zL zr1)), .val (.int (own_cnt zL zr2)), .val (.int zr2), .val (.int zr1)] [])
            refine own_go (fun t k => XS.aloadN X3.here hx rfl (hb hby d5_99) rfl rfl  k) ?_
            show own_WP _ _ _ _ T3 (mkF m 100 #[.val (.ref za), .val (.int zx), .val (.int zy), .val (.int zr1), .val (.int zr2), .val (.int (own_cnt zL zr1)), .val (.int (own_cnt zL zr2)), .val (.int zr2), .val (.int zr1)] [(.ref za)])
            refine own_go (fun t k => XS.iconst X3.here hx rfl (hb hby d5_100) k) ?_
            show own_WP _ _ _ _ T3 (mkF m 101 #[.val (.ref za), .val (.int zx), .val (.int zy), .val (.int zr1), .val (.int zr2), .val (.int (own_cnt zL zr1)), .val (.int (own_cnt zL zr2)), .val (.int zr2), .val (.int zr1)] [(.int (3 : Int32)), (.ref za)])
            refine own_ldI X3 hx hZ e3 f4 (j := (3 : Int32)) (w := (own_g (zL.set (0 : Int32).toNatClampNeg zr2) (3 : Int32))) ⟨by decide, by decide⟩ (own_mg _ _) (hb hby d5_101) ?_
            show own_WP _ _ _ _ T3 (mkF m 102 #[.val (.ref za), .val (.int zx), .val (.int zy), .val (.int zr1), .val (.int zr2), .val (.int (own_cnt zL zr1)), .val (.int (own_cnt zL zr2)), .val (.int zr2), .val (.int zr1)] [(.int (own_g (zL.set (0 : Int32).toNatClampNeg zr2) (3 : Int32)))])
            refine own_go (fun t k => XS.iload X3.here hx rfl (hb hby d5_102) rfl  k) ?_
            show own_WP _ _ _ _ T3 (mkF m 104 #[.val (.ref za), .val (.int zx), .val (.int zy), .val (.int zr1), .val (.int zr2), .val (.int (own_cnt zL zr1)), .val (.int (own_cnt zL zr2)), .val (.int zr2), .val (.int zr1)] [(.int zr1), (.int (own_g (zL.set (0 : Int32).toNatClampNeg zr2) (3 : Int32)))])
            by_cases hc104 : (own_g (zL.set (0 : Int32).toNatClampNeg zr2) (3 : Int32)) = zr1
            · refine own_go (fun t k => XS.icmpNo X3.here hx rfl (hb hby d5_104) rfl (teq hc104).2 k) ?_
              show own_WP _ _ _ _ T3 (mkF m 107 #[.val (.ref za), .val (.int zx), .val (.int zy), .val (.int zr1), .val (.int zr2), .val (.int (own_cnt zL zr1)), .val (.int (own_cnt zL zr2)), .val (.int zr2), .val (.int zr1)] [])
              refine own_go (fun t k => XS.aloadN X3.here hx rfl (hb hby d5_107) rfl rfl  k) ?_
              show own_WP _ _ _ _ T3 (mkF m 108 #[.val (.ref za), .val (.int zx), .val (.int zy), .val (.int zr1), .val (.int zr2), .val (.int (own_cnt zL zr1)), .val (.int (own_cnt zL zr2)), .val (.int zr2), .val (.int zr1)] [(.ref za)])
              refine own_go (fun t k => XS.iconst X3.here hx rfl (hb hby d5_108) k) ?_
              show own_WP _ _ _ _ T3 (mkF m 109 #[.val (.ref za), .val (.int zx), .val (.int zy), .val (.int zr1), .val (.int zr2), .val (.int (own_cnt zL zr1)), .val (.int (own_cnt zL zr2)), .val (.int zr2), .val (.int zr1)] [(.int (3 : Int32)), (.ref za)])
              refine own_go (fun t k => XS.iload X3.here hx rfl (hb hby d5_109) rfl  k) ?_
              show own_WP _ _ _ _ T3 (mkF m 111 #[.val (.ref za), .val (.int zx), .val (.int zy), .val (.int zr1), .val (.int zr2), .val (.int (own_cnt zL zr1)), .val (.int (own_cnt zL zr2)), .val (.int zr2), .val (.int zr1)] [(.int zr2), (.int (3 : Int32)), (.ref za)])
              refine own_stI X3 hx hZ e3 f4 (j := (3 : Int32)) ⟨by decide, by decide⟩ (i := (3 : Int32).toNatClampNeg) rfl (by simp only [List.length_map, List.length_set, hl]; exact own_lt4 ⟨by decide, by decide⟩) (hb hby d5_111) ?_
              intro T38 h38 X38 e38 W38 V38
              have f39 : Arv Z h38 za zk .int (4 : Int32) (List.map Value.int ((zL.set (0 : Int32).toNatClampNeg zr2).set (3 : Int32).toNatClampNeg zr2)) (.int (0 : Int32)) := (by rw [List.map_set]; exact V38)
              have K41 : Keep h0 h38 [za] := K6.wr W38 (Or.inl (List.mem_of_getElem? (i := 0) rfl))
              have N42 := Fr.snoc X38 N7 g_za
              show own_WP _ _ _ _ T38 (mkF m 112 #[.val (.ref za), .val (.int zx), .val (.int zy), .val (.int zr1), .val (.int zr2), .val (.int (own_cnt zL zr1)), .val (.int (own_cnt zL zr2)), .val (.int zr2), .val (.int zr1)] [])
              refine own_retV X38 hx Bd.notSynchronized Bd.returns (hb hby d5_112) (by decide) (by decide) ?_
              rw [e38]
              exact ⟨rfl, N42, K41, ((show ((List.map Value.int ((zL.set (0 : Int32).toNatClampNeg zr2).set (3 : Int32).toNatClampNeg zr2)) : List Value) = (List.map Value.int (own_md zL zx zy)) from by exact congrArg (List.map Value.int) ((own_mdB d_zr1 d_zr2 hc12 hc35).trans (own_f4s (if_pos hc65) (if_neg hc78) (if_neg hc91) (if_pos hc104))).symm) ▸ f39)⟩
            · refine own_go (fun t k => XS.icmpYes X3.here hx rfl (pc0 := 104) (pc' := 112) rfl (hb hby d5_104) rfl (feq hc104).2 (by decide) (by decide) k) ?_
              show own_WP _ _ _ _ T3 (mkF m 112 #[.val (.ref za), .val (.int zx), .val (.int zy), .val (.int zr1), .val (.int zr2), .val (.int (own_cnt zL zr1)), .val (.int (own_cnt zL zr2)), .val (.int zr2), .val (.int zr1)] [])
              refine own_retV X3 hx Bd.notSynchronized Bd.returns (hb hby d5_112) (by decide) (by decide) ?_
              rw [e3]
              exact ⟨rfl, N7, K6, ((show ((List.map Value.int (zL.set (0 : Int32).toNatClampNeg zr2)) : List Value) = (List.map Value.int (own_md zL zx zy)) from by exact congrArg (List.map Value.int) ((own_mdB d_zr1 d_zr2 hc12 hc35).trans (own_f4s (if_pos hc65) (if_neg hc78) (if_neg hc91) (if_neg hc104))).symm) ▸ f4)⟩
      · refine own_go (fun t k => XS.icmpYes X2.here hx rfl (pc0 := 65) (pc' := 73) rfl (hb hby d5_65) rfl (feq hc65).2 (by decide) (by decide) k) ?_
        show own_WP _ _ _ _ T2 (mkF m 73 #[.val (.ref za), .val (.int zx), .val (.int zy), .val (.int zr1), .val (.int zr2), .val (.int (own_cnt zL zr1)), .val (.int (own_cnt zL zr2)), .val (.int zr2), .val (.int zr1)] [])
        refine own_go (fun t k => XS.aloadN X2.here hx rfl (hb hby d5_73) rfl rfl  k) ?_
        show own_WP _ _ _ _ T2 (mkF m 74 #[.val (.ref za), .val (.int zx), .val (.int zy), .val (.int zr1), .val (.int zr2), .val (.int (own_cnt zL zr1)), .val (.int (own_cnt zL zr2)), .val (.int zr2), .val (.int zr1)] [(.ref za)])
        refine own_go (fun t k => XS.iconst X2.here hx rfl (hb hby d5_74) k) ?_
        show own_WP _ _ _ _ T2 (mkF m 75 #[.val (.ref za), .val (.int zx), .val (.int zy), .val (.int zr1), .val (.int zr2), .val (.int (own_cnt zL zr1)), .val (.int (own_cnt zL zr2)), .val (.int zr2), .val (.int zr1)] [(.int (1 : Int32)), (.ref za)])
        refine own_ldI X2 hx hZ eq2 P0 (j := (1 : Int32)) (w := (own_g zL (1 : Int32))) ⟨by decide, by decide⟩ (own_mg _ _) (hb hby d5_75) ?_
        show own_WP _ _ _ _ T2 (mkF m 76 #[.val (.ref za), .val (.int zx), .val (.int zy), .val (.int zr1), .val (.int zr2), .val (.int (own_cnt zL zr1)), .val (.int (own_cnt zL zr2)), .val (.int zr2), .val (.int zr1)] [(.int (own_g zL (1 : Int32)))])
        refine own_go (fun t k => XS.iload X2.here hx rfl (hb hby d5_76) rfl  k) ?_
        show own_WP _ _ _ _ T2 (mkF m 78 #[.val (.ref za), .val (.int zx), .val (.int zy), .val (.int zr1), .val (.int zr2), .val (.int (own_cnt zL zr1)), .val (.int (own_cnt zL zr2)), .val (.int zr2), .val (.int zr1)] [(.int zr1), (.int (own_g zL (1 : Int32)))])
        by_cases hc78 : (own_g zL (1 : Int32)) = zr1
        · refine own_go (fun t k => XS.icmpNo X2.here hx rfl (hb hby d5_78) rfl (teq hc78).2 k) ?_
          show own_WP _ _ _ _ T2 (mkF m 81 #[.val (.ref za), .val (.int zx), .val (.int zy), .val (.int zr1), .val (.int zr2), .val (.int (own_cnt zL zr1)), .val (.int (own_cnt zL zr2)), .val (.int zr2), .val (.int zr1)] [])
          refine own_go (fun t k => XS.aloadN X2.here hx rfl (hb hby d5_81) rfl rfl  k) ?_
          show own_WP _ _ _ _ T2 (mkF m 82 #[.val (.ref za), .val (.int zx), .val (.int zy), .val (.int zr1), .val (.int zr2), .val (.int (own_cnt zL zr1)), .val (.int (own_cnt zL zr2)), .val (.int zr2), .val (.int zr1)] [(.ref za)])
          refine own_go (fun t k => XS.iconst X2.here hx rfl (hb hby d5_82) k) ?_
          show own_WP _ _ _ _ T2 (mkF m 83 #[.val (.ref za), .val (.int zx), .val (.int zy), .val (.int zr1), .val (.int zr2), .val (.int (own_cnt zL zr1)), .val (.int (own_cnt zL zr2)), .val (.int zr2), .val (.int zr1)] [(.int (1 : Int32)), (.ref za)])
          refine own_go (fun t k => XS.iload X2.here hx rfl (hb hby d5_83) rfl  k) ?_
          show own_WP _ _ _ _ T2 (mkF m 85 #[.val (.ref za), .val (.int zx), .val (.int zy), .val (.int zr1), .val (.int zr2), .val (.int (own_cnt zL zr1)), .val (.int (own_cnt zL zr2)), .val (.int zr2), .val (.int zr1)] [(.int zr2), (.int (1 : Int32)), (.ref za)])
          refine own_stI X2 hx hZ eq2 P0 (j := (1 : Int32)) ⟨by decide, by decide⟩ (i := (1 : Int32).toNatClampNeg) rfl (by simp only [List.length_map, List.length_set, hl]; exact own_lt4 ⟨by decide, by decide⟩) (hb hby d5_85) ?_
          intro T43 h43 X43 e43 W43 V43
          have f44 : Arv Z h43 za zk .int (4 : Int32) (List.map Value.int (zL.set (1 : Int32).toNatClampNeg zr2)) (.int (0 : Int32)) := (by rw [List.map_set]; exact V43)
          have K46 : Keep h0 h43 [za] := K0.wr W43 (Or.inl (List.mem_of_getElem? (i := 0) rfl))
          have N47 := Fr.snoc X43 N2 g_za
          show own_WP _ _ _ _ T43 (mkF m 86 #[.val (.ref za), .val (.int zx), .val (.int zy), .val (.int zr1), .val (.int zr2), .val (.int (own_cnt zL zr1)), .val (.int (own_cnt zL zr2)), .val (.int zr2), .val (.int zr1)] [])
          refine own_go (fun t k => XS.aloadN X43.here hx rfl (hb hby d5_86) rfl rfl  k) ?_
          show own_WP _ _ _ _ T43 (mkF m 87 #[.val (.ref za), .val (.int zx), .val (.int zy), .val (.int zr1), .val (.int zr2), .val (.int (own_cnt zL zr1)), .val (.int (own_cnt zL zr2)), .val (.int zr2), .val (.int zr1)] [(.ref za)])
          refine own_go (fun t k => XS.iconst X43.here hx rfl (hb hby d5_87) k) ?_
          show own_WP _ _ _ _ T43 (mkF m 88 #[.val (.ref za), .val (.int zx), .val (.int zy), .val (.int zr1), .val (.int zr2), .val (.int (own_cnt zL zr1)), .val (.int (own_cnt zL zr2)), .val (.int zr2), .val (.int zr1)] [(.int (2 : Int32)), (.ref za)])
          refine own_ldI X43 hx hZ e43 f44 (j := (2 : Int32)) (w := (own_g (zL.set (1 : Int32).toNatClampNeg zr2) (2 : Int32))) ⟨by decide, by decide⟩ (own_mg _ _) (hb hby d5_88) ?_
          show own_WP _ _ _ _ T43 (mkF m 89 #[.val (.ref za), .val (.int zx), .val (.int zy), .val (.int zr1), .val (.int zr2), .val (.int (own_cnt zL zr1)), .val (.int (own_cnt zL zr2)), .val (.int zr2), .val (.int zr1)] [(.int (own_g (zL.set (1 : Int32).toNatClampNeg zr2) (2 : Int32)))])
          refine own_go (fun t k => XS.iload X43.here hx rfl (hb hby d5_89) rfl  k) ?_
          show own_WP _ _ _ _ T43 (mkF m 91 #[.val (.ref za), .val (.int zx), .val (.int zy), .val (.int zr1), .val (.int zr2), .val (.int (own_cnt zL zr1)), .val (.int (own_cnt zL zr2)), .val (.int zr2), .val (.int zr1)] [(.int zr1), (.int (own_g (zL.set (1 : Int32).toNatClampNeg zr2) (2 : Int32)))])
          by_cases hc91 : (own_g (zL.set (1 : Int32).toNatClampNeg zr2) (2 : Int32)) = zr1
          · refine own_go (fun t k => XS.icmpNo X43.here hx rfl (hb hby d5_91) rfl (teq hc91).2 k) ?_
            show own_WP _ _ _ _ T43 (mkF m 94 #[.val (.ref za), .val (.int zx), .val (.int zy), .val (.int zr1), .val (.int zr2), .val (.int (own_cnt zL zr1)), .val (.int (own_cnt zL zr2)), .val (.int zr2), .val (.int zr1)] [])
            refine own_go (fun t k => XS.aloadN X43.here hx rfl (hb hby d5_94) rfl rfl  k) ?_
            show own_WP _ _ _ _ T43 (mkF m 95 #[.val (.ref za), .val (.int zx), .val (.int zy), .val (.int zr1), .val (.int zr2), .val (.int (own_cnt zL zr1)), .val (.int (own_cnt zL zr2)), .val (.int zr2), .val (.int zr1)] [(.ref za)])
            refine own_go (fun t k => XS.iconst X43.here hx rfl (hb hby d5_95) k) ?_
            show own_WP _ _ _ _ T43 (mkF m 96 #[.val (.ref za), .val (.int zx), .val (.int zy), .val (.int zr1), .val (.int zr2), .val (.int (own_cnt zL zr1)), .val (.int (own_cnt zL zr2)), .val (.int zr2), .val (.int zr1)] [(.int (2 : Int32)), (.ref za)])
            refine own_go (fun t k => XS.iload X43.here hx rfl (hb hby d5_96) rfl  k) ?_
            show own_WP _ _ _ _ T43 (mkF m 98 #[.val (.ref za), .val (.int zx), .val (.int zy), .val (.int zr1), .val (.int zr2), .val (.int (own_cnt zL zr1)), .val (.int (own_cnt zL zr2)), .val (.int zr2), .val (.int zr1)] [(.int zr2), (.int (2 : Int32)), (.ref za)])
            refine own_stI X43 hx hZ e43 f44 (j := (2 : Int32)) ⟨by decide, by decide⟩ (i := (2 : Int32).toNatClampNeg) rfl (by simp only [List.length_map, List.length_set, hl]; exact own_lt4 ⟨by decide, by decide⟩) (hb hby d5_98) ?_
            intro T48 h48 X48 e48 W48 V48
            have f49 : Arv Z h48 za zk .int (4 : Int32) (List.map Value.int ((zL.set (1 : Int32).toNatClampNeg zr2).set (2 : Int32).toNatClampNeg zr2)) (.int (0 : Int32)) := (by rw [List.map_set]; exact V48)
            have K51 : Keep h0 h48 [za] := K46.wr W48 (Or.inl (List.mem_of_getElem? (i := 0) rfl))
            have N52 := Fr.snoc X48 N47 g_za
            show own_WP _ _ _ _ T48 (mkF m 99 #[.val (.ref za), .val (.int zx), .val (.int zy), .val (.int zr1), .val (.int zr2), .val (.int (own_cnt zL zr1)), .val (.int (own_cnt zL zr2)), .val (.int zr2), .val (.int zr1)] [])
            refine own_go (fun t k => XS.aloadN X48.here hx rfl (hb hby d5_99) rfl rfl  k) ?_
            show own_WP _ _ _ _ T48 (mkF m 100 #[.val (.ref za), .val (.int zx), .val (.int zy), .val (.int zr1), .val (.int zr2), .val (.int (own_cnt zL zr1)), .val (.int (own_cnt zL zr2)), .val (.int zr2), .val (.int zr1)] [(.ref za)])
            refine own_go (fun t k => XS.iconst X48.here hx rfl (hb hby d5_100) k) ?_
            show own_WP _ _ _ _ T48 (mkF m 101 #[.val (.ref za), .val (.int zx), .val (.int zy), .val (.int zr1), .val (.int zr2), .val (.int (own_cnt zL zr1)), .val (.int (own_cnt zL zr2)), .val (.int zr2), .val (.int zr1)] [(.int (3 : Int32)), (.ref za)])
            refine own_ldI X48 hx hZ e48 f49 (j := (3 : Int32)) (w := (own_g ((zL.set (1 : Int32).toNatClampNeg zr2).set (2 : Int32).toNatClampNeg zr2) (3 : Int32))) ⟨by decide, by decide⟩ (own_mg _ _) (hb hby d5_101) ?_
            show own_WP _ _ _ _ T48 (mkF m 102 #[.val (.ref za), .val (.int zx), .val (.int zy), .val (.int zr1), .val (.int zr2), .val (.int (own_cnt zL zr1)), .val (.int (own_cnt zL zr2)), .val (.int zr2), .val (.int zr1)] [(.int (own_g ((zL.set (1 : Int32).toNatClampNeg zr2).set (2 : Int32).toNatClampNeg zr2) (3 : Int32)))])
            refine own_go (fun t k => XS.iload X48.here hx rfl (hb hby d5_102) rfl  k) ?_
            show own_WP _ _ _ _ T48 (mkF m 104 #[.val (.ref za), .val (.int zx), .val (.int zy), .val (.int zr1), .val (.int zr2), .val (.int (own_cnt zL zr1)), .val (.int (own_cnt zL zr2)), .val (.int zr2), .val (.int zr1)] [(.int zr1), (.int (own_g ((zL.set (1 : Int32).toNatClampNeg zr2).set (2 : Int32).toNatClampNeg zr2) (3 : Int32)))])
            by_cases hc104 : (own_g ((zL.set (1 : Int32).toNatClampNeg zr2).set (2 : Int32).toNatClampNeg zr2) (3 : Int32)) = zr1
            · refine own_go (fun t k => XS.icmpNo X48.here hx rfl (hb hby d5_104) rfl (teq hc104).2 k) ?_
              show own_WP _ _ _ _ T48 (mkF m 107 #[.val (.ref za), .val (.int zx), .val (.int zy), .val (.int zr1), .val (.int zr2), .val (.int (own_cnt zL zr1)), .val (.int (own_cnt zL zr2)), .val (.int zr2), .val (.int zr1)] [])
              refine own_go (fun t k => XS.aloadN X48.here hx rfl (hb hby d5_107) rfl rfl  k) ?_
              show own_WP _ _ _ _ T48 (mkF m 108 #[.val (.ref za), .val (.int zx), .val (.int zy), .val (.int zr1), .val (.int zr2), .val (.int (own_cnt zL zr1)), .val (.int (own_cnt zL zr2)), .val (.int zr2), .val (.int zr1)] [(.ref za)])
              refine own_go (fun t k => XS.iconst X48.here hx rfl (hb hby d5_108) k) ?_
              show own_WP _ _ _ _ T48 (mkF m 109 #[.val (.ref za), .val (.int zx), .val (.int zy), .val (.int zr1), .val (.int zr2), .val (.int (own_cnt zL zr1)), .val (.int (own_cnt zL zr2)), .val (.int zr2), .val (.int zr1)] [(.int (3 : Int32)), (.ref za)])
              refine own_go (fun t k => XS.iload X48.here hx rfl (hb hby d5_109) rfl  k) ?_
              show own_WP _ _ _ _ T48 (mkF m 111 #[.val (.ref za), .val (.int zx), .val (.int zy), .val (.int zr1), .val (.int zr2), .val (.int (own_cnt zL zr1)), .val (.int (own_cnt zL zr2)), .val (.int zr2), .val (.int zr1)] [(.int zr2), (.int (3 : Int32)), (.ref za)])
              refine own_stI X48 hx hZ e48 f49 (j := (3 : Int32)) ⟨by decide, by decide⟩ (i := (3 : Int32).toNatClampNeg) rfl (by simp only [List.length_map, List.length_set, hl]; exact own_lt4 ⟨by decide, by decide⟩) (hb hby d5_111) ?_
              intro T53 h53 X53 e53 W53 V53
              have f54 : Arv Z h53 za zk .int (4 : Int32) (List.map Value.int (((zL.set (1 : Int32).toNatClampNeg zr2).set (2 : Int32).toNatClampNeg zr2).set (3 : Int32).toNatClampNeg zr2)) (.int (0 : Int32)) := (by rw [List.map_set]; exact V53)
              have K56 : Keep h0 h53 [za] := K51.wr W53 (Or.inl (List.mem_of_getElem? (i := 0) rfl))
              have N57 := Fr.snoc X53 N52 g_za
              show own_WP _ _ _ _ T53 (mkF m 112 #[.val (.ref za), .val (.int zx), .val (.int zy), .val (.int zr1), .val (.int zr2), .val (.int (own_cnt zL zr1)), .val (.int (own_cnt zL zr2)), .val (.int zr2), .val (.int zr1)] [])
              refine own_retV X53 hx Bd.notSynchronized Bd.returns (hb hby d5_112) (by decide) (by decide) ?_
              rw [e53]
              exact ⟨rfl, N57, K56, ((show ((List.map Value.int (((zL.set (1 : Int32).toNatClampNeg zr2).set (2 : Int32).toNatClampNeg zr2).set (3 : Int32).toNatClampNeg zr2)) : List Value) = (List.map Value.int (own_md zL zx zy)) from by exact congrArg (List.map Value.int) ((own_mdB d_zr1 d_zr2 hc12 hc35).trans (own_f4s (if_neg hc65) (if_pos hc78) (if_pos hc91) (if_pos hc104))).symm) ▸ f54)⟩
            · refine own_go (fun t k => XS.icmpYes X48.here hx rfl (pc0 := 104) (pc' := 112) rfl (hb hby d5_104) rfl (feq hc104).2 (by decide) (by decide) k) ?_
              show own_WP _ _ _ _ T48 (mkF m 112 #[.val (.ref za), .val (.int zx), .val (.int zy), .val (.int zr1), .val (.int zr2), .val (.int (own_cnt zL zr1)), .val (.int (own_cnt zL zr2)), .val (.int zr2), .val (.int zr1)] [])
              refine own_retV X48 hx Bd.notSynchronized Bd.returns (hb hby d5_112) (by decide) (by decide) ?_
              rw [e48]
              exact ⟨rfl, N52, K51, ((show ((List.map Value.int ((zL.set (1 : Int32).toNatClampNeg zr2).set (2 : Int32).toNatClampNeg zr2)) : List Value) = (List.map Value.int (own_md zL zx zy)) from by exact congrArg (List.map Value.int) ((own_mdB d_zr1 d_zr2 hc12 hc35).trans (own_f4s (if_neg hc65) (if_pos hc78) (if_pos hc91) (if_neg hc104))).symm) ▸ f49)⟩
          · refine own_go (fun t k => XS.icmpYes X43.here hx rfl (pc0 := 91) (pc' := 99) rfl (hb hby d5_91) rfl (feq hc91).2 (by decide) (by decide) k) ?_
            show own_WP _ _ _ _ T43 (mkF m 99 #[.val (.ref za), .val (.int zx), .val (.int zy), .val (.int zr1), .val (.int zr2), .val (.int (own_cnt zL zr1)), .val (.int (own_cnt zL zr2)), .val (.int zr2), .val (.int zr1)] [])
            refine own_go (fun t k => XS.aloadN X43.here hx rfl (hb hby d5_99) rfl rfl  k) ?_
            show own_WP _ _ _ _ T43 (mkF m 100 #[.val (.ref za), .val (.int zx), .val (.int zy), .val (.int zr1), .val (.int zr2), .val (.int (own_cnt zL zr1)), .val (.int (own_cnt zL zr2)), .val (.int zr2), .val (.int zr1)] [(.ref za)])
            refine own_go (fun t k => XS.iconst X43.here hx rfl (hb hby d5_100) k) ?_
            show own_WP _ _ _ _ T43 (mkF m 101 #[.val (.ref za), .val (.int zx), .val (.int zy), .val (.int zr1), .val (.int zr2), .val (.int (own_cnt zL zr1)), .val (.int (own_cnt zL zr2)), .val (.int zr2), .val (.int zr1)] [(.int (3 : Int32)), (.ref za)])
            refine own_ldI X43 hx hZ e43 f44 (j := (3 : Int32)) (w := (own_g (zL.set (1 : Int32).toNatClampNeg zr2) (3 : Int32))) ⟨by decide, by decide⟩ (own_mg _ _) (hb hby d5_101) ?_
            show own_WP _ _ _ _ T43 (mkF m 102 #[.val (.ref za), .val (.int zx), .val (.int zy), .val (.int zr1), .val (.int zr2), .val (.int (own_cnt zL zr1)), .val (.int (own_cnt zL zr2)), .val (.int zr2), .val (.int zr1)] [(.int (own_g (zL.set (1 : Int32).toNatClampNeg zr2) (3 : Int32)))])
            refine own_go (fun t k => XS.iload X43.here hx rfl (hb hby d5_102) rfl  k) ?_
            show own_WP _ _ _ _ T43 (mkF m 104 #[.val (.ref za), .val (.int zx), .val (.int zy), .val (.int zr1), .val (.int zr2), .val (.int (own_cnt zL zr1)), .val (.int (own_cnt zL zr2)), .val (.int zr2), .val (.int zr1)] [(.int zr1), (.int (own_g (zL.set (1 : Int32).toNatClampNeg zr2) (3 : Int32)))])
            by_cases hc104 : (own_g (zL.set (1 : Int32).toNatClampNeg zr2) (3 : Int32)) = zr1
            · refine own_go (fun t k => XS.icmpNo X43.here hx rfl (hb hby d5_104) rfl (teq hc104).2 k) ?_
              show own_WP _ _ _ _ T43 (mkF m 107 #[.val (.ref za), .val (.int zx), .val (.int zy), .val (.int zr1), .val (.int zr2), .val (.int (own_cnt zL zr1)), .val (.int (own_cnt zL zr2)), .val (.int zr2), .val (.int zr1)] [])
              refine own_go (fun t k => XS.aloadN X43.here hx rfl (hb hby d5_107) rfl rfl  k) ?_
              show own_WP _ _ _ _ T43 (mkF m 108 #[.val (.ref za), .val (.int zx), .val (.int zy), .val (.int zr1), .val (.int zr2), .val (.int (own_cnt zL zr1)), .val (.int (own_cnt zL zr2)), .val (.int zr2), .val (.int zr1)] [(.ref za)])
              refine own_go (fun t k => XS.iconst X43.here hx rfl (hb hby d5_108) k) ?_
              show own_WP _ _ _ _ T43 (mkF m 109 #[.val (.ref za), .val (.int zx), .val (.int zy), .val (.int zr1), .val (.int zr2), .val (.int (own_cnt zL zr1)), .val (.int (own_cnt zL zr2)), .val (.int zr2), .val (.int zr1)] [(.int (3 : Int32)), (.ref za)])
              refine own_go (fun t k => XS.iload X43.here hx rfl (hb hby d5_109) rfl  k) ?_
              show own_WP _ _ _ _ T43 (mkF m 111 #[.val (.ref za), .val (.int zx), .val (.int zy), .val (.int zr1), .val (.int zr2), .val (.int (own_cnt zL zr1)), .val (.int (own_cnt zL zr2)), .val (.int zr2), .val (.int zr1)] [(.int zr2), (.int (3 : Int32)), (.ref za)])
              refine own_stI X43 hx hZ e43 f44 (j := (3 : Int32)) ⟨by decide, by decide⟩ (i := (3 : Int32).toNatClampNeg) rfl (by simp only [List.length_map, List.length_set, hl]; exact own_lt4 ⟨by decide, by decide⟩) (hb hby d5_111) ?_
              intro T58 h58 X58 e58 W58 V58
              have f59 : Arv Z h58 za zk .int (4 : Int32) (List.map Value.int ((zL.set (1 : Int32).toNatClampNeg zr2).set (3 : Int32).toNatClampNeg zr2)) (.int (0 : Int32)) := (by rw [List.map_set]; exact V58)
              have K61 : Keep h0 h58 [za] := K46.wr W58 (Or.inl (List.mem_of_getElem? (i := 0) rfl))
              have N62 := Fr.snoc X58 N47 g_za
              show own_WP _ _ _ _ T58 (mkF m 112 #[.val (.ref za), .val (.int zx), .val (.int zy), .val (.int zr1), .val (.int zr2), .val (.int (own_cnt zL zr1)), .val (.int (own_cnt zL zr2)), .val (.int zr2), .val (.int zr1)] [])
              refine own_retV X58 hx Bd.notSynchronized Bd.returns (hb hby d5_112) (by decide) (by decide) ?_
              rw [e58]
              exact ⟨rfl, N62, K61, ((show ((List.map Value.int ((zL.set (1 : Int32).toNatClampNeg zr2).set (3 : Int32).toNatClampNeg zr2)) : List Value) = (List.map Value.int (own_md zL zx zy)) from by exact congrArg (List.map Value.int) ((own_mdB d_zr1 d_zr2 hc12 hc35).trans (own_f4s (if_neg hc65) (if_pos hc78) (if_neg hc91) (if_pos hc104))).symm) ▸ f59)⟩
            · refine own_go (fun t k => XS.icmpYes X43.here hx rfl (pc0 := 104) (pc' := 112) rfl (hb hby d5_104) rfl (feq hc104).2 (by decide) (by decide) k) ?_
              show own_WP _ _ _ _ T43 (mkF m 112 #[.val (.ref za), .val (.int zx), .val (.int zy), .val (.int zr1), .val (.int zr2), .val (.int (own_cnt zL zr1)), .val (.int (own_cnt zL zr2)), .val (.int zr2), .val (.int zr1)] [])
              refine own_retV X43 hx Bd.notSynchronized Bd.returns (hb hby d5_112) (by decide) (by decide) ?_
              rw [e43]
              exact ⟨rfl, N47, K46, ((show ((List.map Value.int (zL.set (1 : Int32).toNatClampNeg zr2)) : List Value) = (List.map Value.int (own_md zL zx zy)) from by exact congrArg (List.map Value.int) ((own_mdB d_zr1 d_zr2 hc12 hc35).trans (own_f4s (if_neg hc65) (if_pos hc78) (if_neg hc91) (if_neg hc104))).symm) ▸ f44)⟩
        · refine own_go (fun t k => XS.icmpYes X2.here hx rfl (pc0 := 78) (pc' := 86) rfl (hb hby d5_78) rfl (feq hc78).2 (by decide) (by decide) k) ?_
          show own_WP _ _ _ _ T2 (mkF m 86 #[.val (.ref za), .val (.int zx), .val (.int zy), .val (.int zr1), .val (.int zr2), .val (.int (own_cnt zL zr1)), .val (.int (own_cnt zL zr2)), .val (.int zr2), .val (.int zr1)] [])
          refine own_go (fun t k => XS.aloadN X2.here hx rfl (hb hby d5_86) rfl rfl  k) ?_
          show own_WP _ _ _ _ T2 (mkF m 87 #[.val (.ref za), .val (.int zx), .val (.int zy), .val (.int zr1), .val (.int zr2), .val (.int (own_cnt zL zr1)), .val (.int (own_cnt zL zr2)), .val (.int zr2), .val (.int zr1)] [(.ref za)])
          refine own_go (fun t k => XS.iconst X2.here hx rfl (hb hby d5_87) k) ?_
          show own_WP _ _ _ _ T2 (mkF m 88 #[.val (.ref za), .val (.int zx), .val (.int zy), .val (.int zr1), .val (.int zr2), .val (.int (own_cnt zL zr1)), .val (.int (own_cnt zL zr2)), .val (.int zr2), .val (.int zr1)] [(.int (2 : Int32)), (.ref za)])
          refine own_ldI X2 hx hZ eq2 P0 (j := (2 : Int32)) (w := (own_g zL (2 : Int32))) ⟨by decide, by decide⟩ (own_mg _ _) (hb hby d5_88) ?_
          show own_WP _ _ _ _ T2 (mkF m 89 #[.val (.ref za), .val (.int zx), .val (.int zy), .val (.int zr1), .val (.int zr2), .val (.int (own_cnt zL zr1)), .val (.int (own_cnt zL zr2)), .val (.int zr2), .val (.int zr1)] [(.int (own_g zL (2 : Int32)))])
          refine own_go (fun t k => XS.iload X2.here hx rfl (hb hby d5_89) rfl  k) ?_
          show own_WP _ _ _ _ T2 (mkF m 91 #[.val (.ref za), .val (.int zx), .val (.int zy), .val (.int zr1), .val (.int zr2), .val (.int (own_cnt zL zr1)), .val (.int (own_cnt zL zr2)), .val (.int zr2), .val (.int zr1)] [(.int zr1), (.int (own_g zL (2 : Int32)))])
          by_cases hc91 : (own_g zL (2 : Int32)) = zr1
          · refine own_go (fun t k => XS.icmpNo X2.here hx rfl (hb hby d5_91) rfl (teq hc91).2 k) ?_
            show own_WP _ _ _ _ T2 (mkF m 94 #[.val (.ref za), .val (.int zx), .val (.int zy), .val (.int zr1), .val (.int zr2), .val (.int (own_cnt zL zr1)), .val (.int (own_cnt zL zr2)), .val (.int zr2), .val (.int zr1)] [])
            refine own_go (fun t k => XS.aloadN X2.here hx rfl (hb hby d5_94) rfl rfl  k) ?_
            show own_WP _ _ _ _ T2 (mkF m 95 #[.val (.ref za), .val (.int zx), .val (.int zy), .val (.int zr1), .val (.int zr2), .val (.int (own_cnt zL zr1)), .val (.int (own_cnt zL zr2)), .val (.int zr2), .val (.int zr1)] [(.ref za)])
            refine own_go (fun t k => XS.iconst X2.here hx rfl (hb hby d5_95) k) ?_
            show own_WP _ _ _ _ T2 (mkF m 96 #[.val (.ref za), .val (.int zx), .val (.int zy), .val (.int zr1), .val (.int zr2), .val (.int (own_cnt zL zr1)), .val (.int (own_cnt zL zr2)), .val (.int zr2), .val (.int zr1)] [(.int (2 : Int32)), (.ref za)])
            refine own_go (fun t k => XS.iload X2.here hx rfl (hb hby d5_96) rfl  k) ?_
            show own_WP _ _ _ _ T2 (mkF m 98 #[.val (.ref za), .val (.int zx), .val (.int zy), .val (.int zr1), .val (.int zr2), .val (.int (own_cnt zL zr1)), .val (.int (own_cnt zL zr2)), .val (.int zr2), .val (.int zr1)] [(.int zr2), (.int (2 : Int32)), (.ref za)])
            refine own_stI X2 hx hZ eq2 P0 (j := (2 : Int32)) ⟨by decide, by decide⟩ (i := (2 : Int32).toNatClampNeg) rfl (by simp only [List.length_map, List.length_set, hl]; exact own_lt4 ⟨by decide, by decide⟩) (hb hby d5_98) ?_
            intro T63 h63 X63 e63 W63 V63
            have f64 : Arv Z h63 za zk .int (4 : Int32) (List.map Value.int (zL.set (2 : Int32).toNatClampNeg zr2)) (.int (0 : Int32)) := (by rw [List.map_set]; exact V63)
            have K66 : Keep h0 h63 [za] := K0.wr W63 (Or.inl (List.mem_of_getElem? (i := 0) rfl))
            have N67 := Fr.snoc X63 N2 g_za
            show own_WP _ _ _ _ T63 (mkF m 99 #[.val (.ref za), .val (.int zx), .val (.int zy), .val (.int zr1), .val (.int zr2), .val (.int (own_cnt zL zr1)), .val (.int (own_cnt zL zr2)), .val (.int zr2), .val (.int zr1)] [])
            refine own_go (fun t k => XS.aloadN X63.here hx rfl (hb hby d5_99) rfl rfl  k) ?_
            show own_WP _ _ _ _ T63 (mkF m 100 #[.val (.ref za), .val (.int zx), .val (.int zy), .val (.int zr1), .val (.int zr2), .val (.int (own_cnt zL zr1)), .val (.int (own_cnt zL zr2)), .val (.int zr2), .val (.int zr1)] [(.ref za)])
            refine own_go (fun t k => XS.iconst X63.here hx rfl (hb hby d5_100) k) ?_
            show own_WP _ _ _ _ T63 (mkF m 101 #[.val (.ref za), .val (.int zx), .val (.int zy), .val (.int zr1), .val (.int zr2), .val (.int (own_cnt zL zr1)), .val (.int (own_cnt zL zr2)), .val (.int zr2), .val (.int zr1)] [(.int (3 : Int32)), (.ref za)])
            refine own_ldI X63 hx hZ e63 f64 (j := (3 : Int32)) (w := (own_g (zL.set (2 : Int32).toNatClampNeg zr2) (3 : Int32))) ⟨by decide, by decide⟩ (own_mg _ _) (hb hby d5_101) ?_
            show own_WP _ _ _ _ T63 (mkF m 102 #[.val (.ref za), .val (.int zx), .val (.int zy), .val (.int zr1), .val (.int zr2), .val (.int (own_cnt zL zr1)), .val (.int (own_cnt zL zr2)), .val (.int zr2), .val (.int zr1)] [(.int (own_g (zL.set (2 : Int32).toNatClampNeg zr2) (3 : Int32)))])
            refine own_go (fun t k => XS.iload X63.here hx rfl (hb hby d5_102) rfl  k) ?_
            show own_WP _ _ _ _ T63 (mkF m 104 #[.val (.ref za), .val (.int zx), .val (.int zy), .val (.int zr1), .val (.int zr2), .val (.int (own_cnt zL zr1)), .val (.int (own_cnt zL zr2)), .val (.int zr2), .val (.int zr1)] [(.int zr1), (.int (own_g (zL.set (2 : Int32).toNatClampNeg zr2) (3 : Int32)))])
            by_cases hc104 : (own_g (zL.set (2 : Int32).toNatClampNeg zr2) (3 : Int32)) = zr1
            · refine own_go (fun t k => XS.icmpNo X63.here hx rfl (hb hby d5_104) rfl (teq hc104).2 k) ?_
              show own_WP _ _ _ _ T63 (mkF m 107 #[.val (.ref za), .val (.int zx), .val (.int zy), .val (.int zr1), .val (.int zr2), .val (.int (own_cnt zL zr1)), .val (.int (own_cnt zL zr2)), .val (.int zr2), .val (.int zr1)] [])
              refine own_go (fun t k => XS.aloadN X63.here hx rfl (hb hby d5_107) rfl rfl  k) ?_
              show own_WP _ _ _ _ T63 (mkF m 108 #[.val (.ref za), .val (.int zx), .val (.int zy), .val (.int zr1), .val (.int zr2), .val (.int (own_cnt zL zr1)), .val (.int (own_cnt zL zr2)), .val (.int zr2), .val (.int zr1)] [(.ref za)])
              refine own_go (fun t k => XS.iconst X63.here hx rfl (hb hby d5_108) k) ?_
              show own_WP _ _ _ _ T63 (mkF m 109 #[.val (.ref za), .val (.int zx), .val (.int zy), .val (.int zr1), .val (.int zr2), .val (.int (own_cnt zL zr1)), .val (.int (own_cnt zL zr2)), .val (.int zr2), .val (.int zr1)] [(.int (3 : Int32)), (.ref za)])
              refine own_go (fun t k => XS.iload X63.here hx rfl (hb hby d5_109) rfl  k) ?_
              show own_WP _ _ _ _ T63 (mkF m 111 #[.val (.ref za), .val (.int zx), .val (.int zy), .val (.int zr1), .val (.int zr2), .val (.int (own_cnt zL zr1)), .val (.int (own_cnt zL zr2)), .val (.int zr2), .val (.int zr1)] [(.int zr2), (.int (3 : Int32)), (.ref za)])
              refine own_stI X63 hx hZ e63 f64 (j := (3 : Int32)) ⟨by decide, by decide⟩ (i := (3 : Int32).toNatClampNeg) rfl (by simp only [List.length_map, List.length_set, hl]; exact own_lt4 ⟨by decide, by decide⟩) (hb hby d5_111) ?_
              intro T68 h68 X68 e68 W68 V68
              have f69 : Arv Z h68 za zk .int (4 : Int32) (List.map Value.int ((zL.set (2 : Int32).toNatClampNeg zr2).set (3 : Int32).toNatClampNeg zr2)) (.int (0 : Int32)) := (by rw [List.map_set]; exact V68)
              have K71 : Keep h0 h68 [za] := K66.wr W68 (Or.inl (List.mem_of_getElem? (i := 0) rfl))
              have N72 := Fr.snoc X68 N67 g_za
              show own_WP _ _ _ _ T68 (mkF m 112 #[.val (.ref za), .val (.int zx), .val (.int zy), .val (.int zr1), .val (.int zr2), .val (.int (own_cnt zL zr1)), .val (.int (own_cnt zL zr2)), .val (.int zr2), .val (.int zr1)] [])
              refine own_retV X68 hx Bd.notSynchronized Bd.returns (hb hby d5_112) (by decide) (by decide) ?_
              rw [e68]
              exact ⟨rfl, N72, K71, ((show ((List.map Value.int ((zL.set (2 : Int32).toNatClampNeg zr2).set (3 : Int32).toNatClampNeg zr2)) : List Value) = (List.map Value.int (own_md zL zx zy)) from by exact congrArg (List.map Value.int) ((own_mdB d_zr1 d_zr2 hc12 hc35).trans (own_f4s (if_neg hc65) (if_neg hc78) (if_pos hc91) (if_pos hc104))).symm) ▸ f69)⟩
            · refine own_go (fun t k => XS.icmpYes X63.here hx rfl (pc0 := 104) (pc' := 112) rfl (hb hby d5_104) rfl (feq hc104).2 (by decide) (by decide) k) ?_
              show own_WP _ _ _ _ T63 (mkF m 112 #[.val (.ref za), .val (.int zx), .val (.int zy), .val (.int zr1), .val (.int zr2), .val (.int (own_cnt zL zr1)), .val (.int (own_cnt zL zr2)), .val (.int zr2), .val (.int zr1)] [])
              refine own_retV X63 hx Bd.notSynchronized Bd.returns (hb hby d5_112) (by decide) (by decide) ?_
              rw [e63]
              exact ⟨rfl, N67, K66, ((show ((List.map Value.int (zL.set (2 : Int32).toNatClampNeg zr2)) : List Value) = (List.map Value.int (own_md zL zx zy)) from by exact congrArg (List.map Value.int) ((own_mdB d_zr1 d_zr2 hc12 hc35).trans (own_f4s (if_neg hc65) (if_neg hc78) (if_pos hc91) (if_neg hc104))).symm) ▸ f64)⟩
          · refine own_go (fun t k => XS.icmpYes X2.here hx rfl (pc0 := 91) (pc' := 99) rfl (hb hby d5_91) rfl (feq hc91).2 (by decide) (by decide) k) ?_
            show own_WP _ _ _ _ T2 (mkF m 99 #[.val (.ref za), .val (.int zx), .val (.int zy), .val (.int zr1), .val (.int zr2), .val (.int (own_cnt zL zr1)), .val (.int (own_cnt zL zr2)), .val (.int zr2), .val (.int zr1)] [])
            refine own_go (fun t k => XS.aloadN X2.here hx rfl (hb hby d5_99) rfl rfl  k) ?_
            show own_WP _ _ _ _ T2 (mkF m 100 #[.val (.ref za), .val (.int zx), .val (.int zy), .val (.int zr1), .val (.int zr2), .val (.int (own_cnt zL zr1)), .val (.int (own_cnt zL zr2)), .val (.int zr2), .val (.int zr1)] [(.ref za)])
            refine own_go (fun t k => XS.iconst X2.here hx rfl (hb hby d5_100) k) ?_
            show own_WP _ _ _ _ T2 (mkF m 101 #[.val (.ref za), .val (.int zx), .val (.int zy), .val (.int zr1), .val (.int zr2), .val (.int (own_cnt zL zr1)), .val (.int (own_cnt zL zr2)), .val (.int zr2), .val (.int zr1)] [(.int (3 : Int32)), (.ref za)])
            refine own_ldI X2 hx hZ eq2 P0 (j := (3 : Int32)) (w := (own_g zL (3 : Int32))) ⟨by decide, by decide⟩ (own_mg _ _) (hb hby d5_101) ?_
            show own_WP _ _ _ _ T2 (mkF m 102 #[.val (.ref za), .val (.int zx), .val (.int zy), .val (.int zr1), .val (.int zr2), .val (.int (own_cnt zL zr1)), .val (.int (own_cnt zL zr2)), .val (.int zr2), .val (.int zr1)] [(.int (own_g zL (3 : Int32)))])
            refine own_go (fun t k => XS.iload X2.here hx rfl (hb hby d5_102) rfl  k) ?_
            show own_WP _ _ _ _ T2 (mkF m 104 #[.val (.ref za), .val (.int zx), .val (.int zy), .val (.int zr1), .val (.int zr2), .val (.int (own_cnt zL zr1)), .val (.int (own_cnt zL zr2)), .val (.int zr2), .val (.int zr1)] [(.int zr1), (.int (own_g zL (3 : Int32)))])
            by_cases hc104 : (own_g zL (3 : Int32)) = zr1
            · refine own_go (fun t k => XS.icmpNo X2.here hx rfl (hb hby d5_104) rfl (teq hc104).2 k) ?_
              show own_WP _ _ _ _ T2 (mkF m 107 #[.val (.ref za), .val (.int zx), .val (.int zy), .val (.int zr1), .val (.int zr2), .val (.int (own_cnt zL zr1)), .val (.int (own_cnt zL zr2)), .val (.int zr2), .val (.int zr1)] [])
              refine own_go (fun t k => XS.aloadN X2.here hx rfl (hb hby d5_107) rfl rfl  k) ?_
              show own_WP _ _ _ _ T2 (mkF m 108 #[.val (.ref za), .val (.int zx), .val (.int zy), .val (.int zr1), .val (.int zr2), .val (.int (own_cnt zL zr1)), .val (.int (own_cnt zL zr2)), .val (.int zr2), .val (.int zr1)] [(.ref za)])
              refine own_go (fun t k => XS.iconst X2.here hx rfl (hb hby d5_108) k) ?_
              show own_WP _ _ _ _ T2 (mkF m 109 #[.val (.ref za), .val (.int zx), .val (.int zy), .val (.int zr1), .val (.int zr2), .val (.int (own_cnt zL zr1)), .val (.int (own_cnt zL zr2)), .val (.int zr2), .val (.int zr1)] [(.int (3 : Int32)), (.ref za)])
              refine own_go (fun t k => XS.iload X2.here hx rfl (hb hby d5_109) rfl  k) ?_
              show own_WP _ _ _ _ T2 (mkF m 111 #[.val (.ref za), .val (.int zx), .val (.int zy), .val (.int zr1), .val (.int zr2), .val (.int (own_cnt zL zr1)), .val (.int (own_cnt zL zr2)), .val (.int zr2), .val (.int zr1)] [(.int zr2), (.int (3 : Int32)), (.ref za)])
              refine own_stI X2 hx hZ eq2 P0 (j := (3 : Int32)) ⟨by decide, by decide⟩ (i := (3 : Int32).toNatClampNeg) rfl (by simp only [List.length_map, List.length_set, hl]; exact own_lt4 ⟨by decide, by decide⟩) (hb hby d5_111) ?_
              intro T73 h73 X73 e73 W73 V73
              have f74 : Arv Z h73 za zk .int (4 : Int32) (List.map Value.int (zL.set (3 : Int32).toNatClampNeg zr2)) (.int (0 : Int32)) := (by rw [List.map_set]; exact V73)
              have K76 : Keep h0 h73 [za] := K0.wr W73 (Or.inl (List.mem_of_getElem? (i := 0) rfl))
              have N77 := Fr.snoc X73 N2 g_za
              show own_WP _ _ _ _ T73 (mkF m 112 #[.val (.ref za), .val (.int zx), .val (.int zy), .val (.int zr1), .val (.int zr2), .val (.int (own_cnt zL zr1)), .val (.int (own_cnt zL zr2)), .val (.int zr2), .val (.int zr1)] [])
              refine own_retV X73 hx Bd.notSynchronized Bd.returns (hb hby d5_112) (by decide) (by decide) ?_
              rw [e73]
              exact ⟨rfl, N77, K76, ((show ((List.map Value.int (zL.set (3 : Int32).toNatClampNeg zr2)) : List Value) = (List.map Value.int (own_md zL zx zy)) from by exact congrArg (List.map Value.int) ((own_mdB d_zr1 d_zr2 hc12 hc35).trans (own_f4s (if_neg hc65) (if_neg hc78) (if_neg hc91) (if_pos hc104))).symm) ▸ f74)⟩
            · refine own_go (fun t k => XS.icmpYes X2.here hx rfl (pc0 := 104) (pc' := 112) rfl (hb hby d5_104) rfl (feq hc104).2 (by decide) (by decide) k) ?_
              show own_WP _ _ _ _ T2 (mkF m 112 #[.val (.ref za), .val (.int zx), .val (.int zy), .val (.int zr1), .val (.int zr2), .val (.int (own_cnt zL zr1)), .val (.int (own_cnt zL zr2)), .val (.int zr2), .val (.int zr1)] [])
              refine own_retV X2 hx Bd.notSynchronized Bd.returns (hb hby d5_112) (by decide) (by decide) ?_
              rw [eq2]
              exact ⟨rfl, N2, K0, ((show ((List.map Value.int zL) : List Value) = (List.map Value.int (own_md zL zx zy)) from by exact congrArg (List.map Value.int) ((own_mdB d_zr1 d_zr2 hc12 hc35).trans (own_f4s (if_neg hc65) (if_neg hc78) (if_neg hc91) (if_neg hc104))).symm) ▸ P0)⟩
    · refine own_go (fun t k => XS.icmpNo X2.here hx rfl (hb hby d5_35) rfl (flt hc35).1 k) ?_
      show own_WP _ _ _ _ T2 (mkF m 38 #[.val (.ref za), .val (.int zx), .val (.int zy), .val (.int zr1), .val (.int zr2), .val (.int (own_cnt zL zr1)), .val (.int (own_cnt zL zr2)), .unset, .unset] [])
      refine own_go (fun t k => XS.iloadN X2.here hx rfl (hb hby d5_38) rfl  k) ?_
      show own_WP _ _ _ _ T2 (mkF m 39 #[.val (.ref za), .val (.int zx), .val (.int zy), .val (.int zr1), .val (.int zr2), .val (.int (own_cnt zL zr1)), .val (.int (own_cnt zL zr2)), .unset, .unset] [(.int zr1)])
      refine own_go (fun t k => XS.goto X2.here hx rfl (pc0 := 39) (pc' := 44) rfl (hb hby d5_39) (by decide) (by decide) k) ?_
      show own_WP _ _ _ _ T2 (mkF m 44 #[.val (.ref za), .val (.int zx), .val (.int zy), .val (.int zr1), .val (.int zr2), .val (.int (own_cnt zL zr1)), .val (.int (own_cnt zL zr2)), .unset, .unset] [(.int zr1)])
      refine own_go (fun t k => XS.istore X2.here hx rfl (hb hby d5_44) rfl (l' := #[.val (.ref za), .val (.int zx), .val (.int zy), .val (.int zr1), .val (.int zr2), .val (.int (own_cnt zL zr1)), .val (.int (own_cnt zL zr2)), .val (.int zr1), .unset]) rfl k) ?_
      show own_WP _ _ _ _ T2 (mkF m 46 #[.val (.ref za), .val (.int zx), .val (.int zy), .val (.int zr1), .val (.int zr2), .val (.int (own_cnt zL zr1)), .val (.int (own_cnt zL zr2)), .val (.int zr1), .unset] [])
      refine own_go (fun t k => XS.iload X2.here hx rfl (hb hby d5_46) rfl  k) ?_
      show own_WP _ _ _ _ T2 (mkF m 48 #[.val (.ref za), .val (.int zx), .val (.int zy), .val (.int zr1), .val (.int zr2), .val (.int (own_cnt zL zr1)), .val (.int (own_cnt zL zr2)), .val (.int zr1), .unset] [(.int zr1)])
      refine own_go (fun t k => XS.iloadN X2.here hx rfl (hb hby d5_48) rfl  k) ?_
      show own_WP _ _ _ _ T2 (mkF m 49 #[.val (.ref za), .val (.int zx), .val (.int zy), .val (.int zr1), .val (.int zr2), .val (.int (own_cnt zL zr1)), .val (.int (own_cnt zL zr2)), .val (.int zr1), .unset] [(.int zr1), (.int zr1)])
      have hc49 : zr1 = zr1 := rfl
      refine own_go (fun t k => XS.icmpNo X2.here hx rfl (hb hby d5_49) rfl (teq hc49).2 k) ?_
      show own_WP _ _ _ _ T2 (mkF m 52 #[.val (.ref za), .val (.int zx), .val (.int zy), .val (.int zr1), .val (.int zr2), .val (.int (own_cnt zL zr1)), .val (.int (own_cnt zL zr2)), .val (.int zr1), .unset] [])
      refine own_go (fun t k => XS.iload X2.here hx rfl (hb hby d5_52) rfl  k) ?_
      show own_WP _ _ _ _ T2 (mkF m 54 #[.val (.ref za), .val (.int zx), .val (.int zy), .val (.int zr1), .val (.int zr2), .val (.int (own_cnt zL zr1)), .val (.int (own_cnt zL zr2)), .val (.int zr1), .unset] [(.int zr2)])
      refine own_go (fun t k => XS.goto X2.here hx rfl (pc0 := 54) (pc' := 58) rfl (hb hby d5_54) (by decide) (by decide) k) ?_
      show own_WP _ _ _ _ T2 (mkF m 58 #[.val (.ref za), .val (.int zx), .val (.int zy), .val (.int zr1), .val (.int zr2), .val (.int (own_cnt zL zr1)), .val (.int (own_cnt zL zr2)), .val (.int zr1), .unset] [(.int zr2)])
      refine own_go (fun t k => XS.istore X2.here hx rfl (hb hby d5_58) rfl (l' := #[.val (.ref za), .val (.int zx), .val (.int zy), .val (.int zr1), .val (.int zr2), .val (.int (own_cnt zL zr1)), .val (.int (own_cnt zL zr2)), .val (.int zr1), .val (.int zr2)]) rfl k) ?_
      show own_WP _ _ _ _ T2 (mkF m 60 #[.val (.ref za), .val (.int zx), .val (.int zy), .val (.int zr1), .val (.int zr2), .val (.int (own_cnt zL zr1)), .val (.int (own_cnt zL zr2)), .val (.int zr1), .val (.int zr2)] [])
      refine own_go (fun t k => XS.aloadN X2.here hx rfl (hb hby d5_60) rfl rfl  k) ?_
      show own_WP _ _ _ _ T2 (mkF m 61 #[.val (.ref za), .val (.int zx), .val (.int zy), .val (.int zr1), .val (.int zr2), .val (.int (own_cnt zL zr1)), .val (.int (own_cnt zL zr2)), .val (.int zr1), .val (.int zr2)] [(.ref za)])
      refine own_go (fun t k => XS.iconst X2.here hx rfl (hb hby d5_61) k) ?_
      show own_WP _ _ _ _ T2 (mkF m 62 #[.val (.ref za), .val (.int zx), .val (.int zy), .val (.int zr1), .val (.int zr2), .val (.int (own_cnt zL zr1)), .val (.int (own_cnt zL zr2)), .val (.int zr1), .val (.int zr2)] [(.int (0 : Int32)), (.ref za)])
      refine own_ldI X2 hx hZ eq2 P0 (j := (0 : Int32)) (w := (own_g zL (0 : Int32))) ⟨by decide, by decide⟩ (own_mg _ _) (hb hby d5_62) ?_
      show own_WP _ _ _ _ T2 (mkF m 63 #[.val (.ref za), .val (.int zx), .val (.int zy), .val (.int zr1), .val (.int zr2), .val (.int (own_cnt zL zr1)), .val (.int (own_cnt zL zr2)), .val (.int zr1), .val (.int zr2)] [(.int (own_g zL (0 : Int32)))])
      refine own_go (fun t k => XS.iload X2.here hx rfl (hb hby d5_63) rfl  k) ?_
      show own_WP _ _ _ _ T2 (mkF m 65 #[.val (.ref za), .val (.int zx), .val (.int zy), .val (.int zr1), .val (.int zr2), .val (.int (own_cnt zL zr1)), .val (.int (own_cnt zL zr2)), .val (.int zr1), .val (.int zr2)] [(.int zr2), (.int (own_g zL (0 : Int32)))])
      by_cases hc65 : (own_g zL (0 : Int32)) = zr2
      · refine own_go (fun t k => XS.icmpNo X2.here hx rfl (hb hby d5_65) rfl (teq hc65).2 k) ?_
        show own_WP _ _ _ _ T2 (mkF m 68 #[.val (.ref za), .val (.int zx), .val (.int zy), .val (.int zr1), .val (.int zr2), .val (.int (own_cnt zL zr1)), .val (.int (own_cnt zL zr2)), .val (.int zr1), .val (.int zr2)] [])
        refine own_go (fun t k => XS.aloadN X2.here hx rfl (hb hby d5_68) rfl rfl  k) ?_
        show own_WP _ _ _ _ T2 (mkF m 69 #[.val (.ref za), .val (.int zx), .val (.int zy), .val (.int zr1), .val (.int zr2), .val (.int (own_cnt zL zr1)), .val (.int (own_cnt zL zr2)), .val (.int zr1), .val (.int zr2)] [(.ref za)])
        refine own_go (fun t k => XS.iconst X2.here hx rfl (hb hby d5_69) k) ?_
        show own_WP _ _ _ _ T2 (mkF m 70 #[.val (.ref za), .val (.int zx), .val (.int zy), .val (.int zr1), .val (.int zr2), .val (.int (own_cnt zL zr1)), .val (.int (own_cnt zL zr2)), .val (.int zr1), .val (.int zr2)] [(.int (0 : Int32)), (.ref za)])
        refine own_go (fun t k => XS.iload X2.here hx rfl (hb hby d5_70) rfl  k) ?_
        show own_WP _ _ _ _ T2 (mkF m 72 #[.val (.ref za), .val (.int zx), .val (.int zy), .val (.int zr1), .val (.int zr2), .val (.int (own_cnt zL zr1)), .val (.int (own_cnt zL zr2)), .val (.int zr1), .val (.int zr2)] [(.int zr1), (.int (0 : Int32)), (.ref za)])
        refine own_stI X2 hx hZ eq2 P0 (j := (0 : Int32)) ⟨by decide, by decide⟩ (i := (0 : Int32).toNatClampNeg) rfl (by simp only [List.length_map, List.length_set, hl]; exact own_lt4 ⟨by decide, by decide⟩) (hb hby d5_72) ?_
        intro T78 h78 X78 e78 W78 V78
        have f79 : Arv Z h78 za zk .int (4 : Int32) (List.map Value.int (zL.set (0 : Int32).toNatClampNeg zr1)) (.int (0 : Int32)) := (by rw [List.map_set]; exact V78)
        have K81 : Keep h0 h78 [za] := K0.wr W78 (Or.inl (List.mem_of_getElem? (i := 0) rfl))
        have N82 := Fr.snoc X78 N2 g_za
        show own_WP _ _ _ _ T78 (mkF m 73 #[.val (.ref za), .val (.int zx), .val (.int zy), .val (.int zr1), .val (.int zr2), .val (.int (own_cnt zL zr1)), .val (.int (own_cnt zL zr2)), .val (.int zr1), .val (.int zr2)] [])
        refine own_go (fun t k => XS.aloadN X78.here hx rfl (hb hby d5_73) rfl rfl  k) ?_
        show own_WP _ _ _ _ T78 (mkF m 74 #[.val (.ref za), .val (.int zx), .val (.int zy), .val (.int zr1), .val (.int zr2), .val (.int (own_cnt zL zr1)), .val (.int (own_cnt zL zr2)), .val (.int zr1), .val (.int zr2)] [(.ref za)])
        refine own_go (fun t k => XS.iconst X78.here hx rfl (hb hby d5_74) k) ?_
        show own_WP _ _ _ _ T78 (mkF m 75 #[.val (.ref za), .val (.int zx), .val (.int zy), .val (.int zr1), .val (.int zr2), .val (.int (own_cnt zL zr1)), .val (.int (own_cnt zL zr2)), .val (.int zr1), .val (.int zr2)] [(.int (1 : Int32)), (.ref za)])
        refine own_ldI X78 hx hZ e78 f79 (j := (1 : Int32)) (w := (own_g (zL.set (0 : Int32).toNatClampNeg zr1) (1 : Int32))) ⟨by decide, by decide⟩ (own_mg _ _) (hb hby d5_75) ?_
        show own_WP _ _ _ _ T78 (mkF m 76 #[.val (.ref za), .val (.int zx), .val (.int zy), .val (.int zr1), .val (.int zr2), .val (.int (own_cnt zL zr1)), .val (.int (own_cnt zL zr2)), .val (.int zr1), .val (.int zr2)] [(.int (own_g (zL.set (0 : Int32).toNatClampNeg zr1) (1 : Int32)))])
        refine own_go (fun t k => XS.iload X78.here hx rfl (hb hby d5_76) rfl  k) ?_
        show own_WP _ _ _ _ T78 (mkF m 78 #[.val (.ref za), .val (.int zx), .val (.int zy), .val (.int zr1), .val (.int zr2), .val (.int (own_cnt zL zr1)), .val (.int (own_cnt zL zr2)), .val (.int zr1), .val (.int zr2)] [(.int zr2), (.int (own_g (zL.set (0 : Int32).toNatClampNeg zr1) (1 : Int32)))])
        by_cases hc78 : (own_g (zL.set (0 : Int32).toNatClampNeg zr1) (1 : Int32)) = zr2
        · refine own_go (fun t k => XS.icmpNo X78.here hx rfl (hb hby d5_78) rfl (teq hc78).2 k) ?_
          show own_WP _ _ _ _ T78 (mkF m 81 #[.val (.ref za), .val (.int zx), .val (.int zy), .val (.int zr1), .val (.int zr2), .val (.int (own_cnt zL zr1)), .val (.int (own_cnt zL zr2)), .val (.int zr1), .val (.int zr2)] [])
          refine own_go (fun t k => XS.aloadN X78.here hx rfl (hb hby d5_81) rfl rfl  k) ?_
          show own_WP _ _ _ _ T78 (mkF m 82 #[.val (.ref za), .val (.int zx), .val (.int zy), .val (.int zr1), .val (.int zr2), .val (.int (own_cnt zL zr1)), .val (.int (own_cnt zL zr2)), .val (.int zr1), .val (.int zr2)] [(.ref za)])
          refine own_go (fun t k => XS.iconst X78.here hx rfl (hb hby d5_82) k) ?_
          show own_WP _ _ _ _ T78 (mkF m 83 #[.val (.ref za), .val (.int zx), .val (.int zy), .val (.int zr1), .val (.int zr2), .val (.int (own_cnt zL zr1)), .val (.int (own_cnt zL zr2)), .val (.int zr1), .val (.int zr2)] [(.int (1 : Int32)), (.ref za)])
          refine own_go (fun t k => XS.iload X78.here hx rfl (hb hby d5_83) rfl  k) ?_
          show own_WP _ _ _ _ T78 (mkF m 85 #[.val (.ref za), .val (.int zx), .val (.int zy), .val (.int zr1), .val (.int zr2), .val (.int (own_cnt zL zr1)), .val (.int (own_cnt zL zr2)), .val (.int zr1), .val (.int zr2)] [(.int zr1), (.int (1 : Int32)), (.ref za)])
          refine own_stI X78 hx hZ e78 f79 (j := (1 : Int32)) ⟨by decide, by decide⟩ (i := (1 : Int32).toNatClampNeg) rfl (by simp only [List.length_map, List.length_set, hl]; exact own_lt4 ⟨by decide, by decide⟩) (hb hby d5_85) ?_
          intro T83 h83 X83 e83 W83 V83
          have f84 : Arv Z h83 za zk .int (4 : Int32) (List.map Value.int ((zL.set (0 : Int32).toNatClampNeg zr1).set (1 : Int32).toNatClampNeg zr1)) (.int (0 : Int32)) := (by rw [List.map_set]; exact V83)
          have K86 : Keep h0 h83 [za] := K81.wr W83 (Or.inl (List.mem_of_getElem? (i := 0) rfl))
          have N87 := Fr.snoc X83 N82 g_za
          show own_WP _ _ _ _ T83 (mkF m 86 #[.val (.ref za), .val (.int zx), .val (.int zy), .val (.int zr1), .val (.int zr2), .val (.int (own_cnt zL zr1)), .val (.int (own_cnt zL zr2)), .val (.int zr1), .val (.int zr2)] [])
          refine own_go (fun t k => XS.aloadN X83.here hx rfl (hb hby d5_86) rfl rfl  k) ?_
          show own_WP _ _ _ _ T83 (mkF m 87 #[.val (.ref za), .val (.int zx), .val (.int zy), .val (.int zr1), .val (.int zr2), .val (.int (own_cnt zL zr1)), .val (.int (own_cnt zL zr2)), .val (.int zr1), .val (.int zr2)] [(.ref za)])
          refine own_go (fun t k => XS.iconst X83.here hx rfl (hb hby d5_87) k) ?_
          show own_WP _ _ _ _ T83 (mkF m 88 #[.val (.ref za), .val (.int zx), .val (.int zy), .val (.int zr1), .val (.int zr2), .val (.int (own_cnt zL zr1)), .val (.int (own_cnt zL zr2)), .val (.int zr1), .val (.int zr2)] [(.int (2 : Int32)), (.ref za)])
          refine own_ldI X83 hx hZ e83 f84 (j := (2 : Int32)) (w := (own_g ((zL.set (0 : Int32).toNatClampNeg zr1).set (1 : Int32).toNatClampNeg zr1) (2 : Int32))) ⟨by decide, by decide⟩ (own_mg _ _) (hb hby d5_88) ?_
          show own_WP _ _ _ _ T83 (mkF m 89 #[.val (.ref za), .val (.int zx), .val (.int zy), .val (.int zr1), .val (.int zr2), .val (.int (own_cnt zL zr1)), .val (.int (own_cnt zL zr2)), .val (.int zr1), .val (.int zr2)] [(.int (own_g ((zL.set (0 : Int32).toNatClampNeg zr1).set (1 : Int32).toNatClampNeg zr1) (2 : Int32)))])
          refine own_go (fun t k => XS.iload X83.here hx rfl (hb hby d5_89) rfl  k) ?_
          show own_WP _ _ _ _ T83 (mkF m 91 #[.val (.ref za), .val (.int zx), .val (.int zy), .val (.int zr1), .val (.int zr2), .val (.int (own_cnt zL zr1)), .val (.int (own_cnt zL zr2)), .val (.int zr1), .val (.int zr2)] [(.int zr2), (.int (own_g ((zL.set (0 : Int32).toNatClampNeg zr1).set (1 : Int32).toNatClampNeg zr1) (2 : Int32)))])
          by_cases hc91 : (own_g ((zL.set (0 : Int32).toNatClampNeg zr1).set (1 : Int32).toNatClampNeg zr1) (2 : Int32)) = zr2
          · refine own_go (fun t k => XS.icmpNo X83.here hx rfl (hb hby d5_91) rfl (teq hc91).2 k) ?_
            show own_WP _ _ _ _ T83 (mkF m 94 #[.val (.ref za), .val (.int zx), .val (.int zy), .val (.int zr1), .val (.int zr2), .val (.int (own_cnt zL zr1)), .val (.int (own_cnt zL zr2)), .val (.int zr1), .val (.int zr2)] [])
            refine own_go (fun t k => XS.aloadN X83.here hx rfl (hb hby d5_94) rfl rfl  k) ?_
            show own_WP _ _ _ _ T83 (mkF m 95 #[.val (.ref za), .val (.int zx), .val (.int zy), .val (.int zr1), .val (.int zr2), .val (.int (own_cnt zL zr1)), .val (.int (own_cnt zL zr2)), .val (.int zr1), .val (.int zr2)] [(.ref za)])
            refine own_go (fun t k => XS.iconst X83.here hx rfl (hb hby d5_95) k) ?_
            show own_WP _ _ _ _ T83 (mkF m 96 #[.val (.ref za), .val (.int zx), .val (.int zy), .val (.int zr1), .val (.int zr2), .val (.int (own_cnt zL zr1)), .val (.int (own_cnt zL zr2)), .val (.int zr1), .val (.int zr2)] [(.int (2 : Int32)), (.ref za)])
            refine own_go (fun t k => XS.iload X83.here hx rfl (hb hby d5_96) rfl  k) ?_
            show own_WP _ _ _ _ T83 (mkF m 98 #[.val (.ref za), .val (.int zx), .val (.int zy), .val (.int zr1), .val (.int zr2), .val (.int (own_cnt zL zr1)), .val (.int (own_cnt zL zr2)), .val (.int zr1), .val (.int zr2)] [(.int zr1), (.int (2 : Int32)), (.ref za)])
            refine own_stI X83 hx hZ e83 f84 (j := (2 : Int32)) ⟨by decide, by decide⟩ (i := (2 : Int32).toNatClampNeg) rfl (by simp only [List.length_map, List.length_set, hl]; exact own_lt4 ⟨by decide, by decide⟩) (hb hby d5_98) ?_
            intro T88 h88 X88 e88 W88 V88
            have f89 : Arv Z h88 za zk .int (4 : Int32) (List.map Value.int (((zL.set (0 : Int32).toNatClampNeg zr1).set (1 : Int32).toNatClampNeg zr1).set (2 : Int32).toNatClampNeg zr1)) (.int (0 : Int32)) := (by rw [List.map_set]; exact V88)
            have K91 : Keep h0 h88 [za] := K86.wr W88 (Or.inl (List.mem_of_getElem? (i := 0) rfl))
            have N92 := Fr.snoc X88 N87 g_za
            show own_WP _ _ _ _ T88 (mkF m 99 #[.val (.ref za), .val (.int zx), .val (.int zy), .val (.int zr1), .val (.int zr2), .val (.int (own_cnt zL zr1)), .val (.int (own_cnt zL zr2)), .val (.int zr1), .val (.int zr2)] [])
            refine own_go (fun t k => XS.aloadN X88.here hx rfl (hb hby d5_99) rfl rfl  k) ?_
            show own_WP _ _ _ _ T88 (mkF m 100 #[.val (.ref za), .val (.int zx), .val (.int zy), .val (.int zr1), .val (.int zr2), .val (.int (own_cnt zL zr1)), .val (.int (own_cnt zL zr2)), .val (.int zr1), .val (.int zr2)] [(.ref za)])
            refine own_go (fun t k => XS.iconst X88.here hx rfl (hb hby d5_100) k) ?_
            show own_WP _ _ _ _ T88 (mkF m 101 #[.val (.ref za), .val (.int zx), .val (.int zy), .val (.int zr1), .val (.int zr2), .val (.int (own_cnt zL zr1)), .val (.int (own_cnt zL zr2)), .val (.int zr1), .val (.int zr2)] [(.int (3 : Int32)), (.ref za)])
            refine own_ldI X88 hx hZ e88 f89 (j := (3 : Int32)) (w := (own_g (((zL.set (0 : Int32).toNatClampNeg zr1).set (1 : Int32).toNatClampNeg zr1).set (2 : Int32).toNatClampNeg zr1) (3 : Int32))) ⟨by decide, by decide⟩ (own_mg _ _) (hb hby d5_101) ?_
            show own_WP _ _ _ _ T88 (mkF m 102 #[.val (.ref za), .val (.int zx), .val (.int zy), .val (.int zr1), .val (.int zr2), .val (.int (own_cnt zL zr1)), .val (.int (own_cnt zL zr2)), .val (.int zr1), .val (.int zr2)] [(.int (own_g (((zL.set (0 : Int32).toNatClampNeg zr1).set (1 : Int32).toNatClampNeg zr1).set (2 : Int32).toNatClampNeg zr1) (3 : Int32)))])
            refine own_go (fun t k => XS.iload X88.here hx rfl (hb hby d5_102) rfl  k) ?_
            show own_WP _ _ _ _ T88 (mkF m 104 #[.val (.ref za), .val (.int zx), .val (.int zy), .val (.int zr1), .val (.int zr2), .val (.int (own_cnt zL zr1)), .val (.int (own_cnt zL zr2)), .val (.int zr1), .val (.int zr2)] [(.int zr2), (.int (own_g (((zL.set (0 : Int32).toNatClampNeg zr1).set (1 : Int32).toNatClampNeg zr1).set (2 : Int32).toNatClampNeg zr1) (3 : Int32)))])
            by_cases hc104 : (own_g (((zL.set (0 : Int32).toNatClampNeg zr1).set (1 : Int32).toNatClampNeg zr1).set (2 : Int32).toNatClampNeg zr1) (3 : Int32)) = zr2
            · refine own_go (fun t k => XS.icmpNo X88.here hx rfl (hb hby d5_104) rfl (teq hc104).2 k) ?_
              show own_WP _ _ _ _ T88 (mkF m 107 #[.val (.ref za), .val (.int zx), .val (.int zy), .val (.int zr1), .val (.int zr2), .val (.int (own_cnt zL zr1)), .val (.int (own_cnt zL zr2)), .val (.int zr1), .val (.int zr2)] [])
              refine own_go (fun t k => XS.aloadN X88.here hx rfl (hb hby d5_107) rfl rfl  k) ?_
              show own_WP _ _ _ _ T88 (mkF m 108 #[.val (.ref za), .val (.int zx), .val (.int zy), .val (.int zr1), .val (.int zr2), .val (.int (own_cnt zL zr1)), .val (.int (own_cnt zL zr2)), .val (.int zr1), .val (.int zr2)] [(.ref za)])
              refine own_go (fun t k => XS.iconst X88.here hx rfl (hb hby d5_108) k) ?_
              show own_WP _ _ _ _ T88 (mkF m 109 #[.val (.ref za), .val (.int zx), .val (.int zy), .val (.int zr1), .val (.int zr2), .val (.int (own_cnt zL zr1)), .val (.int (own_cnt zL zr2)), .val (.int zr1), .val (.int zr2)] [(.int (3 : Int32)), (.ref za)])
              refine own_go (fun t k => XS.iload X88.here hx rfl (hb hby d5_109) rfl  k) ?_
              show own_WP _ _ _ _ T88 (mkF m 111 #[.val (.ref za), .val (.int zx), .val (.int zy), .val (.int zr1), .val (.int zr2), .val (.int (own_cnt zL zr1)), .val (.int (own_cnt zL zr2)), .val (.int zr1), .val (.int zr2)] [(.int zr1), (.int (3 : Int32)), (.ref za)])
              refine own_stI X88 hx hZ e88 f89 (j := (3 : Int32)) ⟨by decide, by decide⟩ (i := (3 : Int32).toNatClampNeg) rfl (by simp only [List.length_map, List.length_set, hl]; exact own_lt4 ⟨by decide, by decide⟩) (hb hby d5_111) ?_
              intro T93 h93 X93 e93 W93 V93
              have f94 : Arv Z h93 za zk .int (4 : Int32) (List.map Value.int ((((zL.set (0 : Int32).toNatClampNeg zr1).set (1 : Int32).toNatClampNeg zr1).set (2 : Int32).toNatClampNeg zr1).set (3 : Int32).toNatClampNeg zr1)) (.int (0 : Int32)) := (by rw [List.map_set]; exact V93)
              have K96 : Keep h0 h93 [za] := K91.wr W93 (Or.inl (List.mem_of_getElem? (i := 0) rfl))
              have N97 := Fr.snoc X93 N92 g_za
              show own_WP _ _ _ _ T93 (mkF m 112 #[.val (.ref za), .val (.int zx), .val (.int zy), .val (.int zr1), .val (.int zr2), .val (.int (own_cnt zL zr1)), .val (.int (own_cnt zL zr2)), .val (.int zr1), .val (.int zr2)] [])
              refine own_retV X93 hx Bd.notSynchronized Bd.returns (hb hby d5_112) (by decide) (by decide) ?_
              rw [e93]
              exact ⟨rfl, N97, K96, ((show ((List.map Value.int ((((zL.set (0 : Int32).toNatClampNeg zr1).set (1 : Int32).toNatClampNeg zr1).set (2 : Int32).toNatClampNeg zr1).set (3 : Int32).toNatClampNeg zr1)) : List Value) = (List.map Value.int (own_md zL zx zy)) from by exact congrArg (List.map Value.int) ((own_mdA d_zr1 d_zr2 hc12 hc35).trans (own_f4s (if_pos hc65) (if_pos hc78) (if_pos hc91) (if_pos hc104))).symm) ▸ f94)⟩
            · refine own_go (fun t k => XS.icmpYes X88.here hx rfl (pc0 := 104) (pc' := 112) rfl (hb hby d5_104) rfl (feq hc104).2 (by decide) (by decide) k) ?_
              show own_WP _ _ _ _ T88 (mkF m 112 #[.val (.ref za), .val (.int zx), .val (.int zy), .val (.int zr1), .val (.int zr2), .val (.int (own_cnt zL zr1)), .val (.int (own_cnt zL zr2)), .val (.int zr1), .val (.int zr2)] [])
              refine own_retV X88 hx Bd.notSynchronized Bd.returns (hb hby d5_112) (by decide) (by decide) ?_
              rw [e88]
              exact ⟨rfl, N92, K91, ((show ((List.map Value.int (((zL.set (0 : Int32).toNatClampNeg zr1).set (1 : Int32).toNatClampNeg zr1).set (2 : Int32).toNatClampNeg zr1)) : List Value) = (List.map Value.int (own_md zL zx zy)) from by exact congrArg (List.map Value.int) ((own_mdA d_zr1 d_zr2 hc12 hc35).trans (own_f4s (if_pos hc65) (if_pos hc78) (if_pos hc91) (if_neg hc104))).symm) ▸ f89)⟩
          · refine own_go (fun t k => XS.icmpYes X83.here hx rfl (pc0 := 91) (pc' := 99) rfl (hb hby d5_91) rfl (feq hc91).2 (by decide) (by decide) k) ?_
            show own_WP _ _ _ _ T83 (mkF m 99 #[.val (.ref za), .val (.int zx), .val (.int zy), .val (.int zr1), .val (.int zr2), .val (.int (own_cnt zL zr1)), .val (.int (own_cnt zL zr2)), .val (.int zr1), .val (.int zr2)] [])
            refine own_go (fun t k => XS.aloadN X83.here hx rfl (hb hby d5_99) rfl rfl  k) ?_
            show own_WP _ _ _ _ T83 (mkF m 100 #[.val (.ref za), .val (.int zx), .val (.int zy), .val (.int zr1), .val (.int zr2), .val (.int (own_cnt zL zr1)), .val (.int (own_cnt zL zr2)), .val (.int zr1), .val (.int zr2)] [(.ref za)])
            refine own_go (fun t k => XS.iconst X83.here hx rfl (hb hby d5_100) k) ?_
            show own_WP _ _ _ _ T83 (mkF m 101 #[.val (.ref za), .val (.int zx), .val (.int zy), .val (.int zr1), .val (.int zr2), .val (.int (own_cnt zL zr1)), .val (.int (own_cnt zL zr2)), .val (.int zr1), .val (.int zr2)] [(.int (3 : Int32)), (.ref za)])
            refine own_ldI X83 hx hZ e83 f84 (j := (3 : Int32)) (w := (own_g ((zL.set (0 : Int32).toNatClampNeg zr1).set (1 : Int32).toNatClampNeg zr1) (3 : Int32))) ⟨by decide, by decide⟩ (own_mg _ _) (hb hby d5_101) ?_
            show own_WP _ _ _ _ T83 (mkF m 102 #[.val (.ref za), .val (.int zx), .val (.int zy), .val (.int zr1), .val (.int zr2), .val (.int (own_cnt zL zr1)), .val (.int (own_cnt zL zr2)), .val (.int zr1), .val (.int zr2)] [(.int (own_g ((zL.set (0 : Int32).toNatClampNeg zr1).set (1 : Int32).toNatClampNeg zr1) (3 : Int32)))])
            refine own_go (fun t k => XS.iload X83.here hx rfl (hb hby d5_102) rfl  k) ?_
            show own_WP _ _ _ _ T83 (mkF m 104 #[.val (.ref za), .val (.int zx), .val (.int zy), .val (.int zr1), .val (.int zr2), .val (.int (own_cnt zL zr1)), .val (.int (own_cnt zL zr2)), .val (.int zr1), .val (.int zr2)] [(.int zr2), (.int (own_g ((zL.set (0 : Int32).toNatClampNeg zr1).set (1 : Int32).toNatClampNeg zr1) (3 : Int32)))])
            by_cases hc104 : (own_g ((zL.set (0 : Int32).toNatClampNeg zr1).set (1 : Int32).toNatClampNeg zr1) (3 : Int32)) = zr2
            · refine own_go (fun t k => XS.icmpNo X83.here hx rfl (hb hby d5_104) rfl (teq hc104).2 k) ?_
              show own_WP _ _ _ _ T83 (mkF m 107 #[.val (.ref za), .val (.int zx), .val (.int zy), .val (.int zr1), .val (.int zr2), .val (.int (own_cnt zL zr1)), .val (.int (own_cnt zL zr2)), .val (.int zr1), .val (.int zr2)] [])
              refine own_go (fun t k => XS.aloadN X83.here hx rfl (hb hby d5_107) rfl rfl  k) ?_
              show own_WP _ _ _ _ T83 (mkF m 108 #[.val (.ref za), .val (.int zx), .val (.int zy), .val (.int zr1), .val (.int zr2), .val (.int (own_cnt zL zr1)), .val (.int (own_cnt zL zr2)), .val (.int zr1), .val (.int zr2)] [(.ref za)])
              refine own_go (fun t k => XS.iconst X83.here hx rfl (hb hby d5_108) k) ?_
              show own_WP _ _ _ _ T83 (mkF m 109 #[.val (.ref za), .val (.int zx), .val (.int zy), .val (.int zr1), .val (.int zr2), .val (.int (own_cnt zL zr1)), .val (.int (own_cnt zL zr2)), .val (.int zr1), .val (.int zr2)] [(.int (3 : Int32)), (.ref za)])
              refine own_go (fun t k => XS.iload X83.here hx rfl (hb hby d5_109) rfl  k) ?_
              show own_WP _ _ _ _ T83 (mkF m 111 #[.val (.ref za), .val (.int zx), .val (.int zy), .val (.int zr1), .val (.int zr2), .val (.int (own_cnt zL zr1)), .val (.int (own_cnt zL zr2)), .val (.int zr1), .val (.int zr2)] [(.int zr1), (.int (3 : Int32)), (.ref za)])
              refine own_stI X83 hx hZ e83 f84 (j := (3 : Int32)) ⟨by decide, by decide⟩ (i := (3 : Int32).toNatClampNeg) rfl (by simp only [List.length_map, List.length_set, hl]; exact own_lt4 ⟨by decide, by decide⟩) (hb hby d5_111) ?_
              intro T98 h98 X98 e98 W98 V98
              have f99 : Arv Z h98 za zk .int (4 : Int32) (List.map Value.int (((zL.set (0 : Int32).toNatClampNeg zr1).set (1 : Int32).toNatClampNeg zr1).set (3 : Int32).toNatClampNeg zr1)) (.int (0 : Int32)) := (by rw [List.map_set]; exact V98)
              have K101 : Keep h0 h98 [za] := K86.wr W98 (Or.inl (List.mem_of_getElem? (i := 0) rfl))
              have N102 := Fr.snoc X98 N87 g_za
              show own_WP _ _ _ _ T98 (mkF m 112 #[.val (.ref za), .val (.int zx), .val (.int zy), .val (.int zr1), .val (.int zr2), .val (.int (own_cnt zL zr1)), .val (.int (own_cnt zL zr2)), .val (.int zr1), .val (.int zr2)] [])
              refine own_retV X98 hx Bd.notSynchronized Bd.returns (hb hby d5_112) (by decide) (by decide) ?_
              rw [e98]
              exact ⟨rfl, N102, K101, ((show ((List.map Value.int (((zL.set (0 : Int32).toNatClampNeg zr1).set (1 : Int32).toNatClampNeg zr1).set (3 : Int32).toNatClampNeg zr1)) : List Value) = (List.map Value.int (own_md zL zx zy)) from by exact congrArg (List.map Value.int) ((own_mdA d_zr1 d_zr2 hc12 hc35).trans (own_f4s (if_pos hc65) (if_pos hc78) (if_neg hc91) (if_pos hc104))).symm) ▸ f99)⟩
            · refine own_go (fun t k => XS.icmpYes X83.here hx rfl (pc0 := 104) (pc' := 112) rfl (hb hby d5_104) rfl (feq hc104).2 (by decide) (by decide) k) ?_
              show own_WP _ _ _ _ T83 (mkF m 112 #[.val (.ref za), .val (.int zx), .val (.int zy), .val (.int zr1), .val (.int zr2), .val (.int (own_cnt zL zr1)), .val (.int (own_cnt zL zr2)), .val (.int zr1), .val (.int zr2)] [])
              refine own_retV X83 hx Bd.notSynchronized Bd.returns (hb hby d5_112) (by decide) (by decide) ?_
              rw [e83]
              exact ⟨rfl, N87, K86, ((show ((List.map Value.int ((zL.set (0 : Int32).toNatClampNeg zr1).set (1 : Int32).toNatClampNeg zr1)) : List Value) = (List.map Value.int (own_md zL zx zy)) from by exact congrArg (List.map Value.int) ((own_mdA d_zr1 d_zr2 hc12 hc35).trans (own_f4s (if_pos hc65) (if_pos hc78) (if_neg hc91) (if_neg hc104))).symm) ▸ f84)⟩
        · refine own_go (fun t k => XS.icmpYes X78.here hx rfl (pc0 := 78) (pc' := 86) rfl (hb hby d5_78) rfl (feq hc78).2 (by decide) (by decide) k) ?_
          show own_WP _ _ _ _ T78 (mkF m 86 #[.val (.ref za), .val (.int zx), .val (.int zy), .val (.int zr1), .val (.int zr2), .val (.int (own_cnt zL zr1)), .val (.int (own_cnt zL zr2)), .val (.int zr1), .val (.int zr2)] [])
          refine own_go (fun t k => XS.aloadN X78.here hx rfl (hb hby d5_86) rfl rfl  k) ?_
          show own_WP _ _ _ _ T78 (mkF m 87 #[.val (.ref za), .val (.int zx), .val (.int zy), .val (.int zr1), .val (.int zr2), .val (.int (own_cnt zL zr1)), .val (.int (own_cnt zL zr2)), .val (.int zr1), .val (.int zr2)] [(.ref za)])
          refine own_go (fun t k => XS.iconst X78.here hx rfl (hb hby d5_87) k) ?_
          show own_WP _ _ _ _ T78 (mkF m 88 #[.val (.ref za), .val (.int zx), .val (.int zy), .val (.int zr1), .val (.int zr2), .val (.int (own_cnt zL zr1)), .val (.int (own_cnt zL zr2)), .val (.int zr1), .val (.int zr2)] [(.int (2 : Int32)), (.ref za)])
          refine own_ldI X78 hx hZ e78 f79 (j := (2 : Int32)) (w := (own_g (zL.set (0 : Int32).toNatClampNeg zr1) (2 : Int32))) ⟨by decide, by decide⟩ (own_mg _ _) (hb hby d5_88) ?_
          show own_WP _ _ _ _ T78 (mkF m 89 #[.val (.ref za), .val (.int zx), .val (.int zy), .val (.int zr1), .val (.int zr2), .val (.int (own_cnt zL zr1)), .val (.int (own_cnt zL zr2)), .val (.int zr1), .val (.int zr2)] [(.int (own_g (zL.set (0 : Int32).toNatClampNeg zr1) (2 : Int32)))])
          refine own_go (fun t k => XS.iload X78.here hx rfl (hb hby d5_89) rfl  k) ?_
          show own_WP _ _ _ _ T78 (mkF m 91 #[.val (.ref za), .val (.int zx), .val (.int zy), .val (.int zr1), .val (.int zr2), .val (.int (own_cnt zL zr1)), .val (.int (own_cnt zL zr2)), .val (.int zr1), .val (.int zr2)] [(.int zr2), (.int (own_g (zL.set (0 : Int32).toNatClampNeg zr1) (2 : Int32)))])
          by_cases hc91 : (own_g (zL.set (0 : Int32).toNatClampNeg zr1) (2 : Int32)) = zr2
          · refine own_go (fun t k => XS.icmpNo X78.here hx rfl (hb hby d5_91) rfl (teq hc91).2 k) ?_
            show own_WP _ _ _ _ T78 (mkF m 94 #[.val (.ref za), .val (.int zx), .val (.int zy), .val (.int zr1), .val (.int zr2), .val (.int (own_cnt zL zr1)), .val (.int (own_cnt zL zr2)), .val (.int zr1), .val (.int zr2)] [])
            refine own_go (fun t k => XS.aloadN X78.here hx rfl (hb hby d5_94) rfl rfl  k) ?_
            show own_WP _ _ _ _ T78 (mkF m 95 #[.val (.ref za), .val (.int zx), .val (.int zy), .val (.int zr1), .val (.int zr2), .val (.int (own_cnt zL zr1)), .val (.int (own_cnt zL zr2)), .val (.int zr1), .val (.int zr2)] [(.ref za)])
            refine own_go (fun t k => XS.iconst X78.here hx rfl (hb hby d5_95) k) ?_
            show own_WP _ _ _ _ T78 (mkF m 96 #[.val (.ref za), .val (.int zx), .val (.int zy), .val (.int zr1), .val (.int zr2), .val (.int (own_cnt zL zr1)), .val (.int (own_cnt zL zr2)), .val (.int zr1), .val (.int zr2)] [(.int (2 : Int32)), (.ref za)])
            refine own_go (fun t k => XS.iload X78.here hx rfl (hb hby d5_96) rfl  k) ?_
            show own_WP _ _ _ _ T78 (mkF m 98 #[.val (.ref za), .val (.int zx), .val (.int zy), .val (.int zr1), .val (.int zr2), .val (.int (own_cnt zL zr1)), .val (.int (own_cnt zL zr2)), .val (.int zr1), .val (.int zr2)] [(.int zr1), (.int (2 : Int32)), (.ref za)])
            refine own_stI X78 hx hZ e78 f79 (j := (2 : Int32)) ⟨by decide, by decide⟩ (i := (2 : Int32).toNatClampNeg) rfl (by simp only [List.length_map, List.length_set, hl]; exact own_lt4 ⟨by decide, by decide⟩) (hb hby d5_98) ?_
            intro T103 h103 X103 e103 W103 V103
            have f104 : Arv Z h103 za zk .int (4 : Int32) (List.map Value.int ((zL.set (0 : Int32).toNatClampNeg zr1).set (2 : Int32).toNatClampNeg zr1)) (.int (0 : Int32)) := (by rw [List.map_set]; exact V103)
            have K106 : Keep h0 h103 [za] := K81.wr W103 (Or.inl (List.mem_of_getElem? (i := 0) rfl))
            have N107 := Fr.snoc X103 N82 g_za
            show own_WP _ _ _ _ T103 (mkF m 99 #[.val (.ref za), .val (.int zx), .val (.int zy), .val (.int zr1), .val (.int zr2), .val (.int (own_cnt zL zr1)), .val (.int (own_cnt zL zr2)), .val (.int zr1), .val (.int zr2)] [])
            refine own_go (fun t k => XS.aloadN X103.here hx rfl (hb hby d5_99) rfl rfl  k) ?_
            show own_WP _ _ _ _ T103 (mkF m 100 #[.val (.ref za), .val (.int zx), .val (.int zy), .val (.int zr1), .val (.int zr2), .val (.int (own_cnt zL zr1)), .val (.int (own_cnt zL zr2)), .val (.int zr1), .val (.int zr2)] [(.ref za)])
            refine own_go (fun t k => XS.iconst X103.here hx rfl (hb hby d5_100) k) ?_
            show own_WP _ _ _ _ T103 (mkF m 101 #[.val (.ref za), .val (.int zx), .val (.int zy), .val (.int zr1), .val (.int zr2), .val (.int (own_cnt zL zr1)), .val (.int (own_cnt zL zr2)), .val (.int zr1), .val (.int zr2)] [(.int (3 : Int32)), (.ref za)])
            refine own_ldI X103 hx hZ e103 f104 (j := (3 : Int32)) (w := (own_g ((zL.set (0 : Int32).toNatClampNeg zr1).set (2 : Int32).toNatClampNeg zr1) (3 : Int32))) ⟨by decide, by decide⟩ (own_mg _ _) (hb hby d5_101) ?_
            show own_WP _ _ _ _ T103 (mkF m 102 #[.val (.ref za), .val (.int zx), .val (.int zy), .val (.int zr1), .val (.int zr2), .val (.int (own_cnt zL zr1)), .val (.int (own_cnt zL zr2)), .val (.int zr1), .val (.int zr2)] [(.int (own_g ((zL.set (0 : Int32).toNatClampNeg zr1).set (2 : Int32).toNatClampNeg zr1) (3 : Int32)))])
            refine own_go (fun t k => XS.iload X103.here hx rfl (hb hby d5_102) rfl  k) ?_
            show own_WP _ _ _ _ T103 (mkF m 104 #[.val (.ref za), .val (.int zx), .val (.int zy), .val (.int zr1), .val (.int zr2), .val (.int (own_cnt zL zr1)), .val (.int (own_cnt zL zr2)), .val (.int zr1), .val (.int zr2)] [(.int zr2), (.int (own_g ((zL.set (0 : Int32).toNatClampNeg zr1).set (2 : Int32).toNatClampNeg zr1) (3 : Int32)))])
            by_cases hc104 : (own_g ((zL.set (0 : Int32).toNatClampNeg zr1).set (2 : Int32).toNatClampNeg zr1) (3 : Int32)) = zr2
            · refine own_go (fun t k => XS.icmpNo X103.here hx rfl (hb hby d5_104) rfl (teq hc104).2 k) ?_
              show own_WP _ _ _ _ T103 (mkF m 107 #[.val (.ref za), .val (.int zx), .val (.int zy), .val (.int zr1), .val (.int zr2), .val (.int (own_cnt zL zr1)), .val (.int (own_cnt zL zr2)), .val (.int zr1), .val (.int zr2)] [])
              refine own_go (fun t k => XS.aloadN X103.here hx rfl (hb hby d5_107) rfl rfl  k) ?_
              show own_WP _ _ _ _ T103 (mkF m 108 #[.val (.ref za), .val (.int zx), .val (.int zy), .val (.int zr1), .val (.int zr2), .val (.int (own_cnt zL zr1)), .val (.int (own_cnt zL zr2)), .val (.int zr1), .val (.int zr2)] [(.ref za)])
              refine own_go (fun t k => XS.iconst X103.here hx rfl (hb hby d5_108) k) ?_
              show own_WP _ _ _ _ T103 (mkF m 109 #[.val (.ref za), .val (.int zx), .val (.int zy), .val (.int zr1), .val (.int zr2), .val (.int (own_cnt zL zr1)), .val (.int (own_cnt zL zr2)), .val (.int zr1), .val (.int zr2)] [(.int (3 : Int32)), (.ref za)])
              refine own_go (fun t k => XS.iload X103.here hx rfl (hb hby d5_109) rfl  k) ?_
              show own_WP _ _ _ _ T103 (mkF m 111 #[.val (.ref za), .val (.int zx), .val (.int zy), .val (.int zr1), .val (.int zr2), .val (.int (own_cnt zL zr1)), .val (.int (own_cnt zL zr2)), .val (.int zr1), .val (.int zr2)] [(.int zr1), (.int (3 : Int32)), (.ref za)])
              refine own_stI X103 hx hZ e103 f104 (j := (3 : Int32)) ⟨by decide, by decide⟩ (i := (3 : Int32).toNatClampNeg) rfl (by simp only [List.length_map, List.length_set, hl]; exact own_lt4 ⟨by decide, by decide⟩) (hb hby d5_111) ?_
              intro T108 h108 X108 e108 W108 V108
              have f109 : Arv Z h108 za zk .int (4 : Int32) (List.map Value.int (((zL.set (0 : Int32).toNatClampNeg zr1).set (2 : Int32).toNatClampNeg zr1).set (3 : Int32).toNatClampNeg zr1)) (.int (0 : Int32)) := (by rw [List.map_set]; exact V108)
              have K111 : Keep h0 h108 [za] := K106.wr W108 (Or.inl (List.mem_of_getElem? (i := 0) rfl))
              have N112 := Fr.snoc X108 N107 g_za
              show own_WP _ _ _ _ T108 (mkF m 112 #[.val (.ref za), .val (.int zx), .val (.int zy), .val (.int zr1), .val (.int zr2), .val (.int (own_cnt zL zr1)), .val (.int (own_cnt zL zr2)), .val (.int zr1), .val (.int zr2)] [])
              refine own_retV X108 hx Bd.notSynchronized Bd.returns (hb hby d5_112) (by decide) (by decide) ?_
              rw [e108]
              exact ⟨rfl, N112, K111, ((show ((List.map Value.int (((zL.set (0 : Int32).toNatClampNeg zr1).set (2 : Int32).toNatClampNeg zr1).set (3 : Int32).toNatClampNeg zr1)) : List Value) = (List.map Value.int (own_md zL zx zy)) from by exact congrArg (List.map Value.int) ((own_mdA d_zr1 d_zr2 hc12 hc35).trans (own_f4s (if_pos hc65) (if_neg hc78) (if_pos hc91) (if_pos hc104))).symm) ▸ f109)⟩
            · refine own_go (fun t k => XS.icmpYes X103.here hx rfl (pc0 := 104) (pc' := 112) rfl (hb hby d5_104) rfl (feq hc104).2 (by decide) (by decide) k) ?_
              show own_WP _ _ _ _ T103 (mkF m 112 #[.val (.ref za), .val (.int zx), .val (.int zy), .val (.int zr1), .val (.int zr2), .val (.int (own_cnt zL zr1)), .val (.int (own_cnt zL zr2)), .val (.int zr1), .val (.int zr2)] [])
              refine own_retV X103 hx Bd.notSynchronized Bd.returns (hb hby d5_112) (by decide) (by decide) ?_
              rw [e103]
              exact ⟨rfl, N107, K106, ((show ((List.map Value.int ((zL.set (0 : Int32).toNatClampNeg zr1).set (2 : Int32).toNatClampNeg zr1)) : List Value) = (List.map Value.int (own_md zL zx zy)) from by exact congrArg (List.map Value.int) ((own_mdA d_zr1 d_zr2 hc12 hc35).trans (own_f4s (if_pos hc65) (if_neg hc78) (if_pos hc91) (if_neg hc104))).symm) ▸ f104)⟩
          · refine own_go (fun t k => XS.icmpYes X78.here hx rfl (pc0 := 91) (pc' := 99) rfl (hb hby d5_91) rfl (feq hc91).2 (by decide) (by decide) k) ?_
            show own_WP _ _ _ _ T78 (mkF m 99 #[.val (.ref za), .val (.int zx), .val (.int zy), .val (.int zr1), .val (.int zr2), .val (.int (own_cnt zL zr1)), .val (.int (own_cnt zL zr2)), .val (.int zr1), .val (.int zr2)] [])
            refine own_go (fun t k => XS.aloadN X78.here hx rfl (hb hby d5_99) rfl rfl  k) ?_
            show own_WP _ _ _ _ T78 (mkF m 100 #[.val (.ref za), .val (.int zx), .val (.int zy), .val (.int zr1), .val (.int zr2), .val (.int (own_cnt zL zr1)), .val (.int (own_cnt zL zr2)), .val (.int zr1), .val (.int zr2)] [(.ref za)])
            refine own_go (fun t k => XS.iconst X78.here hx rfl (hb hby d5_100) k) ?_
            show own_WP _ _ _ _ T78 (mkF m 101 #[.val (.ref za), .val (.int zx), .val (.int zy), .val (.int zr1), .val (.int zr2), .val (.int (own_cnt zL zr1)), .val (.int (own_cnt zL zr2)), .val (.int zr1), .val (.int zr2)] [(.int (3 : Int32)), (.ref za)])
            refine own_ldI X78 hx hZ e78 f79 (j := (3 : Int32)) (w := (own_g (zL.set (0 : Int32).toNatClampNeg zr1) (3 : Int32))) ⟨by decide, by decide⟩ (own_mg _ _) (hb hby d5_101) ?_
            show own_WP _ _ _ _ T78 (mkF m 102 #[.val (.ref za), .val (.int zx), .val (.int zy), .val (.int zr1), .val (.int zr2), .val (.int (own_cnt zL zr1)), .val (.int (own_cnt zL zr2)), .val (.int zr1), .val (.int zr2)] [(.int (own_g (zL.set (0 : Int32).toNatClampNeg zr1) (3 : Int32)))])
            refine own_go (fun t k => XS.iload X78.here hx rfl (hb hby d5_102) rfl  k) ?_
            show own_WP _ _ _ _ T78 (mkF m 104 #[.val (.ref za), .val (.int zx), .val (.int zy), .val (.int zr1), .val (.int zr2), .val (.int (own_cnt zL zr1)), .val (.int (own_cnt zL zr2)), .val (.int zr1), .val (.int zr2)] [(.int zr2), (.int (own_g (zL.set (0 : Int32).toNatClampNeg zr1) (3 : Int32)))])
            by_cases hc104 : (own_g (zL.set (0 : Int32).toNatClampNeg zr1) (3 : Int32)) = zr2
            · refine own_go (fun t k => XS.icmpNo X78.here hx rfl (hb hby d5_104) rfl (teq hc104).2 k) ?_
              show own_WP _ _ _ _ T78 (mkF m 107 #[.val (.ref za), .val (.int zx), .val (.int zy), .val (.int zr1), .val (.int zr2), .val (.int (own_cnt zL zr1)), .val (.int (own_cnt zL zr2)), .val (.int zr1), .val (.int zr2)] [])
              refine own_go (fun t k => XS.aloadN X78.here hx rfl (hb hby d5_107) rfl rfl  k) ?_
              show own_WP _ _ _ _ T78 (mkF m 108 #[.val (.ref za), .val (.int zx), .val (.int zy), .val (.int zr1), .val (.int zr2), .val (.int (own_cnt zL zr1)), .val (.int (own_cnt zL zr2)), .val (.int zr1), .val (.int zr2)] [(.ref za)])
              refine own_go (fun t k => XS.iconst X78.here hx rfl (hb hby d5_108) k) ?_
              show own_WP _ _ _ _ T78 (mkF m 109 #[.val (.ref za), .val (.int zx), .val (.int zy), .val (.int zr1), .val (.int zr2), .val (.int (own_cnt zL zr1)), .val (.int (own_cnt zL zr2)), .val (.int zr1), .val (.int zr2)] [(.int (3 : Int32)), (.ref za)])
              refine own_go (fun t k => XS.iload X78.here hx rfl (hb hby d5_109) rfl  k) ?_
              show own_WP _ _ _ _ T78 (mkF m 111 #[.val (.ref za), .val (.int zx), .val (.int zy), .val (.int zr1), .val (.int zr2), .val (.int (own_cnt zL zr1)), .val (.int (own_cnt zL zr2)), .val (.int zr1), .val (.int zr2)] [(.int zr1), (.int (3 : Int32)), (.ref za)])
              refine own_stI X78 hx hZ e78 f79 (j := (3 : Int32)) ⟨by decide, by decide⟩ (i := (3 : Int32).toNatClampNeg) rfl (by simp only [List.length_map, List.length_set, hl]; exact own_lt4 ⟨by decide, by decide⟩) (hb hby d5_111) ?_
              intro T113 h113 X113 e113 W113 V113
              have f114 : Arv Z h113 za zk .int (4 : Int32) (List.map Value.int ((zL.set (0 : Int32).toNatClampNeg zr1).set (3 : Int32).toNatClampNeg zr1)) (.int (0 : Int32)) := (by rw [List.map_set]; exact V113)
              have K116 : Keep h0 h113 [za] := K81.wr W113 (Or.inl (List.mem_of_getElem? (i := 0) rfl))
              have N117 := Fr.snoc X113 N82 g_za
              show own_WP _ _ _ _ T113 (mkF m 112 #[.val (.ref za), .val (.int zx), .val (.int zy), .val (.int zr1), .val (.int zr2), .val (.int (own_cnt zL zr1)), .val (.int (own_cnt zL zr2)), .val (.int zr1), .val (.int zr2)] [])
              refine own_retV X113 hx Bd.notSynchronized Bd.returns (hb hby d5_112) (by decide) (by decide) ?_
              rw [e113]
              exact ⟨rfl, N117, K116, ((show ((List.map Value.int ((zL.set (0 : Int32).toNatClampNeg zr1).set (3 : Int32).toNatClampNeg zr1)) : List Value) = (List.map Value.int (own_md zL zx zy)) from by exact congrArg (List.map Value.int) ((own_mdA d_zr1 d_zr2 hc12 hc35).trans (own_f4s (if_pos hc65) (if_neg hc78) (if_neg hc91) (if_pos hc104))).symm) ▸ f114)⟩
            · refine own_go (fun t k => XS.icmpYes X78.here hx rfl (pc0 := 104) (pc' := 112) rfl (hb hby d5_104) rfl (feq hc104).2 (by decide) (by decide) k) ?_
              show own_WP _ _ _ _ T78 (mkF m 112 #[.val (.ref za), .val (.int zx), .val (.int zy), .val (.int zr1), .val (.int zr2), .val (.int (own_cnt zL zr1)), .val (.int (own_cnt zL zr2)), .val (.int zr1), .val (.int zr2)] [])
              refine own_retV X78 hx Bd.notSynchronized Bd.returns (hb hby d5_112) (by decide) (by decide) ?_
              rw [e78]
              exact ⟨rfl, N82, K81, ((show ((List.map Value.int (zL.set (0 : Int32).toNatClampNeg zr1)) : List Value) = (List.map Value.int (own_md zL zx zy)) from by exact congrArg (List.map Value.int) ((own_mdA d_zr1 d_zr2 hc12 hc35).trans (own_f4s (if_pos hc65) (if_neg hc78) (if_neg hc91) (if_neg hc104))).symm) ▸ f79)⟩
      · refine own_go (fun t k => XS.icmpYes X2.here hx rfl (pc0 := 65) (pc' := 73) rfl (hb hby d5_65) rfl (feq hc65).2 (by decide) (by decide) k) ?_
        show own_WP _ _ _ _ T2 (mkF m 73 #[.val (.ref za), .val (.int zx), .val (.int zy), .val (.int zr1), .val (.int zr2), .val (.int (own_cnt zL zr1)), .val (.int (own_cnt zL zr2)), .val (.int zr1), .val (.int zr2)] [])
        refine own_go (fun t k => XS.aloadN X2.here hx rfl (hb hby d5_73) rfl rfl  k) ?_
        show own_WP _ _ _ _ T2 (mkF m 74 #[.val (.ref za), .val (.int zx), .val (.int zy), .val (.int zr1), .val (.int zr2), .val (.int (own_cnt zL zr1)), .val (.int (own_cnt zL zr2)), .val (.int zr1), .val (.int zr2)] [(.ref za)])
        refine own_go (fun t k => XS.iconst X2.here hx rfl (hb hby d5_74) k) ?_
        show own_WP _ _ _ _ T2 (mkF m 75 #[.val (.ref za), .val (.int zx), .val (.int zy), .val (.int zr1), .val (.int zr2), .val (.int (own_cnt zL zr1)), .val (.int (own_cnt zL zr2)), .val (.int zr1), .val (.int zr2)] [(.int (1 : Int32)), (.ref za)])
        refine own_ldI X2 hx hZ eq2 P0 (j := (1 : Int32)) (w := (own_g zL (1 : Int32))) ⟨by decide, by decide⟩ (own_mg _ _) (hb hby d5_75) ?_
        show own_WP _ _ _ _ T2 (mkF m 76 #[.val (.ref za), .val (.int zx), .val (.int zy), .val (.int zr1), .val (.int zr2), .val (.int (own_cnt zL zr1)), .val (.int (own_cnt zL zr2)), .val (.int zr1), .val (.int zr2)] [(.int (own_g zL (1 : Int32)))])
        refine own_go (fun t k => XS.iload X2.here hx rfl (hb hby d5_76) rfl  k) ?_
        show own_WP _ _ _ _ T2 (mkF m 78 #[.val (.ref za), .val (.int zx), .val (.int zy), .val (.int zr1), .val (.int zr2), .val (.int (own_cnt zL zr1)), .val (.int (own_cnt zL zr2)), .val (.int zr1), .val (.int zr2)] [(.int zr2), (.int (own_g zL (1 : Int32)))])
        by_cases hc78 : (own_g zL (1 : Int32)) = zr2
        · refine own_go (fun t k => XS.icmpNo X2.here hx rfl (hb hby d5_78) rfl (teq hc78).2 k) ?_
          show own_WP _ _ _ _ T2 (mkF m 81 #[.val (.ref za), .val (.int zx), .val (.int zy), .val (.int zr1), .val (.int zr2), .val (.int (own_cnt zL zr1)), .val (.int (own_cnt zL zr2)), .val (.int zr1), .val (.int zr2)] [])
          refine own_go (fun t k => XS.aloadN X2.here hx rfl (hb hby d5_81) rfl rfl  k) ?_
          show own_WP _ _ _ _ T2 (mkF m 82 #[.val (.ref za), .val (.int zx), .val (.int zy), .val (.int zr1), .val (.int zr2), .val (.int (own_cnt zL zr1)), .val (.int (own_cnt zL zr2)), .val (.int zr1), .val (.int zr2)] [(.ref za)])
          refine own_go (fun t k => XS.iconst X2.here hx rfl (hb hby d5_82) k) ?_
          show own_WP _ _ _ _ T2 (mkF m 83 #[.val (.ref za), .val (.int zx), .val (.int zy), .val (.int zr1), .val (.int zr2), .val (.int (own_cnt zL zr1)), .val (.int (own_cnt zL zr2)), .val (.int zr1), .val (.int zr2)] [(.int (1 : Int32)), (.ref za)])
          refine own_go (fun t k => XS.iload X2.here hx rfl (hb hby d5_83) rfl  k) ?_
          show own_WP _ _ _ _ T2 (mkF m 85 #[.val (.ref za), .val (.int zx), .val (.int zy), .val (.int zr1), .val (.int zr2), .val (.int (own_cnt zL zr1)), .val (.int (own_cnt zL zr2)), .val (.int zr1), .val (.int zr2)] [(.int zr1), (.int (1 : Int32)), (.ref za)])
          refine own_stI X2 hx hZ eq2 P0 (j := (1 : Int32)) ⟨by decide, by decide⟩ (i := (1 : Int32).toNatClampNeg) rfl (by simp only [List.length_map, List.length_set, hl]; exact own_lt4 ⟨by decide, by decide⟩) (hb hby d5_85) ?_
          intro T118 h118 X118 e118 W118 V118
          have f119 : Arv Z h118 za zk .int (4 : Int32) (List.map Value.int (zL.set (1 : Int32).toNatClampNeg zr1)) (.int (0 : Int32)) := (by rw [List.map_set]; exact V118)
          have K121 : Keep h0 h118 [za] := K0.wr W118 (Or.inl (List.mem_of_getElem? (i := 0) rfl))
          have N122 := Fr.snoc X118 N2 g_za
          show own_WP _ _ _ _ T118 (mkF m 86 #[.val (.ref za), .val (.int zx), .val (.int zy), .val (.int zr1), .val (.int zr2), .val (.int (own_cnt zL zr1)), .val (.int (own_cnt zL zr2)), .val (.int zr1), .val (.int zr2)] [])
          refine own_go (fun t k => XS.aloadN X118.here hx rfl (hb hby d5_86) rfl rfl  k) ?_
          show own_WP _ _ _ _ T118 (mkF m 87 #[.val (.ref za), .val (.int zx), .val (.int zy), .val (.int zr1), .val (.int zr2), .val (.int (own_cnt zL zr1)), .val (.int (own_cnt zL zr2)), .val (.int zr1), .val (.int zr2)] [(.ref za)])
          refine own_go (fun t k => XS.iconst X118.here hx rfl (hb hby d5_87) k) ?_
          show own_WP _ _ _ _ T118 (mkF m 88 #[.val (.ref za), .val (.int zx), .val (.int zy), .val (.int zr1), .val (.int zr2), .val (.int (own_cnt zL zr1)), .val (.int (own_cnt zL zr2)), .val (.int zr1), .val (.int zr2)] [(.int (2 : Int32)), (.ref za)])
          refine own_ldI X118 hx hZ e118 f119 (j := (2 : Int32)) (w := (own_g (zL.set (1 : Int32).toNatClampNeg zr1) (2 : Int32))) ⟨by decide, by decide⟩ (own_mg _ _) (hb hby d5_88) ?_
          show own_WP _ _ _ _ T118 (mkF m 89 #[.val (.ref za), .val (.int zx), .val (.int zy), .val (.int zr1), .val (.int zr2), .val (.int (own_cnt zL zr1)), .val (.int (own_cnt zL zr2)), .val (.int zr1), .val (.int zr2)] [(.int (own_g (zL.set (1 : Int32).toNatClampNeg zr1) (2 : Int32)))])
          refine own_go (fun t k => XS.iload X118.here hx rfl (hb hby d5_89) rfl  k) ?_
          show own_WP _ _ _ _ T118 (mkF m 91 #[.val (.ref za), .val (.int zx), .val (.int zy), .val (.int zr1), .val (.int zr2), .val (.int (own_cnt zL zr1)), .val (.int (own_cnt zL zr2)), .val (.int zr1), .val (.int zr2)] [(.int zr2), (.int (own_g (zL.set (1 : Int32).toNatClampNeg zr1) (2 : Int32)))])
          by_cases hc91 : (own_g (zL.set (1 : Int32).toNatClampNeg zr1) (2 : Int32)) = zr2
          · refine own_go (fun t k => XS.icmpNo X118.here hx rfl (hb hby d5_91) rfl (teq hc91).2 k) ?_
            show own_WP _ _ _ _ T118 (mkF m 94 #[.val (.ref za), .val (.int zx), .val (.int zy), .val (.int zr1), .val (.int zr2), .val (.int (own_cnt zL zr1)), .val (.int (own_cnt zL zr2)), .val (.int zr1), .val (.int zr2)] [])
            refine own_go (fun t k => XS.aloadN X118.here hx rfl (hb hby d5_94) rfl rfl  k) ?_
            show own_WP _ _ _ _ T118 (mkF m 95 #[.val (.ref za), .val (.int zx), .val (.int zy), .val (.int zr1), .val (.int zr2), .val (.int (own_cnt zL zr1)), .val (.int (own_cnt zL zr2)), .val (.int zr1), .val (.int zr2)] [(.ref za)])
            refine own_go (fun t k => XS.iconst X118.here hx rfl (hb hby d5_95) k) ?_
            show own_WP _ _ _ _ T118 (mkF m 96 #[.val (.ref za), .val (.int zx), .val (.int zy), .val (.int zr1), .val (.int zr2), .val (.int (own_cnt zL zr1)), .val (.int (own_cnt zL zr2)), .val (.int zr1), .val (.int zr2)] [(.int (2 : Int32)), (.ref za)])
            refine own_go (fun t k => XS.iload X118.here hx rfl (hb hby d5_96) rfl  k) ?_
            show own_WP _ _ _ _ T118 (mkF m 98 #[.val (.ref za), .val (.int zx), .val (.int zy), .val (.int zr1), .val (.int zr2), .val (.int (own_cnt zL zr1)), .val (.int (own_cnt zL zr2)), .val (.int zr1), .val (.int zr2)] [(.int zr1), (.int (2 : Int32)), (.ref za)])
            refine own_stI X118 hx hZ e118 f119 (j := (2 : Int32)) ⟨by decide, by decide⟩ (i := (2 : Int32).toNatClampNeg) rfl (by simp only [List.length_map, List.length_set, hl]; exact own_lt4 ⟨by decide, by decide⟩) (hb hby d5_98) ?_
            intro T123 h123 X123 e123 W123 V123
            have f124 : Arv Z h123 za zk .int (4 : Int32) (List.map Value.int ((zL.set (1 : Int32).toNatClampNeg zr1).set (2 : Int32).toNatClampNeg zr1)) (.int (0 : Int32)) := (by rw [List.map_set]; exact V123)
            have K126 : Keep h0 h123 [za] := K121.wr W123 (Or.inl (List.mem_of_getElem? (i := 0) rfl))
            have N127 := Fr.snoc X123 N122 g_za
            show own_WP _ _ _ _ T123 (mkF m 99 #[.val (.ref za), .val (.int zx), .val (.int zy), .val (.int zr1), .val (.int zr2), .val (.int (own_cnt zL zr1)), .val (.int (own_cnt zL zr2)), .val (.int zr1), .val (.int zr2)] [])
            refine own_go (fun t k => XS.aloadN X123.here hx rfl (hb hby d5_99) rfl rfl  k) ?_
            show own_WP _ _ _ _ T123 (mkF m 100 #[.val (.ref za), .val (.int zx), .val (.int zy), .val (.int zr1), .val (.int zr2), .val (.int (own_cnt zL zr1)), .val (.int (own_cnt zL zr2)), .val (.int zr1), .val (.int zr2)] [(.ref za)])
            refine own_go (fun t k => XS.iconst X123.here hx rfl (hb hby d5_100) k) ?_
            show own_WP _ _ _ _ T123 (mkF m 101 #[.val (.ref za), .val (.int zx), .val (.int zy), .val (.int zr1), .val (.int zr2), .val (.int (own_cnt zL zr1)), .val (.int (own_cnt zL zr2)), .val (.int zr1), .val (.int zr2)] [(.int (3 : Int32)), (.ref za)])
            refine own_ldI X123 hx hZ e123 f124 (j := (3 : Int32)) (w := (own_g ((zL.set (1 : Int32).toNatClampNeg zr1).set (2 : Int32).toNatClampNeg zr1) (3 : Int32))) ⟨by decide, by decide⟩ (own_mg _ _) (hb hby d5_101) ?_
            show own_WP _ _ _ _ T123 (mkF m 102 #[.val (.ref za), .val (.int zx), .val (.int zy), .val (.int zr1), .val (.int zr2), .val (.int (own_cnt zL zr1)), .val (.int (own_cnt zL zr2)), .val (.int zr1), .val (.int zr2)] [(.int (own_g ((zL.set (1 : Int32).toNatClampNeg zr1).set (2 : Int32).toNatClampNeg zr1) (3 : Int32)))])
            refine own_go (fun t k => XS.iload X123.here hx rfl (hb hby d5_102) rfl  k) ?_
            show own_WP _ _ _ _ T123 (mkF m 104 #[.val (.ref za), .val (.int zx), .val (.int zy), .val (.int zr1), .val (.int zr2), .val (.int (own_cnt zL zr1)), .val (.int (own_cnt zL zr2)), .val (.int zr1), .val (.int zr2)] [(.int zr2), (.int (own_g ((zL.set (1 : Int32).toNatClampNeg zr1).set (2 : Int32).toNatClampNeg zr1) (3 : Int32)))])
            by_cases hc104 : (own_g ((zL.set (1 : Int32).toNatClampNeg zr1).set (2 : Int32).toNatClampNeg zr1) (3 : Int32)) = zr2
            · refine own_go (fun t k => XS.icmpNo X123.here hx rfl (hb hby d5_104) rfl (teq hc104).2 k) ?_
              show own_WP _ _ _ _ T123 (mkF m 107 #[.val (.ref za), .val (.int zx), .val (.int zy), .val (.int zr1), .val (.int zr2), .val (.int (own_cnt zL zr1)), .val (.int (own_cnt zL zr2)), .val (.int zr1), .val (.int zr2)] [])
              refine own_go (fun t k => XS.aloadN X123.here hx rfl (hb hby d5_107) rfl rfl  k) ?_
              show own_WP _ _ _ _ T123 (mkF m 108 #[.val (.ref za), .val (.int zx), .val (.int zy), .val (.int zr1), .val (.int zr2), .val (.int (own_cnt zL zr1)), .val (.int (own_cnt zL zr2)), .val (.int zr1), .val (.int zr2)] [(.ref za)])
              refine own_go (fun t k => XS.iconst X123.here hx rfl (hb hby d5_108) k) ?_
              show own_WP _ _ _ _ T123 (mkF m 109 #[.val (.ref za), .val (.int zx), .val (.int zy), .val (.int zr1), .val (.int zr2), .val (.int (own_cnt zL zr1)), .val (.int (own_cnt zL zr2)), .val (.int zr1), .val (.int zr2)] [(.int (3 : Int32)), (.ref za)])
              refine own_go (fun t k => XS.iload X123.here hx rfl (hb hby d5_109) rfl  k) ?_
              show own_WP _ _ _ _ T123 (mkF m 111 #[.val (.ref za), .val (.int zx), .val (.int zy), .val (.int zr1), .val (.int zr2), .val (.int (own_cnt zL zr1)), .val (.int (own_cnt zL zr2)), .val (.int zr1), .val (.int zr2)] [(.int zr1), (.int (3 : Int32)), (.ref za)])
              refine own_stI X123 hx hZ e123 f124 (j := (3 : Int32)) ⟨by decide, by decide⟩ (i := (3 : Int32).toNatClampNeg) rfl (by simp only [List.length_map, List.length_set, hl]; exact own_lt4 ⟨by decide, by decide⟩) (hb hby d5_111) ?_
              intro T128 h128 X128 e128 W128 V128
              have f129 : Arv Z h128 za zk .int (4 : Int32) (List.map Value.int (((zL.set (1 : Int32).toNatClampNeg zr1).set (2 : Int32).toNatClampNeg zr1).set (3 : Int32).toNatClampNeg zr1)) (.int (0 : Int32)) := (by rw [List.map_set]; exact V128)
              have K131 : Keep h0 h128 [za] := K126.wr W128 (Or.inl (List.mem_of_getElem? (i := 0) rfl))
              have N132 := Fr.snoc X128 N127 g_za
              show own_WP _ _ _ _ T128 (mkF m 112 #[.val (.ref za), .val (.int zx), .val (.int zy), .val (.int zr1), .val (.int zr2), .val (.int (own_cnt zL zr1)), .val (.int (own_cnt zL zr2)), .val (.int zr1), .val (.int zr2)] [])
              refine own_retV X128 hx Bd.notSynchronized Bd.returns (hb hby d5_112) (by decide) (by decide) ?_
              rw [e128]
              exact ⟨rfl, N132, K131, ((show ((List.map Value.int (((zL.set (1 : Int32).toNatClampNeg zr1).set (2 : Int32).toNatClampNeg zr1).set (3 : Int32).toNatClampNeg zr1)) : List Value) = (List.map Value.int (own_md zL zx zy)) from by exact congrArg (List.map Value.int) ((own_mdA d_zr1 d_zr2 hc12 hc35).trans (own_f4s (if_neg hc65) (if_pos hc78) (if_pos hc91) (if_pos hc104))).symm) ▸ f129)⟩
            · refine own_go (fun t k => XS.icmpYes X123.here hx rfl (pc0 := 104) (pc' := 112) rfl (hb hby d5_104) rfl (feq hc104).2 (by decide) (by decide) k) ?_
              show own_WP _ _ _ _ T123 (mkF m 112 #[.val (.ref za), .val (.int zx), .val (.int zy), .val (.int zr1), .val (.int zr2), .val (.int (own_cnt zL zr1)), .val (.int (own_cnt zL zr2)), .val (.int zr1), .val (.int zr2)] [])
              refine own_retV X123 hx Bd.notSynchronized Bd.returns (hb hby d5_112) (by decide) (by decide) ?_
              rw [e123]
              exact ⟨rfl, N127, K126, ((show ((List.map Value.int ((zL.set (1 : Int32).toNatClampNeg zr1).set (2 : Int32).toNatClampNeg zr1)) : List Value) = (List.map Value.int (own_md zL zx zy)) from by exact congrArg (List.map Value.int) ((own_mdA d_zr1 d_zr2 hc12 hc35).trans (own_f4s (if_neg hc65) (if_pos hc78) (if_pos hc91) (if_neg hc104))).symm) ▸ f124)⟩
          · refine own_go (fun t k => XS.icmpYes X118.here hx rfl (pc0 := 91) (pc' := 99) rfl (hb hby d5_91) rfl (feq hc91).2 (by decide) (by decide) k) ?_
            show own_WP _ _ _ _ T118 (mkF m 99 #[.val (.ref za), .val (.int zx), .val (.int zy), .val (.int zr1), .val (.int zr2), .val (.int (own_cnt zL zr1)), .val (.int (own_cnt zL zr2)), .val (.int zr1), .val (.int zr2)] [])
            refine own_go (fun t k => XS.aloadN X118.here hx rfl (hb hby d5_99) rfl rfl  k) ?_
            show own_WP _ _ _ _ T118 (mkF m 100 #[.val (.ref za), .val (.int zx), .val (.int zy), .val (.int zr1), .val (.int zr2), .val (.int (own_cnt zL zr1)), .val (.int (own_cnt zL zr2)), .val (.int zr1), .val (.int zr2)] [(.ref za)])
            refine own_go (fun t k => XS.iconst X118.here hx rfl (hb hby d5_100) k) ?_
            show own_WP _ _ _ _ T118 (mkF m 101 #[.val (.ref za), .val (.int zx), .val (.int zy), .val (.int zr1), .val (.int zr2), .val (.int (own_cnt zL zr1)), .val (.int (own_cnt zL zr2)), .val (.int zr1), .val (.int zr2)] [(.int (3 : Int32)), (.ref za)])
            refine own_ldI X118 hx hZ e118 f119 (j := (3 : Int32)) (w := (own_g (zL.set (1 : Int32).toNatClampNeg zr1) (3 : Int32))) ⟨by decide, by decide⟩ (own_mg _ _) (hb hby d5_101) ?_
            show own_WP _ _ _ _ T118 (mkF m 102 #[.val (.ref za), .val (.int zx), .val (.int zy), .val (.int zr1), .val (.int zr2), .val (.int (own_cnt zL zr1)), .val (.int (own_cnt zL zr2)), .val (.int zr1), .val (.int zr2)] [(.int (own_g (zL.set (1 : Int32).toNatClampNeg zr1) (3 : Int32)))])
            refine own_go (fun t k => XS.iload X118.here hx rfl (hb hby d5_102) rfl  k) ?_
            show own_WP _ _ _ _ T118 (mkF m 104 #[.val (.ref za), .val (.int zx), .val (.int zy), .val (.int zr1), .val (.int zr2), .val (.int (own_cnt zL zr1)), .val (.int (own_cnt zL zr2)), .val (.int zr1), .val (.int zr2)] [(.int zr2), (.int (own_g (zL.set (1 : Int32).toNatClampNeg zr1) (3 : Int32)))])
            by_cases hc104 : (own_g (zL.set (1 : Int32).toNatClampNeg zr1) (3 : Int32)) = zr2
            · refine own_go (fun t k => XS.icmpNo X118.here hx rfl (hb hby d5_104) rfl (teq hc104).2 k) ?_
              show own_WP _ _ _ _ T118 (mkF m 107 #[.val (.ref za), .val (.int zx), .val (.int zy), .val (.int zr1), .val (.int zr2), .val (.int (own_cnt zL zr1)), .val (.int (own_cnt zL zr2)), .val (.int zr1), .val (.int zr2)] [])
              refine own_go (fun t k => XS.aloadN X118.here hx rfl (hb hby d5_107) rfl rfl  k) ?_
              show own_WP _ _ _ _ T118 (mkF m 108 #[.val (.ref za), .val (.int zx), .val (.int zy), .val (.int zr1), .val (.int zr2), .val (.int (own_cnt zL zr1)), .val (.int (own_cnt zL zr2)), .val (.int zr1), .val (.int zr2)] [(.ref za)])
              refine own_go (fun t k => XS.iconst X118.here hx rfl (hb hby d5_108) k) ?_
              show own_WP _ _ _ _ T118 (mkF m 109 #[.val (.ref za), .val (.int zx), .val (.int zy), .val (.int zr1), .val (.int zr2), .val (.int (own_cnt zL zr1)), .val (.int (own_cnt zL zr2)), .val (.int zr1), .val (.int zr2)] [(.int (3 : Int32)), (.ref za)])
              refine own_go (fun t k => XS.iload X118.here hx rfl (hb hby d5_109) rfl  k) ?_
              show own_WP _ _ _ _ T118 (mkF m 111 #[.val (.ref za), .val (.int zx), .val (.int zy), .val (.int zr1), .val (.int zr2), .val (.int (own_cnt zL zr1)), .val (.int (own_cnt zL zr2)), .val (.int zr1), .val (.int zr2)] [(.int zr1), (.int (3 : Int32)), (.ref za)])
              refine own_stI X118 hx hZ e118 f119 (j := (3 : Int32)) ⟨by decide, by decide⟩ (i := (3 : Int32).toNatClampNeg) rfl (by simp only [List.length_map, List.length_set, hl]; exact own_lt4 ⟨by decide, by decide⟩) (hb hby d5_111) ?_
              intro T133 h133 X133 e133 W133 V133
              have f134 : Arv Z h133 za zk .int (4 : Int32) (List.map Value.int ((zL.set (1 : Int32).toNatClampNeg zr1).set (3 : Int32).toNatClampNeg zr1)) (.int (0 : Int32)) := (by rw [List.map_set]; exact V133)
              have K136 : Keep h0 h133 [za] := K121.wr W133 (Or.inl (List.mem_of_getElem? (i := 0) rfl))
              have N137 := Fr.snoc X133 N122 g_za
              show own_WP _ _ _ _ T133 (mkF m 112 #[.val (.ref za), .val (.int zx), .val (.int zy), .val (.int zr1), .val (.int zr2), .val (.int (own_cnt zL zr1)), .val (.int (own_cnt zL zr2)), .val (.int zr1), .val (.int zr2)] [])
              refine own_retV X133 hx Bd.notSynchronized Bd.returns (hb hby d5_112) (by decide) (by decide) ?_
              rw [e133]
              exact ⟨rfl, N137, K136, ((show ((List.map Value.int ((zL.set (1 : Int32).toNatClampNeg zr1).set (3 : Int32).toNatClampNeg zr1)) : List Value) = (List.map Value.int (own_md zL zx zy)) from by exact congrArg (List.map Value.int) ((own_mdA d_zr1 d_zr2 hc12 hc35).trans (own_f4s (if_neg hc65) (if_pos hc78) (if_neg hc91) (if_pos hc104))).symm) ▸ f134)⟩
            · refine own_go (fun t k => XS.icmpYes X118.here hx rfl (pc0 := 104) (pc' := 112) rfl (hb hby d5_104) rfl (feq hc104).2 (by decide) (by decide) k) ?_
              show own_WP _ _ _ _ T118 (mkF m 112 #[.val (.ref za), .val (.int zx), .val (.int zy), .val (.int zr1), .val (.int zr2), .val (.int (own_cnt zL zr1)), .val (.int (own_cnt zL zr2)), .val (.int zr1), .val (.int zr2)] [])
              refine own_retV X118 hx Bd.notSynchronized Bd.returns (hb hby d5_112) (by decide) (by decide) ?_
              rw [e118]
              exact ⟨rfl, N122, K121, ((show ((List.map Value.int (zL.set (1 : Int32).toNatClampNeg zr1)) : List Value) = (List.map Value.int (own_md zL zx zy)) from by exact congrArg (List.map Value.int) ((own_mdA d_zr1 d_zr2 hc12 hc35).trans (own_f4s (if_neg hc65) (if_pos hc78) (if_neg hc91) (if_neg hc104))).symm) ▸ f119)⟩
        · refine own_go (fun t k => XS.icmpYes X2.here hx rfl (pc0 := 78) (pc' := 86) rfl (hb hby d5_78) rfl (feq hc78).2 (by decide) (by decide) k) ?_
          show own_WP _ _ _ _ T2 (mkF m 86 #[.val (.ref za), .val (.int zx), .val (.int zy), .val (.int zr1), .val (.int zr2), .val (.int (own_cnt zL zr1)), .val (.int (own_cnt zL zr2)), .val (.int zr1), .val (.int zr2)] [])
          refine own_go (fun t k => XS.aloadN X2.here hx rfl (hb hby d5_86) rfl rfl  k) ?_
          show own_WP _ _ _ _ T2 (mkF m 87 #[.val (.ref za), .val (.int zx), .val (.int zy), .val (.int zr1), .val (.int zr2), .val (.int (own_cnt zL zr1)), .val (.int (own_cnt zL zr2)), .val (.int zr1), .val (.int zr2)] [(.ref za)])
          refine own_go (fun t k => XS.iconst X2.here hx rfl (hb hby d5_87) k) ?_
          show own_WP _ _ _ _ T2 (mkF m 88 #[.val (.ref za), .val (.int zx), .val (.int zy), .val (.int zr1), .val (.int zr2), .val (.int (own_cnt zL zr1)), .val (.int (own_cnt zL zr2)), .val (.int zr1), .val (.int zr2)] [(.int (2 : Int32)), (.ref za)])
          refine own_ldI X2 hx hZ eq2 P0 (j := (2 : Int32)) (w := (own_g zL (2 : Int32))) ⟨by decide, by decide⟩ (own_mg _ _) (hb hby d5_88) ?_
          show own_WP _ _ _ _ T2 (mkF m 89 #[.val (.ref za), .val (.int zx), .val (.int zy), .val (.int zr1), .val (.int zr2), .val (.int (own_cnt zL zr1)), .val (.int (own_cnt zL zr2)), .val (.int zr1), .val (.int zr2)] [(.int (own_g zL (2 : Int32)))])
          refine own_go (fun t k => XS.iload X2.here hx rfl (hb hby d5_89) rfl  k) ?_
          show own_WP _ _ _ _ T2 (mkF m 91 #[.val (.ref za), .val (.int zx), .val (.int zy), .val (.int zr1), .val (.int zr2), .val (.int (own_cnt zL zr1)), .val (.int (own_cnt zL zr2)), .val (.int zr1), .val (.int zr2)] [(.int zr2), (.int (own_g zL (2 : Int32)))])
          by_cases hc91 : (own_g zL (2 : Int32)) = zr2
          · refine own_go (fun t k => XS.icmpNo X2.here hx rfl (hb hby d5_91) rfl (teq hc91).2 k) ?_
            show own_WP _ _ _ _ T2 (mkF m 94 #[.val (.ref za), .val (.int zx), .val (.int zy), .val (.int zr1), .val (.int zr2), .val (.int (own_cnt zL zr1)), .val (.int (own_cnt zL zr2)), .val (.int zr1), .val (.int zr2)] [])
            refine own_go (fun t k => XS.aloadN X2.here hx rfl (hb hby d5_94) rfl rfl  k) ?_
            show own_WP _ _ _ _ T2 (mkF m 95 #[.val (.ref za), .val (.int zx), .val (.int zy), .val (.int zr1), .val (.int zr2), .val (.int (own_cnt zL zr1)), .val (.int (own_cnt zL zr2)), .val (.int zr1), .val (.int zr2)] [(.ref za)])
            refine own_go (fun t k => XS.iconst X2.here hx rfl (hb hby d5_95) k) ?_
            show own_WP _ _ _ _ T2 (mkF m 96 #[.val (.ref za), .val (.int zx), .val (.int zy), .val (.int zr1), .val (.int zr2), .val (.int (own_cnt zL zr1)), .val (.int (own_cnt zL zr2)), .val (.int zr1), .val (.int zr2)] [(.int (2 : Int32)), (.ref za)])
            refine own_go (fun t k => XS.iload X2.here hx rfl (hb hby d5_96) rfl  k) ?_
            show own_WP _ _ _ _ T2 (mkF m 98 #[.val (.ref za), .val (.int zx), .val (.int zy), .val (.int zr1), .val (.int zr2), .val (.int (own_cnt zL zr1)), .val (.int (own_cnt zL zr2)), .val (.int zr1), .val (.int zr2)] [(.int zr1), (.int (2 : Int32)), (.ref za)])
            refine own_stI X2 hx hZ eq2 P0 (j := (2 : Int32)) ⟨by decide, by decide⟩ (i := (2 : Int32).toNatClampNeg) rfl (by simp only [List.length_map, List.length_set, hl]; exact own_lt4 ⟨by decide, by decide⟩) (hb hby d5_98) ?_
            intro T138 h138 X138 e138 W138 V138
            have f139 : Arv Z h138 za zk .int (4 : Int32) (List.map Value.int (zL.set (2 : Int32).toNatClampNeg zr1)) (.int (0 : Int32)) := (by rw [List.map_set]; exact V138)
            have K141 : Keep h0 h138 [za] := K0.wr W138 (Or.inl (List.mem_of_getElem? (i := 0) rfl))
            have N142 := Fr.snoc X138 N2 g_za
            show own_WP _ _ _ _ T138 (mkF m 99 #[.val (.ref za), .val (.int zx), .val (.int zy), .val (.int zr1), .val (.int zr2), .val (.int (own_cnt zL zr1)), .val (.int (own_cnt zL zr2)), .val (.int zr1), .val (.int zr2)] [])
            refine own_go (fun t k => XS.aloadN X138.here hx rfl (hb hby d5_99) rfl rfl  k) ?_
            show own_WP _ _ _ _ T138 (mkF m 100 #[.val (.ref za), .val (.int zx), .val (.int zy), .val (.int zr1), .val (.int zr2), .val (.int (own_cnt zL zr1)), .val (.int (own_cnt zL zr2)), .val (.int zr1), .val (.int zr2)] [(.ref za)])
            refine own_go (fun t k => XS.iconst X138.here hx rfl (hb hby d5_100) k) ?_
            show own_WP _ _ _ _ T138 (mkF m 101 #[.val (.ref za), .val (.int zx), .val (.int zy), .val (.int zr1), .val (.int zr2), .val (.int (own_cnt zL zr1)), .val (.int (own_cnt zL zr2)), .val (.int zr1), .val (.int zr2)] [(.int (3 : Int32)), (.ref za)])
            refine own_ldI X138 hx hZ e138 f139 (j := (3 : Int32)) (w := (own_g (zL.set (2 : Int32).toNatClampNeg zr1) (3 : Int32))) ⟨by decide, by decide⟩ (own_mg _ _) (hb hby d5_101) ?_
            show own_WP _ _ _ _ T138 (mkF m 102 #[.val (.ref za), .val (.int zx), .val (.int zy), .val (.int zr1), .val (.int zr2), .val (.int (own_cnt zL zr1)), .val (.int (own_cnt zL zr2)), .val (.int zr1), .val (.int zr2)] [(.int (own_g (zL.set (2 : Int32).toNatClampNeg zr1) (3 : Int32)))])
            refine own_go (fun t k => XS.iload X138.here hx rfl (hb hby d5_102) rfl  k) ?_
            show own_WP _ _ _ _ T138 (mkF m 104 #[.val (.ref za), .val (.int zx), .val (.int zy), .val (.int zr1), .val (.int zr2), .val (.int (own_cnt zL zr1)), .val (.int (own_cnt zL zr2)), .val (.int zr1), .val (.int zr2)] [(.int zr2), (.int (own_g (zL.set (2 : Int32).toNatClampNeg zr1) (3 : Int32)))])
            by_cases hc104 : (own_g (zL.set (2 : Int32).toNatClampNeg zr1) (3 : Int32)) = zr2
            · refine own_go (fun t k => XS.icmpNo X138.here hx rfl (hb hby d5_104) rfl (teq hc104).2 k) ?_
              show own_WP _ _ _ _ T138 (mkF m 107 #[.val (.ref za), .val (.int zx), .val (.int zy), .val (.int zr1), .val (.int zr2), .val (.int (own_cnt zL zr1)), .val (.int (own_cnt zL zr2)), .val (.int zr1), .val (.int zr2)] [])
              refine own_go (fun t k => XS.aloadN X138.here hx rfl (hb hby d5_107) rfl rfl  k) ?_
              show own_WP _ _ _ _ T138 (mkF m 108 #[.val (.ref za), .val (.int zx), .val (.int zy), .val (.int zr1), .val (.int zr2), .val (.int (own_cnt zL zr1)), .val (.int (own_cnt zL zr2)), .val (.int zr1), .val (.int zr2)] [(.ref za)])
              refine own_go (fun t k => XS.iconst X138.here hx rfl (hb hby d5_108) k) ?_
              show own_WP _ _ _ _ T138 (mkF m 109 #[.val (.ref za), .val (.int zx), .val (.int zy), .val (.int zr1), .val (.int zr2), .val (.int (own_cnt zL zr1)), .val (.int (own_cnt zL zr2)), .val (.int zr1), .val (.int zr2)] [(.int (3 : Int32)), (.ref za)])
              refine own_go (fun t k => XS.iload X138.here hx rfl (hb hby d5_109) rfl  k) ?_
              show own_WP _ _ _ _ T138 (mkF m 111 #[.val (.ref za), .val (.int zx), .val (.int zy), .val (.int zr1), .val (.int zr2), .val (.int (own_cnt zL zr1)), .val (.int (own_cnt zL zr2)), .val (.int zr1), .val (.int zr2)] [(.int zr1), (.int (3 : Int32)), (.ref za)])
              refine own_stI X138 hx hZ e138 f139 (j := (3 : Int32)) ⟨by decide, by decide⟩ (i := (3 : Int32).toNatClampNeg) rfl (by simp only [List.length_map, List.length_set, hl]; exact own_lt4 ⟨by decide, by decide⟩) (hb hby d5_111) ?_
              intro T143 h143 X143 e143 W143 V143
              have f144 : Arv Z h143 za zk .int (4 : Int32) (List.map Value.int ((zL.set (2 : Int32).toNatClampNeg zr1).set (3 : Int32).toNatClampNeg zr1)) (.int (0 : Int32)) := (by rw [List.map_set]; exact V143)
              have K146 : Keep h0 h143 [za] := K141.wr W143 (Or.inl (List.mem_of_getElem? (i := 0) rfl))
              have N147 := Fr.snoc X143 N142 g_za
              show own_WP _ _ _ _ T143 (mkF m 112 #[.val (.ref za), .val (.int zx), .val (.int zy), .val (.int zr1), .val (.int zr2), .val (.int (own_cnt zL zr1)), .val (.int (own_cnt zL zr2)), .val (.int zr1), .val (.int zr2)] [])
              refine own_retV X143 hx Bd.notSynchronized Bd.returns (hb hby d5_112) (by decide) (by decide) ?_
              rw [e143]
              exact ⟨rfl, N147, K146, ((show ((List.map Value.int ((zL.set (2 : Int32).toNatClampNeg zr1).set (3 : Int32).toNatClampNeg zr1)) : List Value) = (List.map Value.int (own_md zL zx zy)) from by exact congrArg (List.map Value.int) ((own_mdA d_zr1 d_zr2 hc12 hc35).trans (own_f4s (if_neg hc65) (if_neg hc78) (if_pos hc91) (if_pos hc104))).symm) ▸ f144)⟩
            · refine own_go (fun t k => XS.icmpYes X138.here hx rfl (pc0 := 104) (pc' := 112) rfl (hb hby d5_104) rfl (feq hc104).2 (by decide) (by decide) k) ?_
              show own_WP _ _ _ _ T138 (mkF m 112 #[.val (.ref za), .val (.int zx), .val (.int zy), .val (.int zr1), .val (.int zr2), .val (.int (own_cnt zL zr1)), .val (.int (own_cnt zL zr2)), .val (.int zr1), .val (.int zr2)] [])
              refine own_retV X138 hx Bd.notSynchronized Bd.returns (hb hby d5_112) (by decide) (by decide) ?_
              rw [e138]
              exact ⟨rfl, N142, K141, ((show ((List.map Value.int (zL.set (2 : Int32).toNatClampNeg zr1)) : List Value) = (List.map Value.int (own_md zL zx zy)) from by exact congrArg (List.map Value.int) ((own_mdA d_zr1 d_zr2 hc12 hc35).trans (own_f4s (if_neg hc65) (if_neg hc78) (if_pos hc91) (if_neg hc104))).symm) ▸ f139)⟩
          · refine own_go (fun t k => XS.icmpYes X2.here hx rfl (pc0 := 91) (pc' := 99) rfl (hb hby d5_91) rfl (feq hc91).2 (by decide) (by decide) k) ?_
            show own_WP _ _ _ _ T2 (mkF m 99 #[.val (.ref za), .val (.int zx), .val (.int zy), .val (.int zr1), .val (.int zr2), .val (.int (own_cnt zL zr1)), .val (.int (own_cnt zL zr2)), .val (.int zr1), .val (.int zr2)] [])
            refine own_go (fun t k => XS.aloadN X2.here hx rfl (hb hby d5_99) rfl rfl  k) ?_
            show own_WP _ _ _ _ T2 (mkF m 100 #[.val (.ref za), .val (.int zx), .val (.int zy), .val (.int zr1), .val (.int zr2), .val (.int (own_cnt zL zr1)), .val (.int (own_cnt zL zr2)), .val (.int zr1), .val (.int zr2)] [(.ref za)])
            refine own_go (fun t k => XS.iconst X2.here hx rfl (hb hby d5_100) k) ?_
            show own_WP _ _ _ _ T2 (mkF m 101 #[.val (.ref za), .val (.int zx), .val (.int zy), .val (.int zr1), .val (.int zr2), .val (.int (own_cnt zL zr1)), .val (.int (own_cnt zL zr2)), .val (.int zr1), .val (.int zr2)] [(.int (3 : Int32)), (.ref za)])
            refine own_ldI X2 hx hZ eq2 P0 (j := (3 : Int32)) (w := (own_g zL (3 : Int32))) ⟨by decide, by decide⟩ (own_mg _ _) (hb hby d5_101) ?_
            show own_WP _ _ _ _ T2 (mkF m 102 #[.val (.ref za), .val (.int zx), .val (.int zy), .val (.int zr1), .val (.int zr2), .val (.int (own_cnt zL zr1)), .val (.int (own_cnt zL zr2)), .val (.int zr1), .val (.int zr2)] [(.int (own_g zL (3 : Int32)))])
            refine own_go (fun t k => XS.iload X2.here hx rfl (hb hby d5_102) rfl  k) ?_
            show own_WP _ _ _ _ T2 (mkF m 104 #[.val (.ref za), .val (.int zx), .val (.int zy), .val (.int zr1), .val (.int zr2), .val (.int (own_cnt zL zr1)), .val (.int (own_cnt zL zr2)), .val (.int zr1), .val (.int zr2)] [(.int zr2), (.int (own_g zL (3 : Int32)))])
            by_cases hc104 : (own_g zL (3 : Int32)) = zr2
            · refine own_go (fun t k => XS.icmpNo X2.here hx rfl (hb hby d5_104) rfl (teq hc104).2 k) ?_
              show own_WP _ _ _ _ T2 (mkF m 107 #[.val (.ref za), .val (.int zx), .val (.int zy), .val (.int zr1), .val (.int zr2), .val (.int (own_cnt zL zr1)), .val (.int (own_cnt zL zr2)), .val (.int zr1), .val (.int zr2)] [])
              refine own_go (fun t k => XS.aloadN X2.here hx rfl (hb hby d5_107) rfl rfl  k) ?_
              show own_WP _ _ _ _ T2 (mkF m 108 #[.val (.ref za), .val (.int zx), .val (.int zy), .val (.int zr1), .val (.int zr2), .val (.int (own_cnt zL zr1)), .val (.int (own_cnt zL zr2)), .val (.int zr1), .val (.int zr2)] [(.ref za)])
              refine own_go (fun t k => XS.iconst X2.here hx rfl (hb hby d5_108) k) ?_
              show own_WP _ _ _ _ T2 (mkF m 109 #[.val (.ref za), .val (.int zx), .val (.int zy), .val (.int zr1), .val (.int zr2), .val (.int (own_cnt zL zr1)), .val (.int (own_cnt zL zr2)), .val (.int zr1), .val (.int zr2)] [(.int (3 : Int32)), (.ref za)])
              refine own_go (fun t k => XS.iload X2.here hx rfl (hb hby d5_109) rfl  k) ?_
              show own_WP _ _ _ _ T2 (mkF m 111 #[.val (.ref za), .val (.int zx), .val (.int zy), .val (.int zr1), .val (.int zr2), .val (.int (own_cnt zL zr1)), .val (.int (own_cnt zL zr2)), .val (.int zr1), .val (.int zr2)] [(.int zr1), (.int (3 : Int32)), (.ref za)])
              refine own_stI X2 hx hZ eq2 P0 (j := (3 : Int32)) ⟨by decide, by decide⟩ (i := (3 : Int32).toNatClampNeg) rfl (by simp only [List.length_map, List.length_set, hl]; exact own_lt4 ⟨by decide, by decide⟩) (hb hby d5_111) ?_
              intro T148 h148 X148 e148 W148 V148
              have f149 : Arv Z h148 za zk .int (4 : Int32) (List.map Value.int (zL.set (3 : Int32).toNatClampNeg zr1)) (.int (0 : Int32)) := (by rw [List.map_set]; exact V148)
              have K151 : Keep h0 h148 [za] := K0.wr W148 (Or.inl (List.mem_of_getElem? (i := 0) rfl))
              have N152 := Fr.snoc X148 N2 g_za
              show own_WP _ _ _ _ T148 (mkF m 112 #[.val (.ref za), .val (.int zx), .val (.int zy), .val (.int zr1), .val (.int zr2), .val (.int (own_cnt zL zr1)), .val (.int (own_cnt zL zr2)), .val (.int zr1), .val (.int zr2)] [])
              refine own_retV X148 hx Bd.notSynchronized Bd.returns (hb hby d5_112) (by decide) (by decide) ?_
              rw [e148]
              exact ⟨rfl, N152, K151, ((show ((List.map Value.int (zL.set (3 : Int32).toNatClampNeg zr1)) : List Value) = (List.map Value.int (own_md zL zx zy)) from by exact congrArg (List.map Value.int) ((own_mdA d_zr1 d_zr2 hc12 hc35).trans (own_f4s (if_neg hc65) (if_neg hc78) (if_neg hc91) (if_pos hc104))).symm) ▸ f149)⟩
            · refine own_go (fun t k => XS.icmpYes X2.here hx rfl (pc0 := 104) (pc' := 112) rfl (hb hby d5_104) rfl (feq hc104).2 (by decide) (by decide) k) ?_
              show own_WP _ _ _ _ T2 (mkF m 112 #[.val (.ref za), .val (.int zx), .val (.int zy), .val (.int zr1), .val (.int zr2), .val (.int (own_cnt zL zr1)), .val (.int (own_cnt zL zr2)), .val (.int zr1), .val (.int zr2)] [])
              refine own_retV X2 hx Bd.notSynchronized Bd.returns (hb hby d5_112) (by decide) (by decide) ?_
              rw [eq2]
              exact ⟨rfl, N2, K0, ((show ((List.map Value.int zL) : List Value) = (List.map Value.int (own_md zL zx zy)) from by exact congrArg (List.map Value.int) ((own_mdA d_zr1 d_zr2 hc12 hc35).trans (own_f4s (if_neg hc65) (if_neg hc78) (if_neg hc91) (if_neg hc104))).symm) ▸ P0)⟩
theorem own_pd81850 : parseMethodDescriptor "(I)V" = some ⟨[.int], none⟩ := by decide +kernel
theorem own_pd31101 : parseMethodDescriptor "(II)V" = some ⟨[.int, .int], none⟩ := by decide +kernel
theorem own_pd87127 : parseMethodDescriptor "([III)V" = some ⟨[(.array .int), .int, .int], none⟩ := by decide +kernel
theorem ef_0 (m : MethodId) (zu : Int32) (zq : Int32) : entryFrame m #[(.int zu), (.int zq)] maxLocals = mkF m 0 #[.val (.int zu), .val (.int zq), .unset, .unset, .unset, .unset, .unset, .unset, .unset, .unset, .unset, .unset] [] := by first | (simp [entryFrame, mkF, argsToLocals, Value.category, maxLocals]; done) | rfl
def Q0 (Z : State) (zu : Int32) (zq : Int32) (h0 : Heap) (n0 : Nat) (v : Option Value) (h : Heap) (L : List Loc) : Prop := v = some (.int 1) ∧ Fr n0 L
set_option maxRecDepth 65536 in
set_option maxHeartbeats 40000000 in
theorem rm0 (l : Launch) (Z : State) (a0 : Array Value) (hw : ∀ d ∈ tables_1, d.before a0 Z = true) (ws : List Jvm.Cond) (zu : Int32) (zq : Int32) (h0 : Heap) (n0 : Nat) (Z0 : n0 ≤ h0.size)  :
    MetFree l x (head1 (Jvm.Cond.code x code maxLocals ret :: ws) room_1) (fun a U => a = #[(.int zu), (.int zq)] ∧ Z.Warmed39 U.vm ∧ U.heap = h0) (fun _ _ _ _ _ => True) (fun _ U o U' => ∃ v L, o = .returned v ∧ Q0 Z zu zq h0 n0 v U'.heap L ∧ FrameEnd U o U' L 5 20) := by
  refine MetFree.of_bodySF (plainFor_of_name own_pn20476) hisR ?_
  intro p e s m args below meth c s₁ Bd hml0 hP hK
  obtain ⟨rfl, hZ, hh⟩ := hP
  have hx := Bd.exec
  have hby := Bd.bytes
  have hml : c.maxLocals = 12 := hml0
  have hown : s.vm.findClass "com/example/ringspan/ringspan/symmetry/OrbitsRootPinLaw" = some m.cls := findClass_of_methodNamed Bd.named
  have hnm := (name_of_methodNamed Bd.named Bd.method).1
  have X0 : Stand p l e room_1 s m #[(.int zu), (.int zq)] below meth c s₁ [] 0 0 := Stand.of_body Bd
  have e0 : s₁.heap = h0 := by rw [← hh, Bd.state]; rfl
  have N0 := Fr.nil n0
  have K0 := Keep.refl h0 ([] : List Addr)
  show own_WP p e below (own_E s (Q0 Z zu zq h0 n0) 5 20) s₁ (entryFrame m #[(.int zu), (.int zq)] maxLocals)
  rw [ef_0 m zu zq]
  show own_WP _ _ _ _ s₁ (mkF m 0 #[.val (.int zu), .val (.int zq), .unset, .unset, .unset, .unset, .unset, .unset, .unset, .unset, .unset, .unset] [])
  obtain ⟨T1, h1, X1, e1, E1, A1, D1, -, st1⟩ := newO X0 hx hZ hown (hw _ (List.mem_of_getElem? (i := 0) rfl)) (hw _ (List.mem_of_getElem? (i := 1) rfl)) (hw _ (List.mem_of_getElem? (i := 2) rfl)) e0 (g := (mkF m 0 #[.val (.int zu), .val (.int zq), .unset, .unset, .unset, .unset, .unset, .unset, .unset, .unset, .unset, .unset] [])) rfl (hb hby at_0) (by decide) (by decide)
  obtain ⟨zo, q1⟩ : ∃ z, z = h0.size := ⟨_, rfl⟩
  rw [← q1] at A1 D1 st1
  refine own_go st1 ?_
  have g_zo : n0 ≤ zo := Nat.le_trans (own_le Z0 K0) (Nat.le_of_eq q1.symm)
  have sz_zo : h0.size ≤ zo := Nat.le_trans K0.1 (Nat.le_of_eq q1.symm)
  have K2 : Keep h0 h1 [] := K0.ext E1
  have f3 : Fld Z h1 zo "com/example/ringspan/ringspan/symmetry/Orbits" "parents" "[I" .null := D1 (Or.inr (hw _ (List.mem_of_getElem? (i := 11) rfl))) (ty := (.array .int)) (by decide)
  have f4 : Fld Z h1 zo "com/example/ringspan/ringspan/symmetry/Orbits" "sizes" "[I" .null := D1 (Or.inr (hw _ (List.mem_of_getElem? (i := 13) rfl))) (ty := (.array .int)) (by decide)
  have f5 : Fld Z h1 zo "com/example/ringspan/ringspan/symmetry/Orbits" "marks" "[I" .null := D1 (Or.inr (hw _ (List.mem_of_getElem? (i := 15) rfl))) (ty := (.array .int)) (by decide)
  have f6 : Fld Z h1 zo "com/example/ringspan/ringspan/symmetry/Orbits" "count" "I" (.int (0 : Int32)) := D1 (Or.inl (hw _ (List.mem_of_getElem? (i := 17) rfl))) (ty := .int) (by decide)
  show own_WP _ _ _ _ T1 (mkF m 3 #[.val (.int zu), .val (.int zq), .unset, .unset, .unset, .unset, .unset, .unset, .unset, .unset, .unset, .unset] [(.ref zo)])
  refine own_go (fun t k => XS.dup X1.here hx rfl (hb hby at_3) rfl rfl k) ?_
  show own_WP _ _ _ _ T1 (mkF m 4 #[.val (.int zu), .val (.int zq), .unset, .unset, .unset, .unset, .unset, .unset, .unset, .unset, .unset, .unset] [(.ref zo), (.ref zo)])
  refine own_go (fun t k => XS.iconst X1.here hx rfl (hb hby at_4) k) ?_
  show own_WP _ _ _ _ T1 (mkF m 5 #[.val (.int zu), .val (.int zq), .unset, .unset, .unset, .unset, .unset, .unset, .unset, .unset, .unset, .unset] [(.int (4 : Int32)), (.ref zo), (.ref zo)])
  obtain ⟨_, _, ⟨T7, L7, k7, n7⟩, -, X7, ⟨Lc7, hQ7, l7, y7, z7⟩, st7⟩ := X1.specialBack hx (y := (⟨"com/example/ringspan/ringspan/symmetry/Orbits", "<init>", "(I)V"⟩ : MethodName)) rfl hown (mvT hZ (hw _ (List.mem_of_getElem? (i := 3) rfl))) (mvT hZ (hw _ (List.mem_of_getElem? (i := 4) rfl))) (mvT hZ (hw _ (List.mem_of_getElem? (i := 5) rfl))) (by decide) (backOf (W := 1) (rm1 l Z a0 hw [] zo (4 : Int32) .null .null .null (.int (0 : Int32)) h1 n0 (own_le Z0 K2) A1 f3 f4 f5 f6 g_zo (show (4 : Int32) = 4 from rfl)) hZ (hw _ (List.mem_of_getElem? (i := 5) rfl)) (hw _ (List.mem_of_getElem? (i := 2) rfl)) (by decide) (by decide)) (g := (mkF m 5 #[.val (.int zu), .val (.int zq), .unset, .unset, .unset, .unset, .unset, .unset, .unset, .unset, .unset, .unset] [(.int (4 : Int32)), (.ref zo), (.ref zo)])) rfl (by rw [hml]; rfl) (Steps.refl _) (a := zo) (argsL := [(.int (4 : Int32))]) (rest := [(.ref zo)]) (lenOf own_pd81850 rfl) rfl (by show 2 * 0 + _ ≤ _; exact Nat.le_of_eq rfl) (hb hby at_5) (fun _ _ => ⟨rfl, e1, (by decide : 1 + 3 ≤ _), (by decide : 4 + 12 ≤ _)⟩)
  dsimp only [Pt.U, Pt.locs, Pt.cells, Pt.slots] at X7 l7 y7 z7 st7 hQ7
  subst l7 y7 z7
  obtain ⟨zp, zs, zm, kp8, ks9, km10, rfl, N7q, Kc7, g_zp, szc_zp, g_zs, szc_zs, g_zm, szc_zm, f11, f12, f13, f14, f15, f16, f17, f18, hd1_7, hd2_7, hd3_7⟩ := hQ7
  have N7 := Fr.app N0 N7q
  refine own_tr st7 ?_
  have sz_zp : h0.size ≤ zp := Nat.le_trans K2.1 szc_zp
  have ne_zo_zp : zo ≠ zp := Nat.ne_of_lt (Nat.lt_of_lt_of_le A1.lt szc_zp)
  have sz_zs : h0.size ≤ zs := Nat.le_trans K2.1 szc_zs
  have ne_zo_zs : zo ≠ zs := Nat.ne_of_lt (Nat.lt_of_lt_of_le A1.lt szc_zs)
  have sz_zm : h0.size ≤ zm := Nat.le_trans K2.1 szc_zm
  have ne_zo_zm : zo ≠ zm := Nat.ne_of_lt (Nat.lt_of_lt_of_le A1.lt szc_zm)
  have f19 : Exa Z T7.heap zo "com/example/ringspan/ringspan/symmetry/Orbits" := A1.keep Kc7
  have K24 : Keep h0 T7.heap [] := K2.trans Kc7 (fun x hx => by cases List.mem_singleton.mp hx; exact Or.inr sz_zo)
  show own_WP _ _ _ _ T7 (mkF m 8 #[.val (.int zu), .val (.int zq), .unset, .unset, .unset, .unset, .unset, .unset, .unset, .unset, .unset, .unset] [(.ref zo)])
  refine own_go (fun t k => XS.astoreN X7.here hx rfl (hb hby at_8) rfl rfl (l' := #[.val (.int zu), .val (.int zq), .val (.ref zo), .unset, .unset, .unset, .unset, .unset, .unset, .unset, .unset, .unset]) rfl k) ?_
  show own_WP _ _ _ _ T7 (mkF m 9 #[.val (.int zu), .val (.int zq), .val (.ref zo), .unset, .unset, .unset, .unset, .unset, .unset, .unset, .unset, .unset] [])
  refine own_go (fun t k => XS.iconst X7.here hx rfl (hb hby at_9) k) ?_
  show own_WP _ _ _ _ T7 (mkF m 10 #[.val (.int zu), .val (.int zq), .val (.ref zo), .unset, .unset, .unset, .unset, .unset, .unset, .unset, .unset, .unset] [(.int (4 : Int32))])
  obtain ⟨T25, h25, k25, X25, e25, E25, A25, G25, st25⟩ := newPE X7 hx hZ (hw _ (List.mem_of_getElem? (i := 9) rfl)) rfl (g := (mkF m 10 #[.val (.int zu), .val (.int zq), .val (.ref zo), .unset, .unset, .unset, .unset, .unset, .unset, .unset, .unset, .unset] [(.int (4 : Int32))])) rfl (hb hby at_10) rfl (by decide) (cap := 4) (by decide) (by decide) (by decide) (by decide) (ad := "[I") rfl
  obtain ⟨zl, q25⟩ : ∃ z, z = T7.heap.size := ⟨_, rfl⟩
  rw [← q25] at A25 G25 st25
  refine own_go st25 ?_
  have g_zl : n0 ≤ zl := Nat.le_trans (own_le Z0 K24) (Nat.le_of_eq q25.symm)
  have sz_zl : h0.size ≤ zl := Nat.le_trans K24.1 (Nat.le_of_eq q25.symm)
  have ne_zo_zl : zo ≠ zl := Nat.ne_of_lt (Nat.lt_of_lt_of_le f11.lt (Nat.le_of_eq q25.symm))
  have ne_zp_zl : zp ≠ zl := Nat.ne_of_lt (Nat.lt_of_lt_of_le f16.lt (Nat.le_of_eq q25.symm))
  have ne_zs_zl : zs ≠ zl := Nat.ne_of_lt (Nat.lt_of_lt_of_le f17.lt (Nat.le_of_eq q25.symm))
  have ne_zm_zl : zm ≠ zl := Nat.ne_of_lt (Nat.lt_of_lt_of_le f18.lt (Nat.le_of_eq q25.symm))
  have f26 : Exa Z h25 zo "com/example/ringspan/ringspan/symmetry/Orbits" := f11.ext E25
  have f27 : Fld Z h25 zo "com/example/ringspan/ringspan/symmetry/Orbits" "parents" "[I" (.ref zp) := f12.ext E25
  have f28 : Fld Z h25 zo "com/example/ringspan/ringspan/symmetry/Orbits" "sizes" "[I" (.ref zs) := f13.ext E25
  have f29 : Fld Z h25 zo "com/example/ringspan/ringspan/symmetry/Orbits" "marks" "[I" (.ref zm) := f14.ext E25
  have f30 : Fld Z h25 zo "com/example/ringspan/ringspan/symmetry/Orbits" "count" "I" (.int 4) := f15.ext E25
  have f31 : Arv Z h25 zp kp8 .int (4 : Int32) (List.map Value.int [0, 1, 2, 3]) (.int (0 : Int32)) := f16.ext E25
  have f32 : Arv Z h25 zs ks9 .int (4 : Int32) (List.map Value.int [1, 1, 1, 1]) (.int (0 : Int32)) := f17.ext E25
  have f33 : Arv Z h25 zm km10 .int (4 : Int32) (List.map Value.int [0, 0, 0, 0]) (.int (0 : Int32)) := f18.ext E25
  have K34 : Keep h0 h25 [] := K24.ext E25
  have f35 : Arv Z h25 zl k25 .int (4 : Int32) [(.int (0 : Int32)), (.int (0 : Int32)), (.int (0 : Int32)), (.int (0 : Int32))] (.int (0 : Int32)) := (Arv.new A25 (by decide)).pad (pad_rep [] (.int (0 : Int32)) 4)
  show own_WP _ _ _ _ T25 (mkF m 12 #[.val (.int zu), .val (.int zq), .val (.ref zo), .unset, .unset, .unset, .unset, .unset, .unset, .unset, .unset, .unset] [(.ref zl)])
  refine own_go (fun t k => XS.dup X25.here hx rfl (hb hby at_12) rfl rfl k) ?_
  show own_WP _ _ _ _ T25 (mkF m 13 #[.val (.int zu), .val (.int zq), .val (.ref zo), .unset, .unset, .unset, .unset, .unset, .unset, .unset, .unset, .unset] [(.ref zl), (.ref zl)])
  refine own_go (fun t k => XS.iconst X25.here hx rfl (hb hby at_13) k) ?_
  show own_WP _ _ _ _ T25 (mkF m 14 #[.val (.int zu), .val (.int zq), .val (.ref zo), .unset, .unset, .unset, .unset, .unset, .unset, .unset, .unset, .unset] [(.int (0 : Int32)), (.ref zl), (.ref zl)])
  refine own_go (fun t k => XS.iconst X25.here hx rfl (hb hby at_14) k) ?_
  show own_WP _ _ _ _ T25 (mkF m 15 #[.val (.int zu), .val (.int zq), .val (.ref zo), .unset, .unset, .unset, .unset, .unset, .unset, .unset, .unset, .unset] [(.int (0 : Int32)), (.int (0 : Int32)), (.ref zl), (.ref zl)])
  refine own_stI X25 hx hZ e25 f35 (j := (0 : Int32)) ⟨by decide, by decide⟩ (i := 0) rfl (Nat.le_of_ble_eq_true rfl) (hb hby at_15) ?_
  intro T36 h36 X36 e36 W36 V36
  have f37 : Arv Z h36 zl k25 .int (4 : Int32) [(.int (0 : Int32)), (.int (0 : Int32)), (.int (0 : Int32)), (.int (0 : Int32))] (.int (0 : Int32)) := V36
  have f38 : Exa Z h36 zo "com/example/ringspan/ringspan/symmetry/Orbits" := f26.wr W36
  have f39 : Fld Z h36 zo "com/example/ringspan/ringspan/symmetry/Orbits" "parents" "[I" (.ref zp) := f27.other W36 (Or.inl ne_zo_zl)
  have f40 : Fld Z h36 zo "com/example/ringspan/ringspan/symmetry/Orbits" "sizes" "[I" (.ref zs) := f28.other W36 (Or.inl ne_zo_zl)
  have f41 : Fld Z h36 zo "com/example/ringspan/ringspan/symmetry/Orbits" "marks" "[I" (.ref zm) := f29.other W36 (Or.inl ne_zo_zl)
  have f42 : Fld Z h36 zo "com/example/ringspan/ringspan/symmetry/Orbits" "count" "I" (.int 4) := f30.other W36 (Or.inl ne_zo_zl)
  have f43 : Arv Z h36 zp kp8 .int (4 : Int32) (List.map Value.int [0, 1, 2, 3]) (.int (0 : Int32)) := f31.other W36 ne_zp_zl
  have f44 : Arv Z h36 zs ks9 .int (4 : Int32) (List.map Value.int [1, 1, 1, 1]) (.int (0 : Int32)) := f32.other W36 ne_zs_zl
  have f45 : Arv Z h36 zm km10 .int (4 : Int32) (List.map Value.int [0, 0, 0, 0]) (.int (0 : Int32)) := f33.other W36 ne_zm_zl
  have K47 : Keep h0 h36 [] := K34.wr W36 (Or.inr sz_zl)
  have N48 := Fr.snoc X36 N7 g_zl
  show own_WP _ _ _ _ T36 (mkF m 16 #[.val (.int zu), .val (.int zq), .val (.ref zo), .unset, .unset, .unset, .unset, .unset, .unset, .unset, .unset, .unset] [(.ref zl)])
  refine own_go (fun t k => XS.dup X36.here hx rfl (hb hby at_16) rfl rfl k) ?_
  show own_WP _ _ _ _ T36 (mkF m 17 #[.val (.int zu), .val (.int zq), .val (.ref zo), .unset, .unset, .unset, .unset, .unset, .unset, .unset, .unset, .unset] [(.ref zl), (.ref zl)])
  refine own_go (fun t k => XS.iconst X36.here hx rfl (hb hby at_17) k) ?_
  show own_WP _ _ _ _ T36 (mkF m 18 #[.val (.int zu), .val (.int zq), .val (.ref zo), .unset, .unset, .unset, .unset, .unset, .unset, .unset, .unset, .unset] [(.int (1 : Int32)), (.ref zl), (.ref zl)])
  refine own_go (fun t k => XS.iconst X36.here hx rfl (hb hby at_18) k) ?_
  show own_WP _ _ _ _ T36 (mkF m 19 #[.val (.int zu), .val (.int zq), .val (.ref zo), .unset, .unset, .unset, .unset, .unset, .unset, .unset, .unset, .unset] [(.int (1 : Int32)), (.int (1 : Int32)), (.ref zl), (.ref zl)])
  refine own_stI X36 hx hZ e36 f37 (j := (1 : Int32)) ⟨by decide, by decide⟩ (i := 1) rfl (Nat.le_of_ble_eq_true rfl) (hb hby at_19) ?_
  intro T49 h49 X49 e49 W49 V49
  have f50 : Arv Z h49 zl k25 .int (4 : Int32) [(.int (0 : Int32)), (.int (1 : Int32)), (.int (0 : Int32)), (.int (0 : Int32))] (.int (0 : Int32)) := V49
  have f51 : Exa Z h49 zo "com/example/ringspan/ringspan/symmetry/Orbits" := f38.wr W49
  have f52 : Fld Z h49 zo "com/example/ringspan/ringspan/symmetry/Orbits" "parents" "[I" (.ref zp) := f39.other W49 (Or.inl ne_zo_zl)
  have f53 : Fld Z h49 zo "com/example/ringspan/ringspan/symmetry/Orbits" "sizes" "[I" (.ref zs) := f40.other W49 (Or.inl ne_zo_zl)
  have f54 : Fld Z h49 zo "com/example/ringspan/ringspan/symmetry/Orbits" "marks" "[I" (.ref zm) := f41.other W49 (Or.inl ne_zo_zl)
  have f55 : Fld Z h49 zo "com/example/ringspan/ringspan/symmetry/Orbits" "count" "I" (.int 4) := f42.other W49 (Or.inl ne_zo_zl)
  have f56 : Arv Z h49 zp kp8 .int (4 : Int32) (List.map Value.int [0, 1, 2, 3]) (.int (0 : Int32)) := f43.other W49 ne_zp_zl
  have f57 : Arv Z h49 zs ks9 .int (4 : Int32) (List.map Value.int [1, 1, 1, 1]) (.int (0 : Int32)) := f44.other W49 ne_zs_zl
  have f58 : Arv Z h49 zm km10 .int (4 : Int32) (List.map Value.int [0, 0, 0, 0]) (.int (0 : Int32)) := f45.other W49 ne_zm_zl
  have K60 : Keep h0 h49 [] := K47.wr W49 (Or.inr sz_zl)
  have N61 := Fr.snoc X49 N48 g_zl
  show own_WP _ _ _ _ T49 (mkF m 20 #[.val (.int zu), .val (.int zq), .val (.ref zo), .unset, .unset, .unset, .unset, .unset, .unset, .unset, .unset, .unset] [(.ref zl)])
  refine own_go (fun t k => XS.dup X49.here hx rfl (hb hby at_20) rfl rfl k) ?_
  show own_WP _ _ _ _ T49 (mkF m 21 #[.val (.int zu), .val (.int zq), .val (.ref zo), .unset, .unset, .unset, .unset, .unset, .unset, .unset, .unset, .unset] [(.ref zl), (.ref zl)])
  refine own_go (fun t k => XS.iconst X49.here hx rfl (hb hby at_21) k) ?_
  show own_WP _ _ _ _ T49 (mkF m 22 #[.val (.int zu), .val (.int zq), .val (.ref zo), .unset, .unset, .unset, .unset, .unset, .unset, .unset, .unset, .unset] [(.int (2 : Int32)), (.ref zl), (.ref zl)])
  refine own_go (fun t k => XS.iconst X49.here hx rfl (hb hby at_22) k) ?_
  show own_WP _ _ _ _ T49 (mkF m 23 #[.val (.int zu), .val (.int zq), .val (.ref zo), .unset, .unset, .unset, .unset, .unset, .unset, .unset, .unset, .unset] [(.int (2 : Int32)), (.int (2 : Int32)), (.ref zl), (.ref zl)])
  refine own_stI X49 hx hZ e49 f50 (j := (2 : Int32)) ⟨by decide, by decide⟩ (i := 2) rfl (Nat.le_of_ble_eq_true rfl) (hb hby at_23) ?_
  intro T62 h62 X62 e62 W62 V62
  have f63 : Arv Z h62 zl k25 .int (4 : Int32) [(.int (0 : Int32)), (.int (1 : Int32)), (.int (2 : Int32)), (.int (0 : Int32))] (.int (0 : Int32)) := V62
  have f64 : Exa Z h62 zo "com/example/ringspan/ringspan/symmetry/Orbits" := f51.wr W62
  have f65 : Fld Z h62 zo "com/example/ringspan/ringspan/symmetry/Orbits" "parents" "[I" (.ref zp) := f52.other W62 (Or.inl ne_zo_zl)
  have f66 : Fld Z h62 zo "com/example/ringspan/ringspan/symmetry/Orbits" "sizes" "[I" (.ref zs) := f53.other W62 (Or.inl ne_zo_zl)
  have f67 : Fld Z h62 zo "com/example/ringspan/ringspan/symmetry/Orbits" "marks" "[I" (.ref zm) := f54.other W62 (Or.inl ne_zo_zl)
  have f68 : Fld Z h62 zo "com/example/ringspan/ringspan/symmetry/Orbits" "count" "I" (.int 4) := f55.other W62 (Or.inl ne_zo_zl)
  have f69 : Arv Z h62 zp kp8 .int (4 : Int32) (List.map Value.int [0, 1, 2, 3]) (.int (0 : Int32)) := f56.other W62 ne_zp_zl
  have f70 : Arv Z h62 zs ks9 .int (4 : Int32) (List.map Value.int [1, 1, 1, 1]) (.int (0 : Int32)) := f57.other W62 ne_zs_zl
  have f71 : Arv Z h62 zm km10 .int (4 : Int32) (List.map Value.int [0, 0, 0, 0]) (.int (0 : Int32)) := f58.other W62 ne_zm_zl
  have K73 : Keep h0 h62 [] := K60.wr W62 (Or.inr sz_zl)
  have N74 := Fr.snoc X62 N61 g_zl
  show own_WP _ _ _ _ T62 (mkF m 24 #[.val (.int zu), .val (.int zq), .val (.ref zo), .unset, .unset, .unset, .unset, .unset, .unset, .unset, .unset, .unset] [(.ref zl)])
  refine own_go (fun t k => XS.dup X62.here hx rfl (hb hby at_24) rfl rfl k) ?_
  show own_WP _ _ _ _ T62 (mkF m 25 #[.val (.int zu), .val (.int zq), .val (.ref zo), .unset, .unset, .unset, .unset, .unset, .unset, .unset, .unset, .unset] [(.ref zl), (.ref zl)])
  refine own_go (fun t k => XS.iconst X62.here hx rfl (hb hby at_25) k) ?_
  show own_WP _ _ _ _ T62 (mkF m 26 #[.val (.int zu), .val (.int zq), .val (.ref zo), .unset, .unset, .unset, .unset, .unset, .unset, .unset, .unset, .unset] [(.int (3 : Int32)), (.ref zl), (.ref zl)])
  refine own_go (fun t k => XS.iconst X62.here hx rfl (hb hby at_26) k) ?_
  show own_WP _ _ _ _ T62 (mkF m 27 #[.val (.int zu), .val (.int zq), .val (.ref zo), .unset, .unset, .unset, .unset, .unset, .unset, .unset, .unset, .unset] [(.int (3 : Int32)), (.int (3 : Int32)), (.ref zl), (.ref zl)])
  refine own_stI X62 hx hZ e62 f63 (j := (3 : Int32)) ⟨by decide, by decide⟩ (i := 3) rfl (Nat.le_of_ble_eq_true rfl) (hb hby at_27) ?_
  intro T75 h75 X75 e75 W75 V75
  have f76 : Arv Z h75 zl k25 .int (4 : Int32) [(.int (0 : Int32)), (.int (1 : Int32)), (.int (2 : Int32)), (.int (3 : Int32))] (.int (0 : Int32)) := V75
  have f77 : Exa Z h75 zo "com/example/ringspan/ringspan/symmetry/Orbits" := f64.wr W75
  have f78 : Fld Z h75 zo "com/example/ringspan/ringspan/symmetry/Orbits" "parents" "[I" (.ref zp) := f65.other W75 (Or.inl ne_zo_zl)
  have f79 : Fld Z h75 zo "com/example/ringspan/ringspan/symmetry/Orbits" "sizes" "[I" (.ref zs) := f66.other W75 (Or.inl ne_zo_zl)
  have f80 : Fld Z h75 zo "com/example/ringspan/ringspan/symmetry/Orbits" "marks" "[I" (.ref zm) := f67.other W75 (Or.inl ne_zo_zl)
  have f81 : Fld Z h75 zo "com/example/ringspan/ringspan/symmetry/Orbits" "count" "I" (.int 4) := f68.other W75 (Or.inl ne_zo_zl)
  have f82 : Arv Z h75 zp kp8 .int (4 : Int32) (List.map Value.int [0, 1, 2, 3]) (.int (0 : Int32)) := f69.other W75 ne_zp_zl
  have f83 : Arv Z h75 zs ks9 .int (4 : Int32) (List.map Value.int [1, 1, 1, 1]) (.int (0 : Int32)) := f70.other W75 ne_zs_zl
  have f84 : Arv Z h75 zm km10 .int (4 : Int32) (List.map Value.int [0, 0, 0, 0]) (.int (0 : Int32)) := f71.other W75 ne_zm_zl
  have K86 : Keep h0 h75 [] := K73.wr W75 (Or.inr sz_zl)
  have N87 := Fr.snoc X75 N74 g_zl
  show own_WP _ _ _ _ T75 (mkF m 28 #[.val (.int zu), .val (.int zq), .val (.ref zo), .unset, .unset, .unset, .unset, .unset, .unset, .unset, .unset, .unset] [(.ref zl)])
  refine own_go (fun t k => XS.astoreN X75.here hx rfl (hb hby at_28) rfl rfl (l' := #[.val (.int zu), .val (.int zq), .val (.ref zo), .val (.ref zl), .unset, .unset, .unset, .unset, .unset, .unset, .unset, .unset]) rfl k) ?_
  show own_WP _ _ _ _ T75 (mkF m 29 #[.val (.int zu), .val (.int zq), .val (.ref zo), .val (.ref zl), .unset, .unset, .unset, .unset, .unset, .unset, .unset, .unset] [])
  refine own_go (fun t k => XS.iloadN X75.here hx rfl (hb hby at_29) rfl  k) ?_
  show own_WP _ _ _ _ T75 (mkF m 30 #[.val (.int zu), .val (.int zq), .val (.ref zo), .val (.ref zl), .unset, .unset, .unset, .unset, .unset, .unset, .unset, .unset] [(.int zu)])
  refine own_go (fun t k => XS.iconst X75.here hx rfl (hb hby at_30) k) ?_
  show own_WP _ _ _ _ T75 (mkF m 31 #[.val (.int zu), .val (.int zq), .val (.ref zo), .val (.ref zl), .unset, .unset, .unset, .unset, .unset, .unset, .unset, .unset] [(.int (3 : Int32)), (.int zu)])
  refine own_go (fun t k => XS.iand X75.here hx rfl (hb hby at_31) rfl k) ?_
  show own_WP _ _ _ _ T75 (mkF m 32 #[.val (.int zu), .val (.int zq), .val (.ref zo), .val (.ref zl), .unset, .unset, .unset, .unset, .unset, .unset, .unset, .unset] [(.int (zu &&& (3 : Int32)))])
  generalize d_za1 : (zu &&& (3 : Int32)) = za1
  refine own_go (fun t k => XS.istore X75.here hx rfl (hb hby at_32) rfl (l' := #[.val (.int zu), .val (.int zq), .val (.ref zo), .val (.ref zl), .val (.int za1), .unset, .unset, .unset, .unset, .unset, .unset, .unset]) rfl k) ?_
  have i_za1 : own_in za1 := by rw [← d_za1]; exact own_m3 _
  show own_WP _ _ _ _ T75 (mkF m 34 #[.val (.int zu), .val (.int zq), .val (.ref zo), .val (.ref zl), .val (.int za1), .unset, .unset, .unset, .unset, .unset, .unset, .unset] [])
  refine own_go (fun t k => XS.iloadN X75.here hx rfl (hb hby at_34) rfl  k) ?_
  show own_WP _ _ _ _ T75 (mkF m 35 #[.val (.int zu), .val (.int zq), .val (.ref zo), .val (.ref zl), .val (.int za1), .unset, .unset, .unset, .unset, .unset, .unset, .unset] [(.int zu)])
  refine own_go (fun t k => XS.iconst X75.here hx rfl (hb hby at_35) k) ?_
  show own_WP _ _ _ _ T75 (mkF m 36 #[.val (.int zu), .val (.int zq), .val (.ref zo), .val (.ref zl), .val (.int za1), .unset, .unset, .unset, .unset, .unset, .unset, .unset] [(.int (2 : Int32)), (.int zu)])
  refine own_go (fun t k => XS.iushr X75.here hx rfl (hb hby at_36) rfl k) ?_
  show own_WP _ _ _ _ T75 (mkF m 37 #[.val (.int zu), .val (.int zq), .val (.ref zo), .val (.ref zl), .val (.int za1), .unset, .unset, .unset, .unset, .unset, .unset, .unset] [(.int ((zu.toUInt32 >>> ((2 : Int32) &&& 31).toUInt32).toInt32))])
  refine own_go (fun t k => XS.iconst X75.here hx rfl (hb hby at_37) k) ?_
  show own_WP _ _ _ _ T75 (mkF m 38 #[.val (.int zu), .val (.int zq), .val (.ref zo), .val (.ref zl), .val (.int za1), .unset, .unset, .unset, .unset, .unset, .unset, .unset] [(.int (3 : Int32)), (.int ((zu.toUInt32 >>> ((2 : Int32) &&& 31).toUInt32).toInt32))])
  refine own_go (fun t k => XS.iand X75.here hx rfl (hb hby at_38) rfl k) ?_
  show own_WP _ _ _ _ T75 (mkF m 39 #[.val (.int zu), .val (.int zq), .val (.ref zo), .val (.ref zl), .val (.int za1), .unset, .unset, .unset, .unset, .unset, .unset, .unset] [(.int (((zu.toUInt32 >>> ((2 : Int32) &&& 31).toUInt32).toInt32) &&& (3 : Int32)))])
  generalize d_zb1 : (((zu.toUInt32 >>> ((2 : Int32) &&& 31).toUInt32).toInt32) &&& (3 : Int32)) = zb1
  refine own_go (fun t k => XS.istore X75.here hx rfl (hb hby at_39) rfl (l' := #[.val (.int zu), .val (.int zq), .val (.ref zo), .val (.ref zl), .val (.int za1), .val (.int zb1), .unset, .unset, .unset, .unset, .unset, .unset]) rfl k) ?_
  have i_zb1 : own_in zb1 := by rw [← d_zb1]; exact own_m3 _
  show own_WP _ _ _ _ T75 (mkF m 41 #[.val (.int zu), .val (.int zq), .val (.ref zo), .val (.ref zl), .val (.int za1), .val (.int zb1), .unset, .unset, .unset, .unset, .unset, .unset] [])
  refine own_go (fun t k => XS.iloadN X75.here hx rfl (hb hby at_41) rfl  k) ?_
  show own_WP _ _ _ _ T75 (mkF m 42 #[.val (.int zu), .val (.int zq), .val (.ref zo), .val (.ref zl), .val (.int za1), .val (.int zb1), .unset, .unset, .unset, .unset, .unset, .unset] [(.int zu)])
  refine own_go (fun t k => XS.iconst X75.here hx rfl (hb hby at_42) k) ?_
  show own_WP _ _ _ _ T75 (mkF m 43 #[.val (.int zu), .val (.int zq), .val (.ref zo), .val (.ref zl), .val (.int za1), .val (.int zb1), .unset, .unset, .unset, .unset, .unset, .unset] [(.int (4 : Int32)), (.int zu)])
  refine own_go (fun t k => XS.iushr X75.here hx rfl (hb hby at_43) rfl k) ?_
  show own_WP _ _ _ _ T75 (mkF m 44 #[.val (.int zu), .val (.int zq), .val (.ref zo), .val (.ref zl), .val (.int za1), .val (.int zb1), .unset, .unset, .unset, .unset, .unset, .unset] [(.int ((zu.toUInt32 >>> ((4 : Int32) &&& 31).toUInt32).toInt32))])
  refine own_go (fun t k => XS.iconst X75.here hx rfl (hb hby at_44) k) ?_
  show own_WP _ _ _ _ T75 (mkF m 45 #[.val (.int zu), .val (.int zq), .val (.ref zo), .val (.ref zl), .val (.int za1), .val (.int zb1), .unset, .unset, .unset, .unset, .unset, .unset] [(.int (3 : Int32)), (.int ((zu.toUInt32 >>> ((4 : Int32) &&& 31).toUInt32).toInt32))])
  refine own_go (fun t k => XS.iand X75.here hx rfl (hb hby at_45) rfl k) ?_
  show own_WP _ _ _ _ T75 (mkF m 46 #[.val (.int zu), .val (.int zq), .val (.ref zo), .val (.ref zl), .val (.int za1), .val (.int zb1), .unset, .unset, .unset, .unset, .unset, .unset] [(.int (((zu.toUInt32 >>> ((4 : Int32) &&& 31).toUInt32).toInt32) &&& (3 : Int32)))])
  generalize d_za2 : (((zu.toUInt32 >>> ((4 : Int32) &&& 31).toUInt32).toInt32) &&& (3 : Int32)) = za2
  refine own_go (fun t k => XS.istore X75.here hx rfl (hb hby at_46) rfl (l' := #[.val (.int zu), .val (.int zq), .val (.ref zo), .val (.ref zl), .val (.int za1), .val (.int zb1), .val (.int za2), .unset, .unset, .unset, .unset, .unset]) rfl k) ?_
  have i_za2 : own_in za2 := by rw [← d_za2]; exact own_m3 _
  show own_WP _ _ _ _ T75 (mkF m 48 #[.val (.int zu), .val (.int zq), .val (.ref zo), .val (.ref zl), .val (.int za1), .val (.int zb1), .val (.int za2), .unset, .unset, .unset, .unset, .unset] [])
  refine own_go (fun t k => XS.iloadN X75.here hx rfl (hb hby at_48) rfl  k) ?_
  show own_WP _ _ _ _ T75 (mkF m 49 #[.val (.int zu), .val (.int zq), .val (.ref zo), .val (.ref zl), .val (.int za1), .val (.int zb1), .val (.int za2), .unset, .unset, .unset, .unset, .unset] [(.int zu)])
  refine own_go (fun t k => XS.bipush X75.here hx rfl (hb hby at_49) k) ?_
  show own_WP _ _ _ _ T75 (mkF m 51 #[.val (.int zu), .val (.int zq), .val (.ref zo), .val (.ref zl), .val (.int za1), .val (.int zb1), .val (.int za2), .unset, .unset, .unset, .unset, .unset] [(.int (6 : Int32)), (.int zu)])
  refine own_go (fun t k => XS.iushr X75.here hx rfl (hb hby at_51) rfl k) ?_
  show own_WP _ _ _ _ T75 (mkF m 52 #[.val (.int zu), .val (.int zq), .val (.ref zo), .val (.ref zl), .val (.int za1), .val (.int zb1), .val (.int za2), .unset, .unset, .unset, .unset, .unset] [(.int ((zu.toUInt32 >>> ((6 : Int32) &&& 31).toUInt32).toInt32))])
  refine own_go (fun t k => XS.iconst X75.here hx rfl (hb hby at_52) k) ?_
  show own_WP _ _ _ _ T75 (mkF m 53 #[.val (.int zu), .val (.int zq), .val (.ref zo), .val (.ref zl), .val (.int za1), .val (.int zb1), .val (.int za2), .unset, .unset, .unset, .unset, .unset] [(.int (3 : Int32)), (.int ((zu.toUInt32 >>> ((6 : Int32) &&& 31).toUInt32).toInt32))])
  refine own_go (fun t k => XS.iand X75.here hx rfl (hb hby at_53) rfl k) ?_
  show own_WP _ _ _ _ T75 (mkF m 54 #[.val (.int zu), .val (.int zq), .val (.ref zo), .val (.ref zl), .val (.int za1), .val (.int zb1), .val (.int za2), .unset, .unset, .unset, .unset, .unset] [(.int (((zu.toUInt32 >>> ((6 : Int32) &&& 31).toUInt32).toInt32) &&& (3 : Int32)))])
  generalize d_zb2 : (((zu.toUInt32 >>> ((6 : Int32) &&& 31).toUInt32).toInt32) &&& (3 : Int32)) = zb2
  refine own_go (fun t k => XS.istore X75.here hx rfl (hb hby at_54) rfl (l' := #[.val (.int zu), .val (.int zq), .val (.ref zo), .val (.ref zl), .val (.int za1), .val (.int zb1), .val (.int za2), .val (.int zb2), .unset, .unset, .unset, .unset]) rfl k) ?_
  have i_zb2 : own_in zb2 := by rw [← d_zb2]; exact own_m3 _
  show own_WP _ _ _ _ T75 (mkF m 56 #[.val (.int zu), .val (.int zq), .val (.ref zo), .val (.ref zl), .val (.int za1), .val (.int zb1), .val (.int za2), .val (.int zb2), .unset, .unset, .unset, .unset] [])
  refine own_go (fun t k => XS.iloadN X75.here hx rfl (hb hby at_56) rfl  k) ?_
  show own_WP _ _ _ _ T75 (mkF m 57 #[.val (.int zu), .val (.int zq), .val (.ref zo), .val (.ref zl), .val (.int za1), .val (.int zb1), .val (.int za2), .val (.int zb2), .unset, .unset, .unset, .unset] [(.int zu)])
  refine own_go (fun t k => XS.bipush X75.here hx rfl (hb hby at_57) k) ?_
  show own_WP _ _ _ _ T75 (mkF m 59 #[.val (.int zu), .val (.int zq), .val (.ref zo), .val (.ref zl), .val (.int za1), .val (.int zb1), .val (.int za2), .val (.int zb2), .unset, .unset, .unset, .unset] [(.int (8 : Int32)), (.int zu)])
  refine own_go (fun t k => XS.iushr X75.here hx rfl (hb hby at_59) rfl k) ?_
  show own_WP _ _ _ _ T75 (mkF m 60 #[.val (.int zu), .val (.int zq), .val (.ref zo), .val (.ref zl), .val (.int za1), .val (.int zb1), .val (.int za2), .val (.int zb2), .unset, .unset, .unset, .unset] [(.int ((zu.toUInt32 >>> ((8 : Int32) &&& 31).toUInt32).toInt32))])
  refine own_go (fun t k => XS.iconst X75.here hx rfl (hb hby at_60) k) ?_
  show own_WP _ _ _ _ T75 (mkF m 61 #[.val (.int zu), .val (.int zq), .val (.ref zo), .val (.ref zl), .val (.int za1), .val (.int zb1), .val (.int za2), .val (.int zb2), .unset, .unset, .unset, .unset] [(.int (3 : Int32)), (.int ((zu.toUInt32 >>> ((8 : Int32) &&& 31).toUInt32).toInt32))])
  refine own_go (fun t k => XS.iand X75.here hx rfl (hb hby at_61) rfl k) ?_
  show own_WP _ _ _ _ T75 (mkF m 62 #[.val (.int zu), .val (.int zq), .val (.ref zo), .val (.ref zl), .val (.int za1), .val (.int zb1), .val (.int za2), .val (.int zb2), .unset, .unset, .unset, .unset] [(.int (((zu.toUInt32 >>> ((8 : Int32) &&& 31).toUInt32).toInt32) &&& (3 : Int32)))])
  generalize d_za3 : (((zu.toUInt32 >>> ((8 : Int32) &&& 31).toUInt32).toInt32) &&& (3 : Int32)) = za3
  refine own_go (fun t k => XS.istore X75.here hx rfl (hb hby at_62) rfl (l' := #[.val (.int zu), .val (.int zq), .val (.ref zo), .val (.ref zl), .val (.int za1), .val (.int zb1), .val (.int za2), .val (.int zb2), .val (.int za3), .unset, .unset, .unset]) rfl k) ?_
  have i_za3 : own_in za3 := by rw [← d_za3]; exact own_m3 _
  show own_WP _ _ _ _ T75 (mkF m 64 #[.val (.int zu), .val (.int zq), .val (.ref zo), .val (.ref zl), .val (.int za1), .val (.int zb1), .val (.int za2), .val (.int zb2), .val (.int za3), .unset, .unset, .unset] [])
  refine own_go (fun t k => XS.iloadN X75.here hx rfl (hb hby at_64) rfl  k) ?_
  show own_WP _ _ _ _ T75 (mkF m 65 #[.val (.int zu), .val (.int zq), .val (.ref zo), .val (.ref zl), .val (.int za1), .val (.int zb1), .val (.int za2), .val (.int zb2), .val (.int za3), .unset, .unset, .unset] [(.int zu)])
  refine own_go (fun t k => XS.bipush X75.here hx rfl (hb hby at_65) k) ?_
  show own_WP _ _ _ _ T75 (mkF m 67 #[.val (.int zu), .val (.int zq), .val (.ref zo), .val (.ref zl), .val (.int za1), .val (.int zb1), .val (.int za2), .val (.int zb2), .val (.int za3), .unset, .unset, .unset] [(.int (10 : Int32)), (.int zu)])
  refine own_go (fun t k => XS.iushr X75.here hx rfl (hb hby at_67) rfl k) ?_
  show own_WP _ _ _ _ T75 (mkF m 68 #[.val (.int zu), .val (.int zq), .val (.ref zo), .val (.ref zl), .val (.int za1), .val (.int zb1), .val (.int za2), .val (.int zb2), .val (.int za3), .unset, .unset, .unset] [(.int ((zu.toUInt32 >>> ((10 : Int32) &&& 31).toUInt32).toInt32))])
  refine own_go (fun t k => XS.iconst X75.here hx rfl (hb hby at_68) k) ?_
  show own_WP _ _ _ _ T75 (mkF m 69 #[.val (.int zu), .val (.int zq), .val (.ref zo), .val (.ref zl), .val (.int za1), .val (.int zb1), .val (.int za2), .val (.int zb2), .val (.int za3), .unset, .unset, .unset] [(.int (3 : Int32)), (.int ((zu.toUInt32 >>> ((10 : Int32) &&& 31).toUInt32).toInt32))])
  refine own_go (fun t k => XS.iand X75.here hx rfl (hb hby at_69) rfl k) ?_
  show own_WP _ _ _ _ T75 (mkF m 70 #[.val (.int zu), .val (.int zq), .val (.ref zo), .val (.ref zl), .val (.int za1), .val (.int zb1), .val (.int za2), .val (.int zb2), .val (.int za3), .unset, .unset, .unset] [(.int (((zu.toUInt32 >>> ((10 : Int32) &&& 31).toUInt32).toInt32) &&& (3 : Int32)))])
  generalize d_zb3 : (((zu.toUInt32 >>> ((10 : Int32) &&& 31).toUInt32).toInt32) &&& (3 : Int32)) = zb3
  refine own_go (fun t k => XS.istore X75.here hx rfl (hb hby at_70) rfl (l' := #[.val (.int zu), .val (.int zq), .val (.ref zo), .val (.ref zl), .val (.int za1), .val (.int zb1), .val (.int za2), .val (.int zb2), .val (.int za3), .val (.int zb3), .unset, .unset]) rfl k) ?_
  have i_zb3 : own_in zb3 := by rw [← d_zb3]; exact own_m3 _
  have jv1 := own_ivs own_I0 i_za1 i_zb1
  show own_WP _ _ _ _ T75 (mkF m 72 #[.val (.int zu), .val (.int zq), .val (.ref zo), .val (.ref zl), .val (.int za1), .val (.int zb1), .val (.int za2), .val (.int zb2), .val (.int za3), .val (.int zb3), .unset, .unset] [])
  refine own_go (fun t k => XS.aloadN X75.here hx rfl (hb hby at_72) rfl rfl  k) ?_
  show own_WP _ _ _ _ T75 (mkF m 73 #[.val (.int zu), .val (.int zq), .val (.ref zo), .val (.ref zl), .val (.int za1), .val (.int zb1), .val (.int za2), .val (.int zb2), .val (.int za3), .val (.int zb3), .unset, .unset] [(.ref zo)])
  refine own_go (fun t k => XS.iload X75.here hx rfl (hb hby at_73) rfl  k) ?_
  show own_WP _ _ _ _ T75 (mkF m 75 #[.val (.int zu), .val (.int zq), .val (.ref zo), .val (.ref zl), .val (.int za1), .val (.int zb1), .val (.int za2), .val (.int zb2), .val (.int za3), .val (.int zb3), .unset, .unset] [(.int za1), (.ref zo)])
  refine own_go (fun t k => XS.iload X75.here hx rfl (hb hby at_75) rfl  k) ?_
  show own_WP _ _ _ _ T75 (mkF m 77 #[.val (.int zu), .val (.int zq), .val (.ref zo), .val (.ref zl), .val (.int za1), .val (.int zb1), .val (.int za2), .val (.int zb2), .val (.int za3), .val (.int zb3), .unset, .unset] [(.int zb1), (.int za1), (.ref zo)])
  obtain ⟨cq88, kq88, q88a, q88b, q88c⟩ := isOf hZ e75 f77
  obtain ⟨_, _, ⟨T88, L88, k88, n88⟩, -, X88, ⟨Lc88, hQ88, l88, y88, z88⟩, st88⟩ := X75.virtualBack hx (y := (⟨"com/example/ringspan/ringspan/symmetry/Orbits", "join", "(II)V"⟩ : MethodName)) (z := (⟨"com/example/ringspan/ringspan/symmetry/Orbits", "join", "(II)V"⟩ : MethodName)) hown (mvT hZ (hw _ (List.mem_of_getElem? (i := 18) rfl))) (mvT hZ (hw _ (List.mem_of_getElem? (i := 19) rfl))) (notFace_of_selects (args := #[]) (mvT hZ (hw _ (List.mem_of_getElem? (i := 21) rfl)))) (mvT hZ (hw _ (List.mem_of_getElem? (i := 21) rfl))) (mvT hZ (hw _ (List.mem_of_getElem? (i := 20) rfl))) (by decide) (backOf (W := 0) (rm3 l Z a0 hw [] zo za1 zb1 zp zs zm 4 kp8 [0, 1, 2, 3] ks9 [1, 1, 1, 1] km10 [0, 0, 0, 0] h75 n0 (own_le Z0 K86) f77 f78 f79 f80 f81 f82 f83 f84 g_zo g_zp g_zs g_zm ne_zo_zp ne_zo_zs ne_zo_zm hd1_7 hd2_7 hd3_7 (show own_al [0, 1, 2, 3] from jv1.2.1) (show own_in za1 from i_za1) (show own_in zb1 from i_zb1) (show own_ok 4 [0, 1, 2, 3] za1 = true from jv1.2.2.2.1) (show own_ok 4 (own_rt 4 [0, 1, 2, 3] za1).1 zb1 = true from jv1.2.2.2.2.1) (show [1, 1, 1, 1].length = 4 from jv1.2.2.2.2.2) (show [0, 0, 0, 0].length = 4 from rfl)) hZ (hw _ (List.mem_of_getElem? (i := 22) rfl)) (hw _ (List.mem_of_getElem? (i := 2) rfl)) (by decide) (by decide)) q88a q88c (g := (mkF m 77 #[.val (.int zu), .val (.int zq), .val (.ref zo), .val (.ref zl), .val (.int za1), .val (.int zb1), .val (.int za2), .val (.int zb2), .val (.int za3), .val (.int zb3), .unset, .unset] [(.int zb1), (.int za1), (.ref zo)])) rfl (by rw [hml]; rfl) (Steps.refl _) (argsL := [(.int za1), (.int zb1)]) (rest := []) (lenOf own_pd31101 rfl) rfl (by show 2 * 0 + _ ≤ _; exact Nat.le_of_eq rfl) (hb hby at_77) (fun _ _ => ⟨rfl, e75, (by decide : 5 + 0 ≤ _), (by decide : 20 + 0 ≤ _)⟩)
  dsimp only [Pt.U, Pt.locs, Pt.cells, Pt.slots] at X88 l88 y88 z88 st88 hQ88
  subst l88 y88 z88
  obtain ⟨rM89, rc90, rfl, N88q, Kc88, f91, f92, f93, f94, f95, f96, f97, f98, hM2_88⟩ := hQ88
  have N88 := Fr.app N87 N88q
  refine own_tr st88 ?_
  have f99 : Exa Z T88.heap zo "com/example/ringspan/ringspan/symmetry/Orbits" := f77.keep Kc88
  have f107 : Arv Z T88.heap zl k25 .int (4 : Int32) [(.int (0 : Int32)), (.int (1 : Int32)), (.int (2 : Int32)), (.int (3 : Int32))] (.int (0 : Int32)) := f76.keep Kc88 (own_nm4 (Ne.symm ne_zo_zl) (Ne.symm ne_zp_zl) (Ne.symm ne_zs_zl) (Ne.symm ne_zm_zl))
  have K108 : Keep h0 T88.heap [] := K86.trans Kc88 (fun x hx => by simp only [List.mem_cons, List.not_mem_nil, or_false] at hx; rcases hx with rfl | rfl | rfl | rfl <;> first | exact Or.inr sz_zo | exact Or.inr sz_zp | exact Or.inr sz_zs | exact Or.inr sz_zm)
  show own_WP _ _ _ _ T88 (mkF m 80 #[.val (.int zu), .val (.int zq), .val (.ref zo), .val (.ref zl), .val (.int za1), .val (.int zb1), .val (.int za2), .val (.int zb2), .val (.int za3), .val (.int zb3), .unset, .unset] [])
  refine own_go (fun t k => XS.aloadN X88.here hx rfl (hb hby at_80) rfl rfl  k) ?_
  show own_WP _ _ _ _ T88 (mkF m 81 #[.val (.int zu), .val (.int zq), .val (.ref zo), .val (.ref zl), .val (.int za1), .val (.int zb1), .val (.int za2), .val (.int zb2), .val (.int za3), .val (.int zb3), .unset, .unset] [(.ref zl)])
  refine own_go (fun t k => XS.iload X88.here hx rfl (hb hby at_81) rfl  k) ?_
  show own_WP _ _ _ _ T88 (mkF m 83 #[.val (.int zu), .val (.int zq), .val (.ref zo), .val (.ref zl), .val (.int za1), .val (.int zb1), .val (.int za2), .val (.int zb2), .val (.int za3), .val (.int zb3), .unset, .unset] [(.int za1), (.ref zl)])
  refine own_go (fun t k => XS.iload X88.here hx rfl (hb hby at_83) rfl  k) ?_
  show own_WP _ _ _ _ T88 (mkF m 85 #[.val (.int zu), .val (.int zq), .val (.ref zo), .val (.ref zl), .val (.int za1), .val (.int zb1), .val (.int za2), .val (.int zb2), .val (.int za3), .val (.int zb3), .unset, .unset] [(.int zb1), (.int za1), (.ref zl)])
  obtain ⟨_, _, ⟨T109, L109, k109, n109⟩, -, X109, ⟨Lc109, hQ109, l109, y109, z109⟩, st109⟩ := Jvm.LawKit.callS X88 hx (y := (⟨"com/example/ringspan/ringspan/symmetry/OrbitsRootPinLaw", "model", "([III)V"⟩ : MethodName)) hown (mvT hZ (hw _ (List.mem_of_getElem? (i := 28) rfl))) (mvT hZ (hw _ (List.mem_of_getElem? (i := 29) rfl))) (mvT hZ (hw _ (List.mem_of_getElem? (i := 30) rfl))) (mvT hZ (hw _ (List.mem_of_getElem? (i := 31) rfl))) (by decide) (backOf (W := 0) (rm5 l Z a0 hw [] zl za1 zb1 k25 [0, 1, 2, 3] T88.heap n0 (own_le Z0 K108) (f107) g_zl (show [0, 1, 2, 3].length = 4 from jv1.2.2.1.1) (show own_in za1 from i_za1) (show own_in zb1 from i_zb1)) hZ (hw _ (List.mem_of_getElem? (i := 31) rfl)) (hw _ (List.mem_of_getElem? (i := 30) rfl)) (by decide) (by decide)) (g := (mkF m 85 #[.val (.int zu), .val (.int zq), .val (.ref zo), .val (.ref zl), .val (.int za1), .val (.int zb1), .val (.int za2), .val (.int zb2), .val (.int za3), .val (.int zb3), .unset, .unset] [(.int zb1), (.int za1), (.ref zl)])) rfl (by rw [hml]; rfl) (argsL := [(.ref zl), (.int za1), (.int zb1)]) (rest := []) (lenOf own_pd87127 rfl) rfl (by show 2 * 0 + _ ≤ _; exact Nat.le_of_eq rfl) (hb hby at_85) (fun _ _ => ⟨rfl, rfl, (by decide : 5 + 0 ≤ _), (by decide : 20 + 0 ≤ _)⟩)
  dsimp only [Pt.U, Pt.locs, Pt.cells, Pt.slots] at X109 l109 y109 z109 st109 hQ109
  subst l109 y109 z109
  obtain ⟨rfl, N109q, Kc109, f110⟩ := hQ109
  have N109 := Fr.app N88 N109q
  refine own_go st109 ?_
  have f111 : Exa Z T109.heap zo "com/example/ringspan/ringspan/symmetry/Orbits" := f91.keep Kc109
  have f113 : Fld Z T109.heap zo "com/example/ringspan/ringspan/symmetry/Orbits" "parents" "[I" (.ref zp) := f92.keep Kc109 (own_nm ne_zo_zl)
  have f114 : Fld Z T109.heap zo "com/example/ringspan/ringspan/symmetry/Orbits" "sizes" "[I" (.ref zs) := f93.keep Kc109 (own_nm ne_zo_zl)
  have f115 : Fld Z T109.heap zo "com/example/ringspan/ringspan/symmetry/Orbits" "marks" "[I" (.ref zm) := f94.keep Kc109 (own_nm ne_zo_zl)
  have f116 : Fld Z T109.heap zo "com/example/ringspan/ringspan/symmetry/Orbits" "count" "I" (.int rc90) := f95.keep Kc109 (own_nm ne_zo_zl)
  have f117 : Arv Z T109.heap zp kp8 .int (4 : Int32) (List.map Value.int (own_jn [0, 1, 2, 3] [1, 1, 1, 1] za1 zb1).1) (.int (0 : Int32)) := f96.keep Kc109 (own_nm ne_zp_zl)
  have f118 : Arv Z T109.heap zs ks9 .int (4 : Int32) (List.map Value.int (own_jn [0, 1, 2, 3] [1, 1, 1, 1] za1 zb1).2) (.int (0 : Int32)) := f97.keep Kc109 (own_nm ne_zs_zl)
  have f119 : Arv Z T109.heap zm km10 .int (4 : Int32) (List.map Value.int rM89) (.int (0 : Int32)) := f98.keep Kc109 (own_nm ne_zm_zl)
  have K120 : Keep h0 T109.heap [] := K108.trans Kc109 (fun x hx => by cases List.mem_singleton.mp hx; exact Or.inr sz_zl)
  have jv2 := own_ivs jv1.1 i_za2 i_zb2
  show own_WP _ _ _ _ T109 (mkF m 88 #[.val (.int zu), .val (.int zq), .val (.ref zo), .val (.ref zl), .val (.int za1), .val (.int zb1), .val (.int za2), .val (.int zb2), .val (.int za3), .val (.int zb3), .unset, .unset] [])
  refine own_go (fun t k => XS.aloadN X109.here hx rfl (hb hby at_88) rfl rfl  k) ?_
  show own_WP _ _ _ _ T109 (mkF m 89 #[.val (.int zu), .val (.int zq), .val (.ref zo), .val (.ref zl), .val (.int za1), .val (.int zb1), .val (.int za2), .val (.int zb2), .val (.int za3), .val (.int zb3), .unset, .unset] [(.ref zo)])
  refine own_go (fun t k => XS.iload X109.here hx rfl (hb hby at_89) rfl  k) ?_
  show own_WP _ _ _ _ T109 (mkF m 91 #[.val (.int zu), .val (.int zq), .val (.ref zo), .val (.ref zl), .val (.int za1), .val (.int zb1), .val (.int za2), .val (.int zb2), .val (.int za3), .val (.int zb3), .unset, .unset] [(.int za2), (.ref zo)])
  refine own_go (fun t k => XS.iload X109.here hx rfl (hb hby at_91) rfl  k) ?_
  show own_WP _ _ _ _ T109 (mkF m 93 #[.val (.int zu), .val (.int zq), .val (.ref zo), .val (.ref zl), .val (.int za1), .val (.int zb1), .val (.int za2), .val (.int zb2), .val (.int za3), .val (.int zb3), .unset, .unset] [(.int zb2), (.int za2), (.ref zo)])
  obtain ⟨cq121, kq121, q121a, q121b, q121c⟩ := isOf hZ rfl f111
  obtain ⟨_, _, ⟨T121, L121, k121, n121⟩, -, X121, ⟨Lc121, hQ121, l121, y121, z121⟩, st121⟩ := X109.virtualBack hx (y := (⟨"com/example/ringspan/ringspan/symmetry/Orbits", "join", "(II)V"⟩ : MethodName)) (z := (⟨"com/example/ringspan/ringspan/symmetry/Orbits", "join", "(II)V"⟩ : MethodName)) hown (mvT hZ (hw _ (List.mem_of_getElem? (i := 18) rfl))) (mvT hZ (hw _ (List.mem_of_getElem? (i := 19) rfl))) (notFace_of_selects (args := #[]) (mvT hZ (hw _ (List.mem_of_getElem? (i := 21) rfl)))) (mvT hZ (hw _ (List.mem_of_getElem? (i := 21) rfl))) (mvT hZ (hw _ (List.mem_of_getElem? (i := 20) rfl))) (by decide) (backOf (W := 0) (rm3 l Z a0 hw [] zo za2 zb2 zp zs zm rc90 kp8 ((own_jn [0, 1, 2, 3] [1, 1, 1, 1] za1 zb1).1) ks9 ((own_jn [0, 1, 2, 3] [1, 1, 1, 1] za1 zb1).2) km10 rM89 T109.heap n0 (own_le Z0 K120) f111 f113 f114 f115 f116 f117 f118 f119 g_zo g_zp g_zs g_zm ne_zo_zp ne_zo_zs ne_zo_zm hd1_7 hd2_7 hd3_7 (show own_al (own_jn [0, 1, 2, 3] [1, 1, 1, 1] za1 zb1).1 from jv2.2.1) (show own_in za2 from i_za2) (show own_in zb2 from i_zb2) (show own_ok 4 (own_jn [0, 1, 2, 3] [1, 1, 1, 1] za1 zb1).1 za2 = true from jv2.2.2.2.1) (show own_ok 4 (own_rt 4 (own_jn [0, 1, 2, 3] [1, 1, 1, 1] za1 zb1).1 za2).1 zb2 = true from jv2.2.2.2.2.1) (show (own_jn [0, 1, 2, 3] [1, 1, 1, 1] za1 zb1).2.length = 4 from jv2.2.2.2.2.2) (show rM89.length = 4 from hM2_88)) hZ (hw _ (List.mem_of_getElem? (i := 22) rfl)) (hw _ (List.mem_of_getElem? (i := 2) rfl)) (by decide) (by decide)) q121a q121c (g := (mkF m 93 #[.val (.int zu), .val (.int zq), .val (.ref zo), .val (.ref zl), .val (.int za1), .val (.int zb1), .val (.int za2), .val (.int zb2), .val (.int za3), .val (.int zb3), .unset, .unset] [(.int zb2), (.int za2), (.ref zo)])) rfl (by rw [hml]; rfl) (Steps.refl _) (argsL := [(.int za2), (.int zb2)]) (rest := []) (lenOf own_pd31101 rfl) rfl (by show 2 * 0 + _ ≤ _; exact Nat.le_of_eq rfl) (hb hby at_93) (fun _ _ => ⟨rfl, rfl, (by decide : 5 + 0 ≤ _), (by decide : 20 + 0 ≤ _)⟩)
  dsimp only [Pt.U, Pt.locs, Pt.cells, Pt.slots] at X121 l121 y121 z121 st121 hQ121
  subst l121 y121 z121
  obtain ⟨rM122, rc123, rfl, N121q, Kc121, f124, f125, f126, f127, f128, f129, f130, f131, hM2_121⟩ := hQ121
  have N121 := Fr.app N109 N121q
  refine own_tr st121 ?_
  have f132 : Exa Z T121.heap zo "com/example/ringspan/ringspan/symmetry/Orbits" := f111.keep Kc121
  have f140 : Arv Z T121.heap zl k25 .int (4 : Int32) (List.map Value.int (own_md [0, 1, 2, 3] za1 zb1)) (.int (0 : Int32)) := f110.keep Kc121 (own_nm4 (Ne.symm ne_zo_zl) (Ne.symm ne_zp_zl) (Ne.symm ne_zs_zl) (Ne.symm ne_zm_zl))
  have K141 : Keep h0 T121.heap [] := K120.trans Kc121 (fun x hx => by simp only [List.mem_cons, List.not_mem_nil, or_false] at hx; rcases hx with rfl | rfl | rfl | rfl <;> first | exact Or.inr sz_zo | exact Or.inr sz_zp | exact Or.inr sz_zs | exact Or.inr sz_zm)
  show own_WP _ _ _ _ T121 (mkF m 96 #[.val (.int zu), .val (.int zq), .val (.ref zo), .val (.ref zl), .val (.int za1), .val (.int zb1), .val (.int za2), .val (.int zb2), .val (.int za3), .val (.int zb3), .unset, .unset] [])
  refine own_go (fun t k => XS.aloadN X121.here hx rfl (hb hby at_96) rfl rfl  k) ?_
  show own_WP _ _ _ _ T121 (mkF m 97 #[.val (.int zu), .val (.int zq), .val (.ref zo), .val (.ref zl), .val (.int za1), .val (.int zb1), .val (.int za2), .val (.int zb2), .val (.int za3), .val (.int zb3), .unset, .unset] [(.ref zl)])
  refine own_go (fun t k => XS.iload X121.here hx rfl (hb hby at_97) rfl  k) ?_
  show own_WP _ _ _ _ T121 (mkF m 99 #[.val (.int zu), .val (.int zq), .val (.ref zo), .val (.ref zl), .val (.int za1), .val (.int zb1), .val (.int za2), .val (.int zb2), .val (.int za3), .val (.int zb3), .unset, .unset] [(.int za2), (.ref zl)])
  refine own_go (fun t k => XS.iload X121.here hx rfl (hb hby at_99) rfl  k) ?_
  show own_WP _ _ _ _ T121 (mkF m 101 #[.val (.int zu), .val (.int zq), .val (.ref zo), .val (.ref zl), .val (.int za1), .val (.int zb1), .val (.int za2), .val (.int zb2), .val (.int za3), .val (.int zb3), .unset, .unset] [(.int zb2), (.int za2), (.ref zl)])
  obtain ⟨_, _, ⟨T142, L142, k142, n142⟩, -, X142, ⟨Lc142, hQ142, l142, y142, z142⟩, st142⟩ := Jvm.LawKit.callS X121 hx (y := (⟨"com/example/ringspan/ringspan/symmetry/OrbitsRootPinLaw", "model", "([III)V"⟩ : MethodName)) hown (mvT hZ (hw _ (List.mem_of_getElem? (i := 28) rfl))) (mvT hZ (hw _ (List.mem_of_getElem? (i := 29) rfl))) (mvT hZ (hw _ (List.mem_of_getElem? (i := 30) rfl))) (mvT hZ (hw _ (List.mem_of_getElem? (i := 31) rfl))) (by decide) (backOf (W := 0) (rm5 l Z a0 hw [] zl za2 zb2 k25 (own_md [0, 1, 2, 3] za1 zb1) T121.heap n0 (own_le Z0 K141) f140 g_zl (show (own_md [0, 1, 2, 3] za1 zb1).length = 4 from jv2.2.2.1.1) (show own_in za2 from i_za2) (show own_in zb2 from i_zb2)) hZ (hw _ (List.mem_of_getElem? (i := 31) rfl)) (hw _ (List.mem_of_getElem? (i := 30) rfl)) (by decide) (by decide)) (g := (mkF m 101 #[.val (.int zu), .val (.int zq), .val (.ref zo), .val (.ref zl), .val (.int za1), .val (.int zb1), .val (.int za2), .val (.int zb2), .val (.int za3), .val (.int zb3), .unset, .unset] [(.int zb2), (.int za2), (.ref zl)])) rfl (by rw [hml]; rfl) (argsL := [(.ref zl), (.int za2), (.int zb2)]) (rest := []) (lenOf own_pd87127 rfl) rfl (by show 2 * 0 + _ ≤ _; exact Nat.le_of_eq rfl) (hb hby at_101) (fun _ _ => ⟨rfl, rfl, (by decide : 5 + 0 ≤ _), (by decide : 20 + 0 ≤ _)⟩)
  dsimp only [Pt.U, Pt.locs, Pt.cells, Pt.slots] at X142 l142 y142 z142 st142 hQ142
  subst l142 y142 z142
  obtain ⟨rfl, N142q, Kc142, f143⟩ := hQ142
  have N142 := Fr.app N121 N142q
  refine own_go st142 ?_
  have f144 : Exa Z T142.heap zo "com/example/ringspan/ringspan/symmetry/Orbits" := f124.keep Kc142
  have f146 : Fld Z T142.heap zo "com/example/ringspan/ringspan/symmetry/Orbits" "parents" "[I" (.ref zp) := f125.keep Kc142 (own_nm ne_zo_zl)
  have f147 : Fld Z T142.heap zo "com/example/ringspan/ringspan/symmetry/Orbits" "sizes" "[I" (.ref zs) := f126.keep Kc142 (own_nm ne_zo_zl)
  have f148 : Fld Z T142.heap zo "com/example/ringspan/ringspan/symmetry/Orbits" "marks" "[I" (.ref zm) := f127.keep Kc142 (own_nm ne_zo_zl)
  have f149 : Fld Z T142.heap zo "com/example/ringspan/ringspan/symmetry/Orbits" "count" "I" (.int rc123) := f128.keep Kc142 (own_nm ne_zo_zl)
  have f150 : Arv Z T142.heap zp kp8 .int (4 : Int32) (List.map Value.int (own_jn (own_jn [0, 1, 2, 3] [1, 1, 1, 1] za1 zb1).1 (own_jn [0, 1, 2, 3] [1, 1, 1, 1] za1 zb1).2 za2 zb2).1) (.int (0 : Int32)) := f129.keep Kc142 (own_nm ne_zp_zl)
  have f151 : Arv Z T142.heap zs ks9 .int (4 : Int32) (List.map Value.int (own_jn (own_jn [0, 1, 2, 3] [1, 1, 1, 1] za1 zb1).1 (own_jn [0, 1, 2, 3] [1, 1, 1, 1] za1 zb1).2 za2 zb2).2) (.int (0 : Int32)) := f130.keep Kc142 (own_nm ne_zs_zl)
  have f152 : Arv Z T142.heap zm km10 .int (4 : Int32) (List.map Value.int rM122) (.int (0 : Int32)) := f131.keep Kc142 (own_nm ne_zm_zl)
  have K153 : Keep h0 T142.heap [] := K141.trans Kc142 (fun x hx => by cases List.mem_singleton.mp hx; exact Or.inr sz_zl)
  have jv3 := own_ivs jv2.1 i_za3 i_zb3
  show own_WP _ _ _ _ T142 (mkF m 104 #[.val (.int zu), .val (.int zq), .val (.ref zo), .val (.ref zl), .val (.int za1), .val (.int zb1), .val (.int za2), .val (.int zb2), .val (.int za3), .val (.int zb3), .unset, .unset] [])
  refine own_go (fun t k => XS.aloadN X142.here hx rfl (hb hby at_104) rfl rfl  k) ?_
  show own_WP _ _ _ _ T142 (mkF m 105 #[.val (.int zu), .val (.int zq), .val (.ref zo), .val (.ref zl), .val (.int za1), .val (.int zb1), .val (.int za2), .val (.int zb2), .val (.int za3), .val (.int zb3), .unset, .unset] [(.ref zo)])
  refine own_go (fun t k => XS.iload X142.here hx rfl (hb hby at_105) rfl  k) ?_
  show own_WP _ _ _ _ T142 (mkF m 107 #[.val (.int zu), .val (.int zq), .val (.ref zo), .val (.ref zl), .val (.int za1), .val (.int zb1), .val (.int za2), .val (.int zb2), .val (.int za3), .val (.int zb3), .unset, .unset] [(.int za3), (.ref zo)])
  refine own_go (fun t k => XS.iload X142.here hx rfl (hb hby at_107) rfl  k) ?_
  show own_WP _ _ _ _ T142 (mkF m 109 #[.val (.int zu), .val (.int zq), .val (.ref zo), .val (.ref zl), .val (.int za1), .val (.int zb1), .val (.int za2), .val (.int zb2), .val (.int za3), .val (.int zb3), .unset, .unset] [(.int zb3), (.int za3), (.ref zo)])
  obtain ⟨cq154, kq154, q154a, q154b, q154c⟩ := isOf hZ rfl f144
  obtain ⟨_, _, ⟨T154, L154, k154, n154⟩, -, X154, ⟨Lc154, hQ154, l154, y154, z154⟩, st154⟩ := X142.virtualBack hx (y := (⟨"com/example/ringspan/ringspan/symmetry/Orbits", "join", "(II)V"⟩ : MethodName)) (z := (⟨"com/example/ringspan/ringspan/symmetry/Orbits", "join", "(II)V"⟩ : MethodName)) hown (mvT hZ (hw _ (List.mem_of_getElem? (i := 18) rfl))) (mvT hZ (hw _ (List.mem_of_getElem? (i := 19) rfl))) (notFace_of_selects (args := #[]) (mvT hZ (hw _ (List.mem_of_getElem? (i := 21) rfl)))) (mvT hZ (hw _ (List.mem_of_getElem? (i := 21) rfl))) (mvT hZ (hw _ (List.mem_of_getElem? (i := 20) rfl))) (by decide) (backOf (W := 0) (rm3 l Z a0 hw [] zo za3 zb3 zp zs zm rc123 kp8 ((own_jn (own_jn [0, 1, 2, 3] [1, 1, 1, 1] za1 zb1).1 (own_jn [0, 1, 2, 3] [1, 1, 1, 1] za1 zb1).2 za2 zb2).1) ks9 ((own_jn (own_jn [0, 1, 2, 3] [1, 1, 1, 1] za1 zb1).1 (own_jn [0, 1, 2, 3] [1, 1, 1, 1] za1 zb1).2 za2 zb2).2) km10 rM122 T142.heap n0 (own_le Z0 K153) f144 f146 f147 f148 f149 f150 f151 f152 g_zo g_zp g_zs g_zm ne_zo_zp ne_zo_zs ne_zo_zm hd1_7 hd2_7 hd3_7 (show own_al (own_jn (own_jn [0, 1, 2, 3] [1, 1, 1, 1] za1 zb1).1 (own_jn [0, 1, 2, 3] [1, 1, 1, 1] za1 zb1).2 za2 zb2).1 from jv3.2.1) (show own_in za3 from i_za3) (show own_in zb3 from i_zb3) (show own_ok 4 (own_jn (own_jn [0, 1, 2, 3] [1, 1, 1, 1] za1 zb1).1 (own_jn [0, 1, 2, 3] [1, 1, 1, 1] za1 zb1).2 za2 zb2).1 za3 = true from jv3.2.2.2.1) (show own_ok 4 (own_rt 4 (own_jn (own_jn [0, 1, 2, 3] [1, 1, 1, 1] za1 zb1).1 (own_jn [0, 1, 2, 3] [1, 1, 1, 1] za1 zb1).2 za2 zb2).1 za3).1 zb3 = true from jv3.2.2.2.2.1) (show (own_jn (own_jn [0, 1, 2, 3] [1, 1, 1, 1] za1 zb1).1 (own_jn [0, 1, 2, 3] [1, 1, 1, 1] za1 zb1).2 za2 zb2).2.length = 4 from jv3.2.2.2.2.2) (show rM122.length = 4 from hM2_121)) hZ (hw _ (List.mem_of_getElem? (i := 22) rfl)) (hw _ (List.mem_of_getElem? (i := 2) rfl)) (by decide) (by decide)) q154a q154c (g := (mkF m 109 #[.val (.int zu), .val (.int zq), .val (.ref zo), .val (.ref zl), .val (.int za1), .val (.int zb1), .val (.int za2), .val (.int zb2), .val (.int za3), .val (.int zb3), .unset, .unset] [(.int zb3), (.int za3), (.ref zo)])) rfl (by rw [hml]; rfl) (Steps.refl _) (argsL := [(.int za3), (.int zb3)]) (rest := []) (lenOf own_pd31101 rfl) rfl (by show 2 * 0 + _ ≤ _; exact Nat.le_of_eq rfl) (hb hby at_109) (fun _ _ => ⟨rfl, rfl, (by decide : 5 + 0 ≤ _), (by decide : 20 + 0 ≤ _)⟩)
  dsimp only [Pt.U, Pt.locs, Pt.cells, Pt.slots] at X154 l154 y154 z154 st154 hQ154
  subst l154 y154 z154
  obtain ⟨rM155, rc156, rfl, N154q, Kc154, f157, f158, f159, f160, f161, f162, f163, f164, hM2_154⟩ := hQ154
  have N154 := Fr.app N142 N154q
  refine own_tr st154 ?_
  have f165 : Exa Z T154.heap zo "com/example/ringspan/ringspan/symmetry/Orbits" := f144.keep Kc154
  have f173 : Arv Z T154.heap zl k25 .int (4 : Int32) (List.map Value.int (own_md (own_md [0, 1, 2, 3] za1 zb1) za2 zb2)) (.int (0 : Int32)) := f143.keep Kc154 (own_nm4 (Ne.symm ne_zo_zl) (Ne.symm ne_zp_zl) (Ne.symm ne_zs_zl) (Ne.symm ne_zm_zl))
  have K174 : Keep h0 T154.heap [] := K153.trans Kc154 (fun x hx => by simp only [List.mem_cons, List.not_mem_nil, or_false] at hx; rcases hx with rfl | rfl | rfl | rfl <;> first | exact Or.inr sz_zo | exact Or.inr sz_zp | exact Or.inr sz_zs | exact Or.inr sz_zm)
  show own_WP _ _ _ _ T154 (mkF m 112 #[.val (.int zu), .val (.int zq), .val (.ref zo), .val (.ref zl), .val (.int za1), .val (.int zb1), .val (.int za2), .val (.int zb2), .val (.int za3), .val (.int zb3), .unset, .unset] [])
  refine own_go (fun t k => XS.aloadN X154.here hx rfl (hb hby at_112) rfl rfl  k) ?_
  show own_WP _ _ _ _ T154 (mkF m 113 #[.val (.int zu), .val (.int zq), .val (.ref zo), .val (.ref zl), .val (.int za1), .val (.int zb1), .val (.int za2), .val (.int zb2), .val (.int za3), .val (.int zb3), .unset, .unset] [(.ref zl)])
  refine own_go (fun t k => XS.iload X154.here hx rfl (hb hby at_113) rfl  k) ?_
  show own_WP _ _ _ _ T154 (mkF m 115 #[.val (.int zu), .val (.int zq), .val (.ref zo), .val (.ref zl), .val (.int za1), .val (.int zb1), .val (.int za2), .val (.int zb2), .val (.int za3), .val (.int zb3), .unset, .unset] [(.int za3), (.ref zl)])
  refine own_go (fun t k => XS.iload X154.here hx rfl (hb hby at_115) rfl  k) ?_
  show own_WP _ _ _ _ T154 (mkF m 117 #[.val (.int zu), .val (.int zq), .val (.ref zo), .val (.ref zl), .val (.int za1), .val (.int zb1), .val (.int za2), .val (.int zb2), .val (.int za3), .val (.int zb3), .unset, .unset] [(.int zb3), (.int za3), (.ref zl)])
  obtain ⟨_, _, ⟨T175, L175, k175, n175⟩, -, X175, ⟨Lc175, hQ175, l175, y175, z175⟩, st175⟩ := Jvm.LawKit.callS X154 hx (y := (⟨"com/example/ringspan/ringspan/symmetry/OrbitsRootPinLaw", "model", "([III)V"⟩ : MethodName)) hown (mvT hZ (hw _ (List.mem_of_getElem? (i := 28) rfl))) (mvT hZ (hw _ (List.mem_of_getElem? (i := 29) rfl))) (mvT hZ (hw _ (List.mem_of_getElem? (i := 30) rfl))) (mvT hZ (hw _ (List.mem_of_getElem? (i := 31) rfl))) (by decide) (backOf (W := 0) (rm5 l Z a0 hw [] zl za3 zb3 k25 (own_md (own_md [0, 1, 2, 3] za1 zb1) za2 zb2) T154.heap n0 (own_le Z0 K174) f173 g_zl (show (own_md (own_md [0, 1, 2, 3] za1 zb1) za2 zb2).length = 4 from jv3.2.2.1.1) (show own_in za3 from i_za3) (show own_in zb3 from i_zb3)) hZ (hw _ (List.mem_of_getElem? (i := 31) rfl)) (hw _ (List.mem_of_getElem? (i := 30) rfl)) (by decide) (by decide)) (g := (mkF m 117 #[.val (.int zu), .val (.int zq), .val (.ref zo), .val (.ref zl), .val (.int za1), .val (.int zb1), .val (.int za2), .val (.int zb2), .val (.int za3), .val (.int zb3), .unset, .unset] [(.int zb3), (.int za3), (.ref zl)])) rfl (by rw [hml]; rfl) (argsL := [(.ref zl), (.int za3), (.int zb3)]) (rest := []) (lenOf own_pd87127 rfl) rfl (by show 2 * 0 + _ ≤ _; exact Nat.le_of_eq rfl) (hb hby at_117) (fun _ _ => ⟨rfl, rfl, (by decide : 5 + 0 ≤ _), (by decide : 20 + 0 ≤ _)⟩)
  dsimp only [Pt.U, Pt.locs, Pt.cells, Pt.slots] at X175 l175 y175 z175 st175 hQ175
  subst l175 y175 z175
  obtain ⟨rfl, N175q, Kc175, f176⟩ := hQ175
  have N175 := Fr.app N154 N175q
  refine own_go st175 ?_
  have f177 : Exa Z T175.heap zo "com/example/ringspan/ringspan/symmetry/Orbits" := f157.keep Kc175
  have f179 : Fld Z T175.heap zo "com/example/ringspan/ringspan/symmetry/Orbits" "parents" "[I" (.ref zp) := f158.keep Kc175 (own_nm ne_zo_zl)
  have f180 : Fld Z T175.heap zo "com/example/ringspan/ringspan/symmetry/Orbits" "sizes" "[I" (.ref zs) := f159.keep Kc175 (own_nm ne_zo_zl)
  have f181 : Fld Z T175.heap zo "com/example/ringspan/ringspan/symmetry/Orbits" "marks" "[I" (.ref zm) := f160.keep Kc175 (own_nm ne_zo_zl)
  have f182 : Fld Z T175.heap zo "com/example/ringspan/ringspan/symmetry/Orbits" "count" "I" (.int rc156) := f161.keep Kc175 (own_nm ne_zo_zl)
  have f183 : Arv Z T175.heap zp kp8 .int (4 : Int32) (List.map Value.int (own_jn (own_jn (own_jn [0, 1, 2, 3] [1, 1, 1, 1] za1 zb1).1 (own_jn [0, 1, 2, 3] [1, 1, 1, 1] za1 zb1).2 za2 zb2).1 (own_jn (own_jn [0, 1, 2, 3] [1, 1, 1, 1] za1 zb1).1 (own_jn [0, 1, 2, 3] [1, 1, 1, 1] za1 zb1).2 za2 zb2).2 za3 zb3).1) (.int (0 : Int32)) := f162.keep Kc175 (own_nm ne_zp_zl)
  have f184 : Arv Z T175.heap zs ks9 .int (4 : Int32) (List.map Value.int (own_jn (own_jn (own_jn [0, 1, 2, 3] [1, 1, 1, 1] za1 zb1).1 (own_jn [0, 1, 2, 3] [1, 1, 1, 1] za1 zb1).2 za2 zb2).1 (own_jn (own_jn [0, 1, 2, 3] [1, 1, 1, 1] za1 zb1).1 (own_jn [0, 1, 2, 3] [1, 1, 1, 1] za1 zb1).2 za2 zb2).2 za3 zb3).2) (.int (0 : Int32)) := f163.keep Kc175 (own_nm ne_zs_zl)
  have f185 : Arv Z T175.heap zm km10 .int (4 : Int32) (List.map Value.int rM155) (.int (0 : Int32)) := f164.keep Kc175 (own_nm ne_zm_zl)
  have K186 : Keep h0 T175.heap [] := K174.trans Kc175 (fun x hx => by cases List.mem_singleton.mp hx; exact Or.inr sz_zl)
  have rv0 := own_irs jv3.1.1 (x := 0) (by decide)
  show own_WP _ _ _ _ T175 (mkF m 120 #[.val (.int zu), .val (.int zq), .val (.ref zo), .val (.ref zl), .val (.int za1), .val (.int zb1), .val (.int za2), .val (.int zb2), .val (.int za3), .val (.int zb3), .unset, .unset] [])
  refine own_go (fun t k => XS.aloadN X175.here hx rfl (hb hby at_120) rfl rfl  k) ?_
  show own_WP _ _ _ _ T175 (mkF m 121 #[.val (.int zu), .val (.int zq), .val (.ref zo), .val (.ref zl), .val (.int za1), .val (.int zb1), .val (.int za2), .val (.int zb2), .val (.int za3), .val (.int zb3), .unset, .unset] [(.ref zo)])
  refine own_go (fun t k => XS.iconst X175.here hx rfl (hb hby at_121) k) ?_
  show own_WP _ _ _ _ T175 (mkF m 122 #[.val (.int zu), .val (.int zq), .val (.ref zo), .val (.ref zl), .val (.int za1), .val (.int zb1), .val (.int za2), .val (.int zb2), .val (.int za3), .val (.int zb3), .unset, .unset] [(.int (0 : Int32)), (.ref zo)])
  obtain ⟨cq187, kq187, q187a, q187b, q187c⟩ := isOf hZ rfl f177
  obtain ⟨_, _, ⟨T187, L187, k187, n187⟩, -, X187, ⟨Lc187, hQ187, l187, y187, z187⟩, st187⟩ := X175.virtualBack hx (y := (⟨"com/example/ringspan/ringspan/symmetry/Orbits", "root", "(I)I"⟩ : MethodName)) (z := (⟨"com/example/ringspan/ringspan/symmetry/Orbits", "root", "(I)I"⟩ : MethodName)) hown (mvT hZ (hw _ (List.mem_of_getElem? (i := 32) rfl))) (mvT hZ (hw _ (List.mem_of_getElem? (i := 24) rfl))) (notFace_of_selects (args := #[]) (mvT hZ (hw _ (List.mem_of_getElem? (i := 26) rfl)))) (mvT hZ (hw _ (List.mem_of_getElem? (i := 26) rfl))) (mvT hZ (hw _ (List.mem_of_getElem? (i := 25) rfl))) (by decide) (backOf (W := 0) (rm4 l Z a0 hw [] zo (0 : Int32) zp kp8 ((own_jn (own_jn (own_jn [0, 1, 2, 3] [1, 1, 1, 1] za1 zb1).1 (own_jn [0, 1, 2, 3] [1, 1, 1, 1] za1 zb1).2 za2 zb2).1 (own_jn (own_jn [0, 1, 2, 3] [1, 1, 1, 1] za1 zb1).1 (own_jn [0, 1, 2, 3] [1, 1, 1, 1] za1 zb1).2 za2 zb2).2 za3 zb3).1) T175.heap n0 (own_le Z0 K186) f179 f183 g_zp ne_zo_zp (show own_al (own_jn (own_jn (own_jn [0, 1, 2, 3] [1, 1, 1, 1] za1 zb1).1 (own_jn [0, 1, 2, 3] [1, 1, 1, 1] za1 zb1).2 za2 zb2).1 (own_jn (own_jn [0, 1, 2, 3] [1, 1, 1, 1] za1 zb1).1 (own_jn [0, 1, 2, 3] [1, 1, 1, 1] za1 zb1).2 za2 zb2).2 za3 zb3).1 from own_val jv3.1.1.1) (show own_in (0 : Int32) from by decide) (show own_ok 4 (own_jn (own_jn (own_jn [0, 1, 2, 3] [1, 1, 1, 1] za1 zb1).1 (own_jn [0, 1, 2, 3] [1, 1, 1, 1] za1 zb1).2 za2 zb2).1 (own_jn (own_jn [0, 1, 2, 3] [1, 1, 1, 1] za1 zb1).1 (own_jn [0, 1, 2, 3] [1, 1, 1, 1] za1 zb1).2 za2 zb2).2 za3 zb3).1 (0 : Int32) = true from rv0.2.2.1)) hZ (hw _ (List.mem_of_getElem? (i := 27) rfl)) (hw _ (List.mem_of_getElem? (i := 2) rfl)) (by decide) (by decide)) q187a q187c (g := (mkF m 122 #[.val (.int zu), .val (.int zq), .val (.ref zo), .val (.ref zl), .val (.int za1), .val (.int zb1), .val (.int za2), .val (.int zb2), .val (.int za3), .val (.int zb3), .unset, .unset] [(.int (0 : Int32)), (.ref zo)])) rfl (by rw [hml]; rfl) (Steps.refl _) (argsL := [(.int (0 : Int32))]) (rest := []) (lenOf own_pd81837 rfl) rfl (by show 2 * 0 + _ ≤ _; exact Nat.le_of_eq rfl) (hb hby at_122) (fun _ _ => ⟨rfl, rfl, (by decide : 5 + 0 ≤ _), (by decide : 20 + 0 ≤ _)⟩)
  dsimp only [Pt.U, Pt.locs, Pt.cells, Pt.slots] at X187 l187 y187 z187 st187 hQ187
  subst l187 y187 z187
  obtain ⟨rfl, N187q, Kc187, f188⟩ := hQ187
  have N187 := Fr.app N175 N187q
  refine own_tr st187 ?_
  have f189 : Exa Z T187.heap zo "com/example/ringspan/ringspan/symmetry/Orbits" := f177.keep Kc187
  have f190 : Fld Z T187.heap zo "com/example/ringspan/ringspan/symmetry/Orbits" "parents" "[I" (.ref zp) := f179.keep Kc187 (own_nm ne_zo_zp)
  have f191 : Fld Z T187.heap zo "com/example/ringspan/ringspan/symmetry/Orbits" "sizes" "[I" (.ref zs) := f180.keep Kc187 (own_nm ne_zo_zp)
  have f192 : Fld Z T187.heap zo "com/example/ringspan/ringspan/symmetry/Orbits" "marks" "[I" (.ref zm) := f181.keep Kc187 (own_nm ne_zo_zp)
  have f193 : Fld Z T187.heap zo "com/example/ringspan/ringspan/symmetry/Orbits" "count" "I" (.int rc156) := f182.keep Kc187 (own_nm ne_zo_zp)
  have f195 : Arv Z T187.heap zs ks9 .int (4 : Int32) (List.map Value.int (own_jn (own_jn (own_jn [0, 1, 2, 3] [1, 1, 1, 1] za1 zb1).1 (own_jn [0, 1, 2, 3] [1, 1, 1, 1] za1 zb1).2 za2 zb2).1 (own_jn (own_jn [0, 1, 2, 3] [1, 1, 1, 1] za1 zb1).1 (own_jn [0, 1, 2, 3] [1, 1, 1, 1] za1 zb1).2 za2 zb2).2 za3 zb3).2) (.int (0 : Int32)) := f184.keep Kc187 (own_nm (Ne.symm hd1_7))
  have f196 : Arv Z T187.heap zm km10 .int (4 : Int32) (List.map Value.int rM155) (.int (0 : Int32)) := f185.keep Kc187 (own_nm (Ne.symm hd2_7))
  have f197 : Arv Z T187.heap zl k25 .int (4 : Int32) (List.map Value.int (own_md (own_md (own_md [0, 1, 2, 3] za1 zb1) za2 zb2) za3 zb3)) (.int (0 : Int32)) := f176.keep Kc187 (own_nm (Ne.symm ne_zp_zl))
  have K198 : Keep h0 T187.heap [] := K186.trans Kc187 (fun x hx => by cases List.mem_singleton.mp hx; exact Or.inr sz_zp)
  show own_WP _ _ _ _ T187 (mkF m 125 #[.val (.int zu), .val (.int zq), .val (.ref zo), .val (.ref zl), .val (.int za1), .val (.int zb1), .val (.int za2), .val (.int zb2), .val (.int za3), .val (.int zb3), .unset, .unset] [(.int (own_rt 4 (own_jn (own_jn (own_jn [0, 1, 2, 3] [1, 1, 1, 1] za1 zb1).1 (own_jn [0, 1, 2, 3] [1, 1, 1, 1] za1 zb1).2 za2 zb2).1 (own_jn (own_jn [0, 1, 2, 3] [1, 1, 1, 1] za1 zb1).1 (own_jn [0, 1, 2, 3] [1, 1, 1, 1] za1 zb1).2 za2 zb2).2 za3 zb3).1 (0 : Int32)).2)])
  refine own_go (fun t k => XS.aloadN X187.here hx rfl (hb hby at_125) rfl rfl  k) ?_
  show own_WP _ _ _ _ T187 (mkF m 126 #[.val (.int zu), .val (.int zq), .val (.ref zo), .val (.ref zl), .val (.int za1), .val (.int zb1), .val (.int za2), .val (.int zb2), .val (.int za3), .val (.int zb3), .unset, .unset] [(.ref zl), (.int (own_rt 4 (own_jn (own_jn (own_jn [0, 1, 2, 3] [1, 1, 1, 1] za1 zb1).1 (own_jn [0, 1, 2, 3] [1, 1, 1, 1] za1 zb1).2 za2 zb2).1 (own_jn (own_jn [0, 1, 2, 3] [1, 1, 1, 1] za1 zb1).1 (own_jn [0, 1, 2, 3] [1, 1, 1, 1] za1 zb1).2 za2 zb2).2 za3 zb3).1 (0 : Int32)).2)])
  refine own_go (fun t k => XS.iconst X187.here hx rfl (hb hby at_126) k) ?_
  show own_WP _ _ _ _ T187 (mkF m 127 #[.val (.int zu), .val (.int zq), .val (.ref zo), .val (.ref zl), .val (.int za1), .val (.int zb1), .val (.int za2), .val (.int zb2), .val (.int za3), .val (.int zb3), .unset, .unset] [(.int (0 : Int32)), (.ref zl), (.int (own_rt 4 (own_jn (own_jn (own_jn [0, 1, 2, 3] [1, 1, 1, 1] za1 zb1).1 (own_jn [0, 1, 2, 3] [1, 1, 1, 1] za1 zb1).2 za2 zb2).1 (own_jn (own_jn [0, 1, 2, 3] [1, 1, 1, 1] za1 zb1).1 (own_jn [0, 1, 2, 3] [1, 1, 1, 1] za1 zb1).2 za2 zb2).2 za3 zb3).1 (0 : Int32)).2)])
  refine own_ldI X187 hx hZ rfl f197 (j := (0 : Int32)) (w := (own_g (own_md (own_md (own_md [0, 1, 2, 3] za1 zb1) za2 zb2) za3 zb3) (0 : Int32))) ⟨by decide, by decide⟩ (own_mg _ _) (hb hby at_127) ?_
  show own_WP _ _ _ _ T187 (mkF m 128 #[.val (.int zu), .val (.int zq), .val (.ref zo), .val (.ref zl), .val (.int za1), .val (.int zb1), .val (.int za2), .val (.int zb2), .val (.int za3), .val (.int zb3), .unset, .unset] [(.int (own_g (own_md (own_md (own_md [0, 1, 2, 3] za1 zb1) za2 zb2) za3 zb3) (0 : Int32))), (.int (own_rt 4 (own_jn (own_jn (own_jn [0, 1, 2, 3] [1, 1, 1, 1] za1 zb1).1 (own_jn [0, 1, 2, 3] [1, 1, 1, 1] za1 zb1).2 za2 zb2).1 (own_jn (own_jn [0, 1, 2, 3] [1, 1, 1, 1] za1 zb1).1 (own_jn [0, 1, 2, 3] [1, 1, 1, 1] za1 zb1).2 za2 zb2).2 za3 zb3).1 (0 : Int32)).2)])
  have hc128 : (own_rt 4 (own_jn (own_jn (own_jn [0, 1, 2, 3] [1, 1, 1, 1] za1 zb1).1 (own_jn [0, 1, 2, 3] [1, 1, 1, 1] za1 zb1).2 za2 zb2).1 (own_jn (own_jn [0, 1, 2, 3] [1, 1, 1, 1] za1 zb1).1 (own_jn [0, 1, 2, 3] [1, 1, 1, 1] za1 zb1).2 za2 zb2).2 za3 zb3).1 (0 : Int32)).2 = (own_g (own_md (own_md (own_md [0, 1, 2, 3] za1 zb1) za2 zb2) za3 zb3) (0 : Int32)) := by
    exact rv0.2.1
  refine own_go (fun t k => XS.icmpNo X187.here hx rfl (hb hby at_128) rfl (teq hc128).2 k) ?_
  show own_WP _ _ _ _ T187 (mkF m 131 #[.val (.int zu), .val (.int zq), .val (.ref zo), .val (.ref zl), .val (.int za1), .val (.int zb1), .val (.int za2), .val (.int zb2), .val (.int za3), .val (.int zb3), .unset, .unset] [])
  refine own_go (fun t k => XS.iconst X187.here hx rfl (hb hby at_131) k) ?_
  show own_WP _ _ _ _ T187 (mkF m 132 #[.val (.int zu), .val (.int zq), .val (.ref zo), .val (.ref zl), .val (.int za1), .val (.int zb1), .val (.int za2), .val (.int zb2), .val (.int za3), .val (.int zb3), .unset, .unset] [(.int (1 : Int32))])
  refine own_go (fun t k => XS.goto X187.here hx rfl (pc0 := 132) (pc' := 136) rfl (hb hby at_132) (by decide) (by decide) k) ?_
  show own_WP _ _ _ _ T187 (mkF m 136 #[.val (.int zu), .val (.int zq), .val (.ref zo), .val (.ref zl), .val (.int za1), .val (.int zb1), .val (.int za2), .val (.int zb2), .val (.int za3), .val (.int zb3), .unset, .unset] [(.int (1 : Int32))])
  refine own_go (fun t k => XS.istore X187.here hx rfl (hb hby at_136) rfl (l' := #[.val (.int zu), .val (.int zq), .val (.ref zo), .val (.ref zl), .val (.int za1), .val (.int zb1), .val (.int za2), .val (.int zb2), .val (.int za3), .val (.int zb3), .val (.int (1 : Int32)), .unset]) rfl k) ?_
  show own_WP _ _ _ _ T187 (mkF m 138 #[.val (.int zu), .val (.int zq), .val (.ref zo), .val (.ref zl), .val (.int za1), .val (.int zb1), .val (.int za2), .val (.int zb2), .val (.int za3), .val (.int zb3), .val (.int (1 : Int32)), .unset] [])
  refine own_go (fun t k => XS.iload X187.here hx rfl (hb hby at_138) rfl  k) ?_
  show own_WP _ _ _ _ T187 (mkF m 140 #[.val (.int zu), .val (.int zq), .val (.ref zo), .val (.ref zl), .val (.int za1), .val (.int zb1), .val (.int za2), .val (.int zb2), .val (.int za3), .val (.int zb3), .val (.int (1 : Int32)), .unset] [(.int (1 : Int32))])
  have hc140 : ¬ ((1 : Int32) = (0 : Int32)) := by decide
  refine own_go (fun t k => XS.ifNo X187.here hx rfl (hb hby at_140) rfl ((if0 _ _).trans (feq hc140).1) k) ?_
  have rv1 := own_irs rv0.1 (x := 1) (by decide)
  show own_WP _ _ _ _ T187 (mkF m 143 #[.val (.int zu), .val (.int zq), .val (.ref zo), .val (.ref zl), .val (.int za1), .val (.int zb1), .val (.int za2), .val (.int zb2), .val (.int za3), .val (.int zb3), .val (.int (1 : Int32)), .unset] [])
  refine own_go (fun t k => XS.aloadN X187.here hx rfl (hb hby at_143) rfl rfl  k) ?_
  show own_WP _ _ _ _ T187 (mkF m 144 #[.val (.int zu), .val (.int zq), .val (.ref zo), .val (.ref zl), .val (.int za1), .val (.int zb1), .val (.int za2), .val (.int zb2), .val (.int za3), .val (.int zb3), .val (.int (1 : Int32)), .unset] [(.ref zo)])
  refine own_go (fun t k => XS.iconst X187.here hx rfl (hb hby at_144) k) ?_
  show own_WP _ _ _ _ T187 (mkF m 145 #[.val (.int zu), .val (.int zq), .val (.ref zo), .val (.ref zl), .val (.int za1), .val (.int zb1), .val (.int za2), .val (.int zb2), .val (.int za3), .val (.int zb3), .val (.int (1 : Int32)), .unset] [(.int (1 : Int32)), (.ref zo)])
  obtain ⟨cq199, kq199, q199a, q199b, q199c⟩ := isOf hZ rfl f189
  obtain ⟨_, _, ⟨T199, L199, k199, n199⟩, -, X199, ⟨Lc199, hQ199, l199, y199, z199⟩, st199⟩ := X187.virtualBack hx (y := (⟨"com/example/ringspan/ringspan/symmetry/Orbits", "root", "(I)I"⟩ : MethodName)) (z := (⟨"com/example/ringspan/ringspan/symmetry/Orbits", "root", "(I)I"⟩ : MethodName)) hown (mvT hZ (hw _ (List.mem_of_getElem? (i := 32) rfl))) (mvT hZ (hw _ (List.mem_of_getElem? (i := 24) rfl))) (notFace_of_selects (args := #[]) (mvT hZ (hw _ (List.mem_of_getElem? (i := 26) rfl)))) (mvT hZ (hw _ (List.mem_of_getElem? (i := 26) rfl))) (mvT hZ (hw _ (List.mem_of_getElem? (i := 25) rfl))) (by decide) (backOf (W := 0) (rm4 l Z a0 hw [] zo (1 : Int32) zp kp8 ((own_rt 4 (own_jn (own_jn (own_jn [0, 1, 2, 3] [1, 1, 1, 1] za1 zb1).1 (own_jn [0, 1, 2, 3] [1, 1, 1, 1] za1 zb1).2 za2 zb2).1 (own_jn (own_jn [0, 1, 2, 3] [1, 1, 1, 1] za1 zb1).1 (own_jn [0, 1, 2, 3] [1, 1, 1, 1] za1 zb1).2 za2 zb2).2 za3 zb3).1 (0 : Int32)).1) T187.heap n0 (own_le Z0 K198) f190 f188 g_zp ne_zo_zp (show own_al (own_rt 4 (own_jn (own_jn (own_jn [0, 1, 2, 3] [1, 1, 1, 1] za1 zb1).1 (own_jn [0, 1, 2, 3] [1, 1, 1, 1] za1 zb1).2 za2 zb2).1 (own_jn (own_jn [0, 1, 2, 3] [1, 1, 1, 1] za1 zb1).1 (own_jn [0, 1, 2, 3] [1, 1, 1, 1] za1 zb1).2 za2 zb2).2 za3 zb3).1 (0 : Int32)).1 from own_val rv0.1.1) (show own_in (1 : Int32) from by decide) (show own_ok 4 (own_rt 4 (own_jn (own_jn (own_jn [0, 1, 2, 3] [1, 1, 1, 1] za1 zb1).1 (own_jn [0, 1, 2, 3] [1, 1, 1, 1] za1 zb1).2 za2 zb2).1 (own_jn (own_jn [0, 1, 2, 3] [1, 1, 1, 1] za1 zb1).1 (own_jn [0, 1, 2, 3] [1, 1, 1, 1] za1 zb1).2 za2 zb2).2 za3 zb3).1 (0 : Int32)).1 (1 : Int32) = true from rv1.2.2.1)) hZ (hw _ (List.mem_of_getElem? (i := 27) rfl)) (hw _ (List.mem_of_getElem? (i := 2) rfl)) (by decide) (by decide)) q199a q199c (g := (mkF m 145 #[.val (.int zu), .val (.int zq), .val (.ref zo), .val (.ref zl), .val (.int za1), .val (.int zb1), .val (.int za2), .val (.int zb2), .val (.int za3), .val (.int zb3), .val (.int (1 : Int32)), .unset] [(.int (1 : Int32)), (.ref zo)])) rfl (by rw [hml]; rfl) (Steps.refl _) (argsL := [(.int (1 : Int32))]) (rest := []) (lenOf own_pd81837 rfl) rfl (by show 2 * 0 + _ ≤ _; exact Nat.le_of_eq rfl) (hb hby at_145) (fun _ _ => ⟨rfl, rfl, (by decide : 5 + 0 ≤ _), (by decide : 20 + 0 ≤ _)⟩)
  dsimp only [Pt.U, Pt.locs, Pt.cells, Pt.slots] at X199 l199 y199 z199 st199 hQ199
  subst l199 y199 z199
  obtain ⟨rfl, N199q, Kc199, f200⟩ := hQ199
  have N199 := Fr.app N187 N199q
  refine own_tr st199 ?_
  have f201 : Exa Z T199.heap zo "com/example/ringspan/ringspan/symmetry/Orbits" := f189.keep Kc199
  have f202 : Fld Z T199.heap zo "com/example/ringspan/ringspan/symmetry/Orbits" "parents" "[I" (.ref zp) := f190.keep Kc199 (own_nm ne_zo_zp)
  have f203 : Fld Z T199.heap zo "com/example/ringspan/ringspan/symmetry/Orbits" "sizes" "[I" (.ref zs) := f191.keep Kc199 (own_nm ne_zo_zp)
  have f204 : Fld Z T199.heap zo "com/example/ringspan/ringspan/symmetry/Orbits" "marks" "[I" (.ref zm) := f192.keep Kc199 (own_nm ne_zo_zp)
  have f205 : Fld Z T199.heap zo "com/example/ringspan/ringspan/symmetry/Orbits" "count" "I" (.int rc156) := f193.keep Kc199 (own_nm ne_zo_zp)
  have f206 : Arv Z T199.heap zs ks9 .int (4 : Int32) (List.map Value.int (own_jn (own_jn (own_jn [0, 1, 2, 3] [1, 1, 1, 1] za1 zb1).1 (own_jn [0, 1, 2, 3] [1, 1, 1, 1] za1 zb1).2 za2 zb2).1 (own_jn (own_jn [0, 1, 2, 3] [1, 1, 1, 1] za1 zb1).1 (own_jn [0, 1, 2, 3] [1, 1, 1, 1] za1 zb1).2 za2 zb2).2 za3 zb3).2) (.int (0 : Int32)) := f195.keep Kc199 (own_nm (Ne.symm hd1_7))
  have f207 : Arv Z T199.heap zm km10 .int (4 : Int32) (List.map Value.int rM155) (.int (0 : Int32)) := f196.keep Kc199 (own_nm (Ne.symm hd2_7))
  have f208 : Arv Z T199.heap zl k25 .int (4 : Int32) (List.map Value.int (own_md (own_md (own_md [0, 1, 2, 3] za1 zb1) za2 zb2) za3 zb3)) (.int (0 : Int32)) := f197.keep Kc199 (own_nm (Ne.symm ne_zp_zl))
  have K210 : Keep h0 T199.heap [] := K198.trans Kc199 (fun x hx => by cases List.mem_singleton.mp hx; exact Or.inr sz_zp)
  show own_WP _ _ _ _ T199 (mkF m 148 #[.val (.int zu), .val (.int zq), .val (.ref zo), .val (.ref zl), .val (.int za1), .val (.int zb1), .val (.int za2), .val (.int zb2), .val (.int za3), .val (.int zb3), .val (.int (1 : Int32)), .unset] [(.int (own_rt 4 (own_rt 4 (own_jn (own_jn (own_jn [0, 1, 2, 3] [1, 1, 1, 1] za1 zb1).1 (own_jn [0, 1, 2, 3] [1, 1, 1, 1] za1 zb1).2 za2 zb2).1 (own_jn (own_jn [0, 1, 2, 3] [1, 1, 1, 1] za1 zb1).1 (own_jn [0, 1, 2, 3] [1, 1, 1, 1] za1 zb1).2 za2 zb2).2 za3 zb3).1 (0 : Int32)).1 (1 : Int32)).2)])
  refine own_go (fun t k => XS.aloadN X199.here hx rfl (hb hby at_148) rfl rfl  k) ?_
  show own_WP _ _ _ _ T199 (mkF m 149 #[.val (.int zu), .val (.int zq), .val (.ref zo), .val (.ref zl), .val (.int za1), .val (.int zb1), .val (.int za2), .val (.int zb2), .val (.int za3), .val (.int zb3), .val (.int (1 : Int32)), .unset] [(.ref zl), (.int (own_rt 4 (own_rt 4 (own_jn (own_jn (own_jn [0, 1, 2, 3] [1, 1, 1, 1] za1 zb1).1 (own_jn [0, 1, 2, 3] [1, 1, 1, 1] za1 zb1).2 za2 zb2).1 (own_jn (own_jn [0, 1, 2, 3] [1, 1, 1, 1] za1 zb1).1 (own_jn [0, 1, 2, 3] [1, 1, 1, 1] za1 zb1).2 za2 zb2).2 za3 zb3).1 (0 : Int32)).1 (1 : Int32)).2)])
  refine own_go (fun t k => XS.iconst X199.here hx rfl (hb hby at_149) k) ?_
  show own_WP _ _ _ _ T199 (mkF m 150 #[.val (.int zu), .val (.int zq), .val (.ref zo), .val (.ref zl), .val (.int za1), .val (.int zb1), .val (.int za2), .val (.int zb2), .val (.int za3), .val (.int zb3), .val (.int (1 : Int32)), .unset] [(.int (1 : Int32)), (.ref zl), (.int (own_rt 4 (own_rt 4 (own_jn (own_jn (own_jn [0, 1, 2, 3] [1, 1, 1, 1] za1 zb1).1 (own_jn [0, 1, 2, 3] [1, 1, 1, 1] za1 zb1).2 za2 zb2).1 (own_jn (own_jn [0, 1, 2, 3] [1, 1, 1, 1] za1 zb1).1 (own_jn [0, 1, 2, 3] [1, 1, 1, 1] za1 zb1).2 za2 zb2).2 za3 zb3).1 (0 : Int32)).1 (1 : Int32)).2)])
  refine own_ldI X199 hx hZ rfl f208 (j := (1 : Int32)) (w := (own_g (own_md (own_md (own_md [0, 1, 2, 3] za1 zb1) za2 zb2) za3 zb3) (1 : Int32))) ⟨by decide, by decide⟩ (own_mg _ _) (hb hby at_150) ?_
  show own_WP _ _ _ _ T199 (mkF m 151 #[.val (.int zu), .val (.int zq), .val (.ref zo), .val (.ref zl), .val (.int za1), .val (.int zb1), .val (.int za2), .val (.int zb2), .val (.int za3), .val (.int zb3), .val (.int (1 : Int32)), .unset] [(.int (own_g (own_md (own_md (own_md [0, 1, 2, 3] za1 zb1) za2 zb2) za3 zb3) (1 : Int32))), (.int (own_rt 4 (own_rt 4 (own_jn (own_jn (own_jn [0, 1, 2, 3] [1, 1, 1, 1] za1 zb1).1 (own_jn [0, 1, 2, 3] [1, 1, 1, 1] za1 zb1).2 za2 zb2).1 (own_jn (own_jn [0, 1, 2, 3] [1, 1, 1, 1] za1 zb1).1 (own_jn [0, 1, 2, 3] [1, 1, 1, 1] za1 zb1).2 za2 zb2).2 za3 zb3).1 (0 : Int32)).1 (1 : Int32)).2)])
  have hc151 : (own_rt 4 (own_rt 4 (own_jn (own_jn (own_jn [0, 1, 2, 3] [1, 1, 1, 1] za1 zb1).1 (own_jn [0, 1, 2, 3] [1, 1, 1, 1] za1 zb1).2 za2 zb2).1 (own_jn (own_jn [0, 1, 2, 3] [1, 1, 1, 1] za1 zb1).1 (own_jn [0, 1, 2, 3] [1, 1, 1, 1] za1 zb1).2 za2 zb2).2 za3 zb3).1 (0 : Int32)).1 (1 : Int32)).2 = (own_g (own_md (own_md (own_md [0, 1, 2, 3] za1 zb1) za2 zb2) za3 zb3) (1 : Int32)) := by
    exact rv1.2.1
  refine own_go (fun t k => XS.icmpNo X199.here hx rfl (hb hby at_151) rfl (teq hc151).2 k) ?_
  show own_WP _ _ _ _ T199 (mkF m 154 #[.val (.int zu), .val (.int zq), .val (.ref zo), .val (.ref zl), .val (.int za1), .val (.int zb1), .val (.int za2), .val (.int zb2), .val (.int za3), .val (.int zb3), .val (.int (1 : Int32)), .unset] [])
  refine own_go (fun t k => XS.iconst X199.here hx rfl (hb hby at_154) k) ?_
  show own_WP _ _ _ _ T199 (mkF m 155 #[.val (.int zu), .val (.int zq), .val (.ref zo), .val (.ref zl), .val (.int za1), .val (.int zb1), .val (.int za2), .val (.int zb2), .val (.int za3), .val (.int zb3), .val (.int (1 : Int32)), .unset] [(.int (1 : Int32))])
  refine own_go (fun t k => XS.goto X199.here hx rfl (pc0 := 155) (pc' := 159) rfl (hb hby at_155) (by decide) (by decide) k) ?_
  show own_WP _ _ _ _ T199 (mkF m 159 #[.val (.int zu), .val (.int zq), .val (.ref zo), .val (.ref zl), .val (.int za1), .val (.int zb1), .val (.int za2), .val (.int zb2), .val (.int za3), .val (.int zb3), .val (.int (1 : Int32)), .unset] [(.int (1 : Int32))])
  refine own_go (fun t k => XS.istore X199.here hx rfl (hb hby at_159) rfl (l' := #[.val (.int zu), .val (.int zq), .val (.ref zo), .val (.ref zl), .val (.int za1), .val (.int zb1), .val (.int za2), .val (.int zb2), .val (.int za3), .val (.int zb3), .val (.int (1 : Int32)), .unset]) rfl k) ?_
  show own_WP _ _ _ _ T199 (mkF m 161 #[.val (.int zu), .val (.int zq), .val (.ref zo), .val (.ref zl), .val (.int za1), .val (.int zb1), .val (.int za2), .val (.int zb2), .val (.int za3), .val (.int zb3), .val (.int (1 : Int32)), .unset] [])
  refine own_go (fun t k => XS.iload X199.here hx rfl (hb hby at_161) rfl  k) ?_
  show own_WP _ _ _ _ T199 (mkF m 163 #[.val (.int zu), .val (.int zq), .val (.ref zo), .val (.ref zl), .val (.int za1), .val (.int zb1), .val (.int za2), .val (.int zb2), .val (.int za3), .val (.int zb3), .val (.int (1 : Int32)), .unset] [(.int (1 : Int32))])
  have hc163 : ¬ ((1 : Int32) = (0 : Int32)) := by decide
  refine own_go (fun t k => XS.ifNo X199.here hx rfl (hb hby at_163) rfl ((if0 _ _).trans (feq hc163).1) k) ?_
  have rv2 := own_irs rv1.1 (x := 2) (by decide)
  show own_WP _ _ _ _ T199 (mkF m 166 #[.val (.int zu), .val (.int zq), .val (.ref zo), .val (.ref zl), .val (.int za1), .val (.int zb1), .val (.int za2), .val (.int zb2), .val (.int za3), .val (.int zb3), .val (.int (1 : Int32)), .unset] [])
  refine own_go (fun t k => XS.aloadN X199.here hx rfl (hb hby at_166) rfl rfl  k) ?_
  show own_WP _ _ _ _ T199 (mkF m 167 #[.val (.int zu), .val (.int zq), .val (.ref zo), .val (.ref zl), .val (.int za1), .val (.int zb1), .val (.int za2), .val (.int zb2), .val (.int za3), .val (.int zb3), .val (.int (1 : Int32)), .unset] [(.ref zo)])
  refine own_go (fun t k => XS.iconst X199.here hx rfl (hb hby at_167) k) ?_
  show own_WP _ _ _ _ T199 (mkF m 168 #[.val (.int zu), .val (.int zq), .val (.ref zo), .val (.ref zl), .val (.int za1), .val (.int zb1), .val (.int za2), .val (.int zb2), .val (.int za3), .val (.int zb3), .val (.int (1 : Int32)), .unset] [(.int (2 : Int32)), (.ref zo)])
  obtain ⟨cq211, kq211, q211a, q211b, q211c⟩ := isOf hZ rfl f201
  obtain ⟨_, _, ⟨T211, L211, k211, n211⟩, -, X211, ⟨Lc211, hQ211, l211, y211, z211⟩, st211⟩ := X199.virtualBack hx (y := (⟨"com/example/ringspan/ringspan/symmetry/Orbits", "root", "(I)I"⟩ : MethodName)) (z := (⟨"com/example/ringspan/ringspan/symmetry/Orbits", "root", "(I)I"⟩ : MethodName)) hown (mvT hZ (hw _ (List.mem_of_getElem? (i := 32) rfl))) (mvT hZ (hw _ (List.mem_of_getElem? (i := 24) rfl))) (notFace_of_selects (args := #[]) (mvT hZ (hw _ (List.mem_of_getElem? (i := 26) rfl)))) (mvT hZ (hw _ (List.mem_of_getElem? (i := 26) rfl))) (mvT hZ (hw _ (List.mem_of_getElem? (i := 25) rfl))) (by decide) (backOf (W := 0) (rm4 l Z a0 hw [] zo (2 : Int32) zp kp8 ((own_rt 4 (own_rt 4 (own_jn (own_jn (own_jn [0, 1, 2, 3] [1, 1, 1, 1] za1 zb1).1 (own_jn [0, 1, 2, 3] [1, 1, 1, 1] za1 zb1).2 za2 zb2).1 (own_jn (own_jn [0, 1, 2, 3] [1, 1, 1, 1] za1 zb1).1 (own_jn [0, 1, 2, 3] [1, 1, 1, 1] za1 zb1).2 za2 zb2).2 za3 zb3).1 (0 : Int32)).1 (1 : Int32)).1) T199.heap n0 (own_le Z0 K210) f202 f200 g_zp ne_zo_zp (show own_al (own_rt 4 (own_rt 4 (own_jn (own_jn (own_jn [0, 1, 2, 3] [1, 1, 1, 1] za1 zb1).1 (own_jn [0, 1, 2, 3] [1, 1, 1, 1] za1 zb1).2 za2 zb2).1 (own_jn (own_jn [0, 1, 2, 3] [1, 1, 1, 1] za1 zb1).1 (own_jn [0, 1, 2, 3] [1, 1, 1, 1] za1 zb1).2 za2 zb2).2 za3 zb3).1 (0 : Int32)).1 (1 : Int32)).1 from own_val rv1.1.1) (show own_in (2 : Int32) from by decide) (show own_ok 4 (own_rt 4 (own_rt 4 (own_jn (own_jn (own_jn [0, 1, 2, 3] [1, 1, 1, 1] za1 zb1).1 (own_jn [0, 1, 2, 3] [1, 1, 1, 1] za1 zb1).2 za2 zb2).1 (own_jn (own_jn [0, 1, 2, 3] [1, 1, 1, 1] za1 zb1).1 (own_jn [0, 1, 2, 3] [1, 1, 1, 1] za1 zb1).2 za2 zb2).2 za3 zb3).1 (0 : Int32)).1 (1 : Int32)).1 (2 : Int32) = true from rv2.2.2.1)) hZ (hw _ (List.mem_of_getElem? (i := 27) rfl)) (hw _ (List.mem_of_getElem? (i := 2) rfl)) (by decide) (by decide)) q211a q211c (g := (mkF m 168 #[.val (.int zu), .val (.int zq), .val (.ref zo), .val (.ref zl), .val (.int za1), .val (.int zb1), .val (.int za2), .val (.int zb2), .val (.int za3), .val (.int zb3), .val (.int (1 : Int32)), .unset] [(.int (2 : Int32)), (.ref zo)])) rfl (by rw [hml]; rfl) (Steps.refl _) (argsL := [(.int (2 : Int32))]) (rest := []) (lenOf own_pd81837 rfl) rfl (by show 2 * 0 + _ ≤ _; exact Nat.le_of_eq rfl) (hb hby at_168) (fun _ _ => ⟨rfl, rfl, (by decide : 5 + 0 ≤ _), (by decide : 20 + 0 ≤ _)⟩)
  dsimp only [Pt.U, Pt.locs, Pt.cells, Pt.slots] at X211 l211 y211 z211 st211 hQ211
  subst l211 y211 z211
  obtain ⟨rfl, N211q, Kc211, f212⟩ := hQ211
  have N211 := Fr.app N199 N211q
  refine own_tr st211 ?_
  have f213 : Exa Z T211.heap zo "com/example/ringspan/ringspan/symmetry/Orbits" := f201.keep Kc211
  have f214 : Fld Z T211.heap zo "com/example/ringspan/ringspan/symmetry/Orbits" "parents" "[I" (.ref zp) := f202.keep Kc211 (own_nm ne_zo_zp)
  have f215 : Fld Z T211.heap zo "com/example/ringspan/ringspan/symmetry/Orbits" "sizes" "[I" (.ref zs) := f203.keep Kc211 (own_nm ne_zo_zp)
  have f216 : Fld Z T211.heap zo "com/example/ringspan/ringspan/symmetry/Orbits" "marks" "[I" (.ref zm) := f204.keep Kc211 (own_nm ne_zo_zp)
  have f217 : Fld Z T211.heap zo "com/example/ringspan/ringspan/symmetry/Orbits" "count" "I" (.int rc156) := f205.keep Kc211 (own_nm ne_zo_zp)
  have f218 : Arv Z T211.heap zs ks9 .int (4 : Int32) (List.map Value.int (own_jn (own_jn (own_jn [0, 1, 2, 3] [1, 1, 1, 1] za1 zb1).1 (own_jn [0, 1, 2, 3] [1, 1, 1, 1] za1 zb1).2 za2 zb2).1 (own_jn (own_jn [0, 1, 2, 3] [1, 1, 1, 1] za1 zb1).1 (own_jn [0, 1, 2, 3] [1, 1, 1, 1] za1 zb1).2 za2 zb2).2 za3 zb3).2) (.int (0 : Int32)) := f206.keep Kc211 (own_nm (Ne.symm hd1_7))
  have f219 : Arv Z T211.heap zm km10 .int (4 : Int32) (List.map Value.int rM155) (.int (0 : Int32)) := f207.keep Kc211 (own_nm (Ne.symm hd2_7))
  have f220 : Arv Z T211.heap zl k25 .int (4 : Int32) (List.map Value.int (own_md (own_md (own_md [0, 1, 2, 3] za1 zb1) za2 zb2) za3 zb3)) (.int (0 : Int32)) := f208.keep Kc211 (own_nm (Ne.symm ne_zp_zl))
  have K222 : Keep h0 T211.heap [] := K210.trans Kc211 (fun x hx => by cases List.mem_singleton.mp hx; exact Or.inr sz_zp)
  show own_WP _ _ _ _ T211 (mkF m 171 #[.val (.int zu), .val (.int zq), .val (.ref zo), .val (.ref zl), .val (.int za1), .val (.int zb1), .val (.int za2), .val (.int zb2), .val (.int za3), .val (.int zb3), .val (.int (1 : Int32)), .unset] [(.int (own_rt 4 (own_rt 4 (own_rt 4 (own_jn (own_jn (own_jn [0, 1, 2, 3] [1, 1, 1, 1] za1 zb1).1 (own_jn [0, 1, 2, 3] [1, 1, 1, 1] za1 zb1).2 za2 zb2).1 (own_jn (own_jn [0, 1, 2, 3] [1, 1, 1, 1] za1 zb1).1 (own_jn [0, 1, 2, 3] [1, 1, 1, 1] za1 zb1).2 za2 zb2).2 za3 zb3).1 (0 : Int32)).1 (1 : Int32)).1 (2 : Int32)).2)])
  refine own_go (fun t k => XS.aloadN X211.here hx rfl (hb hby at_171) rfl rfl  k) ?_
  show own_WP _ _ _ _ T211 (mkF m 172 #[.val (.int zu), .val (.int zq), .val (.ref zo), .val (.ref zl), .val (.int za1), .val (.int zb1), .val (.int za2), .val (.int zb2), .val (.int za3), .val (.int zb3), .val (.int (1 : Int32)), .unset] [(.ref zl), (.int (own_rt 4 (own_rt 4 (own_rt 4 (own_jn (own_jn (own_jn [0, 1, 2, 3] [1, 1, 1, 1] za1 zb1).1 (own_jn [0, 1, 2, 3] [1, 1, 1, 1] za1 zb1).2 za2 zb2).1 (own_jn (own_jn [0, 1, 2, 3] [1, 1, 1, 1] za1 zb1).1 (own_jn [0, 1, 2, 3] [1, 1, 1, 1] za1 zb1).2 za2 zb2).2 za3 zb3).1 (0 : Int32)).1 (1 : Int32)).1 (2 : Int32)).2)])
  refine own_go (fun t k => XS.iconst X211.here hx rfl (hb hby at_172) k) ?_
  show own_WP _ _ _ _ T211 (mkF m 173 #[.val (.int zu), .val (.int zq), .val (.ref zo), .val (.ref zl), .val (.int za1), .val (.int zb1), .val (.int za2), .val (.int zb2), .val (.int za3), .val (.int zb3), .val (.int (1 : Int32)), .unset] [(.int (2 : Int32)), (.ref zl), (.int (own_rt 4 (own_rt 4 (own_rt 4 (own_jn (own_jn (own_jn [0, 1, 2, 3] [1, 1, 1, 1] za1 zb1).1 (own_jn [0, 1, 2, 3] [1, 1, 1, 1] za1 zb1).2 za2 zb2).1 (own_jn (own_jn [0, 1, 2, 3] [1, 1, 1, 1] za1 zb1).1 (own_jn [0, 1, 2, 3] [1, 1, 1, 1] za1 zb1).2 za2 zb2).2 za3 zb3).1 (0 : Int32)).1 (1 : Int32)).1 (2 : Int32)).2)])
  refine own_ldI X211 hx hZ rfl f220 (j := (2 : Int32)) (w := (own_g (own_md (own_md (own_md [0, 1, 2, 3] za1 zb1) za2 zb2) za3 zb3) (2 : Int32))) ⟨by decide, by decide⟩ (own_mg _ _) (hb hby at_173) ?_
  show own_WP _ _ _ _ T211 (mkF m 174 #[.val (.int zu), .val (.int zq), .val (.ref zo), .val (.ref zl), .val (.int za1), .val (.int zb1), .val (.int za2), .val (.int zb2), .val (.int za3), .val (.int zb3), .val (.int (1 : Int32)), .unset] [(.int (own_g (own_md (own_md (own_md [0, 1, 2, 3] za1 zb1) za2 zb2) za3 zb3) (2 : Int32))), (.int (own_rt 4 (own_rt 4 (own_rt 4 (own_jn (own_jn (own_jn [0, 1, 2, 3] [1, 1, 1, 1] za1 zb1).1 (own_jn [0, 1, 2, 3] [1, 1, 1, 1] za1 zb1).2 za2 zb2).1 (own_jn (own_jn [0, 1, 2, 3] [1, 1, 1, 1] za1 zb1).1 (own_jn [0, 1, 2, 3] [1, 1, 1, 1] za1 zb1).2 za2 zb2).2 za3 zb3).1 (0 : Int32)).1 (1 : Int32)).1 (2 : Int32)).2)])
  have hc174 : (own_rt 4 (own_rt 4 (own_rt 4 (own_jn (own_jn (own_jn [0, 1, 2, 3] [1, 1, 1, 1] za1 zb1).1 (own_jn [0, 1, 2, 3] [1, 1, 1, 1] za1 zb1).2 za2 zb2).1 (own_jn (own_jn [0, 1, 2, 3] [1, 1, 1, 1] za1 zb1).1 (own_jn [0, 1, 2, 3] [1, 1, 1, 1] za1 zb1).2 za2 zb2).2 za3 zb3).1 (0 : Int32)).1 (1 : Int32)).1 (2 : Int32)).2 = (own_g (own_md (own_md (own_md [0, 1, 2, 3] za1 zb1) za2 zb2) za3 zb3) (2 : Int32)) := by
    exact rv2.2.1
  refine own_go (fun t k => XS.icmpNo X211.here hx rfl (hb hby at_174) rfl (teq hc174).2 k) ?_
  show own_WP _ _ _ _ T211 (mkF m 177 #[.val (.int zu), .val (.int zq), .val (.ref zo), .val (.ref zl), .val (.int za1), .val (.int zb1), .val (.int za2), .val (.int zb2), .val (.int za3), .val (.int zb3), .val (.int (1 : Int32)), .unset] [])
  refine own_go (fun t k => XS.iconst X211.here hx rfl (hb hby at_177) k) ?_
  show own_WP _ _ _ _ T211 (mkF m 178 #[.val (.int zu), .val (.int zq), .val (.ref zo), .val (.ref zl), .val (.int za1), .val (.int zb1), .val (.int za2), .val (.int zb2), .val (.int za3), .val (.int zb3), .val (.int (1 : Int32)), .unset] [(.int (1 : Int32))])
  refine own_go (fun t k => XS.goto X211.here hx rfl (pc0 := 178) (pc' := 182) rfl (hb hby at_178) (by decide) (by decide) k) ?_
  show own_WP _ _ _ _ T211 (mkF m 182 #[.val (.int zu), .val (.int zq), .val (.ref zo), .val (.ref zl), .val (.int za1), .val (.int zb1), .val (.int za2), .val (.int zb2), .val (.int za3), .val (.int zb3), .val (.int (1 : Int32)), .unset] [(.int (1 : Int32))])
  refine own_go (fun t k => XS.istore X211.here hx rfl (hb hby at_182) rfl (l' := #[.val (.int zu), .val (.int zq), .val (.ref zo), .val (.ref zl), .val (.int za1), .val (.int zb1), .val (.int za2), .val (.int zb2), .val (.int za3), .val (.int zb3), .val (.int (1 : Int32)), .unset]) rfl k) ?_
  show own_WP _ _ _ _ T211 (mkF m 184 #[.val (.int zu), .val (.int zq), .val (.ref zo), .val (.ref zl), .val (.int za1), .val (.int zb1), .val (.int za2), .val (.int zb2), .val (.int za3), .val (.int zb3), .val (.int (1 : Int32)), .unset] [])
  refine own_go (fun t k => XS.iload X211.here hx rfl (hb hby at_184) rfl  k) ?_
  show own_WP _ _ _ _ T211 (mkF m 186 #[.val (.int zu), .val (.int zq), .val (.ref zo), .val (.ref zl), .val (.int za1), .val (.int zb1), .val (.int za2), .val (.int zb2), .val (.int za3), .val (.int zb3), .val (.int (1 : Int32)), .unset] [(.int (1 : Int32))])
  have hc186 : ¬ ((1 : Int32) = (0 : Int32)) := by decide
  refine own_go (fun t k => XS.ifNo X211.here hx rfl (hb hby at_186) rfl ((if0 _ _).trans (feq hc186).1) k) ?_
  have rv3 := own_irs rv2.1 (x := 3) (by decide)
  show own_WP _ _ _ _ T211 (mkF m 189 #[.val (.int zu), .val (.int zq), .val (.ref zo), .val (.ref zl), .val (.int za1), .val (.int zb1), .val (.int za2), .val (.int zb2), .val (.int za3), .val (.int zb3), .val (.int (1 : Int32)), .unset] [])
  refine own_go (fun t k => XS.aloadN X211.here hx rfl (hb hby at_189) rfl rfl  k) ?_
  show own_WP _ _ _ _ T211 (mkF m 190 #[.val (.int zu), .val (.int zq), .val (.ref zo), .val (.ref zl), .val (.int za1), .val (.int zb1), .val (.int za2), .val (.int zb2), .val (.int za3), .val (.int zb3), .val (.int (1 : Int32)), .unset] [(.ref zo)])
  refine own_go (fun t k => XS.iconst X211.here hx rfl (hb hby at_190) k) ?_
  show own_WP _ _ _ _ T211 (mkF m 191 #[.val (.int zu), .val (.int zq), .val (.ref zo), .val (.ref zl), .val (.int za1), .val (.int zb1), .val (.int za2), .val (.int zb2), .val (.int za3), .val (.int zb3), .val (.int (1 : Int32)), .unset] [(.int (3 : Int32)), (.ref zo)])
  obtain ⟨cq223, kq223, q223a, q223b, q223c⟩ := isOf hZ rfl f213
  obtain ⟨_, _, ⟨T223, L223, k223, n223⟩, -, X223, ⟨Lc223, hQ223, l223, y223, z223⟩, st223⟩ := X211.virtualBack hx (y := (⟨"com/example/ringspan/ringspan/symmetry/Orbits", "root", "(I)I"⟩ : MethodName)) (z := (⟨"com/example/ringspan/ringspan/symmetry/Orbits", "root", "(I)I"⟩ : MethodName)) hown (mvT hZ (hw _ (List.mem_of_getElem? (i := 32) rfl))) (mvT hZ (hw _ (List.mem_of_getElem? (i := 24) rfl))) (notFace_of_selects (args := #[]) (mvT hZ (hw _ (List.mem_of_getElem? (i := 26) rfl)))) (mvT hZ (hw _ (List.mem_of_getElem? (i := 26) rfl))) (mvT hZ (hw _ (List.mem_of_getElem? (i := 25) rfl))) (by decide) (backOf (W := 0) (rm4 l Z a0 hw [] zo (3 : Int32) zp kp8 ((own_rt 4 (own_rt 4 (own_rt 4 (own_jn (own_jn (own_jn [0, 1, 2, 3] [1, 1, 1, 1] za1 zb1).1 (own_jn [0, 1, 2, 3] [1, 1, 1, 1] za1 zb1).2 za2 zb2).1 (own_jn (own_jn [0, 1, 2, 3] [1, 1, 1, 1] za1 zb1).1 (own_jn [0, 1, 2, 3] [1, 1, 1, 1] za1 zb1).2 za2 zb2).2 za3 zb3).1 (0 : Int32)).1 (1 : Int32)).1 (2 : Int32)).1) T211.heap n0 (own_le Z0 K222) f214 f212 g_zp ne_zo_zp (show own_al (own_rt 4 (own_rt 4 (own_rt 4 (own_jn (own_jn (own_jn [0, 1, 2, 3] [1, 1, 1, 1] za1 zb1).1 (own_jn [0, 1, 2, 3] [1, 1, 1, 1] za1 zb1).2 za2 zb2).1 (own_jn (own_jn [0, 1, 2, 3] [1, 1, 1, 1] za1 zb1).1 (own_jn [0, 1, 2, 3] [1, 1, 1, 1] za1 zb1).2 za2 zb2).2 za3 zb3).1 (0 : Int32)).1 (1 : Int32)).1 (2 : Int32)).1 from own_val rv2.1.1) (show own_in (3 : Int32) from by decide) (show own_ok 4 (own_rt 4 (own_rt 4 (own_rt 4 (own_jn (own_jn (own_jn [0, 1, 2, 3] [1, 1, 1, 1] za1 zb1).1 (own_jn [0, 1, 2, 3] [1, 1, 1, 1] za1 zb1).2 za2 zb2).1 (own_jn (own_jn [0, 1, 2, 3] [1, 1, 1, 1] za1 zb1).1 (own_jn [0, 1, 2, 3] [1, 1, 1, 1] za1 zb1).2 za2 zb2).2 za3 zb3).1 (0 : Int32)).1 (1 : Int32)).1 (2 : Int32)).1 (3 : Int32) = true from rv3.2.2.1)) hZ (hw _ (List.mem_of_getElem? (i := 27) rfl)) (hw _ (List.mem_of_getElem? (i := 2) rfl)) (by decide) (by decide)) q223a q223c (g := (mkF m 191 #[.val (.int zu), .val (.int zq), .val (.ref zo), .val (.ref zl), .val (.int za1), .val (.int zb1), .val (.int za2), .val (.int zb2), .val (.int za3), .val (.int zb3), .val (.int (1 : Int32)), .unset] [(.int (3 : Int32)), (.ref zo)])) rfl (by rw [hml]; rfl) (Steps.refl _) (argsL := [(.int (3 : Int32))]) (rest := []) (lenOf own_pd81837 rfl) rfl (by show 2 * 0 + _ ≤ _; exact Nat.le_of_eq rfl) (hb hby at_191) (fun _ _ => ⟨rfl, rfl, (by decide : 5 + 0 ≤ _), (by decide : 20 + 0 ≤ _)⟩)
  dsimp only [Pt.U, Pt.locs, Pt.cells, Pt.slots] at X223 l223 y223 z223 st223 hQ223
  subst l223 y223 z223
  obtain ⟨rfl, N223q, Kc223, f224⟩ := hQ223
  have N223 := Fr.app N211 N223q
  refine own_tr st223 ?_
  have f225 : Exa Z T223.heap zo "com/example/ringspan/ringspan/symmetry/Orbits" := f213.keep Kc223
  have f226 : Fld Z T223.heap zo "com/example/ringspan/ringspan/symmetry/Orbits" "parents" "[I" (.ref zp) := f214.keep Kc223 (own_nm ne_zo_zp)
  have f227 : Fld Z T223.heap zo "com/example/ringspan/ringspan/symmetry/Orbits" "sizes" "[I" (.ref zs) := f215.keep Kc223 (own_nm ne_zo_zp)
  have f228 : Fld Z T223.heap zo "com/example/ringspan/ringspan/symmetry/Orbits" "marks" "[I" (.ref zm) := f216.keep Kc223 (own_nm ne_zo_zp)
  have f229 : Fld Z T223.heap zo "com/example/ringspan/ringspan/symmetry/Orbits" "count" "I" (.int rc156) := f217.keep Kc223 (own_nm ne_zo_zp)
  have f230 : Arv Z T223.heap zs ks9 .int (4 : Int32) (List.map Value.int (own_jn (own_jn (own_jn [0, 1, 2, 3] [1, 1, 1, 1] za1 zb1).1 (own_jn [0, 1, 2, 3] [1, 1, 1, 1] za1 zb1).2 za2 zb2).1 (own_jn (own_jn [0, 1, 2, 3] [1, 1, 1, 1] za1 zb1).1 (own_jn [0, 1, 2, 3] [1, 1, 1, 1] za1 zb1).2 za2 zb2).2 za3 zb3).2) (.int (0 : Int32)) := f218.keep Kc223 (own_nm (Ne.symm hd1_7))
  have f231 : Arv Z T223.heap zm km10 .int (4 : Int32) (List.map Value.int rM155) (.int (0 : Int32)) := f219.keep Kc223 (own_nm (Ne.symm hd2_7))
  have f232 : Arv Z T223.heap zl k25 .int (4 : Int32) (List.map Value.int (own_md (own_md (own_md [0, 1, 2, 3] za1 zb1) za2 zb2) za3 zb3)) (.int (0 : Int32)) := f220.keep Kc223 (own_nm (Ne.symm ne_zp_zl))
  have K234 : Keep h0 T223.heap [] := K222.trans Kc223 (fun x hx => by cases List.mem_singleton.mp hx; exact Or.inr sz_zp)
  show own_WP _ _ _ _ T223 (mkF m 194 #[.val (.int zu), .val (.int zq), .val (.ref zo), .val (.ref zl), .val (.int za1), .val (.int zb1), .val (.int za2), .val (.int zb2), .val (.int za3), .val (.int zb3), .val (.int (1 : Int32)), .unset] [(.int (own_rt 4 (own_rt 4 (own_rt 4 (own_rt 4 (own_jn (own_jn (own_jn [0, 1, 2, 3] [1, 1, 1, 1] za1 zb1).1 (own_jn [0, 1, 2, 3] [1, 1, 1, 1] za1 zb1).2 za2 zb2).1 (own_jn (own_jn [0, 1, 2, 3] [1, 1, 1, 1] za1 zb1).1 (own_jn [0, 1, 2, 3] [1, 1, 1, 1] za1 zb1).2 za2 zb2).2 za3 zb3).1 (0 : Int32)).1 (1 : Int32)).1 (2 : Int32)).1 (3 : Int32)).2)])
  refine own_go (fun t k => XS.aloadN X223.here hx rfl (hb hby at_194) rfl rfl  k) ?_
  show own_WP _ _ _ _ T223 (mkF m 195 #[.val (.int zu), .val (.int zq), .val (.ref zo), .val (.ref zl), .val (.int za1), .val (.int zb1), .val (.int za2), .val (.int zb2), .val (.int za3), .val (.int zb3), .val (.int (1 : Int32)), .unset] [(.ref zl), (.int (own_rt 4 (own_rt 4 (own_rt 4 (own_rt 4 (own_jn (own_jn (own_jn [0, 1, 2, 3] [1, 1, 1, 1] za1 zb1).1 (own_jn [0, 1, 2, 3] [1, 1, 1, 1] za1 zb1).2 za2 zb2).1 (own_jn (own_jn [0, 1, 2, 3] [1, 1, 1, 1] za1 zb1).1 (own_jn [0, 1, 2, 3] [1, 1, 1, 1] za1 zb1).2 za2 zb2).2 za3 zb3).1 (0 : Int32)).1 (1 : Int32)).1 (2 : Int32)).1 (3 : Int32)).2)])
  refine own_go (fun t k => XS.iconst X223.here hx rfl (hb hby at_195) k) ?_
  show own_WP _ _ _ _ T223 (mkF m 196 #[.val (.int zu), .val (.int zq), .val (.ref zo), .val (.ref zl), .val (.int za1), .val (.int zb1), .val (.int za2), .val (.int zb2), .val (.int za3), .val (.int zb3), .val (.int (1 : Int32)), .unset] [(.int (3 : Int32)), (.ref zl), (.int (own_rt 4 (own_rt 4 (own_rt 4 (own_rt 4 (own_jn (own_jn (own_jn [0, 1, 2, 3] [1, 1, 1, 1] za1 zb1).1 (own_jn [0, 1, 2, 3] [1, 1, 1, 1] za1 zb1).2 za2 zb2).1 (own_jn (own_jn [0, 1, 2, 3] [1, 1, 1, 1] za1 zb1).1 (own_jn [0, 1, 2, 3] [1, 1, 1, 1] za1 zb1).2 za2 zb2).2 za3 zb3).1 (0 : Int32)).1 (1 : Int32)).1 (2 : Int32)).1 (3 : Int32)).2)])
  refine own_ldI X223 hx hZ rfl f232 (j := (3 : Int32)) (w := (own_g (own_md (own_md (own_md [0, 1, 2, 3] za1 zb1) za2 zb2) za3 zb3) (3 : Int32))) ⟨by decide, by decide⟩ (own_mg _ _) (hb hby at_196) ?_
  show own_WP _ _ _ _ T223 (mkF m 197 #[.val (.int zu), .val (.int zq), .val (.ref zo), .val (.ref zl), .val (.int za1), .val (.int zb1), .val (.int za2), .val (.int zb2), .val (.int za3), .val (.int zb3), .val (.int (1 : Int32)), .unset] [(.int (own_g (own_md (own_md (own_md [0, 1, 2, 3] za1 zb1) za2 zb2) za3 zb3) (3 : Int32))), (.int (own_rt 4 (own_rt 4 (own_rt 4 (own_rt 4 (own_jn (own_jn (own_jn [0, 1, 2, 3] [1, 1, 1, 1] za1 zb1).1 (own_jn [0, 1, 2, 3] [1, 1, 1, 1] za1 zb1).2 za2 zb2).1 (own_jn (own_jn [0, 1, 2, 3] [1, 1, 1, 1] za1 zb1).1 (own_jn [0, 1, 2, 3] [1, 1, 1, 1] za1 zb1).2 za2 zb2).2 za3 zb3).1 (0 : Int32)).1 (1 : Int32)).1 (2 : Int32)).1 (3 : Int32)).2)])
  have hc197 : (own_rt 4 (own_rt 4 (own_rt 4 (own_rt 4 (own_jn (own_jn (own_jn [0, 1, 2, 3] [1, 1, 1, 1] za1 zb1).1 (own_jn [0, 1, 2, 3] [1, 1, 1, 1] za1 zb1).2 za2 zb2).1 (own_jn (own_jn [0, 1, 2, 3] [1, 1, 1, 1] za1 zb1).1 (own_jn [0, 1, 2, 3] [1, 1, 1, 1] za1 zb1).2 za2 zb2).2 za3 zb3).1 (0 : Int32)).1 (1 : Int32)).1 (2 : Int32)).1 (3 : Int32)).2 = (own_g (own_md (own_md (own_md [0, 1, 2, 3] za1 zb1) za2 zb2) za3 zb3) (3 : Int32)) := by
    exact rv3.2.1
  refine own_go (fun t k => XS.icmpNo X223.here hx rfl (hb hby at_197) rfl (teq hc197).2 k) ?_
  show own_WP _ _ _ _ T223 (mkF m 200 #[.val (.int zu), .val (.int zq), .val (.ref zo), .val (.ref zl), .val (.int za1), .val (.int zb1), .val (.int za2), .val (.int zb2), .val (.int za3), .val (.int zb3), .val (.int (1 : Int32)), .unset] [])
  refine own_go (fun t k => XS.iconst X223.here hx rfl (hb hby at_200) k) ?_
  show own_WP _ _ _ _ T223 (mkF m 201 #[.val (.int zu), .val (.int zq), .val (.ref zo), .val (.ref zl), .val (.int za1), .val (.int zb1), .val (.int za2), .val (.int zb2), .val (.int za3), .val (.int zb3), .val (.int (1 : Int32)), .unset] [(.int (1 : Int32))])
  refine own_go (fun t k => XS.goto X223.here hx rfl (pc0 := 201) (pc' := 205) rfl (hb hby at_201) (by decide) (by decide) k) ?_
  show own_WP _ _ _ _ T223 (mkF m 205 #[.val (.int zu), .val (.int zq), .val (.ref zo), .val (.ref zl), .val (.int za1), .val (.int zb1), .val (.int za2), .val (.int zb2), .val (.int za3), .val (.int zb3), .val (.int (1 : Int32)), .unset] [(.int (1 : Int32))])
  refine own_go (fun t k => XS.istore X223.here hx rfl (hb hby at_205) rfl (l' := #[.val (.int zu), .val (.int zq), .val (.ref zo), .val (.ref zl), .val (.int za1), .val (.int zb1), .val (.int za2), .val (.int zb2), .val (.int za3), .val (.int zb3), .val (.int (1 : Int32)), .unset]) rfl k) ?_
  show own_WP _ _ _ _ T223 (mkF m 207 #[.val (.int zu), .val (.int zq), .val (.ref zo), .val (.ref zl), .val (.int za1), .val (.int zb1), .val (.int za2), .val (.int zb2), .val (.int za3), .val (.int zb3), .val (.int (1 : Int32)), .unset] [])
  refine own_go (fun t k => XS.iloadN X223.here hx rfl (hb hby at_207) rfl  k) ?_
  show own_WP _ _ _ _ T223 (mkF m 208 #[.val (.int zu), .val (.int zq), .val (.ref zo), .val (.ref zl), .val (.int za1), .val (.int zb1), .val (.int za2), .val (.int zb2), .val (.int za3), .val (.int zb3), .val (.int (1 : Int32)), .unset] [(.int zq)])
  refine own_go (fun t k => XS.iconst X223.here hx rfl (hb hby at_208) k) ?_
  show own_WP _ _ _ _ T223 (mkF m 209 #[.val (.int zu), .val (.int zq), .val (.ref zo), .val (.ref zl), .val (.int za1), .val (.int zb1), .val (.int za2), .val (.int zb2), .val (.int za3), .val (.int zb3), .val (.int (1 : Int32)), .unset] [(.int (3 : Int32)), (.int zq)])
  refine own_go (fun t k => XS.iand X223.here hx rfl (hb hby at_209) rfl k) ?_
  show own_WP _ _ _ _ T223 (mkF m 210 #[.val (.int zu), .val (.int zq), .val (.ref zo), .val (.ref zl), .val (.int za1), .val (.int zb1), .val (.int za2), .val (.int zb2), .val (.int za3), .val (.int zb3), .val (.int (1 : Int32)), .unset] [(.int (zq &&& (3 : Int32)))])
  generalize d_zt : (zq &&& (3 : Int32)) = zt
  refine own_go (fun t k => XS.istore X223.here hx rfl (hb hby at_210) rfl (l' := #[.val (.int zu), .val (.int zq), .val (.ref zo), .val (.ref zl), .val (.int za1), .val (.int zb1), .val (.int za2), .val (.int zb2), .val (.int za3), .val (.int zb3), .val (.int (1 : Int32)), .val (.int zt)]) rfl k) ?_
  have hit : own_in zt := by rw [← d_zt]; exact own_m3 _
  have rv4 := own_irs rv3.1 hit
  show own_WP _ _ _ _ T223 (mkF m 212 #[.val (.int zu), .val (.int zq), .val (.ref zo), .val (.ref zl), .val (.int za1), .val (.int zb1), .val (.int za2), .val (.int zb2), .val (.int za3), .val (.int zb3), .val (.int (1 : Int32)), .val (.int zt)] [])
  refine own_go (fun t k => XS.iload X223.here hx rfl (hb hby at_212) rfl  k) ?_
  show own_WP _ _ _ _ T223 (mkF m 214 #[.val (.int zu), .val (.int zq), .val (.ref zo), .val (.ref zl), .val (.int za1), .val (.int zb1), .val (.int za2), .val (.int zb2), .val (.int za3), .val (.int zb3), .val (.int (1 : Int32)), .val (.int zt)] [(.int (1 : Int32))])
  have hc214 : ¬ ((1 : Int32) = (0 : Int32)) := by decide
  refine own_go (fun t k => XS.ifNo X223.here hx rfl (hb hby at_214) rfl ((if0 _ _).trans (feq hc214).1) k) ?_
  show own_WP _ _ _ _ T223 (mkF m 217 #[.val (.int zu), .val (.int zq), .val (.ref zo), .val (.ref zl), .val (.int za1), .val (.int zb1), .val (.int za2), .val (.int zb2), .val (.int za3), .val (.int zb3), .val (.int (1 : Int32)), .val (.int zt)] [])
  refine own_go (fun t k => XS.aloadN X223.here hx rfl (hb hby at_217) rfl rfl  k) ?_
  show own_WP _ _ _ _ T223 (mkF m 218 #[.val (.int zu), .val (.int zq), .val (.ref zo), .val (.ref zl), .val (.int za1), .val (.int zb1), .val (.int za2), .val (.int zb2), .val (.int za3), .val (.int zb3), .val (.int (1 : Int32)), .val (.int zt)] [(.ref zo)])
  refine own_go (fun t k => XS.iload X223.here hx rfl (hb hby at_218) rfl  k) ?_
  show own_WP _ _ _ _ T223 (mkF m 220 #[.val (.int zu), .val (.int zq), .val (.ref zo), .val (.ref zl), .val (.int za1), .val (.int zb1), .val (.int za2), .val (.int zb2), .val (.int za3), .val (.int zb3), .val (.int (1 : Int32)), .val (.int zt)] [(.int zt), (.ref zo)])
  obtain ⟨cq235, kq235, q235a, q235b, q235c⟩ := isOf hZ rfl f225
  obtain ⟨_, _, ⟨T235, L235, k235, n235⟩, -, X235, ⟨Lc235, hQ235, l235, y235, z235⟩, st235⟩ := X223.virtualBack hx (y := (⟨"com/example/ringspan/ringspan/symmetry/Orbits", "root", "(I)I"⟩ : MethodName)) (z := (⟨"com/example/ringspan/ringspan/symmetry/Orbits", "root", "(I)I"⟩ : MethodName)) hown (mvT hZ (hw _ (List.mem_of_getElem? (i := 32) rfl))) (mvT hZ (hw _ (List.mem_of_getElem? (i := 24) rfl))) (notFace_of_selects (args := #[]) (mvT hZ (hw _ (List.mem_of_getElem? (i := 26) rfl)))) (mvT hZ (hw _ (List.mem_of_getElem? (i := 26) rfl))) (mvT hZ (hw _ (List.mem_of_getElem? (i := 25) rfl))) (by decide) (backOf (W := 0) (rm4 l Z a0 hw [] zo zt zp kp8 ((own_rt 4 (own_rt 4 (own_rt 4 (own_rt 4 (own_jn (own_jn (own_jn [0, 1, 2, 3] [1, 1, 1, 1] za1 zb1).1 (own_jn [0, 1, 2, 3] [1, 1, 1, 1] za1 zb1).2 za2 zb2).1 (own_jn (own_jn [0, 1, 2, 3] [1, 1, 1, 1] za1 zb1).1 (own_jn [0, 1, 2, 3] [1, 1, 1, 1] za1 zb1).2 za2 zb2).2 za3 zb3).1 (0 : Int32)).1 (1 : Int32)).1 (2 : Int32)).1 (3 : Int32)).1) T223.heap n0 (own_le Z0 K234) f226 f224 g_zp ne_zo_zp (show own_al (own_rt 4 (own_rt 4 (own_rt 4 (own_rt 4 (own_jn (own_jn (own_jn [0, 1, 2, 3] [1, 1, 1, 1] za1 zb1).1 (own_jn [0, 1, 2, 3] [1, 1, 1, 1] za1 zb1).2 za2 zb2).1 (own_jn (own_jn [0, 1, 2, 3] [1, 1, 1, 1] za1 zb1).1 (own_jn [0, 1, 2, 3] [1, 1, 1, 1] za1 zb1).2 za2 zb2).2 za3 zb3).1 (0 : Int32)).1 (1 : Int32)).1 (2 : Int32)).1 (3 : Int32)).1 from own_val rv3.1.1) (show own_in zt from hit) (show own_ok 4 (own_rt 4 (own_rt 4 (own_rt 4 (own_rt 4 (own_jn (own_jn (own_jn [0, 1, 2, 3] [1, 1, 1, 1] za1 zb1).1 (own_jn [0, 1, 2, 3] [1, 1, 1, 1] za1 zb1).2 za2 zb2).1 (own_jn (own_jn [0, 1, 2, 3] [1, 1, 1, 1] za1 zb1).1 (own_jn [0, 1, 2, 3] [1, 1, 1, 1] za1 zb1).2 za2 zb2).2 za3 zb3).1 (0 : Int32)).1 (1 : Int32)).1 (2 : Int32)).1 (3 : Int32)).1 zt = true from rv4.2.2.1)) hZ (hw _ (List.mem_of_getElem? (i := 27) rfl)) (hw _ (List.mem_of_getElem? (i := 2) rfl)) (by decide) (by decide)) q235a q235c (g := (mkF m 220 #[.val (.int zu), .val (.int zq), .val (.ref zo), .val (.ref zl), .val (.int za1), .val (.int zb1), .val (.int za2), .val (.int zb2), .val (.int za3), .val (.int zb3), .val (.int (1 : Int32)), .val (.int zt)] [(.int zt), (.ref zo)])) rfl (by rw [hml]; rfl) (Steps.refl _) (argsL := [(.int zt)]) (rest := []) (lenOf own_pd81837 rfl) rfl (by show 2 * 0 + _ ≤ _; exact Nat.le_of_eq rfl) (hb hby at_220) (fun _ _ => ⟨rfl, rfl, (by decide : 5 + 0 ≤ _), (by decide : 20 + 0 ≤ _)⟩)
  dsimp only [Pt.U, Pt.locs, Pt.cells, Pt.slots] at X235 l235 y235 z235 st235 hQ235
  subst l235 y235 z235
  obtain ⟨rfl, N235q, Kc235, f236⟩ := hQ235
  have N235 := Fr.app N223 N235q
  refine own_tr st235 ?_
  have f237 : Exa Z T235.heap zo "com/example/ringspan/ringspan/symmetry/Orbits" := f225.keep Kc235
  have f238 : Fld Z T235.heap zo "com/example/ringspan/ringspan/symmetry/Orbits" "parents" "[I" (.ref zp) := f226.keep Kc235 (own_nm ne_zo_zp)
  have f239 : Fld Z T235.heap zo "com/example/ringspan/ringspan/symmetry/Orbits" "sizes" "[I" (.ref zs) := f227.keep Kc235 (own_nm ne_zo_zp)
  have f240 : Fld Z T235.heap zo "com/example/ringspan/ringspan/symmetry/Orbits" "marks" "[I" (.ref zm) := f228.keep Kc235 (own_nm ne_zo_zp)
  have f241 : Fld Z T235.heap zo "com/example/ringspan/ringspan/symmetry/Orbits" "count" "I" (.int rc156) := f229.keep Kc235 (own_nm ne_zo_zp)
  have f242 : Arv Z T235.heap zs ks9 .int (4 : Int32) (List.map Value.int (own_jn (own_jn (own_jn [0, 1, 2, 3] [1, 1, 1, 1] za1 zb1).1 (own_jn [0, 1, 2, 3] [1, 1, 1, 1] za1 zb1).2 za2 zb2).1 (own_jn (own_jn [0, 1, 2, 3] [1, 1, 1, 1] za1 zb1).1 (own_jn [0, 1, 2, 3] [1, 1, 1, 1] za1 zb1).2 za2 zb2).2 za3 zb3).2) (.int (0 : Int32)) := f230.keep Kc235 (own_nm (Ne.symm hd1_7))
  have f243 : Arv Z T235.heap zm km10 .int (4 : Int32) (List.map Value.int rM155) (.int (0 : Int32)) := f231.keep Kc235 (own_nm (Ne.symm hd2_7))
  have f244 : Arv Z T235.heap zl k25 .int (4 : Int32) (List.map Value.int (own_md (own_md (own_md [0, 1, 2, 3] za1 zb1) za2 zb2) za3 zb3)) (.int (0 : Int32)) := f232.keep Kc235 (own_nm (Ne.symm ne_zp_zl))
  have K246 : Keep h0 T235.heap [] := K234.trans Kc235 (fun x hx => by cases List.mem_singleton.mp hx; exact Or.inr sz_zp)
  show own_WP _ _ _ _ T235 (mkF m 223 #[.val (.int zu), .val (.int zq), .val (.ref zo), .val (.ref zl), .val (.int za1), .val (.int zb1), .val (.int za2), .val (.int zb2), .val (.int za3), .val (.int zb3), .val (.int (1 : Int32)), .val (.int zt)] [(.int (own_rt 4 (own_rt 4 (own_rt 4 (own_rt 4 (own_rt 4 (own_jn (own_jn (own_jn [0, 1, 2, 3] [1, 1, 1, 1] za1 zb1).1 (own_jn [0, 1, 2, 3] [1, 1, 1, 1] za1 zb1).2 za2 zb2).1 (own_jn (own_jn [0, 1, 2, 3] [1, 1, 1, 1] za1 zb1).1 (own_jn [0, 1, 2, 3] [1, 1, 1, 1] za1 zb1).2 za2 zb2).2 za3 zb3).1 (0 : Int32)).1 (1 : Int32)).1 (2 : Int32)).1 (3 : Int32)).1 zt).2)])
  refine own_go (fun t k => XS.aloadN X235.here hx rfl (hb hby at_223) rfl rfl  k) ?_
  show own_WP _ _ _ _ T235 (mkF m 224 #[.val (.int zu), .val (.int zq), .val (.ref zo), .val (.ref zl), .val (.int za1), .val (.int zb1), .val (.int za2), .val (.int zb2), .val (.int za3), .val (.int zb3), .val (.int (1 : Int32)), .val (.int zt)] [(.ref zl), (.int (own_rt 4 (own_rt 4 (own_rt 4 (own_rt 4 (own_rt 4 (own_jn (own_jn (own_jn [0, 1, 2, 3] [1, 1, 1, 1] za1 zb1).1 (own_jn [0, 1, 2, 3] [1, 1, 1, 1] za1 zb1).2 za2 zb2).1 (own_jn (own_jn [0, 1, 2, 3] [1, 1, 1, 1] za1 zb1).1 (own_jn [0, 1, 2, 3] [1, 1, 1, 1] za1 zb1).2 za2 zb2).2 za3 zb3).1 (0 : Int32)).1 (1 : Int32)).1 (2 : Int32)).1 (3 : Int32)).1 zt).2)])
  refine own_go (fun t k => XS.iload X235.here hx rfl (hb hby at_224) rfl  k) ?_
  show own_WP _ _ _ _ T235 (mkF m 226 #[.val (.int zu), .val (.int zq), .val (.ref zo), .val (.ref zl), .val (.int za1), .val (.int zb1), .val (.int za2), .val (.int zb2), .val (.int za3), .val (.int zb3), .val (.int (1 : Int32)), .val (.int zt)] [(.int zt), (.ref zl), (.int (own_rt 4 (own_rt 4 (own_rt 4 (own_rt 4 (own_rt 4 (own_jn (own_jn (own_jn [0, 1, 2, 3] [1, 1, 1, 1] za1 zb1).1 (own_jn [0, 1, 2, 3] [1, 1, 1, 1] za1 zb1).2 za2 zb2).1 (own_jn (own_jn [0, 1, 2, 3] [1, 1, 1, 1] za1 zb1).1 (own_jn [0, 1, 2, 3] [1, 1, 1, 1] za1 zb1).2 za2 zb2).2 za3 zb3).1 (0 : Int32)).1 (1 : Int32)).1 (2 : Int32)).1 (3 : Int32)).1 zt).2)])
  refine own_ldI X235 hx hZ rfl f244 (j := zt) (w := (own_g (own_md (own_md (own_md [0, 1, 2, 3] za1 zb1) za2 zb2) za3 zb3) zt)) hit (own_mg _ _) (hb hby at_226) ?_
  show own_WP _ _ _ _ T235 (mkF m 227 #[.val (.int zu), .val (.int zq), .val (.ref zo), .val (.ref zl), .val (.int za1), .val (.int zb1), .val (.int za2), .val (.int zb2), .val (.int za3), .val (.int zb3), .val (.int (1 : Int32)), .val (.int zt)] [(.int (own_g (own_md (own_md (own_md [0, 1, 2, 3] za1 zb1) za2 zb2) za3 zb3) zt)), (.int (own_rt 4 (own_rt 4 (own_rt 4 (own_rt 4 (own_rt 4 (own_jn (own_jn (own_jn [0, 1, 2, 3] [1, 1, 1, 1] za1 zb1).1 (own_jn [0, 1, 2, 3] [1, 1, 1, 1] za1 zb1).2 za2 zb2).1 (own_jn (own_jn [0, 1, 2, 3] [1, 1, 1, 1] za1 zb1).1 (own_jn [0, 1, 2, 3] [1, 1, 1, 1] za1 zb1).2 za2 zb2).2 za3 zb3).1 (0 : Int32)).1 (1 : Int32)).1 (2 : Int32)).1 (3 : Int32)).1 zt).2)])
  have hc227 : (own_rt 4 (own_rt 4 (own_rt 4 (own_rt 4 (own_rt 4 (own_jn (own_jn (own_jn [0, 1, 2, 3] [1, 1, 1, 1] za1 zb1).1 (own_jn [0, 1, 2, 3] [1, 1, 1, 1] za1 zb1).2 za2 zb2).1 (own_jn (own_jn [0, 1, 2, 3] [1, 1, 1, 1] za1 zb1).1 (own_jn [0, 1, 2, 3] [1, 1, 1, 1] za1 zb1).2 za2 zb2).2 za3 zb3).1 (0 : Int32)).1 (1 : Int32)).1 (2 : Int32)).1 (3 : Int32)).1 zt).2 = (own_g (own_md (own_md (own_md [0, 1, 2, 3] za1 zb1) za2 zb2) za3 zb3) zt) := by
    exact rv4.2.1
  refine own_go (fun t k => XS.icmpNo X235.here hx rfl (hb hby at_227) rfl (teq hc227).2 k) ?_
  show own_WP _ _ _ _ T235 (mkF m 230 #[.val (.int zu), .val (.int zq), .val (.ref zo), .val (.ref zl), .val (.int za1), .val (.int zb1), .val (.int za2), .val (.int zb2), .val (.int za3), .val (.int zb3), .val (.int (1 : Int32)), .val (.int zt)] [])
  refine own_go (fun t k => XS.iconst X235.here hx rfl (hb hby at_230) k) ?_
  show own_WP _ _ _ _ T235 (mkF m 231 #[.val (.int zu), .val (.int zq), .val (.ref zo), .val (.ref zl), .val (.int za1), .val (.int zb1), .val (.int za2), .val (.int zb2), .val (.int za3), .val (.int zb3), .val (.int (1 : Int32)), .val (.int zt)] [(.int (1 : Int32))])
  refine own_go (fun t k => XS.goto X235.here hx rfl (pc0 := 231) (pc' := 235) rfl (hb hby at_231) (by decide) (by decide) k) ?_
  show own_WP _ _ _ _ T235 (mkF m 235 #[.val (.int zu), .val (.int zq), .val (.ref zo), .val (.ref zl), .val (.int za1), .val (.int zb1), .val (.int za2), .val (.int zb2), .val (.int za3), .val (.int zb3), .val (.int (1 : Int32)), .val (.int zt)] [(.int (1 : Int32))])
  refine own_go (fun t k => XS.istore X235.here hx rfl (hb hby at_235) rfl (l' := #[.val (.int zu), .val (.int zq), .val (.ref zo), .val (.ref zl), .val (.int za1), .val (.int zb1), .val (.int za2), .val (.int zb2), .val (.int za3), .val (.int zb3), .val (.int (1 : Int32)), .val (.int zt)]) rfl k) ?_
  show own_WP _ _ _ _ T235 (mkF m 237 #[.val (.int zu), .val (.int zq), .val (.ref zo), .val (.ref zl), .val (.int za1), .val (.int zb1), .val (.int za2), .val (.int zb2), .val (.int za3), .val (.int zb3), .val (.int (1 : Int32)), .val (.int zt)] [])
  refine own_go (fun t k => XS.iload X235.here hx rfl (hb hby at_237) rfl  k) ?_
  show own_WP _ _ _ _ T235 (mkF m 239 #[.val (.int zu), .val (.int zq), .val (.ref zo), .val (.ref zl), .val (.int za1), .val (.int zb1), .val (.int za2), .val (.int zb2), .val (.int za3), .val (.int zb3), .val (.int (1 : Int32)), .val (.int zt)] [(.int (1 : Int32))])
  refine own_retN X235 hx Bd.notSynchronized (t := .boolean) (by simp) Bd.returns (hb hby at_239) (by decide) (by decide) ?_
  exact ⟨rfl, N235⟩
set_option maxRecDepth 65536 in
set_option maxHeartbeats 40000000 in
theorem comes_1 {Post : Tables → Env → Array Value → State → Outcome → State → Prop} (hpost : ∀ tb e args s v u, (limb_1_1.after args s (.returned v) u = true ∧ limb_1_2.after args s (.returned v) u = true ∧ True) → FrameEnd s (.returned v) u (Jvm.fieldLocs frame_1_writes args s ++ Jvm.arrayLocs frame_1_arrays args s ++ Jvm.staticLocs frame_1_statics s) 24 128 → Post tb e args s (.returned v) u) :
    ArmFor flags0 classFile x code maxLocals ret World_1 tables_1 room_1 Calls_1 rest_1 Pre_1 Post := by
  intro l hfl _ _ p e ha hc hk s m args below hf hA hF happ hP
  obtain ⟨hcalls, hrest, hpre⟩ := hP
  obtain ⟨-, -, -, hnamed, -, -, -, hat⟩ := (Spec.applies_iff hf).mp happ
  obtain ⟨hg, hn⟩ := and_e (Cond.before_iff.mp (show (Jvm.Cond.and given_1 narrow_1).before args s = true from hpre))
  obtain ⟨u0, v0⟩ := and_e hg
  obtain ⟨u1, v1⟩ := and_e v0
  obtain ⟨w0, w1, rfl⟩ : ∃ w0 w1 : Value, args = #[w0, w1] := by
    have hs : args.size = 2 := by simpa [Cond.value, given_1] using u0
    obtain ⟨L⟩ := args
    match L, hs with
    | [w0, w1], _ => exact ⟨w0, w1, rfl⟩
  have hw := fun d (hd : d ∈ tables_1) => atoms_spec (ws := Jvm.Cond.code x code maxLocals ret :: tables_1) hat d (List.mem_cons_of_mem _ hd)
  obtain ⟨i0, ei0⟩ := is_v u1
  obtain rfl : w0 = (.int i0) := Option.some.inj ei0
  obtain ⟨i1, ei1⟩ := is_v v1
  obtain rfl : w1 = (.int i1) := Option.some.inj ei1
  obtain ⟨n, o, h1, h2, h3, _, L, rfl, ⟨rfl, N⟩, hq⟩ := rm0 l s _ hw tables_1 i0 i1  s.heap s.heap.size (Nat.le_refl _)  p e ha hc hk s m _ below hf ((Spec.applies_iff_loose hf).mp happ).1 ⟨rfl, State.Warmed39.refl s, rfl⟩ trivial
  refine ⟨n, _, h1, h2, h3, hpost _ _ _ _ _ _ ⟨Cond.after_iff.mpr rfl, Cond.after_iff.mpr (eq_i res_at (Term.int_eval (1)) rfl), trivial⟩ ⟨hq.1, hq.2.1, (hq.2.2.sift fun y hy => Or.inr (N y hy)).mono (by decide) (by decide)⟩⟩
theorem main_1_1 : Claimed_1_1 := comes_1 fun _ _ _ _ _ _ h hF => ⟨h.1, hF⟩
theorem main_1_2 : Claimed_1_2 := comes_1 fun _ _ _ _ _ _ h hF => ⟨h.2.1, hF⟩
end Jvm.Pilot.@@N@@
namespace Jvm.Pilot.@@N@@
open Jvm Jvm.ClassFile Sem Op Lib Jvm.Free Jvm.Stand Jvm.Pilot.@@N@@.Jvm.D
/-! MADE BY PROGRAM (witnessworld.py) out of the Statement's table words and the real class files: 10 classes; the members and pool entries that the words name. The judged class is class 1, her method 3. -/
namespace start1
open Jvm.ClassFile
def u (s : String) : CpInfo := .utf8 (stringToUtf16 s)
/-- a pool by its gaps: so many unusable entries, then the entry; so many at the end -/
def gap : Nat → List CpInfo → List CpInfo
  | 0, r => r
  | n + 1, r => .unusable :: gap n r
def poolList (es : List (Nat × CpInfo)) (last : Nat) : List CpInfo := es.foldr (fun e r => gap e.1 (e.2 :: r)) (gap last [])
def pool (es : List (Nat × CpInfo)) (last : Nat) : Array CpInfo := ⟨poolList es last⟩
def fileOf (pool : Array CpInfo) (this : Nat) (attrs : Array Attribute := #[]) (ms : Array MethodInfo := #[]) (fl : Nat := 33) (sup : Nat := 0) (ifs : Array Nat := #[]) (fds : Array FieldInfo := #[]) : ClassFile where
  minorVersion := 0
  majorVersion := 65
  constantPool := pool
  accessFlags := fl
  thisClass := this
  superClass := sup
  interfaces := ifs
  fields := fds
  methods := ms
  attributes := attrs
def plain (name : String) (sup : Option ClassId) : Class where
  name := name
  kind := .ordinary
  loader := none
  accessFlags := 33
  super := sup
  interfaces := #[]
  cf := none
  fields := #[]
  methods := #[]
  instanceTypes := #[]
  staticTypes := #[]
  resolved := #[]
  callSites := []
  init := .initialized
  statics := none
  mirror := none

def pool0 : Array CpInfo := pool [(5, u "<init>"), (0, u "()V"), (1, .class_ 10), (1, u "java/lang/Object")] 113

def k0c0 : Code := { maxStack := 0, maxLocals := 1, code := object_method_1_code, exceptionTable := #[], attributes := #[] }
def k0m0 : Method := { name := "<init>", desc := "()V", sig := { parameters := [], returnType := none }, accessFlags := 1, code := some k0c0 }
/-- java/lang/Object -/
def k0 : Class := { plain "java/lang/Object" none with
  accessFlags := 33
  interfaces := #[]
  cf := some (fileOf pool0 8 #[] #[{ accessFlags := 1, nameIndex := 5, descriptorIndex := 6, attributes := #[] }] 33 0 #[] #[])
  fields := #[]
  methods := #[k0m0]
  instanceTypes := #[]
  staticTypes := #[]
  resolved := Array.replicate 124 none
  statics := none }

def pool1 : Array CpInfo := pool [(2, .class_ 4), (1, u "java/lang/Object"), (0, u "<init>"), (0, u "()V"), (0, .methodref 8 9), (0, .class_ 10), (0, .nameAndType 11 12), (0, u "com/example/ringspan/ringspan/symmetry/OrbitsRootPinLaw"), (0, u "cnt"), (0, u "([II)I"), (0, .class_ 14), (0, u "com/example/ringspan/ringspan/symmetry/Orbits"), (0, .methodref 13 16), (0, .nameAndType 5 17), (0, u "(I)V"), (0, .methodref 13 19), (0, .nameAndType 20 21), (0, u "join"), (0, u "(II)V"), (0, .methodref 8 23), (0, .nameAndType 24 25), (0, u "model"), (0, u "([III)V"), (0, .methodref 13 27), (0, .nameAndType 28 29), (0, u "root"), (0, u "(I)I"), (5, u "law"), (0, u "(II)Z")] 2

def k1m0 : Method := { name := "<init>", desc := "()V", sig := { parameters := [], returnType := none }, accessFlags := 1, code := none }
def k1c1 : Code := { maxStack := 3, maxLocals := 2, code := method_2_code, exceptionTable := #[], attributes := #[] }
def k1m1 : Method := { name := "cnt", desc := "([II)I", sig := { parameters := [(.array .int), .int], returnType := some .int }, accessFlags := 10, code := some k1c1 }
def k1c2 : Code := { maxStack := 3, maxLocals := 9, code := method_3_code, exceptionTable := #[], attributes := #[] }
def k1m2 : Method := { name := "model", desc := "([III)V", sig := { parameters := [(.array .int), .int, .int], returnType := none }, accessFlags := 10, code := some k1c2 }
def k1c3 : Code := { maxStack := 4, maxLocals := 12, code := code, exceptionTable := #[], attributes := #[] }
def k1m3 : Method := { name := "law", desc := "(II)Z", sig := { parameters := [.int, .int], returnType := some .boolean }, accessFlags := 9, code := some k1c3 }
/-- com/example/ringspan/ringspan/symmetry/OrbitsRootPinLaw -/
def k1 : Class := { plain "com/example/ringspan/ringspan/symmetry/OrbitsRootPinLaw" (some 0) with
  accessFlags := 49
  interfaces := #[]
  cf := some (fileOf pool1 8 #[] #[{ accessFlags := 1, nameIndex := 5, descriptorIndex := 6, attributes := #[] }, { accessFlags := 10, nameIndex := 11, descriptorIndex := 12, attributes := #[] }, { accessFlags := 10, nameIndex := 24, descriptorIndex := 25, attributes := #[] }, { accessFlags := 9, nameIndex := 35, descriptorIndex := 36, attributes := #[] }] 49 2 #[] #[])
  fields := #[]
  methods := #[k1m0, k1m1, k1m2, k1m3]
  instanceTypes := #[]
  staticTypes := #[]
  resolved := Array.replicate 39 none
  statics := none }

def pool2 : Array CpInfo := pool [(1, .methodref 2 3), (0, .class_ 4), (0, .nameAndType 5 6), (0, u "java/lang/Object"), (0, u "<init>"), (0, u "()V"), (0, .fieldref 8 9), (0, .class_ 10), (0, .nameAndType 11 12), (0, u "com/example/ringspan/ringspan/symmetry/Orbits"), (0, u "parents"), (0, u "[I"), (0, .fieldref 8 14), (0, .nameAndType 15 12), (0, u "sizes"), (0, .fieldref 8 17), (0, .nameAndType 18 12), (0, u "marks"), (0, .fieldref 8 20), (0, .nameAndType 21 22), (0, u "count"), (0, u "I"), (2, u "join"), (0, u "(II)V"), (0, .methodref 8 28), (0, .nameAndType 29 30), (0, u "root"), (0, u "(I)I"), (0, .methodref 32 33), (0, .class_ 34), (0, .nameAndType 35 36), (0, u "java/lang/Math"), (0, u "max"), (0, u "(II)I"), (0, u "(I)V")] 10

def k2c0 : Code := { maxStack := 3, maxLocals := 3, code := prog_71_method_1_code, exceptionTable := #[], attributes := #[] }
def k2m0 : Method := { name := "<init>", desc := "(I)V", sig := { parameters := [.int], returnType := none }, accessFlags := 0, code := some k2c0 }
def k2c1 : Code := { maxStack := 5, maxLocals := 3, code := prog_71_method_3_code, exceptionTable := #[], attributes := #[] }
def k2m1 : Method := { name := "root", desc := "(I)I", sig := { parameters := [.int], returnType := some .int }, accessFlags := 0, code := some k2c1 }
def k2c2 : Code := { maxStack := 5, maxLocals := 7, code := prog_71_method_8_code, exceptionTable := #[], attributes := #[] }
def k2m2 : Method := { name := "join", desc := "(II)V", sig := { parameters := [.int, .int], returnType := none }, accessFlags := 0, code := some k2c2 }
/-- com/example/ringspan/ringspan/symmetry/Orbits -/
def k2 : Class := { plain "com/example/ringspan/ringspan/symmetry/Orbits" (some 0) with
  accessFlags := 48
  interfaces := #[]
  cf := some (fileOf pool2 8 #[] #[{ accessFlags := 0, nameIndex := 5, descriptorIndex := 37, attributes := #[] }, { accessFlags := 0, nameIndex := 29, descriptorIndex := 30, attributes := #[] }, { accessFlags := 0, nameIndex := 25, descriptorIndex := 26, attributes := #[] }] 48 2 #[] #[{ accessFlags := 18, nameIndex := 11, descriptorIndex := 12, attributes := #[] }, { accessFlags := 18, nameIndex := 15, descriptorIndex := 12, attributes := #[] }, { accessFlags := 18, nameIndex := 18, descriptorIndex := 12, attributes := #[] }, { accessFlags := 2, nameIndex := 21, descriptorIndex := 22, attributes := #[] }])
  fields := #[{ name := "parents", type := (.array .int), accessFlags := 18, slot := 0, constantValue := 0 }, { name := "sizes", type := (.array .int), accessFlags := 18, slot := 1, constantValue := 0 }, { name := "marks", type := (.array .int), accessFlags := 18, slot := 2, constantValue := 0 }, { name := "count", type := .int, accessFlags := 2, slot := 3, constantValue := 0 }]
  methods := #[k2m0, k2m1, k2m2]
  instanceTypes := #[(.array .int), (.array .int), (.array .int), .int]
  staticTypes := #[]
  resolved := Array.replicate 48 none
  statics := none }

def pool3 : Array CpInfo := pool [(1, .class_ 2), (0, u "java/lang/Math"), (1, .class_ 6), (1, u "java/lang/Object"), (0, u "<init>"), (0, u "()V"), (89, .class_ 100), (1, u "java/lang/Math$RandomNumberGeneratorHolder"), (71, u "negativeZeroFloatBits"), (0, u "J"), (2, u "negativeZeroDoubleBits"), (21, u "max"), (46, u "$assertionsDisabled"), (0, u "Z"), (88, u "(II)I"), (2, u "twoToTheDoubleScaleDown"), (0, u "D"), (4, u "twoToTheDoubleScaleUp"), (9, u "E"), (3, u "PI"), (2, u "TAU"), (2, u "DEGREES_TO_RADIANS"), (0, u "RADIANS_TO_DEGREES")] 94

def k3m0 : Method := { name := "<init>", desc := "()V", sig := { parameters := [], returnType := none }, accessFlags := 2, code := none }
def k3c1 : Code := { maxStack := 2, maxLocals := 2, code := jdk_29_method_65_code, exceptionTable := #[], attributes := #[] }
def k3m1 : Method := { name := "max", desc := "(II)I", sig := { parameters := [.int, .int], returnType := some .int }, accessFlags := 9, code := some k3c1 }
/-- java/lang/Math -/
def k3 : Class := { plain "java/lang/Math" (some 0) with
  accessFlags := 49
  interfaces := #[]
  cf := some (fileOf pool3 1 #[.nestMembers #[98]] #[{ accessFlags := 2, nameIndex := 7, descriptorIndex := 8, attributes := #[] }, { accessFlags := 9, nameIndex := 198, descriptorIndex := 335, attributes := #[] }] 49 4 #[] #[{ accessFlags := 25, nameIndex := 354, descriptorIndex := 339, attributes := #[] }, { accessFlags := 25, nameIndex := 358, descriptorIndex := 339, attributes := #[] }, { accessFlags := 25, nameIndex := 361, descriptorIndex := 339, attributes := #[] }, { accessFlags := 26, nameIndex := 364, descriptorIndex := 339, attributes := #[] }, { accessFlags := 26, nameIndex := 365, descriptorIndex := 339, attributes := #[] }, { accessFlags := 26, nameIndex := 172, descriptorIndex := 173, attributes := #[] }, { accessFlags := 26, nameIndex := 176, descriptorIndex := 173, attributes := #[] }, { accessFlags := 8, nameIndex := 344, descriptorIndex := 339, attributes := #[] }, { accessFlags := 8, nameIndex := 338, descriptorIndex := 339, attributes := #[] }, { accessFlags := 4120, nameIndex := 245, descriptorIndex := 246, attributes := #[] }])
  fields := #[{ name := "E", type := .double, accessFlags := 25, slot := 0, constantValue := 0 }, { name := "PI", type := .double, accessFlags := 25, slot := 1, constantValue := 0 }, { name := "TAU", type := .double, accessFlags := 25, slot := 2, constantValue := 0 }, { name := "DEGREES_TO_RADIANS", type := .double, accessFlags := 26, slot := 3, constantValue := 0 }, { name := "RADIANS_TO_DEGREES", type := .double, accessFlags := 26, slot := 4, constantValue := 0 }, { name := "negativeZeroFloatBits", type := .long, accessFlags := 26, slot := 5, constantValue := 0 }, { name := "negativeZeroDoubleBits", type := .long, accessFlags := 26, slot := 6, constantValue := 0 }, { name := "twoToTheDoubleScaleUp", type := .double, accessFlags := 8, slot := 7, constantValue := 0 }, { name := "twoToTheDoubleScaleDown", type := .double, accessFlags := 8, slot := 8, constantValue := 0 }, { name := "$assertionsDisabled", type := .boolean, accessFlags := 4120, slot := 9, constantValue := 0 }]
  methods := #[k3m0, k3m1]
  instanceTypes := #[]
  staticTypes := #[.double, .double, .double, .double, .double, .long, .long, .double, .double, .boolean]
  resolved := Array.replicate 460 none
  statics := none }

def pool4 : Array CpInfo := pool [(1, u "java/lang/Cloneable"), (0, .class_ 1), (0, u "java/lang/Object"), (0, .class_ 3)] 3

/-- java/lang/Cloneable -/
def k4 : Class := { plain "java/lang/Cloneable" (some 0) with
  accessFlags := 1537
  interfaces := #[]
  cf := some (fileOf pool4 2 #[] #[] 1537 4 #[] #[])
  fields := #[]
  methods := #[]
  instanceTypes := #[]
  staticTypes := #[]
  resolved := Array.replicate 8 none
  statics := none }

def pool5 : Array CpInfo := pool [(1, u "java/io/Serializable"), (0, .class_ 1), (0, u "java/lang/Object"), (0, .class_ 3)] 3

/-- java/io/Serializable -/
def k5 : Class := { plain "java/io/Serializable" (some 0) with
  accessFlags := 1537
  interfaces := #[]
  cf := some (fileOf pool5 2 #[] #[] 1537 4 #[] #[])
  fields := #[]
  methods := #[]
  instanceTypes := #[]
  staticTypes := #[]
  resolved := Array.replicate 8 none
  statics := none }

/-- the primitive byte -/
def k6 : Class := { plain "byte" none with kind := .primitive 'B', accessFlags := 0x411 }
/-- [B -/
def k7 : Class := { plain "[B" (some 0) with kind := .array 6 .byte, interfaces := #[4, 5], accessFlags := 1041 }

/-- the primitive int -/
def k8 : Class := { plain "int" none with kind := .primitive 'I', accessFlags := 0x411 }
/-- [I -/
def k9 : Class := { plain "[I" (some 0) with kind := .array 8 .int, interfaces := #[4, 5], accessFlags := 1041 }

def heap : Heap := #[]
def classes : Array Class := #[k0, k1, k2, k3, k4, k5, k6, k7, k8, k9]
def interned : List (Array UInt16 × Addr) := []
def slotsUsed : Nat := 0
def theMethod : MethodId := ⟨1, 3⟩
def args0 : Array Value := #[.int 5, .int 9]
def aboutOver (below : List Frame) : State where
  vm := { classes := classes, interned := interned.toArray }
  heap := heap
  slotsUsed := slotsUsed
  threads := #[{ frames := .invoking theMethod args0 :: below }]
def below0 : List Frame := [.native { method := ⟨0, 0⟩, args := #[] }]
def about1 : State := aboutOver below0
def p0 : Program := .bare "" "" ""
def e0 : Env := launch0.env 0 0 0
theorem w_frames : about1.frames = Frame.invoking theMethod args0 :: below0 := rfl
set_option maxRecDepth 65536 in
theorem w_args : argsFit about1.vm theMethod args0 = true := by decide +kernel
set_option maxRecDepth 65536 in
theorem w_heap : heapFits about1 = true := by decide +kernel
set_option maxRecDepth 65536 in
theorem w_runnable : about1.curStatus? = some .runnable := by decide +kernel
set_option maxRecDepth 65536 in
theorem w_alone : about1.alone = true := by decide +kernel
set_option maxRecDepth 65536 in
theorem w_named : about1.methodNamed? x = some theMethod := by decide +kernel
set_option maxRecDepth 65536 in
theorem w_hears : about1.hears theMethod below0 = true := by decide +kernel
set_option maxRecDepth 65536 in
theorem w_ripe : about1.ripe theMethod args0 below0 = true := by decide +kernel
theorem w_running : about1.status = .running := rfl
set_option maxRecDepth 65536 in
theorem w_room : about1.hasRoom e0.platform room_1 = true :=
  launch0.hasRoom_least _ room_1 (by decide +kernel) (by decide +kernel) (by decide +kernel) (by decide +kernel) (by decide +kernel) (by decide +kernel)
theorem allAtoms_all (ts : List Jvm.Cond) (a : Array Jvm.Value) (st : Jvm.State) : (allAtoms ts).before a st = ts.all (fun c => c.before a st) := by
  induction ts with
  | nil => rfl
  | cons c t ih =>
    show (Jvm.Cond.and c (allAtoms t)).before a st = _
    rw [Jvm.Cond.before_and, ih, List.all_cons]
def words1 : List Jvm.Cond := Jvm.Cond.code x code maxLocals ret :: tables_1
/-- a 'code' word, met by the world's own term for the bytes: nothing is compared byte by byte -/
theorem code_word {y : MethodName} {bytes : ByteArray} {mx : Nat} {rt : Option FieldType} {a : Array Value} {s : State} {m : MethodId} {meth : Method} {c : Code} (h1 : s.methodNamed? y = some m) (h2 : s.vm.method? m = some meth) (h3 : meth.code = some c) (h4 : c.code = bytes)
    (h5 : (c.maxLocals == mx && c.exceptionTable.isEmpty && decide (c.maxStack ≤ mostOperands) && decide (meth.sig.returnType = rt) && !meth.locks && decide (parseMethodDescriptor y.desc = some meth.sig)) = true) : (Jvm.Cond.code y bytes mx rt).before a s = true := by
  simp only [Bool.and_eq_true, beq_iff_eq, Bool.not_eq_true', decide_eq_true_eq] at h5
  obtain ⟨⟨⟨⟨⟨g1, g2⟩, g3⟩, g4⟩, g5⟩, g6⟩ := h5
  simp [Cond.before, Cond.holds, Cond.value, h1, h2, h3, h4, g1, g2, g3, g4, g5, g6]
def isCode : Jvm.Cond → Bool
  | .code _ _ _ _ => true
  | _ => false
theorem all_split {L : List Jvm.Cond} {P : Jvm.Cond → Bool} (h1 : L.all (fun c => isCode c || P c) = true) (h2 : ∀ c ∈ L.filter isCode, P c = true) : L.all P = true := by
  refine List.all_eq_true.mpr fun c hc => ?_
  have h := List.all_eq_true.mp h1 c hc
  rcases Bool.eq_false_or_eq_true (isCode c) with hi | hi
  · exact h2 c (List.mem_filter.mpr ⟨hc, hi⟩)
  · simpa [hi] using h
set_option maxRecDepth 65536 in
theorem w_c0 : (Jvm.Cond.code x code maxLocals ret).before args0 about1 = true := code_word (m := ⟨1, 3⟩) (meth := k1m3) (c := k1c3) (by decide +kernel) rfl rfl rfl (by decide +kernel)
set_option maxRecDepth 65536 in
theorem w_c1 : (Jvm.Cond.code ({ cls := "com/example/ringspan/ringspan/symmetry/Orbits", name := "<init>", desc := "(I)V" } : Jvm.MethodName) prog_71_method_1_code (3 : Nat) (Option.none : Option Jvm.ClassFile.FieldType)).before args0 about1 = true := code_word (m := ⟨2, 0⟩) (meth := k2m0) (c := k2c0) (by decide +kernel) rfl rfl rfl (by decide +kernel)
set_option maxRecDepth 65536 in
theorem w_c2 : (Jvm.Cond.code ({ cls := "java/lang/Object", name := "<init>", desc := "()V" } : Jvm.MethodName) object_method_1_code (1 : Nat) (Option.none : Option Jvm.ClassFile.FieldType)).before args0 about1 = true := code_word (m := ⟨0, 0⟩) (meth := k0m0) (c := k0c0) (by decide +kernel) rfl rfl rfl (by decide +kernel)
set_option maxRecDepth 65536 in
theorem w_c3 : (Jvm.Cond.code ({ cls := "com/example/ringspan/ringspan/symmetry/Orbits", name := "join", desc := "(II)V" } : Jvm.MethodName) prog_71_method_8_code (7 : Nat) (Option.none : Option Jvm.ClassFile.FieldType)).before args0 about1 = true := code_word (m := ⟨2, 2⟩) (meth := k2m2) (c := k2c2) (by decide +kernel) rfl rfl rfl (by decide +kernel)
set_option maxRecDepth 65536 in
theorem w_c4 : (Jvm.Cond.code ({ cls := "com/example/ringspan/ringspan/symmetry/Orbits", name := "root", desc := "(I)I" } : Jvm.MethodName) prog_71_method_3_code (3 : Nat) (Option.some Jvm.ClassFile.FieldType.int)).before args0 about1 = true := code_word (m := ⟨2, 1⟩) (meth := k2m1) (c := k2c1) (by decide +kernel) rfl rfl rfl (by decide +kernel)
set_option maxRecDepth 65536 in
theorem w_c5 : (Jvm.Cond.code ({ cls := "com/example/ringspan/ringspan/symmetry/OrbitsRootPinLaw", name := "model", desc := "([III)V" } : Jvm.MethodName) method_3_code (9 : Nat) (Option.none : Option Jvm.ClassFile.FieldType)).before args0 about1 = true := code_word (m := ⟨1, 2⟩) (meth := k1m2) (c := k1c2) (by decide +kernel) rfl rfl rfl (by decide +kernel)
set_option maxRecDepth 65536 in
theorem w_c6 : (Jvm.Cond.code ({ cls := "java/lang/Math", name := "max", desc := "(II)I" } : Jvm.MethodName) jdk_29_method_65_code (2 : Nat) (Option.some Jvm.ClassFile.FieldType.int)).before args0 about1 = true := code_word (m := ⟨3, 1⟩) (meth := k3m1) (c := k3c1) (by decide +kernel) rfl rfl rfl (by decide +kernel)
set_option maxRecDepth 65536 in
theorem w_c7 : (Jvm.Cond.code ({ cls := "com/example/ringspan/ringspan/symmetry/OrbitsRootPinLaw", name := "cnt", desc := "([II)I" } : Jvm.MethodName) method_2_code (2 : Nat) (Option.some Jvm.ClassFile.FieldType.int)).before args0 about1 = true := code_word (m := ⟨1, 1⟩) (meth := k1m1) (c := k1c1) (by decide +kernel) rfl rfl rfl (by decide +kernel)
def codes1 : List Jvm.Cond := [Jvm.Cond.code x code maxLocals ret, Jvm.Cond.code ({ cls := "com/example/ringspan/ringspan/symmetry/Orbits", name := "<init>", desc := "(I)V" } : Jvm.MethodName) prog_71_method_1_code (3 : Nat) (Option.none : Option Jvm.ClassFile.FieldType), Jvm.Cond.code ({ cls := "java/lang/Object", name := "<init>", desc := "()V" } : Jvm.MethodName) object_method_1_code (1 : Nat) (Option.none : Option Jvm.ClassFile.FieldType), Jvm.Cond.code ({ cls := "com/example/ringspan/ringspan/symmetry/Orbits", name := "join", desc := "(II)V" } : Jvm.MethodName) prog_71_method_8_code (7 : Nat) (Option.none : Option Jvm.ClassFile.FieldType), Jvm.Cond.code ({ cls := "com/example/ringspan/ringspan/symmetry/Orbits", name := "root", desc := "(I)I" } : Jvm.MethodName) prog_71_method_3_code (3 : Nat) (Option.some Jvm.ClassFile.FieldType.int), Jvm.Cond.code ({ cls := "com/example/ringspan/ringspan/symmetry/OrbitsRootPinLaw", name := "model", desc := "([III)V" } : Jvm.MethodName) method_3_code (9 : Nat) (Option.none : Option Jvm.ClassFile.FieldType), Jvm.Cond.code ({ cls := "java/lang/Math", name := "max", desc := "(II)I" } : Jvm.MethodName) jdk_29_method_65_code (2 : Nat) (Option.some Jvm.ClassFile.FieldType.int), Jvm.Cond.code ({ cls := "com/example/ringspan/ringspan/symmetry/OrbitsRootPinLaw", name := "cnt", desc := "([II)I" } : Jvm.MethodName) method_2_code (2 : Nat) (Option.some Jvm.ClassFile.FieldType.int)]
set_option maxRecDepth 65536 in
theorem codes_eq : words1.filter isCode = codes1 := rfl
theorem w_codes : ∀ c ∈ words1.filter isCode, c.before args0 about1 = true := by
  rw [codes_eq]
  intro c hc
  simp only [codes1, List.mem_cons, List.not_mem_nil, or_false] at hc
  rcases hc with rfl | rfl | rfl | rfl | rfl | rfl | rfl | rfl
  · exact w_c0
  · exact w_c1
  · exact w_c2
  · exact w_c3
  · exact w_c4
  · exact w_c5
  · exact w_c6
  · exact w_c7
set_option maxRecDepth 65536 in
theorem w_t1 : (words1.take 24).all (fun c => isCode c || c.before args0 about1) = true := by decide +kernel
set_option maxRecDepth 65536 in
theorem w_t2 : (words1.drop 24).all (fun c => isCode c || c.before args0 about1) = true := by decide +kernel
theorem w_tables : (allAtoms (Jvm.Cond.code x code maxLocals ret :: tables_1)).before args0 about1 = true := by
  rw [allAtoms_all]
  show words1.all (fun c => c.before args0 about1) = true
  refine all_split ?_ w_codes
  rw [← List.take_append_drop 24 words1, List.all_append, w_t1, w_t2]
  rfl
set_option maxRecDepth 65536 in
theorem w_case : (Jvm.Cond.and given_1 narrow_1).before args0 about1 = true := by decide +kernel
theorem w_applies : (headSpec (Jvm.Cond.code x code maxLocals ret :: tables_1) room_1).applies x e0.platform about1 = true :=
  (Spec.applies_iff w_frames).mpr ⟨w_running, w_runnable, w_alone, w_named, w_hears, w_ripe, w_room, w_tables⟩
theorem atStart : AtStart classFile x code maxLocals ret World_1 tables_1 room_1 Calls_1 rest_1 Pre_1 launch0 p0 e0 about1 theMethod args0 below0 :=
  ⟨lists_1, trivial, launch0.admits_env _ _ _, launch0.least_env, fairChoices_fair.cas, fairChoices_fair.clock, w_frames, w_args, w_heap, w_applies, trivial, trivial, w_case⟩
end start1
theorem witness_1 : WitnessClaimed_1 := ⟨start1.p0, start1.e0, start1.about1, start1.theMethod, start1.args0, start1.below0, start1.atStart⟩
end Jvm.Pilot.@@N@@
