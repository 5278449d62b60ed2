import JvmDerived
import JvmDerived.Pilot.@@N@@Statement
import JvmDerived.Pilot.@@N@@Code
set_option linter.unusedVariables false
set_option linter.unusedSimpArgs false
namespace Jvm.RoadKit
open Sem ClassFile Op Lib Jvm.Stand Jvm.Free Jvm.LawKit
section Own
variable {p : Program} {l : Launch} {e : Env} {R : Room} {s : State} {m : MethodId} {args : Array Value} {below : List Frame} {meth : Method} {c : Code} {T : State} {locs : List Loc} {cells slots : Nat}
/-- from U the run ends, and Q holds of what it returns -/
def Outs (p : Program) (e : Env) (below : List Frame) (s : State) (Q : Option Value → Heap → List Loc → Prop) (C S : Nat) (U : State) : Prop :=
  ∃ s₂ o, Steps p.tables e below U s₂ ∧ s₂.status = .running ∧ Ended s₂ below o ∧ ∃ v L, o = .returned v ∧ Q v s₂.heap L ∧ FrameEnd s o s₂ L C S
variable {Q : Option Value → Heap → List Loc → Prop} {C S : Nat}
theorem Outs.of {U U' : State} (h : ∀ t, Steps p.tables e below U' t → Steps p.tables e below U t) (k : Outs p e below s Q C S U') : Outs p e below s Q C S U := by
  obtain ⟨t, o, st, r⟩ := k
  exact ⟨t, o, h t st, r⟩
theorem Outs.to {U U' : State} (h : Steps p.tables e below U U') (k : Outs p e below s Q C S U') : Outs p e below s Q C S U := by
  obtain ⟨t, o, st, r⟩ := k
  exact ⟨t, o, h.trans st, r⟩
theorem Outs.mono {U : State} {Q' : Option Value → Heap → List Loc → Prop} (k : Outs p e below s Q C S U) (h : ∀ v h L, Q v h L → Q' v h L) : Outs p e below s Q' C S U := by
  obtain ⟨t, o, st, h1, h2, v, L, h3, h4, h5⟩ := k
  exact ⟨t, o, st, h1, h2, v, L, h3, h _ _ _ h4, h5⟩
theorem Outs.ret (X : Stand p l e R s m args below meth c T locs cells slots) {g : JFrame} {v : Option Value} (hv : meth.sig.returnType = none → v = none) (hlk : meth.locks = false) (hC : cells ≤ C) (hS : slots ≤ S)
    (st : ∀ fs, (∀ (f : JFrame) (acts : List Action), f.method = m → f.locked = none → f.entered = [] → (doReturn e (T.setTop f) acts v).1 = T.setFrames fs) → Steps p.tables e below (T.setTop g) (T.setFrames fs))
    {h : Heap} (eT : T.heap = h) (q : Q v h locs) : Outs p e below s Q C S (T.setTop g) := by
  subst eT
  obtain ⟨fs, hr, hrun, hended, hW, hsame⟩ := X.leave (v := v) hv hlk
  exact ⟨_, _, st fs hr, hrun, hended, v, locs, rfl, q, ⟨_, rfl⟩, hW, hsame.mono hC hS⟩
theorem Outs.retI (X : Stand p l e R s m args below meth c T locs cells slots) (hx : p.tables.exec = Jvm.exec) {pc : Nat} {Ls : Array Slot} {z : Int32} {rest : List Value} (hret : meth.sig.returnType = some .int) (hd : decode c.code pc = .ok (.ireturn, 1)) (hlk : meth.locks = false) (hC : cells ≤ C) (hS : slots ≤ S)
    {h : Heap} (eT : T.heap = h) (q : Q (some (.int z)) h locs) : Outs p e below s Q C S (T.setTop (mkF m pc Ls (.int z :: rest))) :=
  Outs.ret X (fun h => by rw [hret] at h; cases h) hlk hC hS (fun fs hl => retOut X hx hret rfl (Or.inl ⟨rfl, Or.inl rfl, z, rfl⟩) hd hl) eT q
theorem Outs.retL (X : Stand p l e R s m args below meth c T locs cells slots) (hx : p.tables.exec = Jvm.exec) {pc : Nat} {Ls : Array Slot} {z : Int64} {rest : List Value} (hret : meth.sig.returnType = some .long) (hd : decode c.code pc = .ok (.lreturn, 1)) (hlk : meth.locks = false) (hC : cells ≤ C) (hS : slots ≤ S)
    {h : Heap} (eT : T.heap = h) (q : Q (some (.long z)) h locs) : Outs p e below s Q C S (T.setTop (mkF m pc Ls (.long z :: rest))) :=
  Outs.ret X (fun h => by rw [hret] at h; cases h) hlk hC hS (fun fs hl => retOut X hx hret rfl (Or.inr (Or.inl ⟨rfl, rfl, z, rfl⟩)) hd hl) eT q
theorem Outs.retN (X : Stand p l e R s m args below meth c T locs cells slots) (hx : p.tables.exec = Jvm.exec) {pc : Nat} {Ls : Array Slot} {z : Int32} {t : FieldType} {rest : List Value} (hret : meth.sig.returnType = some t) (ht : t = .boolean ∨ t = .byte ∨ t = .char ∨ t = .short) (hd : decode c.code pc = .ok (.ireturn, 1)) (hlk : meth.locks = false) (hC : cells ≤ C) (hS : slots ≤ S)
    {h : Heap} (eT : T.heap = h) (q : Q (some (.int (nar t z))) h locs) : Outs p e below s Q C S (T.setTop (mkF m pc Ls (.int z :: rest))) :=
  Outs.ret X (fun h => by rw [hret] at h; cases h) hlk hC hS (fun fs hl => Jvm.RoadKit.retN X hx hret ht hd hl) eT q
theorem Outs.retV (X : Stand p l e R s m args below meth c T locs cells slots) (hx : p.tables.exec = Jvm.exec) {pc : Nat} {Ls : Array Slot} (hret : meth.sig.returnType = none) (hd : decode c.code pc = .ok (.return_, 1)) (hlk : meth.locks = false) (hC : cells ≤ C) (hS : slots ≤ S)
    {h : Heap} (eT : T.heap = h) (q : Q none h locs) : Outs p e below s Q C S (T.setTop (mkF m pc Ls [])) :=
  Outs.ret X (fun _ => rfl) hlk hC hS (fun fs hl => X.returnOut hx hret hd hl) eT q
theorem Outs.retA (X : Stand p l e R s m args below meth c T locs cells slots) (hx : p.tables.exec = Jvm.exec) {pc : Nat} {Ls : Array Slot} {w : Value} {t : FieldType} {rest : List Value} (hret : meth.sig.returnType = some t) (ht : t.isReference = true) (hw : w.isRef = true) (hn : narrow t w = w) (hd : decode c.code pc = .ok (.areturn, 1)) (hlk : meth.locks = false) (hC : cells ≤ C) (hS : slots ≤ S)
    {h : Heap} (eT : T.heap = h) (q : Q (some w) h locs) : Outs p e below s Q C S (T.setTop (mkF m pc Ls (w :: rest))) :=
  Outs.ret X (fun h => by rw [hret] at h; cases h) hlk hC hS (fun fs hl => retOut X hx hret hn (Or.inr (Or.inr (Or.inr (Or.inr ⟨rfl, ht, hw⟩)))) hd hl) eT q
theorem lremM {g : JFrame} {target : State} (X : Stand p l e R s m args below meth c T locs cells slots) (hx : p.tables.exec = Jvm.exec) (hg : g.method = m) {x y : Int64} {rest : List Value} (hd : decode c.code g.pc = .ok (.lrem, 1)) (hs : g.stack = .long y :: .long x :: rest) (hy : y ≠ 0)
    (hr : Steps p.tables e below (T.setTop { g with pc := g.pc + 1, stack := .long (x % y) :: rest }) target) : Steps p.tables e below (T.setTop g) target :=
  XS.lrem X.here hx hg hd hs hy (by rw [lrem_mod]; exact hr)
/-- a body that returns v and leaves the heap as it was -/
def QR (z : Option Value) (h0 : Heap) (n0 : Nat) (v : Option Value) (h : Heap) (L : List Loc) : Prop := v = z ∧ Fr n0 L ∧ h = h0
/-- the law's own -/
def QL (n0 : Nat) (v : Option Value) (h : Heap) (L : List Loc) : Prop := v = some (.int 1) ∧ Fr n0 L
end Own
end Jvm.RoadKit
namespace Jvm.RoadKit
open Sem ClassFile Op Lib Jvm.Stand Jvm.Free Jvm.LawKit
section OwnHeap
variable {p : Program} {l : Launch} {e : Env} {R : Room} {s : State} {m : MethodId} {args : Array Value} {below : List Frame} {meth : Method} {c : Code} {T : State} {locs : List Loc} {cells slots : Nat} {Z : State} {a0 : Array Value} {h h' : Heap} {a b : Addr} {ty : FieldType} {n : Nat}
def upv {α : Type} (g : Nat → α) (k : Nat) (v : α) : Nat → α := fun j => if j = k then v else g j
theorem upv_same {α : Type} (g : Nat → α) (k : Nat) (v : α) : upv g k v k = v := if_pos rfl
theorem upv_ne {α : Type} (g : Nat → α) {k j : Nat} (v : α) (q : j ≠ k) : upv g k v j = g j := if_neg q
/-- an array of n places; place j holds f j -/
def AF (Z : State) (h : Heap) (a : Addr) (ty : FieldType) (n : Nat) (f : Nat → Value) : Prop :=
  ∃ c : Cell, Arr Z h a c ty ∧ c.slots.size = n ∧ n < 2147483648 ∧ ∀ j, j < n → c.slots[j]? = some (f j)
def AI (Z : State) (h : Heap) (a : Addr) (ty : FieldType) (n : Nat) (g : Nat → Int32) : Prop := AF Z h a ty n (fun j => .int (g j))
def AJ (Z : State) (h : Heap) (a : Addr) (ty : FieldType) (n : Nat) (g : Nat → Int64) : Prop := AF Z h a ty n (fun j => .long (g j))
theorem AF.lt {f : Nat → Value} (F : AF Z h a ty n f) : a < h.size := by obtain ⟨c, A, -⟩ := F; exact A.lt
theorem AF.ext {f : Nat → Value} (F : AF Z h a ty n f) (E : Ext h h') : AF Z h' a ty n f := by obtain ⟨c, A, r⟩ := F; exact ⟨c, A.ext E, r⟩
theorem AF.other {f : Nat → Value} {sl : Nat} {v : Value} (F : AF Z h b ty n f) (W : Wr h h' a sl v) (q : b ≠ a) : AF Z h' b ty n f := by obtain ⟨c, A, r⟩ := F; exact ⟨c, A.other W q, r⟩
theorem AF.keep {f : Nat → Value} {ws : List Addr} (F : AF Z h a ty n f) (K : Keep h h' ws) (q : a ∉ ws) : AF Z h' a ty n f := by obtain ⟨c, A, r⟩ := F; exact ⟨c, ⟨K.2.1 a c A.1 q, A.2⟩, r⟩
theorem AF.len {f : Nat → Value} (F : AF Z h a ty n f) : n < 2147483648 := by obtain ⟨c, A, -, M, -⟩ := F; exact M
theorem AF.cong {f f' : Nat → Value} (F : AF Z h a ty n f) (q : ∀ j, j < n → f j = f' j) : AF Z h a ty n f' := by
  obtain ⟨c, A, S, M, G⟩ := F
  exact ⟨c, A, S, M, fun j hj => by rw [← q j hj]; exact G j hj⟩
theorem AI.cong {g g' : Nat → Int32} (F : AI Z h a ty n g) (q : ∀ j, j < n → g j = g' j) : AI Z h a ty n g' := AF.cong F fun j hj => by rw [q j hj]
theorem AJ.cong {g g' : Nat → Int64} (F : AJ Z h a ty n g) (q : ∀ j, j < n → g j = g' j) : AJ Z h a ty n g' := AF.cong F fun j hj => by rw [q j hj]
theorem own_nat {j : Int32} {k : Nat} (hk : j.toInt = k) : j.toNatClampNeg = k := by
  show j.toInt.toNat = k
  rw [hk]; rfl
theorem own_in {cl : Cell} {j : Int32} {k : Nat} (S : cl.slots.size = n) (hk : j.toInt = k) (hn : k < n) : ¬ (j < 0 ∨ cl.slots.size ≤ j.toNatClampNeg) := by
  rw [own_nat hk, S, Int32.lt_iff_toInt_lt, hk]
  have : (0 : Int32).toInt = 0 := rfl
  omega
theorem AF.set {f : Nat → Value} {k : Nat} {v : Value} (F : AF Z h a ty n f) (W : Wr h h' a k v) : AF Z h' a ty n (upv f k v) := by
  obtain ⟨c, A, S, M, G⟩ := F
  refine ⟨c.setSlot k v, A.same W, by rw [sz_set]; exact S, M, fun j hj => ?_⟩
  have hz : j < c.slots.size := by omega
  simp only [Cell.setSlot, upv, Array.getElem?_setIfInBounds]
  by_cases q : j = k
  · subst q; simp [hz]
  · rw [if_neg (Ne.symm q), if_neg q]; exact G j hj
theorem AI.set {g : Nat → Int32} {k : Nat} {x : Int32} (F : AI Z h a ty n g) (W : Wr h h' a k (.int x)) : AI Z h' a ty n (upv g k x) :=
  AF.cong (AF.set F W) fun j _ => by simp only [upv]; split <;> rfl
theorem AJ.set {g : Nat → Int64} {k : Nat} {x : Int64} (F : AJ Z h a ty n g) (W : Wr h h' a k (.long x)) : AJ Z h' a ty n (upv g k x) :=
  AF.cong (AF.set F W) fun j _ => by simp only [upv]; split <;> rfl
theorem AF.fresh {k : ClassId} {z : Int32} {i : Nat} (A : Arr Z h a (newA k ty z) ty) (q : z.toInt = i) : AF Z h a ty i (fun _ => defaultValue ty) := by
  have S : (newA k ty z).slots.size = i := by rw [sz_new, own_nat q]
  refine ⟨_, A, S, ?_, fun j hj => ?_⟩
  · have := z.toInt_lt; omega
  · have hz : j < (newA k ty z).slots.size := by omega
    simp only [newA] at hz ⊢
    rw [Array.getElem?_eq_getElem hz]; simp
section Loads
theorem ldI (X : Stand p l e R s m args below meth c T locs cells slots) (hx : p.tables.exec = Jvm.exec) (hZ : Z.Warmed39 s.vm) (eT : T.heap = h) {g : Nat → Int32} (F : AI Z h a .int n g) {j : Int32} {k : Nat} (hk : j.toInt = k) (hn : k < n) {f : JFrame} (hg : f.method = m) {rest : List Value} (hs : f.stack = .int j :: .ref a :: rest) (hd : decode c.code f.pc = .ok (.iaload, 1)) :
    ∀ target, Steps p.tables e below (T.setTop { f with pc := f.pc + 1, stack := .int (g k) :: rest }) target → Steps p.tables e below (T.setTop f) target := by
  obtain ⟨cl, A, S, M, G⟩ := F
  intro target kt
  exact X.iaload hx (by rw [eT]; exact A.1) (State.isArrayOf_alike hZ.alike A.2.1) A.2.2 (own_in S hk hn) (by rw [own_nat hk]; exact G k hn) hg hs hd target kt
theorem ldB (X : Stand p l e R s m args below meth c T locs cells slots) (hx : p.tables.exec = Jvm.exec) (hZ : Z.Warmed39 s.vm) (eT : T.heap = h) {g : Nat → Int32} (F : AI Z h a .byte n g) {j : Int32} {k : Nat} (hk : j.toInt = k) (hn : k < n) {f : JFrame} (hg : f.method = m) {rest : List Value} (hs : f.stack = .int j :: .ref a :: rest) (hd : decode c.code f.pc = .ok (.baload, 1)) :
    ∀ target, Steps p.tables e below (T.setTop { f with pc := f.pc + 1, stack := .int (g k) :: rest }) target → Steps p.tables e below (T.setTop f) target := by
  obtain ⟨cl, A, S, M, G⟩ := F
  intro target kt
  exact X.baloadBytes hx (by rw [eT]; exact A.1) (State.isArrayOf_alike hZ.alike A.2.1) A.2.2 (own_in S hk hn) (by rw [own_nat hk]; exact G k hn) hg hs hd target kt
theorem ldJ (X : Stand p l e R s m args below meth c T locs cells slots) (hx : p.tables.exec = Jvm.exec) (hZ : Z.Warmed39 s.vm) (eT : T.heap = h) {g : Nat → Int64} (F : AJ Z h a .long n g) {j : Int32} {k : Nat} (hk : j.toInt = k) (hn : k < n) {f : JFrame} (hg : f.method = m) {rest : List Value} (hs : f.stack = .int j :: .ref a :: rest) (hd : decode c.code f.pc = .ok (.laload, 1)) :
    ∀ target, Steps p.tables e below (T.setTop { f with pc := f.pc + 1, stack := .long (g k) :: rest }) target → Steps p.tables e below (T.setTop f) target := by
  obtain ⟨cl, A, S, M, G⟩ := F
  intro target kt
  exact X.laload hx (by rw [eT]; exact A.1) (State.isArrayOf_alike hZ.alike A.2.1) A.2.2 (own_in S hk hn) (by rw [own_nat hk]; exact G k hn) hg hs hd target kt
theorem ldR (X : Stand p l e R s m args below meth c T locs cells slots) (hx : p.tables.exec = Jvm.exec) (hZ : Z.Warmed39 s.vm) (eT : T.heap = h) {g : Nat → Value} (F : AF Z h a ty n g) (hty : ty.isReference = true) {j : Int32} {k : Nat} (hk : j.toInt = k) (hn : k < n) {f : JFrame} (hg : f.method = m) {rest : List Value} (hs : f.stack = .int j :: .ref a :: rest) (hd : decode c.code f.pc = .ok (.aaload, 1)) :
    ∀ target, Steps p.tables e below (T.setTop { f with pc := f.pc + 1, stack := g k :: rest }) target → Steps p.tables e below (T.setTop f) target := by
  obtain ⟨cl, A, S, M, G⟩ := F
  intro target kt
  exact X.aaload hx (by rw [eT]; exact A.1) (State.isArrayOf_alike hZ.alike A.2.1) hty A.2.2 (own_in S hk hn) (by rw [own_nat hk]; exact G k hn) hg hs hd target kt
theorem alen (X : Stand p l e R s m args below meth c T locs cells slots) (hx : p.tables.exec = Jvm.exec) (hZ : Z.Warmed39 s.vm) (eT : T.heap = h) {g : Nat → Value} (F : AF Z h a ty n g) {z : Int32} (hz : z.toInt = n) {f : JFrame} (hg : f.method = m) {rest : List Value} (hs : f.stack = .ref a :: rest) (hd : decode c.code f.pc = .ok (.arraylength, 1)) :
    ∀ target, Steps p.tables e below (T.setTop { f with pc := f.pc + 1, stack := .int z :: rest }) target → Steps p.tables e below (T.setTop f) target := by
  obtain ⟨cl, A, S, M, G⟩ := F
  intro target kt
  have h0 : ¬ z < 0 := by
    rw [Int32.lt_iff_toInt_lt, hz]
    have : (0 : Int32).toInt = 0 := rfl
    omega
  have q : cl.slots.size.toInt32 = z := by rw [S, ← own_nat hz]; exact (back32 h0).1
  refine X.arraylength hx (by rw [eT]; exact A.1) (State.isArrayOf_alike hZ.alike A.2.1) hg hs hd target ?_
  rw [q]; exact kt
end Loads
section Stores
theorem puI (X : Stand p l e R s m args below meth c T locs cells slots) (hx : p.tables.exec = Jvm.exec) (hZ : Z.Warmed39 s.vm) (eT : T.heap = h) {g : Nat → Int32} (F : AI Z h a .int n g) {j x : Int32} {k : Nat} (hk : j.toInt = k) (hn : k < n) {f : JFrame} (hg : f.method = m) {rest : List Value} (hs : f.stack = .int x :: .int j :: .ref a :: rest) (hd : decode c.code f.pc = .ok (.iastore, 1)) :
    ∃ T' h', Stand p l e R s m args below meth c T' (locs ++ [⟨a, k⟩]) cells slots ∧ T'.heap = h' ∧ Wr h h' a k (.int x) ∧ AI Z h' a .int n (upv g k x) ∧ ∀ target, Steps p.tables e below (T'.setTop { f with pc := f.pc + 1, stack := rest }) target → Steps p.tables e below (T.setTop f) target := by
  obtain ⟨cl, A, S, M, G⟩ := id F
  obtain ⟨T', h', X', e', W, st⟩ := stI X hx hZ eT A (j := j) (own_in S hk hn) hg hs hd
  rw [own_nat hk] at X' W
  exact ⟨T', h', X', e', W, AI.set F W, st⟩
theorem puB (X : Stand p l e R s m args below meth c T locs cells slots) (hx : p.tables.exec = Jvm.exec) (hZ : Z.Warmed39 s.vm) (eT : T.heap = h) {g : Nat → Int32} (F : AI Z h a .byte n g) {j x : Int32} {k : Nat} (hk : j.toInt = k) (hn : k < n) {f : JFrame} (hg : f.method = m) {rest : List Value} (hs : f.stack = .int x :: .int j :: .ref a :: rest) (hd : decode c.code f.pc = .ok (.bastore, 1)) :
    ∃ T' h', Stand p l e R s m args below meth c T' (locs ++ [⟨a, k⟩]) cells slots ∧ T'.heap = h' ∧ Wr h h' a k (.int x.toInt8.toInt32) ∧ AI Z h' a .byte n (upv g k x.toInt8.toInt32) ∧ ∀ target, Steps p.tables e below (T'.setTop { f with pc := f.pc + 1, stack := rest }) target → Steps p.tables e below (T.setTop f) target := by
  obtain ⟨cl, A, S, M, G⟩ := id F
  obtain ⟨T', h', X', e', W, st⟩ := stB X hx hZ eT A (j := j) (own_in S hk hn) hg hs hd
  rw [own_nat hk] at X' W
  exact ⟨T', h', X', e', W, AI.set F W, st⟩
theorem puJ (X : Stand p l e R s m args below meth c T locs cells slots) (hx : p.tables.exec = Jvm.exec) (hZ : Z.Warmed39 s.vm) (eT : T.heap = h) {g : Nat → Int64} (F : AJ Z h a .long n g) {j : Int32} {x : Int64} {k : Nat} (hk : j.toInt = k) (hn : k < n) {f : JFrame} (hg : f.method = m) {rest : List Value} (hs : f.stack = .long x :: .int j :: .ref a :: rest) (hd : decode c.code f.pc = .ok (.lastore, 1)) :
    ∃ T' h', Stand p l e R s m args below meth c T' (locs ++ [⟨a, k⟩]) cells slots ∧ T'.heap = h' ∧ Wr h h' a k (.long x) ∧ AJ Z h' a .long n (upv g k x) ∧ ∀ target, Steps p.tables e below (T'.setTop { f with pc := f.pc + 1, stack := rest }) target → Steps p.tables e below (T.setTop f) target := by
  obtain ⟨cl, A, S, M, G⟩ := id F
  obtain ⟨T', h', X', e', W, st⟩ := stJ X hx hZ eT A (j := j) (own_in S hk hn) hg hs hd
  rw [own_nat hk] at X' W
  exact ⟨T', h', X', e', W, AJ.set F W, st⟩
theorem puR (X : Stand p l e R s m args below meth c T locs cells slots) (hx : p.tables.exec = Jvm.exec) (hZ : Z.Warmed39 s.vm) (eT : T.heap = h) {g : Nat → Value} (F : AF Z h a ty n g) (hty : ty.isReference = true) {j : Int32} {x : Value} (O : Sto Z h a x) {k : Nat} (hk : j.toInt = k) (hn : k < n) {f : JFrame} (hg : f.method = m) {rest : List Value} (hs : f.stack = x :: .int j :: .ref a :: rest) (hd : decode c.code f.pc = .ok (.aastore, 1)) :
    ∃ T' h', Stand p l e R s m args below meth c T' (locs ++ [⟨a, k⟩]) cells slots ∧ T'.heap = h' ∧ Wr h h' a k x ∧ AF Z h' a ty n (upv g k x) ∧ ∀ target, Steps p.tables e below (T'.setTop { f with pc := f.pc + 1, stack := rest }) target → Steps p.tables e below (T.setTop f) target := by
  obtain ⟨cl, A, S, M, G⟩ := id F
  obtain ⟨T', h', X', e', W, st⟩ := stR X hx hZ eT A (j := j) (own_in S hk hn) hty O hg hs hd
  rw [own_nat hk] at X' W
  exact ⟨T', h', X', e', W, AF.set F W, st⟩
theorem newAF (X : Stand p l e R s m args below meth c T locs cells slots) (hx : p.tables.exec = Jvm.exec) (hZ : Z.Warmed39 s.vm) {aty : ArrayType} (w : (Cond.arrayClass (newarray.typeOf aty)).before a0 Z = true) (eT : T.heap = h) {f : JFrame} (hg : f.method = m) (hd : decode c.code f.pc = .ok (.newarray aty, 2)) {z : Int32} {rest : List Value} (hs : f.stack = .int z :: rest)
    {k : Nat} (hk : z.toInt = k) {cap : Nat} (hcap : k ≤ cap) (hb : cap * 8 ≤ 536870912) (hc : cells + 1 ≤ R.cells) (hl : slots + cap ≤ R.slots) :
    ∃ T' h', Stand p l e R s m args below meth c T' locs (cells + 1) (slots + cap) ∧ T'.heap = h' ∧ Ext h h' ∧ AF Z h' h.size (newarray.typeOf aty) k (fun _ => defaultValue (newarray.typeOf aty)) ∧
      ∀ target, Steps p.tables e below (T'.setTop { f with pc := f.pc + 2, stack := .ref h.size :: rest }) target → Steps p.tables e below (T.setTop f) target := by
  have h0 : ¬ z < 0 := by
    rw [Int32.lt_iff_toInt_lt, hk]
    have : (0 : Int32).toInt = 0 := rfl
    omega
  obtain ⟨T', h', cA, X', e', E, A, st⟩ := newP X hx hZ w eT hg hd hs h0 (cap := cap) (by rw [own_nat hk]; exact hcap) hb hc hl
  exact ⟨T', h', X', e', E, AF.fresh A hk, st⟩
end Stores
theorem hide (X : Stand p l e R s m args below meth c T locs cells slots) {n0 : Nat} (N : Fr n0 locs) {C S : Nat} (hc : cells ≤ C) (hs : slots ≤ S) : ∃ L, Stand p l e R s m args below meth c T L C S ∧ Fr n0 L := ⟨locs, X.more hc hs, N⟩
theorem own_selects {args' : Array Value} {U : State} {y : MethodName} {k : Nat} (wi : (Cond.instantiable y.cls k).before args' U = true) (hpriv : U.PrivateAt y) (hinst : (Cond.instanceMethod y).before args' U = true) (hy : y.cls ≠ "java/lang/invoke/MethodHandle" ∧ y.cls ≠ "java/lang/invoke/VarHandle") : (Cond.selects y.cls y y).before args' U = true := by
  obtain ⟨c1, k1, i1, i2, -, i3, -⟩ := Cond.instantiable_spec wi
  have hni : k1.isInterface = false := by cases q : k1.isInterface <;> simp [q] at i3 ⊢
  exact Jvm.Stand.selects_self_of_private i1 i2 hni hpriv hinst hy
theorem isRef_cat {w : Value} (q : w.isRef = true) : w.category = 1 := by
  rcases ref_cases q with rfl | ⟨x, rfl⟩ <;> rfl
theorem mem1 {α : Type} (x : α) (L : List α) : x ∈ x :: L := List.mem_cons_self
theorem mem2 {α : Type} (x y : α) (L : List α) : x ∈ y :: x :: L := List.mem_cons_of_mem _ List.mem_cons_self
end OwnHeap
end Jvm.RoadKit
namespace Jvm.Pilot.@@N@@
open Jvm Jvm.ClassFile Sem Op Lib Jvm.Free Jvm.Stand Jvm.LawKit Jvm.RoadKit Bundle Jvm.Pilot.@@N@@.Jvm.D
theorem ef_1 (m : MethodId) (x0 : Addr) (x1 : Int32) : entryFrame m #[(.ref x0), (.int x1)] 3 = mkF m 0 #[.val (.ref x0), .val (.int x1), .unset] [] := by first | (simp [entryFrame, mkF, argsToLocals, Value.category]; done) | rfl
theorem d1_0 : decode method_3_code 0 = .ok (.iconst 1, 1) := by decide +kernel
theorem d1_1 : decode method_3_code 1 = .ok (.istore_n 2, 1) := by decide +kernel
theorem d1_2 : decode method_3_code 2 = .ok (.iload_n 1, 1) := by decide +kernel
theorem d1_3 : decode method_3_code 3 = .ok (.ifCond .le 9, 3) := by decide +kernel
theorem d1_12 : decode method_3_code 12 = .ok (.iload_n 1, 1) := by decide +kernel
theorem d1_13 : decode method_3_code 13 = .ok (.iconst 1, 1) := by decide +kernel
theorem d1_14 : decode method_3_code 14 = .ok (.if_icmp .le 9, 3) := by decide +kernel
theorem d1_23 : decode method_3_code 23 = .ok (.iload_n 1, 1) := by decide +kernel
theorem d1_24 : decode method_3_code 24 = .ok (.iconst 2, 1) := by decide +kernel
theorem d1_25 : decode method_3_code 25 = .ok (.if_icmp .le 9, 3) := by decide +kernel
theorem d1_34 : decode method_3_code 34 = .ok (.iload_n 1, 1) := by decide +kernel
theorem d1_35 : decode method_3_code 35 = .ok (.iconst 3, 1) := by decide +kernel
theorem d1_36 : decode method_3_code 36 = .ok (.if_icmp .le 9, 3) := by decide +kernel
theorem d1_45 : decode method_3_code 45 = .ok (.iload_n 2, 1) := by decide +kernel
theorem d1_46 : decode method_3_code 46 = .ok (.ireturn, 1) := by decide +kernel
theorem pn_0 : plainName "com/example/ratatoskr/ratatoskr/ChoicesAdvancePinLaw" = true := by first | (simp [plainName, overriddenIn]; done) | decide +kernel
def F_p0 (gc : Nat → Int32) : Int32 := (1 : Int32)
set_option maxRecDepth 65536 in
set_option maxHeartbeats 40000000 in
theorem rmp0 (l : Launch) (Z : State) (a0 : Array Value) (hw : ∀ d ∈ tables_1, d.before a0 Z = true) (ws : List Jvm.Cond) (o0 : Addr) (gc : Nat → Int32) (h0 : Heap) (n0 : Nat) (A_o0 : AI Z h0 o0 .int 4 gc) :
    MetFree l (⟨"com/example/ratatoskr/ratatoskr/ChoicesAdvancePinLaw", "prod", "([II)I"⟩ : MethodName) (head1 (Jvm.Cond.code (⟨"com/example/ratatoskr/ratatoskr/ChoicesAdvancePinLaw", "prod", "([II)I"⟩ : MethodName) method_3_code 3 (some .int) :: ws) ({ frames := 0, cells := 0, slots := 0, locals := 0 } : Room)) (fun a U => a = #[(.ref o0), (.int (0 : Int32))] ∧ Z.Warmed39 U.vm ∧ U.heap = h0) (fun _ _ _ _ _ => True) (fun _ U o U' => ∃ v L, o = .returned v ∧ QR (some (.int (F_p0 gc))) h0 n0 v U'.heap L ∧ FrameEnd U o U' L ({ frames := 0, cells := 0, slots := 0, locals := 0 } : Room).cells ({ frames := 0, cells := 0, slots := 0, locals := 0 } : Room).slots) := by
  refine MetFree.of_bodySF (plainFor_of_name pn_0) hisR ?_
  intro p e s m args below meth c s₁ Bd hml0 hP hK
  obtain ⟨rfl, hZ, hh⟩ := hP
  have hx := Bd.exec
  have hby := Bd.bytes
  have hml : c.maxLocals = 3 := hml0
  have hown : s.vm.findClass "com/example/ratatoskr/ratatoskr/ChoicesAdvancePinLaw" = some m.cls := findClass_of_methodNamed Bd.named
  have hnm := (name_of_methodNamed Bd.named Bd.method).1
  have hret := Bd.returns
  have hlk : meth.locks = false := BodyLoose.notSynchronized Bd
  have X0 : Stand p l e ({ frames := 0, cells := 0, slots := 0, locals := 0 } : Room) s m #[(.ref o0), (.int (0 : Int32))] below meth c s₁ [] 0 0 := Stand.of_body Bd
  have e0 : s₁.heap = h0 := by rw [← hh, Bd.state]; rfl
  have N0 := Fr.nil n0
  show Outs p e below s (QR (some (.int (F_p0 gc))) h0 n0) _ _ _
  refine Outs.of (U' := s₁.setTop (mkF m 0 #[.val (.ref o0), .val (.int (0 : Int32)), .unset] [])) (fun t k => castTop (ef_1 m o0 (0 : Int32)) k) ?_
  refine Outs.of (U' := s₁.setTop (mkF m 46 #[.val (.ref o0), .val (.int (0 : Int32)), .val (.int (1 : Int32))] [(.int (1 : Int32))])) (fun t k => ?_) ?_
  · refine XS.iconst X0.here hx rfl (hb hby d1_0) ?_
    refine XS.istoreN X0.here hx rfl (hb hby d1_1) rfl (l' := #[.val (.ref o0), .val (.int (0 : Int32)), .val (.int (1 : Int32))]) rfl ?_
    refine XS.iloadN X0.here hx rfl (hb hby d1_2) rfl ?_
    refine XS.ifYes X0.here hx rfl (pc0 := 3) (pc' := 12) rfl (hb hby d1_3) rfl ((if0 _ _).trans (flt (by decide)).2.2.2) (by decide) (by decide) ?_
    refine XS.iloadN X0.here hx rfl (hb hby d1_12) rfl ?_
    refine XS.iconst X0.here hx rfl (hb hby d1_13) ?_
    refine XS.icmpYes X0.here hx rfl (pc0 := 14) (pc' := 23) rfl (hb hby d1_14) rfl (flt (by decide)).2.2.2 (by decide) (by decide) ?_
    refine XS.iloadN X0.here hx rfl (hb hby d1_23) rfl ?_
    refine XS.iconst X0.here hx rfl (hb hby d1_24) ?_
    refine XS.icmpYes X0.here hx rfl (pc0 := 25) (pc' := 34) rfl (hb hby d1_25) rfl (flt (by decide)).2.2.2 (by decide) (by decide) ?_
    refine XS.iloadN X0.here hx rfl (hb hby d1_34) rfl ?_
    refine XS.iconst X0.here hx rfl (hb hby d1_35) ?_
    refine XS.icmpYes X0.here hx rfl (pc0 := 36) (pc' := 45) rfl (hb hby d1_36) rfl (flt (by decide)).2.2.2 (by decide) (by decide) ?_
    refine XS.iloadN X0.here hx rfl (hb hby d1_45) rfl ?_
    exact k
  exact Outs.retI X0 hx hret (hb hby d1_46) hlk (by decide) (by decide) e0 ⟨congrArg (fun z_ => some (Value.int z_)) (show (F_p0 gc) = (1 : Int32) from rfl).symm, N0, rfl⟩
theorem ef_2 (m : MethodId) (x0 : Addr) (x1 : Addr) (x2 : Int32) : entryFrame m #[(.ref x0), (.ref x1), (.int x2)] 4 = mkF m 0 #[.val (.ref x0), .val (.ref x1), .val (.int x2), .unset] [] := by first | (simp [entryFrame, mkF, argsToLocals, Value.category]; done) | rfl
theorem d2_0 : decode method_2_code 0 = .ok (.iconst 0, 1) := by decide +kernel
theorem d2_1 : decode method_2_code 1 = .ok (.istore_n 3, 1) := by decide +kernel
theorem d2_2 : decode method_2_code 2 = .ok (.iload_n 2, 1) := by decide +kernel
theorem d2_3 : decode method_2_code 3 = .ok (.ifCond .le 13, 3) := by decide +kernel
theorem d2_16 : decode method_2_code 16 = .ok (.iload_n 2, 1) := by decide +kernel
theorem d2_17 : decode method_2_code 17 = .ok (.iconst 1, 1) := by decide +kernel
theorem d2_18 : decode method_2_code 18 = .ok (.if_icmp .le 13, 3) := by decide +kernel
theorem d2_31 : decode method_2_code 31 = .ok (.iload_n 2, 1) := by decide +kernel
theorem d2_32 : decode method_2_code 32 = .ok (.iconst 2, 1) := by decide +kernel
theorem d2_33 : decode method_2_code 33 = .ok (.if_icmp .le 13, 3) := by decide +kernel
theorem d2_46 : decode method_2_code 46 = .ok (.iload_n 2, 1) := by decide +kernel
theorem d2_47 : decode method_2_code 47 = .ok (.iconst 3, 1) := by decide +kernel
theorem d2_48 : decode method_2_code 48 = .ok (.if_icmp .le 13, 3) := by decide +kernel
theorem d2_61 : decode method_2_code 61 = .ok (.iload_n 3, 1) := by decide +kernel
theorem d2_62 : decode method_2_code 62 = .ok (.ireturn, 1) := by decide +kernel
def F_v0 (gp : Nat → Int32) (gc : Nat → Int32) : Int32 := (0 : Int32)
set_option maxRecDepth 65536 in
set_option maxHeartbeats 40000000 in
theorem rmv0 (l : Launch) (Z : State) (a0 : Array Value) (hw : ∀ d ∈ tables_1, d.before a0 Z = true) (ws : List Jvm.Cond) (o0 : Addr) (o1 : Addr) (gp : Nat → Int32) (gc : Nat → Int32) (h0 : Heap) (n0 : Nat) (A_o0 : AI Z h0 o0 .int 0 gp) (A_o1 : AI Z h0 o1 .int 4 gc) :
    MetFree l (⟨"com/example/ratatoskr/ratatoskr/ChoicesAdvancePinLaw", "val", "([I[II)I"⟩ : MethodName) (head1 (Jvm.Cond.code (⟨"com/example/ratatoskr/ratatoskr/ChoicesAdvancePinLaw", "val", "([I[II)I"⟩ : MethodName) method_2_code 4 (some .int) :: ws) ({ frames := 0, cells := 0, slots := 0, locals := 0 } : Room)) (fun a U => a = #[(.ref o0), (.ref o1), (.int (0 : Int32))] ∧ Z.Warmed39 U.vm ∧ U.heap = h0) (fun _ _ _ _ _ => True) (fun _ U o U' => ∃ v L, o = .returned v ∧ QR (some (.int (F_v0 gp gc))) h0 n0 v U'.heap L ∧ FrameEnd U o U' L ({ frames := 0, cells := 0, slots := 0, locals := 0 } : Room).cells ({ frames := 0, cells := 0, slots := 0, locals := 0 } : Room).slots) := by
  refine MetFree.of_bodySF (plainFor_of_name pn_0) hisR ?_
  intro p e s m args below meth c s₁ Bd hml0 hP hK
  obtain ⟨rfl, hZ, hh⟩ := hP
  have hx := Bd.exec
  have hby := Bd.bytes
  have hml : c.maxLocals = 4 := hml0
  have hown : s.vm.findClass "com/example/ratatoskr/ratatoskr/ChoicesAdvancePinLaw" = some m.cls := findClass_of_methodNamed Bd.named
  have hnm := (name_of_methodNamed Bd.named Bd.method).1
  have hret := Bd.returns
  have hlk : meth.locks = false := BodyLoose.notSynchronized Bd
  have X0 : Stand p l e ({ frames := 0, cells := 0, slots := 0, locals := 0 } : Room) s m #[(.ref o0), (.ref o1), (.int (0 : Int32))] below meth c s₁ [] 0 0 := Stand.of_body Bd
  have e0 : s₁.heap = h0 := by rw [← hh, Bd.state]; rfl
  have N0 := Fr.nil n0
  show Outs p e below s (QR (some (.int (F_v0 gp gc))) h0 n0) _ _ _
  refine Outs.of (U' := s₁.setTop (mkF m 0 #[.val (.ref o0), .val (.ref o1), .val (.int (0 : Int32)), .unset] [])) (fun t k => castTop (ef_2 m o0 o1 (0 : Int32)) k) ?_
  refine Outs.of (U' := s₁.setTop (mkF m 62 #[.val (.ref o0), .val (.ref o1), .val (.int (0 : Int32)), .val (.int (0 : Int32))] [(.int (0 : Int32))])) (fun t k => ?_) ?_
  · refine XS.iconst X0.here hx rfl (hb hby d2_0) ?_
    refine XS.istoreN X0.here hx rfl (hb hby d2_1) rfl (l' := #[.val (.ref o0), .val (.ref o1), .val (.int (0 : Int32)), .val (.int (0 : Int32))]) rfl ?_
    refine XS.iloadN X0.here hx rfl (hb hby d2_2) rfl ?_
    refine XS.ifYes X0.here hx rfl (pc0 := 3) (pc' := 16) rfl (hb hby d2_3) rfl ((if0 _ _).trans (flt (by decide)).2.2.2) (by decide) (by decide) ?_
    refine XS.iloadN X0.here hx rfl (hb hby d2_16) rfl ?_
    refine XS.iconst X0.here hx rfl (hb hby d2_17) ?_
    refine XS.icmpYes X0.here hx rfl (pc0 := 18) (pc' := 31) rfl (hb hby d2_18) rfl (flt (by decide)).2.2.2 (by decide) (by decide) ?_
    refine XS.iloadN X0.here hx rfl (hb hby d2_31) rfl ?_
    refine XS.iconst X0.here hx rfl (hb hby d2_32) ?_
    refine XS.icmpYes X0.here hx rfl (pc0 := 33) (pc' := 46) rfl (hb hby d2_33) rfl (flt (by decide)).2.2.2 (by decide) (by decide) ?_
    refine XS.iloadN X0.here hx rfl (hb hby d2_46) rfl ?_
    refine XS.iconst X0.here hx rfl (hb hby d2_47) ?_
    refine XS.icmpYes X0.here hx rfl (pc0 := 48) (pc' := 61) rfl (hb hby d2_48) rfl (flt (by decide)).2.2.2 (by decide) (by decide) ?_
    refine XS.iloadN X0.here hx rfl (hb hby d2_61) rfl ?_
    exact k
  exact Outs.retI X0 hx hret (hb hby d2_62) hlk (by decide) (by decide) e0 ⟨congrArg (fun z_ => some (Value.int z_)) (show (F_v0 gp gc) = (0 : Int32) from rfl).symm, N0, rfl⟩
theorem ef_3 (m : MethodId) (x0 : Addr) (x1 : Addr) : entryFrame m #[(.ref x0), (.ref x1)] 3 = mkF m 0 #[.val (.ref x0), .val (.ref x1), .unset] [] := by first | (simp [entryFrame, mkF, argsToLocals, Value.category]; done) | rfl
theorem d3_0 : decode prog_5_method_3_code 0 = .ok (.aload_n 0, 1) := by decide +kernel
theorem d3_1 : decode prog_5_method_3_code 1 = .ok (.arraylength, 1) := by decide +kernel
theorem d3_2 : decode prog_5_method_3_code 2 = .ok (.iconst 1, 1) := by decide +kernel
theorem d3_3 : decode prog_5_method_3_code 3 = .ok (.isub, 1) := by decide +kernel
theorem d3_4 : decode prog_5_method_3_code 4 = .ok (.istore_n 2, 1) := by decide +kernel
theorem d3_5 : decode prog_5_method_3_code 5 = .ok (.iload_n 2, 1) := by decide +kernel
theorem d3_6 : decode prog_5_method_3_code 6 = .ok (.ifCond .lt 31, 3) := by decide +kernel
theorem d3_37 : decode prog_5_method_3_code 37 = .ok (.iconst 0, 1) := by decide +kernel
theorem d3_38 : decode prog_5_method_3_code 38 = .ok (.ireturn, 1) := by decide +kernel
theorem pn_3 : plainName "com/example/ratatoskr/ratatoskr/Choices" = true := by first | (simp [plainName, overriddenIn]; done) | decide +kernel
def F_a0 (gp : Nat → Int32) (gk : Nat → Int32) : Int32 := (0 : Int32)
def Q_a0 (Z : State) (o0 : Addr) (o1 : Addr) (gp : Nat → Int32) (gk : Nat → Int32) (h0 : Heap) (n0 : Nat) (v : Option Value) (h : Heap) (L : List Loc) : Prop := v = some (.int (F_a0 gp gk)) ∧ Fr n0 L ∧ Keep h0 h [o0] ∧ AI Z h o0 .int 0 gp ∧ AI Z h o1 .int 0 gk
set_option maxRecDepth 65536 in
set_option maxHeartbeats 40000000 in
theorem rma0 (l : Launch) (Z : State) (a0 : Array Value) (hw : ∀ d ∈ tables_1, d.before a0 Z = true) (ws : List Jvm.Cond) (o0 : Addr) (o1 : Addr) (gp : Nat → Int32) (gk : Nat → Int32) (h0 : Heap) (n0 : Nat) (A_o0 : AI Z h0 o0 .int 0 gp) (A_o1 : AI Z h0 o1 .int 0 gk) (g_o0 : n0 ≤ o0) (ne_o0_o1 : o0 ≠ o1) :
    MetFree l (⟨"com/example/ratatoskr/ratatoskr/Choices", "advance", "([I[I)Z"⟩ : MethodName) (head1 (Jvm.Cond.code (⟨"com/example/ratatoskr/ratatoskr/Choices", "advance", "([I[I)Z"⟩ : MethodName) prog_5_method_3_code 3 (some .boolean) :: ws) ({ frames := 0, cells := 0, slots := 0, locals := 0 } : Room)) (fun a U => a = #[(.ref o0), (.ref o1)] ∧ Z.Warmed39 U.vm ∧ U.heap = h0) (fun _ _ _ _ _ => True) (fun _ U o U' => ∃ v L, o = .returned v ∧ Q_a0 Z o0 o1 gp gk h0 n0 v U'.heap L ∧ FrameEnd U o U' L ({ frames := 0, cells := 0, slots := 0, locals := 0 } : Room).cells ({ frames := 0, cells := 0, slots := 0, locals := 0 } : Room).slots) := by
  refine MetFree.of_bodySF (plainFor_of_name pn_3) hisR ?_
  intro p e s m args below meth c s₁ Bd hml0 hP hK
  obtain ⟨rfl, hZ, hh⟩ := hP
  have hx := Bd.exec
  have hby := Bd.bytes
  have hml : c.maxLocals = 3 := hml0
  have hown : s.vm.findClass "com/example/ratatoskr/ratatoskr/Choices" = some m.cls := findClass_of_methodNamed Bd.named
  have hnm := (name_of_methodNamed Bd.named Bd.method).1
  have hret := Bd.returns
  have hlk : meth.locks = false := BodyLoose.notSynchronized Bd
  have X0 : Stand p l e ({ frames := 0, cells := 0, slots := 0, locals := 0 } : Room) s m #[(.ref o0), (.ref o1)] below meth c s₁ [] 0 0 := Stand.of_body Bd
  have e0 : s₁.heap = h0 := by rw [← hh, Bd.state]; rfl
  have N0 := Fr.nil n0
  show Outs p e below s (Q_a0 Z o0 o1 gp gk h0 n0) _ _ _
  refine Outs.of (U' := s₁.setTop (mkF m 0 #[.val (.ref o0), .val (.ref o1), .unset] [])) (fun t k => castTop (ef_3 m o0 o1) k) ?_
  refine Outs.of (U' := s₁.setTop (mkF m 1 #[.val (.ref o0), .val (.ref o1), .unset] [(.ref o0)])) (fun t k => ?_) ?_
  · refine XS.aloadN X0.here hx rfl (hb hby d3_0) rfl rfl ?_
    exact k
  refine Outs.of (alen X0 hx hZ e0 A_o0 (z := (0 : Int32)) rfl (f := (mkF m 1 #[.val (.ref o0), .val (.ref o1), .unset] [(.ref o0)])) rfl rfl (hb hby d3_1)) ?_
  show Outs p e below s _ _ _ (s₁.setTop (mkF m 2 #[.val (.ref o0), .val (.ref o1), .unset] [(.int (0 : Int32))]))
  refine Outs.of (U' := s₁.setTop (mkF m 38 #[.val (.ref o0), .val (.ref o1), .val (.int (-1 : Int32))] [(.int (0 : Int32))])) (fun t k => ?_) ?_
  · refine XS.iconst X0.here hx rfl (hb hby d3_2) ?_
    refine XS.isub X0.here hx rfl (hb hby d3_3) rfl ?_
    refine XS.istoreN X0.here hx rfl (hb hby d3_4) rfl (l' := #[.val (.ref o0), .val (.ref o1), .val (.int (-1 : Int32))]) rfl ?_
    refine XS.iloadN X0.here hx rfl (hb hby d3_5) rfl ?_
    refine XS.ifYes X0.here hx rfl (pc0 := 6) (pc' := 37) rfl (hb hby d3_6) rfl ((if0 _ _).trans (tlt (by decide)).1) (by decide) (by decide) ?_
    refine XS.iconst X0.here hx rfl (hb hby d3_37) ?_
    exact k
  exact Outs.retN (t := .boolean) (z := (0 : Int32)) X0 hx hret (by simp) (hb hby d3_38) hlk (by decide) (by decide) e0 ⟨congrArg (fun z_ => some (Value.int z_)) (show (F_a0 gp gk) = (0 : Int32) from rfl).symm, N0, (Keep.refl h0 [o0]), A_o0, A_o1⟩
theorem ef_4 (m : MethodId) (x0 : Addr) (x1 : Addr) (x2 : Addr) (x3 : Int32) (x4 : Int32) : entryFrame m #[(.ref x0), (.ref x1), (.ref x2), (.int x3), (.int x4)] 5 = mkF m 0 #[.val (.ref x0), .val (.ref x1), .val (.ref x2), .val (.int x3), .val (.int x4)] [] := by first | (simp [entryFrame, mkF, argsToLocals, Value.category]; done) | rfl
theorem d4_0 : decode method_4_code 0 = .ok (.iload 4, 2) := by decide +kernel
theorem d4_2 : decode method_4_code 2 = .ok (.iload_n 3, 1) := by decide +kernel
theorem d4_3 : decode method_4_code 3 = .ok (.if_icmp .lt 5, 3) := by decide +kernel
theorem d4_6 : decode method_4_code 6 = .ok (.iconst 1, 1) := by decide +kernel
theorem d4_7 : decode method_4_code 7 = .ok (.ireturn, 1) := by decide +kernel
def F_k0_0 (gp : Nat → Int32) (gk : Nat → Int32) (gc : Nat → Int32) : Int32 := (1 : Int32)
set_option maxRecDepth 65536 in
set_option maxHeartbeats 40000000 in
theorem rmk0_0 (l : Launch) (Z : State) (a0 : Array Value) (hw : ∀ d ∈ tables_1, d.before a0 Z = true) (ws : List Jvm.Cond) (o0 : Addr) (o1 : Addr) (o2 : Addr) (gp : Nat → Int32) (gk : Nat → Int32) (gc : Nat → Int32) (h0 : Heap) (n0 : Nat) (A_o0 : AI Z h0 o0 .int 0 gp) (A_o1 : AI Z h0 o1 .int 0 gk) (A_o2 : AI Z h0 o2 .int 4 gc) :
    MetFree l (⟨"com/example/ratatoskr/ratatoskr/ChoicesAdvancePinLaw", "ok", "([I[I[III)Z"⟩ : MethodName) (head1 (Jvm.Cond.code (⟨"com/example/ratatoskr/ratatoskr/ChoicesAdvancePinLaw", "ok", "([I[I[III)Z"⟩ : MethodName) method_4_code 5 (some .boolean) :: ws) ({ frames := 0, cells := 0, slots := 0, locals := 0 } : Room)) (fun a U => a = #[(.ref o0), (.ref o1), (.ref o2), (.int (0 : Int32)), (.int (0 : Int32))] ∧ Z.Warmed39 U.vm ∧ U.heap = h0) (fun _ _ _ _ _ => True) (fun _ U o U' => ∃ v L, o = .returned v ∧ QR (some (.int (F_k0_0 gp gk gc))) h0 n0 v U'.heap L ∧ FrameEnd U o U' L ({ frames := 0, cells := 0, slots := 0, locals := 0 } : Room).cells ({ frames := 0, cells := 0, slots := 0, locals := 0 } : Room).slots) := by
  refine MetFree.of_bodySF (plainFor_of_name pn_0) hisR ?_
  intro p e s m args below meth c s₁ Bd hml0 hP hK
  obtain ⟨rfl, hZ, hh⟩ := hP
  have hx := Bd.exec
  have hby := Bd.bytes
  have hml : c.maxLocals = 5 := hml0
  have hown : s.vm.findClass "com/example/ratatoskr/ratatoskr/ChoicesAdvancePinLaw" = some m.cls := findClass_of_methodNamed Bd.named
  have hnm := (name_of_methodNamed Bd.named Bd.method).1
  have hret := Bd.returns
  have hlk : meth.locks = false := BodyLoose.notSynchronized Bd
  have X0 : Stand p l e ({ frames := 0, cells := 0, slots := 0, locals := 0 } : Room) s m #[(.ref o0), (.ref o1), (.ref o2), (.int (0 : Int32)), (.int (0 : Int32))] below meth c s₁ [] 0 0 := Stand.of_body Bd
  have e0 : s₁.heap = h0 := by rw [← hh, Bd.state]; rfl
  have N0 := Fr.nil n0
  show Outs p e below s (QR (some (.int (F_k0_0 gp gk gc))) h0 n0) _ _ _
  refine Outs.of (U' := s₁.setTop (mkF m 0 #[.val (.ref o0), .val (.ref o1), .val (.ref o2), .val (.int (0 : Int32)), .val (.int (0 : Int32))] [])) (fun t k => castTop (ef_4 m o0 o1 o2 (0 : Int32) (0 : Int32)) k) ?_
  refine Outs.of (U' := s₁.setTop (mkF m 7 #[.val (.ref o0), .val (.ref o1), .val (.ref o2), .val (.int (0 : Int32)), .val (.int (0 : Int32))] [(.int (1 : Int32))])) (fun t k => ?_) ?_
  · refine XS.iload X0.here hx rfl (hb hby d4_0) rfl ?_
    refine XS.iloadN X0.here hx rfl (hb hby d4_2) rfl ?_
    refine XS.icmpNo X0.here hx rfl (hb hby d4_3) rfl (flt (by decide)).1 ?_
    refine XS.iconst X0.here hx rfl (hb hby d4_6) ?_
    exact k
  exact Outs.retN (t := .boolean) (z := (1 : Int32)) X0 hx hret (by simp) (hb hby d4_7) hlk (by decide) (by decide) e0 ⟨congrArg (fun z_ => some (Value.int z_)) (show (F_k0_0 gp gk gc) = (1 : Int32) from rfl).symm, N0, rfl⟩
def F_k0_1 (gp : Nat → Int32) (gk : Nat → Int32) (gc : Nat → Int32) : Int32 := (1 : Int32)
set_option maxRecDepth 65536 in
set_option maxHeartbeats 40000000 in
theorem rmk0_1 (l : Launch) (Z : State) (a0 : Array Value) (hw : ∀ d ∈ tables_1, d.before a0 Z = true) (ws : List Jvm.Cond) (o0 : Addr) (o1 : Addr) (o2 : Addr) (gp : Nat → Int32) (gk : Nat → Int32) (gc : Nat → Int32) (h0 : Heap) (n0 : Nat) (A_o0 : AI Z h0 o0 .int 0 gp) (A_o1 : AI Z h0 o1 .int 0 gk) (A_o2 : AI Z h0 o2 .int 4 gc) :
    MetFree l (⟨"com/example/ratatoskr/ratatoskr/ChoicesAdvancePinLaw", "ok", "([I[I[III)Z"⟩ : MethodName) (head1 (Jvm.Cond.code (⟨"com/example/ratatoskr/ratatoskr/ChoicesAdvancePinLaw", "ok", "([I[I[III)Z"⟩ : MethodName) method_4_code 5 (some .boolean) :: ws) ({ frames := 0, cells := 0, slots := 0, locals := 0 } : Room)) (fun a U => a = #[(.ref o0), (.ref o1), (.ref o2), (.int (0 : Int32)), (.int (1 : Int32))] ∧ Z.Warmed39 U.vm ∧ U.heap = h0) (fun _ _ _ _ _ => True) (fun _ U o U' => ∃ v L, o = .returned v ∧ QR (some (.int (F_k0_1 gp gk gc))) h0 n0 v U'.heap L ∧ FrameEnd U o U' L ({ frames := 0, cells := 0, slots := 0, locals := 0 } : Room).cells ({ frames := 0, cells := 0, slots := 0, locals := 0 } : Room).slots) := by
  refine MetFree.of_bodySF (plainFor_of_name pn_0) hisR ?_
  intro p e s m args below meth c s₁ Bd hml0 hP hK
  obtain ⟨rfl, hZ, hh⟩ := hP
  have hx := Bd.exec
  have hby := Bd.bytes
  have hml : c.maxLocals = 5 := hml0
  have hown : s.vm.findClass "com/example/ratatoskr/ratatoskr/ChoicesAdvancePinLaw" = some m.cls := findClass_of_methodNamed Bd.named
  have hnm := (name_of_methodNamed Bd.named Bd.method).1
  have hret := Bd.returns
  have hlk : meth.locks = false := BodyLoose.notSynchronized Bd
  have X0 : Stand p l e ({ frames := 0, cells := 0, slots := 0, locals := 0 } : Room) s m #[(.ref o0), (.ref o1), (.ref o2), (.int (0 : Int32)), (.int (1 : Int32))] below meth c s₁ [] 0 0 := Stand.of_body Bd
  have e0 : s₁.heap = h0 := by rw [← hh, Bd.state]; rfl
  have N0 := Fr.nil n0
  show Outs p e below s (QR (some (.int (F_k0_1 gp gk gc))) h0 n0) _ _ _
  refine Outs.of (U' := s₁.setTop (mkF m 0 #[.val (.ref o0), .val (.ref o1), .val (.ref o2), .val (.int (0 : Int32)), .val (.int (1 : Int32))] [])) (fun t k => castTop (ef_4 m o0 o1 o2 (0 : Int32) (1 : Int32)) k) ?_
  refine Outs.of (U' := s₁.setTop (mkF m 7 #[.val (.ref o0), .val (.ref o1), .val (.ref o2), .val (.int (0 : Int32)), .val (.int (1 : Int32))] [(.int (1 : Int32))])) (fun t k => ?_) ?_
  · refine XS.iload X0.here hx rfl (hb hby d4_0) rfl ?_
    refine XS.iloadN X0.here hx rfl (hb hby d4_2) rfl ?_
    refine XS.icmpNo X0.here hx rfl (hb hby d4_3) rfl (flt (by decide)).1 ?_
    refine XS.iconst X0.here hx rfl (hb hby d4_6) ?_
    exact k
  exact Outs.retN (t := .boolean) (z := (1 : Int32)) X0 hx hret (by simp) (hb hby d4_7) hlk (by decide) (by decide) e0 ⟨congrArg (fun z_ => some (Value.int z_)) (show (F_k0_1 gp gk gc) = (1 : Int32) from rfl).symm, N0, rfl⟩
def F_k0_2 (gp : Nat → Int32) (gk : Nat → Int32) (gc : Nat → Int32) : Int32 := (1 : Int32)
set_option maxRecDepth 65536 in
set_option maxHeartbeats 40000000 in
theorem rmk0_2 (l : Launch) (Z : State) (a0 : Array Value) (hw : ∀ d ∈ tables_1, d.before a0 Z = true) (ws : List Jvm.Cond) (o0 : Addr) (o1 : Addr) (o2 : Addr) (gp : Nat → Int32) (gk : Nat → Int32) (gc : Nat → Int32) (h0 : Heap) (n0 : Nat) (A_o0 : AI Z h0 o0 .int 0 gp) (A_o1 : AI Z h0 o1 .int 0 gk) (A_o2 : AI Z h0 o2 .int 4 gc) :
    MetFree l (⟨"com/example/ratatoskr/ratatoskr/ChoicesAdvancePinLaw", "ok", "([I[I[III)Z"⟩ : MethodName) (head1 (Jvm.Cond.code (⟨"com/example/ratatoskr/ratatoskr/ChoicesAdvancePinLaw", "ok", "([I[I[III)Z"⟩ : MethodName) method_4_code 5 (some .boolean) :: ws) ({ frames := 0, cells := 0, slots := 0, locals := 0 } : Room)) (fun a U => a = #[(.ref o0), (.ref o1), (.ref o2), (.int (0 : Int32)), (.int (2 : Int32))] ∧ Z.Warmed39 U.vm ∧ U.heap = h0) (fun _ _ _ _ _ => True) (fun _ U o U' => ∃ v L, o = .returned v ∧ QR (some (.int (F_k0_2 gp gk gc))) h0 n0 v U'.heap L ∧ FrameEnd U o U' L ({ frames := 0, cells := 0, slots := 0, locals := 0 } : Room).cells ({ frames := 0, cells := 0, slots := 0, locals := 0 } : Room).slots) := by
  refine MetFree.of_bodySF (plainFor_of_name pn_0) hisR ?_
  intro p e s m args below meth c s₁ Bd hml0 hP hK
  obtain ⟨rfl, hZ, hh⟩ := hP
  have hx := Bd.exec
  have hby := Bd.bytes
  have hml : c.maxLocals = 5 := hml0
  have hown : s.vm.findClass "com/example/ratatoskr/ratatoskr/ChoicesAdvancePinLaw" = some m.cls := findClass_of_methodNamed Bd.named
  have hnm := (name_of_methodNamed Bd.named Bd.method).1
  have hret := Bd.returns
  have hlk : meth.locks = false := BodyLoose.notSynchronized Bd
  have X0 : Stand p l e ({ frames := 0, cells := 0, slots := 0, locals := 0 } : Room) s m #[(.ref o0), (.ref o1), (.ref o2), (.int (0 : Int32)), (.int (2 : Int32))] below meth c s₁ [] 0 0 := Stand.of_body Bd
  have e0 : s₁.heap = h0 := by rw [← hh, Bd.state]; rfl
  have N0 := Fr.nil n0
  show Outs p e below s (QR (some (.int (F_k0_2 gp gk gc))) h0 n0) _ _ _
  refine Outs.of (U' := s₁.setTop (mkF m 0 #[.val (.ref o0), .val (.ref o1), .val (.ref o2), .val (.int (0 : Int32)), .val (.int (2 : Int32))] [])) (fun t k => castTop (ef_4 m o0 o1 o2 (0 : Int32) (2 : Int32)) k) ?_
  refine Outs.of (U' := s₁.setTop (mkF m 7 #[.val (.ref o0), .val (.ref o1), .val (.ref o2), .val (.int (0 : Int32)), .val (.int (2 : Int32))] [(.int (1 : Int32))])) (fun t k => ?_) ?_
  · refine XS.iload X0.here hx rfl (hb hby d4_0) rfl ?_
    refine XS.iloadN X0.here hx rfl (hb hby d4_2) rfl ?_
    refine XS.icmpNo X0.here hx rfl (hb hby d4_3) rfl (flt (by decide)).1 ?_
    refine XS.iconst X0.here hx rfl (hb hby d4_6) ?_
    exact k
  exact Outs.retN (t := .boolean) (z := (1 : Int32)) X0 hx hret (by simp) (hb hby d4_7) hlk (by decide) (by decide) e0 ⟨congrArg (fun z_ => some (Value.int z_)) (show (F_k0_2 gp gk gc) = (1 : Int32) from rfl).symm, N0, rfl⟩
def F_k0_3 (gp : Nat → Int32) (gk : Nat → Int32) (gc : Nat → Int32) : Int32 := (1 : Int32)
set_option maxRecDepth 65536 in
set_option maxHeartbeats 40000000 in
theorem rmk0_3 (l : Launch) (Z : State) (a0 : Array Value) (hw : ∀ d ∈ tables_1, d.before a0 Z = true) (ws : List Jvm.Cond) (o0 : Addr) (o1 : Addr) (o2 : Addr) (gp : Nat → Int32) (gk : Nat → Int32) (gc : Nat → Int32) (h0 : Heap) (n0 : Nat) (A_o0 : AI Z h0 o0 .int 0 gp) (A_o1 : AI Z h0 o1 .int 0 gk) (A_o2 : AI Z h0 o2 .int 4 gc) :
    MetFree l (⟨"com/example/ratatoskr/ratatoskr/ChoicesAdvancePinLaw", "ok", "([I[I[III)Z"⟩ : MethodName) (head1 (Jvm.Cond.code (⟨"com/example/ratatoskr/ratatoskr/ChoicesAdvancePinLaw", "ok", "([I[I[III)Z"⟩ : MethodName) method_4_code 5 (some .boolean) :: ws) ({ frames := 0, cells := 0, slots := 0, locals := 0 } : Room)) (fun a U => a = #[(.ref o0), (.ref o1), (.ref o2), (.int (0 : Int32)), (.int (3 : Int32))] ∧ Z.Warmed39 U.vm ∧ U.heap = h0) (fun _ _ _ _ _ => True) (fun _ U o U' => ∃ v L, o = .returned v ∧ QR (some (.int (F_k0_3 gp gk gc))) h0 n0 v U'.heap L ∧ FrameEnd U o U' L ({ frames := 0, cells := 0, slots := 0, locals := 0 } : Room).cells ({ frames := 0, cells := 0, slots := 0, locals := 0 } : Room).slots) := by
  refine MetFree.of_bodySF (plainFor_of_name pn_0) hisR ?_
  intro p e s m args below meth c s₁ Bd hml0 hP hK
  obtain ⟨rfl, hZ, hh⟩ := hP
  have hx := Bd.exec
  have hby := Bd.bytes
  have hml : c.maxLocals = 5 := hml0
  have hown : s.vm.findClass "com/example/ratatoskr/ratatoskr/ChoicesAdvancePinLaw" = some m.cls := findClass_of_methodNamed Bd.named
  have hnm := (name_of_methodNamed Bd.named Bd.method).1
  have hret := Bd.returns
  have hlk : meth.locks = false := BodyLoose.notSynchronized Bd
  have X0 : Stand p l e ({ frames := 0, cells := 0, slots := 0, locals := 0 } : Room) s m #[(.ref o0), (.ref o1), (.ref o2), (.int (0 : Int32)), (.int (3 : Int32))] below meth c s₁ [] 0 0 := Stand.of_body Bd
  have e0 : s₁.heap = h0 := by rw [← hh, Bd.state]; rfl
  have N0 := Fr.nil n0
  show Outs p e below s (QR (some (.int (F_k0_3 gp gk gc))) h0 n0) _ _ _
  refine Outs.of (U' := s₁.setTop (mkF m 0 #[.val (.ref o0), .val (.ref o1), .val (.ref o2), .val (.int (0 : Int32)), .val (.int (3 : Int32))] [])) (fun t k => castTop (ef_4 m o0 o1 o2 (0 : Int32) (3 : Int32)) k) ?_
  refine Outs.of (U' := s₁.setTop (mkF m 7 #[.val (.ref o0), .val (.ref o1), .val (.ref o2), .val (.int (0 : Int32)), .val (.int (3 : Int32))] [(.int (1 : Int32))])) (fun t k => ?_) ?_
  · refine XS.iload X0.here hx rfl (hb hby d4_0) rfl ?_
    refine XS.iloadN X0.here hx rfl (hb hby d4_2) rfl ?_
    refine XS.icmpNo X0.here hx rfl (hb hby d4_3) rfl (flt (by decide)).1 ?_
    refine XS.iconst X0.here hx rfl (hb hby d4_6) ?_
    exact k
  exact Outs.retN (t := .boolean) (z := (1 : Int32)) X0 hx hret (by simp) (hb hby d4_7) hlk (by decide) (by decide) e0 ⟨congrArg (fun z_ => some (Value.int z_)) (show (F_k0_3 gp gk gc) = (1 : Int32) from rfl).symm, N0, rfl⟩
theorem d1_6 : decode method_3_code 6 = .ok (.iload_n 2, 1) := by decide +kernel
theorem d1_7 : decode method_3_code 7 = .ok (.aload_n 0, 1) := by decide +kernel
theorem d1_8 : decode method_3_code 8 = .ok (.iconst 0, 1) := by decide +kernel
theorem d1_9 : decode method_3_code 9 = .ok (.iaload, 1) := by decide +kernel
theorem d1_10 : decode method_3_code 10 = .ok (.imul, 1) := by decide +kernel
theorem d1_11 : decode method_3_code 11 = .ok (.istore_n 2, 1) := by decide +kernel
def F_p1 (gc : Nat → Int32) : Int32 := ((1 : Int32) * (gc 0))
set_option maxRecDepth 65536 in
set_option maxHeartbeats 40000000 in
theorem rmp1 (l : Launch) (Z : State) (a0 : Array Value) (hw : ∀ d ∈ tables_1, d.before a0 Z = true) (ws : List Jvm.Cond) (o0 : Addr) (gc : Nat → Int32) (h0 : Heap) (n0 : Nat) (A_o0 : AI Z h0 o0 .int 4 gc) :
    MetFree l (⟨"com/example/ratatoskr/ratatoskr/ChoicesAdvancePinLaw", "prod", "([II)I"⟩ : MethodName) (head1 (Jvm.Cond.code (⟨"com/example/ratatoskr/ratatoskr/ChoicesAdvancePinLaw", "prod", "([II)I"⟩ : MethodName) method_3_code 3 (some .int) :: ws) ({ frames := 0, cells := 0, slots := 0, locals := 0 } : Room)) (fun a U => a = #[(.ref o0), (.int (1 : Int32))] ∧ Z.Warmed39 U.vm ∧ U.heap = h0) (fun _ _ _ _ _ => True) (fun _ U o U' => ∃ v L, o = .returned v ∧ QR (some (.int (F_p1 gc))) h0 n0 v U'.heap L ∧ FrameEnd U o U' L ({ frames := 0, cells := 0, slots := 0, locals := 0 } : Room).cells ({ frames := 0, cells := 0, slots := 0, locals := 0 } : Room).slots) := by
  refine MetFree.of_bodySF (plainFor_of_name pn_0) hisR ?_
  intro p e s m args below meth c s₁ Bd hml0 hP hK
  obtain ⟨rfl, hZ, hh⟩ := hP
  have hx := Bd.exec
  have hby := Bd.bytes
  have hml : c.maxLocals = 3 := hml0
  have hown : s.vm.findClass "com/example/ratatoskr/ratatoskr/ChoicesAdvancePinLaw" = some m.cls := findClass_of_methodNamed Bd.named
  have hnm := (name_of_methodNamed Bd.named Bd.method).1
  have hret := Bd.returns
  have hlk : meth.locks = false := BodyLoose.notSynchronized Bd
  have X0 : Stand p l e ({ frames := 0, cells := 0, slots := 0, locals := 0 } : Room) s m #[(.ref o0), (.int (1 : Int32))] below meth c s₁ [] 0 0 := Stand.of_body Bd
  have e0 : s₁.heap = h0 := by rw [← hh, Bd.state]; rfl
  have N0 := Fr.nil n0
  show Outs p e below s (QR (some (.int (F_p1 gc))) h0 n0) _ _ _
  refine Outs.of (U' := s₁.setTop (mkF m 0 #[.val (.ref o0), .val (.int (1 : Int32)), .unset] [])) (fun t k => castTop (ef_1 m o0 (1 : Int32)) k) ?_
  refine Outs.of (U' := s₁.setTop (mkF m 9 #[.val (.ref o0), .val (.int (1 : Int32)), .val (.int (1 : Int32))] [(.int (0 : Int32)), (.ref o0), (.int (1 : Int32))])) (fun t k => ?_) ?_
  · refine XS.iconst X0.here hx rfl (hb hby d1_0) ?_
    refine XS.istoreN X0.here hx rfl (hb hby d1_1) rfl (l' := #[.val (.ref o0), .val (.int (1 : Int32)), .val (.int (1 : Int32))]) rfl ?_
    refine XS.iloadN X0.here hx rfl (hb hby d1_2) rfl ?_
    refine XS.ifNo X0.here hx rfl (hb hby d1_3) rfl ((if0 _ _).trans (tlt (by decide)).2.2.2) ?_
    refine XS.iloadN X0.here hx rfl (hb hby d1_6) rfl ?_
    refine XS.aloadN X0.here hx rfl (hb hby d1_7) rfl rfl ?_
    refine XS.iconst X0.here hx rfl (hb hby d1_8) ?_
    exact k
  refine Outs.of (ldI X0 hx hZ e0 A_o0 (j := (0 : Int32)) (k := 0) rfl (by decide) (f := (mkF m 9 #[.val (.ref o0), .val (.int (1 : Int32)), .val (.int (1 : Int32))] [(.int (0 : Int32)), (.ref o0), (.int (1 : Int32))])) rfl rfl (hb hby d1_9)) ?_
  show Outs p e below s _ _ _ (s₁.setTop (mkF m 10 #[.val (.ref o0), .val (.int (1 : Int32)), .val (.int (1 : Int32))] [(.int (gc 0)), (.int (1 : Int32))]))
  refine Outs.of (U' := s₁.setTop (mkF m 46 #[.val (.ref o0), .val (.int (1 : Int32)), .val (.int ((1 : Int32) * (gc 0)))] [(.int ((1 : Int32) * (gc 0)))])) (fun t k => ?_) ?_
  · refine XS.imul X0.here hx rfl (hb hby d1_10) rfl ?_
    refine XS.istoreN X0.here hx rfl (hb hby d1_11) rfl (l' := #[.val (.ref o0), .val (.int (1 : Int32)), .val (.int ((1 : Int32) * (gc 0)))]) rfl ?_
    refine XS.iloadN X0.here hx rfl (hb hby d1_12) rfl ?_
    refine XS.iconst X0.here hx rfl (hb hby d1_13) ?_
    refine XS.icmpYes X0.here hx rfl (pc0 := 14) (pc' := 23) rfl (hb hby d1_14) rfl (flt (by decide)).2.2.2 (by decide) (by decide) ?_
    refine XS.iloadN X0.here hx rfl (hb hby d1_23) rfl ?_
    refine XS.iconst X0.here hx rfl (hb hby d1_24) ?_
    refine XS.icmpYes X0.here hx rfl (pc0 := 25) (pc' := 34) rfl (hb hby d1_25) rfl (flt (by decide)).2.2.2 (by decide) (by decide) ?_
    refine XS.iloadN X0.here hx rfl (hb hby d1_34) rfl ?_
    refine XS.iconst X0.here hx rfl (hb hby d1_35) ?_
    refine XS.icmpYes X0.here hx rfl (pc0 := 36) (pc' := 45) rfl (hb hby d1_36) rfl (flt (by decide)).2.2.2 (by decide) (by decide) ?_
    refine XS.iloadN X0.here hx rfl (hb hby d1_45) rfl ?_
    exact k
  exact Outs.retI X0 hx hret (hb hby d1_46) hlk (by decide) (by decide) e0 ⟨congrArg (fun z_ => some (Value.int z_)) (show (F_p1 gc) = ((1 : Int32) * (gc 0)) from rfl).symm, N0, rfl⟩
theorem d2_6 : decode method_2_code 6 = .ok (.iload_n 3, 1) := by decide +kernel
theorem d2_7 : decode method_2_code 7 = .ok (.aload_n 1, 1) := by decide +kernel
theorem d2_8 : decode method_2_code 8 = .ok (.iconst 0, 1) := by decide +kernel
theorem d2_9 : decode method_2_code 9 = .ok (.iaload, 1) := by decide +kernel
theorem d2_10 : decode method_2_code 10 = .ok (.imul, 1) := by decide +kernel
theorem d2_11 : decode method_2_code 11 = .ok (.aload_n 0, 1) := by decide +kernel
theorem d2_12 : decode method_2_code 12 = .ok (.iconst 0, 1) := by decide +kernel
theorem d2_13 : decode method_2_code 13 = .ok (.iaload, 1) := by decide +kernel
theorem d2_14 : decode method_2_code 14 = .ok (.iadd, 1) := by decide +kernel
theorem d2_15 : decode method_2_code 15 = .ok (.istore_n 3, 1) := by decide +kernel
def F_v1 (gp : Nat → Int32) (gc : Nat → Int32) : Int32 := (((0 : Int32) * (gc 0)) + (gp 0))
set_option maxRecDepth 65536 in
set_option maxHeartbeats 40000000 in
theorem rmv1 (l : Launch) (Z : State) (a0 : Array Value) (hw : ∀ d ∈ tables_1, d.before a0 Z = true) (ws : List Jvm.Cond) (o0 : Addr) (o1 : Addr) (gp : Nat → Int32) (gc : Nat → Int32) (h0 : Heap) (n0 : Nat) (A_o0 : AI Z h0 o0 .int 1 gp) (A_o1 : AI Z h0 o1 .int 4 gc) :
    MetFree l (⟨"com/example/ratatoskr/ratatoskr/ChoicesAdvancePinLaw", "val", "([I[II)I"⟩ : MethodName) (head1 (Jvm.Cond.code (⟨"com/example/ratatoskr/ratatoskr/ChoicesAdvancePinLaw", "val", "([I[II)I"⟩ : MethodName) method_2_code 4 (some .int) :: ws) ({ frames := 0, cells := 0, slots := 0, locals := 0 } : Room)) (fun a U => a = #[(.ref o0), (.ref o1), (.int (1 : Int32))] ∧ Z.Warmed39 U.vm ∧ U.heap = h0) (fun _ _ _ _ _ => True) (fun _ U o U' => ∃ v L, o = .returned v ∧ QR (some (.int (F_v1 gp gc))) h0 n0 v U'.heap L ∧ FrameEnd U o U' L ({ frames := 0, cells := 0, slots := 0, locals := 0 } : Room).cells ({ frames := 0, cells := 0, slots := 0, locals := 0 } : Room).slots) := by
  refine MetFree.of_bodySF (plainFor_of_name pn_0) hisR ?_
  intro p e s m args below meth c s₁ Bd hml0 hP hK
  obtain ⟨rfl, hZ, hh⟩ := hP
  have hx := Bd.exec
  have hby := Bd.bytes
  have hml : c.maxLocals = 4 := hml0
  have hown : s.vm.findClass "com/example/ratatoskr/ratatoskr/ChoicesAdvancePinLaw" = some m.cls := findClass_of_methodNamed Bd.named
  have hnm := (name_of_methodNamed Bd.named Bd.method).1
  have hret := Bd.returns
  have hlk : meth.locks = false := BodyLoose.notSynchronized Bd
  have X0 : Stand p l e ({ frames := 0, cells := 0, slots := 0, locals := 0 } : Room) s m #[(.ref o0), (.ref o1), (.int (1 : Int32))] below meth c s₁ [] 0 0 := Stand.of_body Bd
  have e0 : s₁.heap = h0 := by rw [← hh, Bd.state]; rfl
  have N0 := Fr.nil n0
  show Outs p e below s (QR (some (.int (F_v1 gp gc))) h0 n0) _ _ _
  refine Outs.of (U' := s₁.setTop (mkF m 0 #[.val (.ref o0), .val (.ref o1), .val (.int (1 : Int32)), .unset] [])) (fun t k => castTop (ef_2 m o0 o1 (1 : Int32)) k) ?_
  refine Outs.of (U' := s₁.setTop (mkF m 9 #[.val (.ref o0), .val (.ref o1), .val (.int (1 : Int32)), .val (.int (0 : Int32))] [(.int (0 : Int32)), (.ref o1), (.int (0 : Int32))])) (fun t k => ?_) ?_
  · refine XS.iconst X0.here hx rfl (hb hby d2_0) ?_
    refine XS.istoreN X0.here hx rfl (hb hby d2_1) rfl (l' := #[.val (.ref o0), .val (.ref o1), .val (.int (1 : Int32)), .val (.int (0 : Int32))]) rfl ?_
    refine XS.iloadN X0.here hx rfl (hb hby d2_2) rfl ?_
    refine XS.ifNo X0.here hx rfl (hb hby d2_3) rfl ((if0 _ _).trans (tlt (by decide)).2.2.2) ?_
    refine XS.iloadN X0.here hx rfl (hb hby d2_6) rfl ?_
    refine XS.aloadN X0.here hx rfl (hb hby d2_7) rfl rfl ?_
    refine XS.iconst X0.here hx rfl (hb hby d2_8) ?_
    exact k
  refine Outs.of (ldI X0 hx hZ e0 A_o1 (j := (0 : Int32)) (k := 0) rfl (by decide) (f := (mkF m 9 #[.val (.ref o0), .val (.ref o1), .val (.int (1 : Int32)), .val (.int (0 : Int32))] [(.int (0 : Int32)), (.ref o1), (.int (0 : Int32))])) rfl rfl (hb hby d2_9)) ?_
  show Outs p e below s _ _ _ (s₁.setTop (mkF m 10 #[.val (.ref o0), .val (.ref o1), .val (.int (1 : Int32)), .val (.int (0 : Int32))] [(.int (gc 0)), (.int (0 : Int32))]))
  refine Outs.of (U' := s₁.setTop (mkF m 13 #[.val (.ref o0), .val (.ref o1), .val (.int (1 : Int32)), .val (.int (0 : Int32))] [(.int (0 : Int32)), (.ref o0), (.int ((0 : Int32) * (gc 0)))])) (fun t k => ?_) ?_
  · refine XS.imul X0.here hx rfl (hb hby d2_10) rfl ?_
    refine XS.aloadN X0.here hx rfl (hb hby d2_11) rfl rfl ?_
    refine XS.iconst X0.here hx rfl (hb hby d2_12) ?_
    exact k
  refine Outs.of (ldI X0 hx hZ e0 A_o0 (j := (0 : Int32)) (k := 0) rfl (by decide) (f := (mkF m 13 #[.val (.ref o0), .val (.ref o1), .val (.int (1 : Int32)), .val (.int (0 : Int32))] [(.int (0 : Int32)), (.ref o0), (.int ((0 : Int32) * (gc 0)))])) rfl rfl (hb hby d2_13)) ?_
  show Outs p e below s _ _ _ (s₁.setTop (mkF m 14 #[.val (.ref o0), .val (.ref o1), .val (.int (1 : Int32)), .val (.int (0 : Int32))] [(.int (gp 0)), (.int ((0 : Int32) * (gc 0)))]))
  refine Outs.of (U' := s₁.setTop (mkF m 62 #[.val (.ref o0), .val (.ref o1), .val (.int (1 : Int32)), .val (.int (((0 : Int32) * (gc 0)) + (gp 0)))] [(.int (((0 : Int32) * (gc 0)) + (gp 0)))])) (fun t k => ?_) ?_
  · refine XS.iadd X0.here hx rfl (hb hby d2_14) rfl ?_
    refine XS.istoreN X0.here hx rfl (hb hby d2_15) rfl (l' := #[.val (.ref o0), .val (.ref o1), .val (.int (1 : Int32)), .val (.int (((0 : Int32) * (gc 0)) + (gp 0)))]) rfl ?_
    refine XS.iloadN X0.here hx rfl (hb hby d2_16) rfl ?_
    refine XS.iconst X0.here hx rfl (hb hby d2_17) ?_
    refine XS.icmpYes X0.here hx rfl (pc0 := 18) (pc' := 31) rfl (hb hby d2_18) rfl (flt (by decide)).2.2.2 (by decide) (by decide) ?_
    refine XS.iloadN X0.here hx rfl (hb hby d2_31) rfl ?_
    refine XS.iconst X0.here hx rfl (hb hby d2_32) ?_
    refine XS.icmpYes X0.here hx rfl (pc0 := 33) (pc' := 46) rfl (hb hby d2_33) rfl (flt (by decide)).2.2.2 (by decide) (by decide) ?_
    refine XS.iloadN X0.here hx rfl (hb hby d2_46) rfl ?_
    refine XS.iconst X0.here hx rfl (hb hby d2_47) ?_
    refine XS.icmpYes X0.here hx rfl (pc0 := 48) (pc' := 61) rfl (hb hby d2_48) rfl (flt (by decide)).2.2.2 (by decide) (by decide) ?_
    refine XS.iloadN X0.here hx rfl (hb hby d2_61) rfl ?_
    exact k
  exact Outs.retI X0 hx hret (hb hby d2_62) hlk (by decide) (by decide) e0 ⟨congrArg (fun z_ => some (Value.int z_)) (show (F_v1 gp gc) = (((0 : Int32) * (gc 0)) + (gp 0)) from rfl).symm, N0, rfl⟩
theorem d3_9 : decode prog_5_method_3_code 9 = .ok (.aload_n 0, 1) := by decide +kernel
theorem d3_10 : decode prog_5_method_3_code 10 = .ok (.iload_n 2, 1) := by decide +kernel
theorem d3_11 : decode prog_5_method_3_code 11 = .ok (.dup2, 1) := by decide +kernel
theorem d3_12 : decode prog_5_method_3_code 12 = .ok (.iaload, 1) := by decide +kernel
theorem d3_13 : decode prog_5_method_3_code 13 = .ok (.iconst 1, 1) := by decide +kernel
theorem d3_14 : decode prog_5_method_3_code 14 = .ok (.iadd, 1) := by decide +kernel
theorem d3_15 : decode prog_5_method_3_code 15 = .ok (.iastore, 1) := by decide +kernel
theorem d3_16 : decode prog_5_method_3_code 16 = .ok (.aload_n 0, 1) := by decide +kernel
theorem d3_17 : decode prog_5_method_3_code 17 = .ok (.iload_n 2, 1) := by decide +kernel
theorem d3_18 : decode prog_5_method_3_code 18 = .ok (.iaload, 1) := by decide +kernel
theorem d3_19 : decode prog_5_method_3_code 19 = .ok (.aload_n 1, 1) := by decide +kernel
theorem d3_20 : decode prog_5_method_3_code 20 = .ok (.iload_n 2, 1) := by decide +kernel
theorem d3_21 : decode prog_5_method_3_code 21 = .ok (.iaload, 1) := by decide +kernel
theorem d3_22 : decode prog_5_method_3_code 22 = .ok (.if_icmp .ge 5, 3) := by decide +kernel
theorem d3_25 : decode prog_5_method_3_code 25 = .ok (.iconst 1, 1) := by decide +kernel
theorem d3_26 : decode prog_5_method_3_code 26 = .ok (.ireturn, 1) := by decide +kernel
theorem d3_27 : decode prog_5_method_3_code 27 = .ok (.aload_n 0, 1) := by decide +kernel
theorem d3_28 : decode prog_5_method_3_code 28 = .ok (.iload_n 2, 1) := by decide +kernel
theorem d3_29 : decode prog_5_method_3_code 29 = .ok (.iconst 0, 1) := by decide +kernel
theorem d3_30 : decode prog_5_method_3_code 30 = .ok (.iastore, 1) := by decide +kernel
theorem d3_31 : decode prog_5_method_3_code 31 = .ok (.iinc 2 (-1), 3) := by decide +kernel
theorem d3_34 : decode prog_5_method_3_code 34 = .ok (.goto (-29), 3) := by decide +kernel
def a1_g15 (gp : Nat → Int32) (gk : Nat → Int32) : Nat → Int32 := (upv gp 0 ((gp 0) + (1 : Int32)))
def a1_g30 (gp : Nat → Int32) (gk : Nat → Int32) : Nat → Int32 := (upv (a1_g15 gp gk) 0 (0 : Int32))
def F_a1 (gp : Nat → Int32) (gk : Nat → Int32) : Int32 := (if ((a1_g15 gp gk) 0) < (gk 0) then (1 : Int32) else (0 : Int32))
def a1_out0 (gp : Nat → Int32) (gk : Nat → Int32) : Nat → Int32 := (if ((a1_g15 gp gk) 0) < (gk 0) then (a1_g15 gp gk) else (a1_g30 gp gk))
def Q_a1 (Z : State) (o0 : Addr) (o1 : Addr) (gp : Nat → Int32) (gk : Nat → Int32) (h0 : Heap) (n0 : Nat) (v : Option Value) (h : Heap) (L : List Loc) : Prop := v = some (.int (F_a1 gp gk)) ∧ Fr n0 L ∧ Keep h0 h [o0] ∧ AI Z h o0 .int 1 (a1_out0 gp gk) ∧ AI Z h o1 .int 1 gk
set_option maxRecDepth 65536 in
set_option maxHeartbeats 40000000 in
theorem rma1 (l : Launch) (Z : State) (a0 : Array Value) (hw : ∀ d ∈ tables_1, d.before a0 Z = true) (ws : List Jvm.Cond) (o0 : Addr) (o1 : Addr) (gp : Nat → Int32) (gk : Nat → Int32) (h0 : Heap) (n0 : Nat) (A_o0 : AI Z h0 o0 .int 1 gp) (A_o1 : AI Z h0 o1 .int 1 gk) (g_o0 : n0 ≤ o0) (ne_o0_o1 : o0 ≠ o1) :
    MetFree l (⟨"com/example/ratatoskr/ratatoskr/Choices", "advance", "([I[I)Z"⟩ : MethodName) (head1 (Jvm.Cond.code (⟨"com/example/ratatoskr/ratatoskr/Choices", "advance", "([I[I)Z"⟩ : MethodName) prog_5_method_3_code 3 (some .boolean) :: ws) ({ frames := 0, cells := 0, slots := 0, locals := 0 } : Room)) (fun a U => a = #[(.ref o0), (.ref o1)] ∧ Z.Warmed39 U.vm ∧ U.heap = h0) (fun _ _ _ _ _ => True) (fun _ U o U' => ∃ v L, o = .returned v ∧ Q_a1 Z o0 o1 gp gk h0 n0 v U'.heap L ∧ FrameEnd U o U' L ({ frames := 0, cells := 0, slots := 0, locals := 0 } : Room).cells ({ frames := 0, cells := 0, slots := 0, locals := 0 } : Room).slots) := by
  refine MetFree.of_bodySF (plainFor_of_name pn_3) hisR ?_
  intro p e s m args below meth c s₁ Bd hml0 hP hK
  obtain ⟨rfl, hZ, hh⟩ := hP
  have hx := Bd.exec
  have hby := Bd.bytes
  have hml : c.maxLocals = 3 := hml0
  have hown : s.vm.findClass "com/example/ratatoskr/ratatoskr/Choices" = some m.cls := findClass_of_methodNamed Bd.named
  have hnm := (name_of_methodNamed Bd.named Bd.method).1
  have hret := Bd.returns
  have hlk : meth.locks = false := BodyLoose.notSynchronized Bd
  have X0 : Stand p l e ({ frames := 0, cells := 0, slots := 0, locals := 0 } : Room) s m #[(.ref o0), (.ref o1)] below meth c s₁ [] 0 0 := Stand.of_body Bd
  have e0 : s₁.heap = h0 := by rw [← hh, Bd.state]; rfl
  have N0 := Fr.nil n0
  show Outs p e below s (Q_a1 Z o0 o1 gp gk h0 n0) _ _ _
  refine Outs.of (U' := s₁.setTop (mkF m 0 #[.val (.ref o0), .val (.ref o1), .unset] [])) (fun t k => castTop (ef_3 m o0 o1) k) ?_
  refine Outs.of (U' := s₁.setTop (mkF m 1 #[.val (.ref o0), .val (.ref o1), .unset] [(.ref o0)])) (fun t k => ?_) ?_
  · refine XS.aloadN X0.here hx rfl (hb hby d3_0) rfl rfl ?_
    exact k
  refine Outs.of (alen X0 hx hZ e0 A_o0 (z := (1 : Int32)) rfl (f := (mkF m 1 #[.val (.ref o0), .val (.ref o1), .unset] [(.ref o0)])) rfl rfl (hb hby d3_1)) ?_
  show Outs p e below s _ _ _ (s₁.setTop (mkF m 2 #[.val (.ref o0), .val (.ref o1), .unset] [(.int (1 : Int32))]))
  refine Outs.of (U' := s₁.setTop (mkF m 12 #[.val (.ref o0), .val (.ref o1), .val (.int (0 : Int32))] [(.int (0 : Int32)), (.ref o0), (.int (0 : Int32)), (.ref o0)])) (fun t k => ?_) ?_
  · refine XS.iconst X0.here hx rfl (hb hby d3_2) ?_
    refine XS.isub X0.here hx rfl (hb hby d3_3) rfl ?_
    refine XS.istoreN X0.here hx rfl (hb hby d3_4) rfl (l' := #[.val (.ref o0), .val (.ref o1), .val (.int (0 : Int32))]) rfl ?_
    refine XS.iloadN X0.here hx rfl (hb hby d3_5) rfl ?_
    refine XS.ifNo X0.here hx rfl (hb hby d3_6) rfl ((if0 _ _).trans (flt (by decide)).1) ?_
    refine XS.aloadN X0.here hx rfl (hb hby d3_9) rfl rfl ?_
    refine XS.iloadN X0.here hx rfl (hb hby d3_10) rfl ?_
    show Steps p.tables e below (s₁.setTop (mkF m 11 #[.val (.ref o0), .val (.ref o1), .val (.int (0 : Int32))] [(.int (0 : Int32)), (.ref o0)])) _
    jvm_step X0.here [X0.here.top, hx, (hb hby d3_11), Value.category]
    exact k
  refine Outs.of (ldI X0 hx hZ e0 A_o0 (j := (0 : Int32)) (k := 0) rfl (by decide) (f := (mkF m 12 #[.val (.ref o0), .val (.ref o1), .val (.int (0 : Int32))] [(.int (0 : Int32)), (.ref o0), (.int (0 : Int32)), (.ref o0)])) rfl rfl (hb hby d3_12)) ?_
  show Outs p e below s _ _ _ (s₁.setTop (mkF m 13 #[.val (.ref o0), .val (.ref o1), .val (.int (0 : Int32))] [(.int (gp 0)), (.int (0 : Int32)), (.ref o0)]))
  refine Outs.of (U' := s₁.setTop (mkF m 15 #[.val (.ref o0), .val (.ref o1), .val (.int (0 : Int32))] [(.int ((gp 0) + (1 : Int32))), (.int (0 : Int32)), (.ref o0)])) (fun t k => ?_) ?_
  · refine XS.iconst X0.here hx rfl (hb hby d3_13) ?_
    refine XS.iadd X0.here hx rfl (hb hby d3_14) rfl ?_
    exact k
  obtain ⟨T1, h1, X1, e1, W1, V1, st1⟩ := puI X0 hx hZ e0 A_o0 (j := (0 : Int32)) (x := ((gp 0) + (1 : Int32))) (k := 0) rfl (by decide) (f := (mkF m 15 #[.val (.ref o0), .val (.ref o1), .val (.int (0 : Int32))] [(.int ((gp 0) + (1 : Int32))), (.int (0 : Int32)), (.ref o0)])) rfl rfl (hb hby d3_15)
  replace V1 : AI Z h1 o0 .int 1 (a1_g15 gp gk) := V1
  have N1 := Fr.snoc X1 N0 g_o0
  obtain ⟨Lh1, X1, N1⟩ := hide X1 N1 (C := 0) (S := 0) (by decide) (by decide)
  refine Outs.of st1 ?_
  show Outs p e below s _ _ _ (T1.setTop (mkF m 16 #[.val (.ref o0), .val (.ref o1), .val (.int (0 : Int32))] []))
  refine Outs.of (U' := T1.setTop (mkF m 18 #[.val (.ref o0), .val (.ref o1), .val (.int (0 : Int32))] [(.int (0 : Int32)), (.ref o0)])) (fun t k => ?_) ?_
  · refine XS.aloadN X1.here hx rfl (hb hby d3_16) rfl rfl ?_
    refine XS.iloadN X1.here hx rfl (hb hby d3_17) rfl ?_
    exact k
  refine Outs.of (ldI X1 hx hZ e1 V1 (j := (0 : Int32)) (k := 0) rfl (by decide) (f := (mkF m 18 #[.val (.ref o0), .val (.ref o1), .val (.int (0 : Int32))] [(.int (0 : Int32)), (.ref o0)])) rfl rfl (hb hby d3_18)) ?_
  show Outs p e below s _ _ _ (T1.setTop (mkF m 19 #[.val (.ref o0), .val (.ref o1), .val (.int (0 : Int32))] [(.int ((a1_g15 gp gk) 0))]))
  refine Outs.of (U' := T1.setTop (mkF m 21 #[.val (.ref o0), .val (.ref o1), .val (.int (0 : Int32))] [(.int (0 : Int32)), (.ref o1), (.int ((a1_g15 gp gk) 0))])) (fun t k => ?_) ?_
  · refine XS.aloadN X1.here hx rfl (hb hby d3_19) rfl rfl ?_
    refine XS.iloadN X1.here hx rfl (hb hby d3_20) rfl ?_
    exact k
  have f2 : AI Z h1 o1 .int 1 gk := (A_o1.other W1 ne_o0_o1.symm)
  refine Outs.of (ldI X1 hx hZ e1 f2 (j := (0 : Int32)) (k := 0) rfl (by decide) (f := (mkF m 21 #[.val (.ref o0), .val (.ref o1), .val (.int (0 : Int32))] [(.int (0 : Int32)), (.ref o1), (.int ((a1_g15 gp gk) 0))])) rfl rfl (hb hby d3_21)) ?_
  show Outs p e below s _ _ _ (T1.setTop (mkF m 22 #[.val (.ref o0), .val (.ref o1), .val (.int (0 : Int32))] [(.int (gk 0)), (.int ((a1_g15 gp gk) 0))]))
  by_cases hc22 : ((a1_g15 gp gk) 0) < (gk 0)
  · refine Outs.of (U' := T1.setTop (mkF m 25 #[.val (.ref o0), .val (.ref o1), .val (.int (0 : Int32))] [])) (fun t k => ?_) ?_
    · refine XS.icmpNo X1.here hx rfl (hb hby d3_22) rfl (tlt hc22).2.1 ?_
      exact k
    refine Outs.of (U' := T1.setTop (mkF m 26 #[.val (.ref o0), .val (.ref o1), .val (.int (0 : Int32))] [(.int (1 : Int32))])) (fun t k => ?_) ?_
    · refine XS.iconst X1.here hx rfl (hb hby d3_25) ?_
      exact k
    exact Outs.retN (t := .boolean) (z := (1 : Int32)) X1 hx hret (by simp) (hb hby d3_26) hlk (by decide) (by decide) e1 ⟨congrArg (fun z_ => some (Value.int z_)) (show (F_a1 gp gk) = (1 : Int32) from (if_pos hc22)).symm, N1, ((Keep.refl h0 [o0]).wr W1 (Or.inl (List.mem_of_getElem? (i := 0) rfl))), (by rw [show (a1_out0 gp gk) = (a1_g15 gp gk) from (if_pos hc22)]; exact V1), f2⟩
  · refine Outs.of (U' := T1.setTop (mkF m 27 #[.val (.ref o0), .val (.ref o1), .val (.int (0 : Int32))] [])) (fun t k => ?_) ?_
    · refine XS.icmpYes X1.here hx rfl (pc0 := 22) (pc' := 27) rfl (hb hby d3_22) rfl (flt hc22).2.1 (by decide) (by decide) ?_
      exact k
    refine Outs.of (U' := T1.setTop (mkF m 30 #[.val (.ref o0), .val (.ref o1), .val (.int (0 : Int32))] [(.int (0 : Int32)), (.int (0 : Int32)), (.ref o0)])) (fun t k => ?_) ?_
    · refine XS.aloadN X1.here hx rfl (hb hby d3_27) rfl rfl ?_
      refine XS.iloadN X1.here hx rfl (hb hby d3_28) rfl ?_
      refine XS.iconst X1.here hx rfl (hb hby d3_29) ?_
      exact k
    obtain ⟨T3, h3, X3, e3, W3, V3, st3⟩ := puI X1 hx hZ e1 V1 (j := (0 : Int32)) (x := (0 : Int32)) (k := 0) rfl (by decide) (f := (mkF m 30 #[.val (.ref o0), .val (.ref o1), .val (.int (0 : Int32))] [(.int (0 : Int32)), (.int (0 : Int32)), (.ref o0)])) rfl rfl (hb hby d3_30)
    replace V3 : AI Z h3 o0 .int 1 (a1_g30 gp gk) := V3
    have N3 := Fr.snoc X3 N1 g_o0
    obtain ⟨Lh3, X3, N3⟩ := hide X3 N3 (C := 0) (S := 0) (by decide) (by decide)
    refine Outs.of st3 ?_
    show Outs p e below s _ _ _ (T3.setTop (mkF m 31 #[.val (.ref o0), .val (.ref o1), .val (.int (0 : Int32))] []))
    refine Outs.of (U' := T3.setTop (mkF m 38 #[.val (.ref o0), .val (.ref o1), .val (.int (-1 : Int32))] [(.int (0 : Int32))])) (fun t k => ?_) ?_
    · refine XS.iinc X3.here hx rfl (hb hby d3_31) rfl (l' := #[.val (.ref o0), .val (.ref o1), .val (.int (-1 : Int32))]) rfl ?_
      refine XS.goto X3.here hx rfl (pc0 := 34) (pc' := 5) rfl (hb hby d3_34) (by decide) (by decide) ?_
      refine XS.iloadN X3.here hx rfl (hb hby d3_5) rfl ?_
      refine XS.ifYes X3.here hx rfl (pc0 := 6) (pc' := 37) rfl (hb hby d3_6) rfl ((if0 _ _).trans (tlt (by decide)).1) (by decide) (by decide) ?_
      refine XS.iconst X3.here hx rfl (hb hby d3_37) ?_
      exact k
    have f4 : AI Z h3 o1 .int 1 gk := (f2.other W3 ne_o0_o1.symm)
    exact Outs.retN (t := .boolean) (z := (0 : Int32)) X3 hx hret (by simp) (hb hby d3_38) hlk (by decide) (by decide) e3 ⟨congrArg (fun z_ => some (Value.int z_)) (show (F_a1 gp gk) = (0 : Int32) from (if_neg hc22)).symm, N3, (((Keep.refl h0 [o0]).wr W1 (Or.inl (List.mem_of_getElem? (i := 0) rfl))).wr W3 (Or.inl (List.mem_of_getElem? (i := 0) rfl))), (by rw [show (a1_out0 gp gk) = (a1_g30 gp gk) from (if_neg hc22)]; exact V3), f4⟩
theorem d4_8 : decode method_4_code 8 = .ok (.aload_n 1, 1) := by decide +kernel
theorem d4_9 : decode method_4_code 9 = .ok (.iload 4, 2) := by decide +kernel
theorem d4_11 : decode method_4_code 11 = .ok (.iaload, 1) := by decide +kernel
theorem d4_12 : decode method_4_code 12 = .ok (.aload_n 2, 1) := by decide +kernel
theorem d4_13 : decode method_4_code 13 = .ok (.iload 4, 2) := by decide +kernel
theorem d4_15 : decode method_4_code 15 = .ok (.iaload, 1) := by decide +kernel
theorem d4_16 : decode method_4_code 16 = .ok (.if_icmp .ne 25, 3) := by decide +kernel
theorem d4_19 : decode method_4_code 19 = .ok (.aload_n 0, 1) := by decide +kernel
theorem d4_20 : decode method_4_code 20 = .ok (.iload 4, 2) := by decide +kernel
theorem d4_22 : decode method_4_code 22 = .ok (.iaload, 1) := by decide +kernel
theorem d4_23 : decode method_4_code 23 = .ok (.ifCond .lt 18, 3) := by decide +kernel
theorem d4_41 : decode method_4_code 41 = .ok (.iconst 0, 1) := by decide +kernel
theorem d4_42 : decode method_4_code 42 = .ok (.ireturn, 1) := by decide +kernel
theorem d4_26 : decode method_4_code 26 = .ok (.aload_n 0, 1) := by decide +kernel
theorem d4_27 : decode method_4_code 27 = .ok (.iload 4, 2) := by decide +kernel
theorem d4_29 : decode method_4_code 29 = .ok (.iaload, 1) := by decide +kernel
theorem d4_30 : decode method_4_code 30 = .ok (.aload_n 2, 1) := by decide +kernel
theorem d4_31 : decode method_4_code 31 = .ok (.iload 4, 2) := by decide +kernel
theorem d4_33 : decode method_4_code 33 = .ok (.iaload, 1) := by decide +kernel
theorem d4_34 : decode method_4_code 34 = .ok (.if_icmp .ge 7, 3) := by decide +kernel
theorem d4_37 : decode method_4_code 37 = .ok (.iconst 1, 1) := by decide +kernel
theorem d4_38 : decode method_4_code 38 = .ok (.goto 4, 3) := by decide +kernel
def k1_0_34_s0 (gp : Nat → Int32) (gk : Nat → Int32) (gc : Nat → Int32) : Int32 := (if (gp 0) < (gc 0) then (1 : Int32) else (0 : Int32))
def F_k1_0 (gp : Nat → Int32) (gk : Nat → Int32) (gc : Nat → Int32) : Int32 := (if (gk 0) = (gc 0) then (if (gp 0) < (0 : Int32) then (0 : Int32) else (nar .boolean (k1_0_34_s0 gp gk gc))) else (0 : Int32))
set_option maxRecDepth 65536 in
set_option maxHeartbeats 40000000 in
theorem rmk1_0 (l : Launch) (Z : State) (a0 : Array Value) (hw : ∀ d ∈ tables_1, d.before a0 Z = true) (ws : List Jvm.Cond) (o0 : Addr) (o1 : Addr) (o2 : Addr) (gp : Nat → Int32) (gk : Nat → Int32) (gc : Nat → Int32) (h0 : Heap) (n0 : Nat) (A_o0 : AI Z h0 o0 .int 1 gp) (A_o1 : AI Z h0 o1 .int 1 gk) (A_o2 : AI Z h0 o2 .int 4 gc) :
    MetFree l (⟨"com/example/ratatoskr/ratatoskr/ChoicesAdvancePinLaw", "ok", "([I[I[III)Z"⟩ : MethodName) (head1 (Jvm.Cond.code (⟨"com/example/ratatoskr/ratatoskr/ChoicesAdvancePinLaw", "ok", "([I[I[III)Z"⟩ : MethodName) method_4_code 5 (some .boolean) :: ws) ({ frames := 0, cells := 0, slots := 0, locals := 0 } : Room)) (fun a U => a = #[(.ref o0), (.ref o1), (.ref o2), (.int (1 : Int32)), (.int (0 : Int32))] ∧ Z.Warmed39 U.vm ∧ U.heap = h0) (fun _ _ _ _ _ => True) (fun _ U o U' => ∃ v L, o = .returned v ∧ QR (some (.int (F_k1_0 gp gk gc))) h0 n0 v U'.heap L ∧ FrameEnd U o U' L ({ frames := 0, cells := 0, slots := 0, locals := 0 } : Room).cells ({ frames := 0, cells := 0, slots := 0, locals := 0 } : Room).slots) := by
  refine MetFree.of_bodySF (plainFor_of_name pn_0) hisR ?_
  intro p e s m args below meth c s₁ Bd hml0 hP hK
  obtain ⟨rfl, hZ, hh⟩ := hP
  have hx := Bd.exec
  have hby := Bd.bytes
  have hml : c.maxLocals = 5 := hml0
  have hown : s.vm.findClass "com/example/ratatoskr/ratatoskr/ChoicesAdvancePinLaw" = some m.cls := findClass_of_methodNamed Bd.named
  have hnm := (name_of_methodNamed Bd.named Bd.method).1
  have hret := Bd.returns
  have hlk : meth.locks = false := BodyLoose.notSynchronized Bd
  have X0 : Stand p l e ({ frames := 0, cells := 0, slots := 0, locals := 0 } : Room) s m #[(.ref o0), (.ref o1), (.ref o2), (.int (1 : Int32)), (.int (0 : Int32))] below meth c s₁ [] 0 0 := Stand.of_body Bd
  have e0 : s₁.heap = h0 := by rw [← hh, Bd.state]; rfl
  have N0 := Fr.nil n0
  show Outs p e below s (QR (some (.int (F_k1_0 gp gk gc))) h0 n0) _ _ _
  refine Outs.of (U' := s₁.setTop (mkF m 0 #[.val (.ref o0), .val (.ref o1), .val (.ref o2), .val (.int (1 : Int32)), .val (.int (0 : Int32))] [])) (fun t k => castTop (ef_4 m o0 o1 o2 (1 : Int32) (0 : Int32)) k) ?_
  refine Outs.of (U' := s₁.setTop (mkF m 11 #[.val (.ref o0), .val (.ref o1), .val (.ref o2), .val (.int (1 : Int32)), .val (.int (0 : Int32))] [(.int (0 : Int32)), (.ref o1)])) (fun t k => ?_) ?_
  · refine XS.iload X0.here hx rfl (hb hby d4_0) rfl ?_
    refine XS.iloadN X0.here hx rfl (hb hby d4_2) rfl ?_
    refine XS.icmpYes X0.here hx rfl (pc0 := 3) (pc' := 8) rfl (hb hby d4_3) rfl (tlt (by decide)).1 (by decide) (by decide) ?_
    refine XS.aloadN X0.here hx rfl (hb hby d4_8) rfl rfl ?_
    refine XS.iload X0.here hx rfl (hb hby d4_9) rfl ?_
    exact k
  refine Outs.of (ldI X0 hx hZ e0 A_o1 (j := (0 : Int32)) (k := 0) rfl (by decide) (f := (mkF m 11 #[.val (.ref o0), .val (.ref o1), .val (.ref o2), .val (.int (1 : Int32)), .val (.int (0 : Int32))] [(.int (0 : Int32)), (.ref o1)])) rfl rfl (hb hby d4_11)) ?_
  show Outs p e below s _ _ _ (s₁.setTop (mkF m 12 #[.val (.ref o0), .val (.ref o1), .val (.ref o2), .val (.int (1 : Int32)), .val (.int (0 : Int32))] [(.int (gk 0))]))
  refine Outs.of (U' := s₁.setTop (mkF m 15 #[.val (.ref o0), .val (.ref o1), .val (.ref o2), .val (.int (1 : Int32)), .val (.int (0 : Int32))] [(.int (0 : Int32)), (.ref o2), (.int (gk 0))])) (fun t k => ?_) ?_
  · refine XS.aloadN X0.here hx rfl (hb hby d4_12) rfl rfl ?_
    refine XS.iload X0.here hx rfl (hb hby d4_13) rfl ?_
    exact k
  refine Outs.of (ldI X0 hx hZ e0 A_o2 (j := (0 : Int32)) (k := 0) rfl (by decide) (f := (mkF m 15 #[.val (.ref o0), .val (.ref o1), .val (.ref o2), .val (.int (1 : Int32)), .val (.int (0 : Int32))] [(.int (0 : Int32)), (.ref o2), (.int (gk 0))])) rfl rfl (hb hby d4_15)) ?_
  show Outs p e below s _ _ _ (s₁.setTop (mkF m 16 #[.val (.ref o0), .val (.ref o1), .val (.ref o2), .val (.int (1 : Int32)), .val (.int (0 : Int32))] [(.int (gc 0)), (.int (gk 0))]))
  by_cases hc16 : (gk 0) = (gc 0)
  · refine Outs.of (U' := s₁.setTop (mkF m 19 #[.val (.ref o0), .val (.ref o1), .val (.ref o2), .val (.int (1 : Int32)), .val (.int (0 : Int32))] [])) (fun t k => ?_) ?_
    · refine XS.icmpNo X0.here hx rfl (hb hby d4_16) rfl (teq hc16).2 ?_
      exact k
    refine Outs.of (U' := s₁.setTop (mkF m 22 #[.val (.ref o0), .val (.ref o1), .val (.ref o2), .val (.int (1 : Int32)), .val (.int (0 : Int32))] [(.int (0 : Int32)), (.ref o0)])) (fun t k => ?_) ?_
    · refine XS.aloadN X0.here hx rfl (hb hby d4_19) rfl rfl ?_
      refine XS.iload X0.here hx rfl (hb hby d4_20) rfl ?_
      exact k
    refine Outs.of (ldI X0 hx hZ e0 A_o0 (j := (0 : Int32)) (k := 0) rfl (by decide) (f := (mkF m 22 #[.val (.ref o0), .val (.ref o1), .val (.ref o2), .val (.int (1 : Int32)), .val (.int (0 : Int32))] [(.int (0 : Int32)), (.ref o0)])) rfl rfl (hb hby d4_22)) ?_
    show Outs p e below s _ _ _ (s₁.setTop (mkF m 23 #[.val (.ref o0), .val (.ref o1), .val (.ref o2), .val (.int (1 : Int32)), .val (.int (0 : Int32))] [(.int (gp 0))]))
    by_cases hc23 : (gp 0) < (0 : Int32)
    · refine Outs.of (U' := s₁.setTop (mkF m 41 #[.val (.ref o0), .val (.ref o1), .val (.ref o2), .val (.int (1 : Int32)), .val (.int (0 : Int32))] [])) (fun t k => ?_) ?_
      · refine XS.ifYes X0.here hx rfl (pc0 := 23) (pc' := 41) rfl (hb hby d4_23) rfl ((if0 _ _).trans (tlt hc23).1) (by decide) (by decide) ?_
        exact k
      refine Outs.of (U' := s₁.setTop (mkF m 42 #[.val (.ref o0), .val (.ref o1), .val (.ref o2), .val (.int (1 : Int32)), .val (.int (0 : Int32))] [(.int (0 : Int32))])) (fun t k => ?_) ?_
      · refine XS.iconst X0.here hx rfl (hb hby d4_41) ?_
        exact k
      exact Outs.retN (t := .boolean) (z := (0 : Int32)) X0 hx hret (by simp) (hb hby d4_42) hlk (by decide) (by decide) e0 ⟨congrArg (fun z_ => some (Value.int z_)) (show (F_k1_0 gp gk gc) = (0 : Int32) from ((if_pos hc16).trans (if_pos hc23))).symm, N0, rfl⟩
    · refine Outs.of (U' := s₁.setTop (mkF m 26 #[.val (.ref o0), .val (.ref o1), .val (.ref o2), .val (.int (1 : Int32)), .val (.int (0 : Int32))] [])) (fun t k => ?_) ?_
      · refine XS.ifNo X0.here hx rfl (hb hby d4_23) rfl ((if0 _ _).trans (flt hc23).1) ?_
        exact k
      refine Outs.of (U' := s₁.setTop (mkF m 29 #[.val (.ref o0), .val (.ref o1), .val (.ref o2), .val (.int (1 : Int32)), .val (.int (0 : Int32))] [(.int (0 : Int32)), (.ref o0)])) (fun t k => ?_) ?_
      · refine XS.aloadN X0.here hx rfl (hb hby d4_26) rfl rfl ?_
        refine XS.iload X0.here hx rfl (hb hby d4_27) rfl ?_
        exact k
      refine Outs.of (ldI X0 hx hZ e0 A_o0 (j := (0 : Int32)) (k := 0) rfl (by decide) (f := (mkF m 29 #[.val (.ref o0), .val (.ref o1), .val (.ref o2), .val (.int (1 : Int32)), .val (.int (0 : Int32))] [(.int (0 : Int32)), (.ref o0)])) rfl rfl (hb hby d4_29)) ?_
      show Outs p e below s _ _ _ (s₁.setTop (mkF m 30 #[.val (.ref o0), .val (.ref o1), .val (.ref o2), .val (.int (1 : Int32)), .val (.int (0 : Int32))] [(.int (gp 0))]))
      refine Outs.of (U' := s₁.setTop (mkF m 33 #[.val (.ref o0), .val (.ref o1), .val (.ref o2), .val (.int (1 : Int32)), .val (.int (0 : Int32))] [(.int (0 : Int32)), (.ref o2), (.int (gp 0))])) (fun t k => ?_) ?_
      · refine XS.aloadN X0.here hx rfl (hb hby d4_30) rfl rfl ?_
        refine XS.iload X0.here hx rfl (hb hby d4_31) rfl ?_
        exact k
      refine Outs.of (ldI X0 hx hZ e0 A_o2 (j := (0 : Int32)) (k := 0) rfl (by decide) (f := (mkF m 33 #[.val (.ref o0), .val (.ref o1), .val (.ref o2), .val (.int (1 : Int32)), .val (.int (0 : Int32))] [(.int (0 : Int32)), (.ref o2), (.int (gp 0))])) rfl rfl (hb hby d4_33)) ?_
      show Outs p e below s _ _ _ (s₁.setTop (mkF m 34 #[.val (.ref o0), .val (.ref o1), .val (.ref o2), .val (.int (1 : Int32)), .val (.int (0 : Int32))] [(.int (gc 0)), (.int (gp 0))]))
      refine Outs.of (U' := s₁.setTop (mkF m 42 #[.val (.ref o0), .val (.ref o1), .val (.ref o2), .val (.int (1 : Int32)), .val (.int (0 : Int32))] [(.int (k1_0_34_s0 gp gk gc))])) (fun t k => ?_) ?_
      · by_cases hc34 : (gp 0) < (gc 0)
        · refine XS.icmpNo X0.here hx rfl (hb hby d4_34) rfl (tlt hc34).2.1 ?_
          refine XS.iconst X0.here hx rfl (hb hby d4_37) ?_
          refine XS.goto X0.here hx rfl (pc0 := 38) (pc' := 42) rfl (hb hby d4_38) (by decide) (by decide) ?_
          rw [show (k1_0_34_s0 gp gk gc) = (1 : Int32) from (if_pos hc34)] at k
          exact k
        · refine XS.icmpYes X0.here hx rfl (pc0 := 34) (pc' := 41) rfl (hb hby d4_34) rfl (flt hc34).2.1 (by decide) (by decide) ?_
          refine XS.iconst X0.here hx rfl (hb hby d4_41) ?_
          rw [show (k1_0_34_s0 gp gk gc) = (0 : Int32) from (if_neg hc34)] at k
          exact k
      exact Outs.retN (t := .boolean) (z := (k1_0_34_s0 gp gk gc)) X0 hx hret (by simp) (hb hby d4_42) hlk (by decide) (by decide) e0 ⟨congrArg (fun z_ => some (Value.int z_)) (show (F_k1_0 gp gk gc) = (nar .boolean (k1_0_34_s0 gp gk gc)) from ((if_pos hc16).trans (if_neg hc23))).symm, N0, rfl⟩
  · refine Outs.of (U' := s₁.setTop (mkF m 41 #[.val (.ref o0), .val (.ref o1), .val (.ref o2), .val (.int (1 : Int32)), .val (.int (0 : Int32))] [])) (fun t k => ?_) ?_
    · refine XS.icmpYes X0.here hx rfl (pc0 := 16) (pc' := 41) rfl (hb hby d4_16) rfl (feq hc16).2 (by decide) (by decide) ?_
      exact k
    refine Outs.of (U' := s₁.setTop (mkF m 42 #[.val (.ref o0), .val (.ref o1), .val (.ref o2), .val (.int (1 : Int32)), .val (.int (0 : Int32))] [(.int (0 : Int32))])) (fun t k => ?_) ?_
    · refine XS.iconst X0.here hx rfl (hb hby d4_41) ?_
      exact k
    exact Outs.retN (t := .boolean) (z := (0 : Int32)) X0 hx hret (by simp) (hb hby d4_42) hlk (by decide) (by decide) e0 ⟨congrArg (fun z_ => some (Value.int z_)) (show (F_k1_0 gp gk gc) = (0 : Int32) from (if_neg hc16)).symm, N0, rfl⟩
def F_k1_1 (gp : Nat → Int32) (gk : Nat → Int32) (gc : Nat → Int32) : Int32 := (1 : Int32)
set_option maxRecDepth 65536 in
set_option maxHeartbeats 40000000 in
theorem rmk1_1 (l : Launch) (Z : State) (a0 : Array Value) (hw : ∀ d ∈ tables_1, d.before a0 Z = true) (ws : List Jvm.Cond) (o0 : Addr) (o1 : Addr) (o2 : Addr) (gp : Nat → Int32) (gk : Nat → Int32) (gc : Nat → Int32) (h0 : Heap) (n0 : Nat) (A_o0 : AI Z h0 o0 .int 1 gp) (A_o1 : AI Z h0 o1 .int 1 gk) (A_o2 : AI Z h0 o2 .int 4 gc) :
    MetFree l (⟨"com/example/ratatoskr/ratatoskr/ChoicesAdvancePinLaw", "ok", "([I[I[III)Z"⟩ : MethodName) (head1 (Jvm.Cond.code (⟨"com/example/ratatoskr/ratatoskr/ChoicesAdvancePinLaw", "ok", "([I[I[III)Z"⟩ : MethodName) method_4_code 5 (some .boolean) :: ws) ({ frames := 0, cells := 0, slots := 0, locals := 0 } : Room)) (fun a U => a = #[(.ref o0), (.ref o1), (.ref o2), (.int (1 : Int32)), (.int (1 : Int32))] ∧ Z.Warmed39 U.vm ∧ U.heap = h0) (fun _ _ _ _ _ => True) (fun _ U o U' => ∃ v L, o = .returned v ∧ QR (some (.int (F_k1_1 gp gk gc))) h0 n0 v U'.heap L ∧ FrameEnd U o U' L ({ frames := 0, cells := 0, slots := 0, locals := 0 } : Room).cells ({ frames := 0, cells := 0, slots := 0, locals := 0 } : Room).slots) := by
  refine MetFree.of_bodySF (plainFor_of_name pn_0) hisR ?_
  intro p e s m args below meth c s₁ Bd hml0 hP hK
  obtain ⟨rfl, hZ, hh⟩ := hP
  have hx := Bd.exec
  have hby := Bd.bytes
  have hml : c.maxLocals = 5 := hml0
  have hown : s.vm.findClass "com/example/ratatoskr/ratatoskr/ChoicesAdvancePinLaw" = some m.cls := findClass_of_methodNamed Bd.named
  have hnm := (name_of_methodNamed Bd.named Bd.method).1
  have hret := Bd.returns
  have hlk : meth.locks = false := BodyLoose.notSynchronized Bd
  have X0 : Stand p l e ({ frames := 0, cells := 0, slots := 0, locals := 0 } : Room) s m #[(.ref o0), (.ref o1), (.ref o2), (.int (1 : Int32)), (.int (1 : Int32))] below meth c s₁ [] 0 0 := Stand.of_body Bd
  have e0 : s₁.heap = h0 := by rw [← hh, Bd.state]; rfl
  have N0 := Fr.nil n0
  show Outs p e below s (QR (some (.int (F_k1_1 gp gk gc))) h0 n0) _ _ _
  refine Outs.of (U' := s₁.setTop (mkF m 0 #[.val (.ref o0), .val (.ref o1), .val (.ref o2), .val (.int (1 : Int32)), .val (.int (1 : Int32))] [])) (fun t k => castTop (ef_4 m o0 o1 o2 (1 : Int32) (1 : Int32)) k) ?_
  refine Outs.of (U' := s₁.setTop (mkF m 7 #[.val (.ref o0), .val (.ref o1), .val (.ref o2), .val (.int (1 : Int32)), .val (.int (1 : Int32))] [(.int (1 : Int32))])) (fun t k => ?_) ?_
  · refine XS.iload X0.here hx rfl (hb hby d4_0) rfl ?_
    refine XS.iloadN X0.here hx rfl (hb hby d4_2) rfl ?_
    refine XS.icmpNo X0.here hx rfl (hb hby d4_3) rfl (flt (by decide)).1 ?_
    refine XS.iconst X0.here hx rfl (hb hby d4_6) ?_
    exact k
  exact Outs.retN (t := .boolean) (z := (1 : Int32)) X0 hx hret (by simp) (hb hby d4_7) hlk (by decide) (by decide) e0 ⟨congrArg (fun z_ => some (Value.int z_)) (show (F_k1_1 gp gk gc) = (1 : Int32) from rfl).symm, N0, rfl⟩
def F_k1_2 (gp : Nat → Int32) (gk : Nat → Int32) (gc : Nat → Int32) : Int32 := (1 : Int32)
set_option maxRecDepth 65536 in
set_option maxHeartbeats 40000000 in
theorem rmk1_2 (l : Launch) (Z : State) (a0 : Array Value) (hw : ∀ d ∈ tables_1, d.before a0 Z = true) (ws : List Jvm.Cond) (o0 : Addr) (o1 : Addr) (o2 : Addr) (gp : Nat → Int32) (gk : Nat → Int32) (gc : Nat → Int32) (h0 : Heap) (n0 : Nat) (A_o0 : AI Z h0 o0 .int 1 gp) (A_o1 : AI Z h0 o1 .int 1 gk) (A_o2 : AI Z h0 o2 .int 4 gc) :
    MetFree l (⟨"com/example/ratatoskr/ratatoskr/ChoicesAdvancePinLaw", "ok", "([I[I[III)Z"⟩ : MethodName) (head1 (Jvm.Cond.code (⟨"com/example/ratatoskr/ratatoskr/ChoicesAdvancePinLaw", "ok", "([I[I[III)Z"⟩ : MethodName) method_4_code 5 (some .boolean) :: ws) ({ frames := 0, cells := 0, slots := 0, locals := 0 } : Room)) (fun a U => a = #[(.ref o0), (.ref o1), (.ref o2), (.int (1 : Int32)), (.int (2 : Int32))] ∧ Z.Warmed39 U.vm ∧ U.heap = h0) (fun _ _ _ _ _ => True) (fun _ U o U' => ∃ v L, o = .returned v ∧ QR (some (.int (F_k1_2 gp gk gc))) h0 n0 v U'.heap L ∧ FrameEnd U o U' L ({ frames := 0, cells := 0, slots := 0, locals := 0 } : Room).cells ({ frames := 0, cells := 0, slots := 0, locals := 0 } : Room).slots) := by
  refine MetFree.of_bodySF (plainFor_of_name pn_0) hisR ?_
  intro p e s m args below meth c s₁ Bd hml0 hP hK
  obtain ⟨rfl, hZ, hh⟩ := hP
  have hx := Bd.exec
  have hby := Bd.bytes
  have hml : c.maxLocals = 5 := hml0
  have hown : s.vm.findClass "com/example/ratatoskr/ratatoskr/ChoicesAdvancePinLaw" = some m.cls := findClass_of_methodNamed Bd.named
  have hnm := (name_of_methodNamed Bd.named Bd.method).1
  have hret := Bd.returns
  have hlk : meth.locks = false := BodyLoose.notSynchronized Bd
  have X0 : Stand p l e ({ frames := 0, cells := 0, slots := 0, locals := 0 } : Room) s m #[(.ref o0), (.ref o1), (.ref o2), (.int (1 : Int32)), (.int (2 : Int32))] below meth c s₁ [] 0 0 := Stand.of_body Bd
  have e0 : s₁.heap = h0 := by rw [← hh, Bd.state]; rfl
  have N0 := Fr.nil n0
  show Outs p e below s (QR (some (.int (F_k1_2 gp gk gc))) h0 n0) _ _ _
  refine Outs.of (U' := s₁.setTop (mkF m 0 #[.val (.ref o0), .val (.ref o1), .val (.ref o2), .val (.int (1 : Int32)), .val (.int (2 : Int32))] [])) (fun t k => castTop (ef_4 m o0 o1 o2 (1 : Int32) (2 : Int32)) k) ?_
  refine Outs.of (U' := s₁.setTop (mkF m 7 #[.val (.ref o0), .val (.ref o1), .val (.ref o2), .val (.int (1 : Int32)), .val (.int (2 : Int32))] [(.int (1 : Int32))])) (fun t k => ?_) ?_
  · refine XS.iload X0.here hx rfl (hb hby d4_0) rfl ?_
    refine XS.iloadN X0.here hx rfl (hb hby d4_2) rfl ?_
    refine XS.icmpNo X0.here hx rfl (hb hby d4_3) rfl (flt (by decide)).1 ?_
    refine XS.iconst X0.here hx rfl (hb hby d4_6) ?_
    exact k
  exact Outs.retN (t := .boolean) (z := (1 : Int32)) X0 hx hret (by simp) (hb hby d4_7) hlk (by decide) (by decide) e0 ⟨congrArg (fun z_ => some (Value.int z_)) (show (F_k1_2 gp gk gc) = (1 : Int32) from rfl).symm, N0, rfl⟩
def F_k1_3 (gp : Nat → Int32) (gk : Nat → Int32) (gc : Nat → Int32) : Int32 := (1 : Int32)
set_option maxRecDepth 65536 in
set_option maxHeartbeats 40000000 in
theorem rmk1_3 (l : Launch) (Z : State) (a0 : Array Value) (hw : ∀ d ∈ tables_1, d.before a0 Z = true) (ws : List Jvm.Cond) (o0 : Addr) (o1 : Addr) (o2 : Addr) (gp : Nat → Int32) (gk : Nat → Int32) (gc : Nat → Int32) (h0 : Heap) (n0 : Nat) (A_o0 : AI Z h0 o0 .int 1 gp) (A_o1 : AI Z h0 o1 .int 1 gk) (A_o2 : AI Z h0 o2 .int 4 gc) :
    MetFree l (⟨"com/example/ratatoskr/ratatoskr/ChoicesAdvancePinLaw", "ok", "([I[I[III)Z"⟩ : MethodName) (head1 (Jvm.Cond.code (⟨"com/example/ratatoskr/ratatoskr/ChoicesAdvancePinLaw", "ok", "([I[I[III)Z"⟩ : MethodName) method_4_code 5 (some .boolean) :: ws) ({ frames := 0, cells := 0, slots := 0, locals := 0 } : Room)) (fun a U => a = #[(.ref o0), (.ref o1), (.ref o2), (.int (1 : Int32)), (.int (3 : Int32))] ∧ Z.Warmed39 U.vm ∧ U.heap = h0) (fun _ _ _ _ _ => True) (fun _ U o U' => ∃ v L, o = .returned v ∧ QR (some (.int (F_k1_3 gp gk gc))) h0 n0 v U'.heap L ∧ FrameEnd U o U' L ({ frames := 0, cells := 0, slots := 0, locals := 0 } : Room).cells ({ frames := 0, cells := 0, slots := 0, locals := 0 } : Room).slots) := by
  refine MetFree.of_bodySF (plainFor_of_name pn_0) hisR ?_
  intro p e s m args below meth c s₁ Bd hml0 hP hK
  obtain ⟨rfl, hZ, hh⟩ := hP
  have hx := Bd.exec
  have hby := Bd.bytes
  have hml : c.maxLocals = 5 := hml0
  have hown : s.vm.findClass "com/example/ratatoskr/ratatoskr/ChoicesAdvancePinLaw" = some m.cls := findClass_of_methodNamed Bd.named
  have hnm := (name_of_methodNamed Bd.named Bd.method).1
  have hret := Bd.returns
  have hlk : meth.locks = false := BodyLoose.notSynchronized Bd
  have X0 : Stand p l e ({ frames := 0, cells := 0, slots := 0, locals := 0 } : Room) s m #[(.ref o0), (.ref o1), (.ref o2), (.int (1 : Int32)), (.int (3 : Int32))] below meth c s₁ [] 0 0 := Stand.of_body Bd
  have e0 : s₁.heap = h0 := by rw [← hh, Bd.state]; rfl
  have N0 := Fr.nil n0
  show Outs p e below s (QR (some (.int (F_k1_3 gp gk gc))) h0 n0) _ _ _
  refine Outs.of (U' := s₁.setTop (mkF m 0 #[.val (.ref o0), .val (.ref o1), .val (.ref o2), .val (.int (1 : Int32)), .val (.int (3 : Int32))] [])) (fun t k => castTop (ef_4 m o0 o1 o2 (1 : Int32) (3 : Int32)) k) ?_
  refine Outs.of (U' := s₁.setTop (mkF m 7 #[.val (.ref o0), .val (.ref o1), .val (.ref o2), .val (.int (1 : Int32)), .val (.int (3 : Int32))] [(.int (1 : Int32))])) (fun t k => ?_) ?_
  · refine XS.iload X0.here hx rfl (hb hby d4_0) rfl ?_
    refine XS.iloadN X0.here hx rfl (hb hby d4_2) rfl ?_
    refine XS.icmpNo X0.here hx rfl (hb hby d4_3) rfl (flt (by decide)).1 ?_
    refine XS.iconst X0.here hx rfl (hb hby d4_6) ?_
    exact k
  exact Outs.retN (t := .boolean) (z := (1 : Int32)) X0 hx hret (by simp) (hb hby d4_7) hlk (by decide) (by decide) e0 ⟨congrArg (fun z_ => some (Value.int z_)) (show (F_k1_3 gp gk gc) = (1 : Int32) from rfl).symm, N0, rfl⟩
theorem d1_17 : decode method_3_code 17 = .ok (.iload_n 2, 1) := by decide +kernel
theorem d1_18 : decode method_3_code 18 = .ok (.aload_n 0, 1) := by decide +kernel
theorem d1_19 : decode method_3_code 19 = .ok (.iconst 1, 1) := by decide +kernel
theorem d1_20 : decode method_3_code 20 = .ok (.iaload, 1) := by decide +kernel
theorem d1_21 : decode method_3_code 21 = .ok (.imul, 1) := by decide +kernel
theorem d1_22 : decode method_3_code 22 = .ok (.istore_n 2, 1) := by decide +kernel
def F_p2 (gc : Nat → Int32) : Int32 := (((1 : Int32) * (gc 0)) * (gc 1))
set_option maxRecDepth 65536 in
set_option maxHeartbeats 40000000 in
theorem rmp2 (l : Launch) (Z : State) (a0 : Array Value) (hw : ∀ d ∈ tables_1, d.before a0 Z = true) (ws : List Jvm.Cond) (o0 : Addr) (gc : Nat → Int32) (h0 : Heap) (n0 : Nat) (A_o0 : AI Z h0 o0 .int 4 gc) :
    MetFree l (⟨"com/example/ratatoskr/ratatoskr/ChoicesAdvancePinLaw", "prod", "([II)I"⟩ : MethodName) (head1 (Jvm.Cond.code (⟨"com/example/ratatoskr/ratatoskr/ChoicesAdvancePinLaw", "prod", "([II)I"⟩ : MethodName) method_3_code 3 (some .int) :: ws) ({ frames := 0, cells := 0, slots := 0, locals := 0 } : Room)) (fun a U => a = #[(.ref o0), (.int (2 : Int32))] ∧ Z.Warmed39 U.vm ∧ U.heap = h0) (fun _ _ _ _ _ => True) (fun _ U o U' => ∃ v L, o = .returned v ∧ QR (some (.int (F_p2 gc))) h0 n0 v U'.heap L ∧ FrameEnd U o U' L ({ frames := 0, cells := 0, slots := 0, locals := 0 } : Room).cells ({ frames := 0, cells := 0, slots := 0, locals := 0 } : Room).slots) := by
  refine MetFree.of_bodySF (plainFor_of_name pn_0) hisR ?_
  intro p e s m args below meth c s₁ Bd hml0 hP hK
  obtain ⟨rfl, hZ, hh⟩ := hP
  have hx := Bd.exec
  have hby := Bd.bytes
  have hml : c.maxLocals = 3 := hml0
  have hown : s.vm.findClass "com/example/ratatoskr/ratatoskr/ChoicesAdvancePinLaw" = some m.cls := findClass_of_methodNamed Bd.named
  have hnm := (name_of_methodNamed Bd.named Bd.method).1
  have hret := Bd.returns
  have hlk : meth.locks = false := BodyLoose.notSynchronized Bd
  have X0 : Stand p l e ({ frames := 0, cells := 0, slots := 0, locals := 0 } : Room) s m #[(.ref o0), (.int (2 : Int32))] below meth c s₁ [] 0 0 := Stand.of_body Bd
  have e0 : s₁.heap = h0 := by rw [← hh, Bd.state]; rfl
  have N0 := Fr.nil n0
  show Outs p e below s (QR (some (.int (F_p2 gc))) h0 n0) _ _ _
  refine Outs.of (U' := s₁.setTop (mkF m 0 #[.val (.ref o0), .val (.int (2 : Int32)), .unset] [])) (fun t k => castTop (ef_1 m o0 (2 : Int32)) k) ?_
  refine Outs.of (U' := s₁.setTop (mkF m 9 #[.val (.ref o0), .val (.int (2 : Int32)), .val (.int (1 : Int32))] [(.int (0 : Int32)), (.ref o0), (.int (1 : Int32))])) (fun t k => ?_) ?_
  · refine XS.iconst X0.here hx rfl (hb hby d1_0) ?_
    refine XS.istoreN X0.here hx rfl (hb hby d1_1) rfl (l' := #[.val (.ref o0), .val (.int (2 : Int32)), .val (.int (1 : Int32))]) rfl ?_
    refine XS.iloadN X0.here hx rfl (hb hby d1_2) rfl ?_
    refine XS.ifNo X0.here hx rfl (hb hby d1_3) rfl ((if0 _ _).trans (tlt (by decide)).2.2.2) ?_
    refine XS.iloadN X0.here hx rfl (hb hby d1_6) rfl ?_
    refine XS.aloadN X0.here hx rfl (hb hby d1_7) rfl rfl ?_
    refine XS.iconst X0.here hx rfl (hb hby d1_8) ?_
    exact k
  refine Outs.of (ldI X0 hx hZ e0 A_o0 (j := (0 : Int32)) (k := 0) rfl (by decide) (f := (mkF m 9 #[.val (.ref o0), .val (.int (2 : Int32)), .val (.int (1 : Int32))] [(.int (0 : Int32)), (.ref o0), (.int (1 : Int32))])) rfl rfl (hb hby d1_9)) ?_
  show Outs p e below s _ _ _ (s₁.setTop (mkF m 10 #[.val (.ref o0), .val (.int (2 : Int32)), .val (.int (1 : Int32))] [(.int (gc 0)), (.int (1 : Int32))]))
  refine Outs.of (U' := s₁.setTop (mkF m 20 #[.val (.ref o0), .val (.int (2 : Int32)), .val (.int ((1 : Int32) * (gc 0)))] [(.int (1 : Int32)), (.ref o0), (.int ((1 : Int32) * (gc 0)))])) (fun t k => ?_) ?_
  · refine XS.imul X0.here hx rfl (hb hby d1_10) rfl ?_
    refine XS.istoreN X0.here hx rfl (hb hby d1_11) rfl (l' := #[.val (.ref o0), .val (.int (2 : Int32)), .val (.int ((1 : Int32) * (gc 0)))]) rfl ?_
    refine XS.iloadN X0.here hx rfl (hb hby d1_12) rfl ?_
    refine XS.iconst X0.here hx rfl (hb hby d1_13) ?_
    refine XS.icmpNo X0.here hx rfl (hb hby d1_14) rfl (tlt (by decide)).2.2.2 ?_
    refine XS.iloadN X0.here hx rfl (hb hby d1_17) rfl ?_
    refine XS.aloadN X0.here hx rfl (hb hby d1_18) rfl rfl ?_
    refine XS.iconst X0.here hx rfl (hb hby d1_19) ?_
    exact k
  refine Outs.of (ldI X0 hx hZ e0 A_o0 (j := (1 : Int32)) (k := 1) rfl (by decide) (f := (mkF m 20 #[.val (.ref o0), .val (.int (2 : Int32)), .val (.int ((1 : Int32) * (gc 0)))] [(.int (1 : Int32)), (.ref o0), (.int ((1 : Int32) * (gc 0)))])) rfl rfl (hb hby d1_20)) ?_
  show Outs p e below s _ _ _ (s₁.setTop (mkF m 21 #[.val (.ref o0), .val (.int (2 : Int32)), .val (.int ((1 : Int32) * (gc 0)))] [(.int (gc 1)), (.int ((1 : Int32) * (gc 0)))]))
  refine Outs.of (U' := s₁.setTop (mkF m 46 #[.val (.ref o0), .val (.int (2 : Int32)), .val (.int (((1 : Int32) * (gc 0)) * (gc 1)))] [(.int (((1 : Int32) * (gc 0)) * (gc 1)))])) (fun t k => ?_) ?_
  · refine XS.imul X0.here hx rfl (hb hby d1_21) rfl ?_
    refine XS.istoreN X0.here hx rfl (hb hby d1_22) rfl (l' := #[.val (.ref o0), .val (.int (2 : Int32)), .val (.int (((1 : Int32) * (gc 0)) * (gc 1)))]) rfl ?_
    refine XS.iloadN X0.here hx rfl (hb hby d1_23) rfl ?_
    refine XS.iconst X0.here hx rfl (hb hby d1_24) ?_
    refine XS.icmpYes X0.here hx rfl (pc0 := 25) (pc' := 34) rfl (hb hby d1_25) rfl (flt (by decide)).2.2.2 (by decide) (by decide) ?_
    refine XS.iloadN X0.here hx rfl (hb hby d1_34) rfl ?_
    refine XS.iconst X0.here hx rfl (hb hby d1_35) ?_
    refine XS.icmpYes X0.here hx rfl (pc0 := 36) (pc' := 45) rfl (hb hby d1_36) rfl (flt (by decide)).2.2.2 (by decide) (by decide) ?_
    refine XS.iloadN X0.here hx rfl (hb hby d1_45) rfl ?_
    exact k
  exact Outs.retI X0 hx hret (hb hby d1_46) hlk (by decide) (by decide) e0 ⟨congrArg (fun z_ => some (Value.int z_)) (show (F_p2 gc) = (((1 : Int32) * (gc 0)) * (gc 1)) from rfl).symm, N0, rfl⟩
theorem d2_21 : decode method_2_code 21 = .ok (.iload_n 3, 1) := by decide +kernel
theorem d2_22 : decode method_2_code 22 = .ok (.aload_n 1, 1) := by decide +kernel
theorem d2_23 : decode method_2_code 23 = .ok (.iconst 1, 1) := by decide +kernel
theorem d2_24 : decode method_2_code 24 = .ok (.iaload, 1) := by decide +kernel
theorem d2_25 : decode method_2_code 25 = .ok (.imul, 1) := by decide +kernel
theorem d2_26 : decode method_2_code 26 = .ok (.aload_n 0, 1) := by decide +kernel
theorem d2_27 : decode method_2_code 27 = .ok (.iconst 1, 1) := by decide +kernel
theorem d2_28 : decode method_2_code 28 = .ok (.iaload, 1) := by decide +kernel
theorem d2_29 : decode method_2_code 29 = .ok (.iadd, 1) := by decide +kernel
theorem d2_30 : decode method_2_code 30 = .ok (.istore_n 3, 1) := by decide +kernel
def F_v2 (gp : Nat → Int32) (gc : Nat → Int32) : Int32 := (((((0 : Int32) * (gc 0)) + (gp 0)) * (gc 1)) + (gp 1))
set_option maxRecDepth 65536 in
set_option maxHeartbeats 40000000 in
theorem rmv2 (l : Launch) (Z : State) (a0 : Array Value) (hw : ∀ d ∈ tables_1, d.before a0 Z = true) (ws : List Jvm.Cond) (o0 : Addr) (o1 : Addr) (gp : Nat → Int32) (gc : Nat → Int32) (h0 : Heap) (n0 : Nat) (A_o0 : AI Z h0 o0 .int 2 gp) (A_o1 : AI Z h0 o1 .int 4 gc) :
    MetFree l (⟨"com/example/ratatoskr/ratatoskr/ChoicesAdvancePinLaw", "val", "([I[II)I"⟩ : MethodName) (head1 (Jvm.Cond.code (⟨"com/example/ratatoskr/ratatoskr/ChoicesAdvancePinLaw", "val", "([I[II)I"⟩ : MethodName) method_2_code 4 (some .int) :: ws) ({ frames := 0, cells := 0, slots := 0, locals := 0 } : Room)) (fun a U => a = #[(.ref o0), (.ref o1), (.int (2 : Int32))] ∧ Z.Warmed39 U.vm ∧ U.heap = h0) (fun _ _ _ _ _ => True) (fun _ U o U' => ∃ v L, o = .returned v ∧ QR (some (.int (F_v2 gp gc))) h0 n0 v U'.heap L ∧ FrameEnd U o U' L ({ frames := 0, cells := 0, slots := 0, locals := 0 } : Room).cells ({ frames := 0, cells := 0, slots := 0, locals := 0 } : Room).slots) := by
  refine MetFree.of_bodySF (plainFor_of_name pn_0) hisR ?_
  intro p e s m args below meth c s₁ Bd hml0 hP hK
  obtain ⟨rfl, hZ, hh⟩ := hP
  have hx := Bd.exec
  have hby := Bd.bytes
  have hml : c.maxLocals = 4 := hml0
  have hown : s.vm.findClass "com/example/ratatoskr/ratatoskr/ChoicesAdvancePinLaw" = some m.cls := findClass_of_methodNamed Bd.named
  have hnm := (name_of_methodNamed Bd.named Bd.method).1
  have hret := Bd.returns
  have hlk : meth.locks = false := BodyLoose.notSynchronized Bd
  have X0 : Stand p l e ({ frames := 0, cells := 0, slots := 0, locals := 0 } : Room) s m #[(.ref o0), (.ref o1), (.int (2 : Int32))] below meth c s₁ [] 0 0 := Stand.of_body Bd
  have e0 : s₁.heap = h0 := by rw [← hh, Bd.state]; rfl
  have N0 := Fr.nil n0
  show Outs p e below s (QR (some (.int (F_v2 gp gc))) h0 n0) _ _ _
  refine Outs.of (U' := s₁.setTop (mkF m 0 #[.val (.ref o0), .val (.ref o1), .val (.int (2 : Int32)), .unset] [])) (fun t k => castTop (ef_2 m o0 o1 (2 : Int32)) k) ?_
  refine Outs.of (U' := s₁.setTop (mkF m 9 #[.val (.ref o0), .val (.ref o1), .val (.int (2 : Int32)), .val (.int (0 : Int32))] [(.int (0 : Int32)), (.ref o1), (.int (0 : Int32))])) (fun t k => ?_) ?_
  · refine XS.iconst X0.here hx rfl (hb hby d2_0) ?_
    refine XS.istoreN X0.here hx rfl (hb hby d2_1) rfl (l' := #[.val (.ref o0), .val (.ref o1), .val (.int (2 : Int32)), .val (.int (0 : Int32))]) rfl ?_
    refine XS.iloadN X0.here hx rfl (hb hby d2_2) rfl ?_
    refine XS.ifNo X0.here hx rfl (hb hby d2_3) rfl ((if0 _ _).trans (tlt (by decide)).2.2.2) ?_
    refine XS.iloadN X0.here hx rfl (hb hby d2_6) rfl ?_
    refine XS.aloadN X0.here hx rfl (hb hby d2_7) rfl rfl ?_
    refine XS.iconst X0.here hx rfl (hb hby d2_8) ?_
    exact k
  refine Outs.of (ldI X0 hx hZ e0 A_o1 (j := (0 : Int32)) (k := 0) rfl (by decide) (f := (mkF m 9 #[.val (.ref o0), .val (.ref o1), .val (.int (2 : Int32)), .val (.int (0 : Int32))] [(.int (0 : Int32)), (.ref o1), (.int (0 : Int32))])) rfl rfl (hb hby d2_9)) ?_
  show Outs p e below s _ _ _ (s₁.setTop (mkF m 10 #[.val (.ref o0), .val (.ref o1), .val (.int (2 : Int32)), .val (.int (0 : Int32))] [(.int (gc 0)), (.int (0 : Int32))]))
  refine Outs.of (U' := s₁.setTop (mkF m 13 #[.val (.ref o0), .val (.ref o1), .val (.int (2 : Int32)), .val (.int (0 : Int32))] [(.int (0 : Int32)), (.ref o0), (.int ((0 : Int32) * (gc 0)))])) (fun t k => ?_) ?_
  · refine XS.imul X0.here hx rfl (hb hby d2_10) rfl ?_
    refine XS.aloadN X0.here hx rfl (hb hby d2_11) rfl rfl ?_
    refine XS.iconst X0.here hx rfl (hb hby d2_12) ?_
    exact k
  refine Outs.of (ldI X0 hx hZ e0 A_o0 (j := (0 : Int32)) (k := 0) rfl (by decide) (f := (mkF m 13 #[.val (.ref o0), .val (.ref o1), .val (.int (2 : Int32)), .val (.int (0 : Int32))] [(.int (0 : Int32)), (.ref o0), (.int ((0 : Int32) * (gc 0)))])) rfl rfl (hb hby d2_13)) ?_
  show Outs p e below s _ _ _ (s₁.setTop (mkF m 14 #[.val (.ref o0), .val (.ref o1), .val (.int (2 : Int32)), .val (.int (0 : Int32))] [(.int (gp 0)), (.int ((0 : Int32) * (gc 0)))]))
  refine Outs.of (U' := s₁.setTop (mkF m 24 #[.val (.ref o0), .val (.ref o1), .val (.int (2 : Int32)), .val (.int (((0 : Int32) * (gc 0)) + (gp 0)))] [(.int (1 : Int32)), (.ref o1), (.int (((0 : Int32) * (gc 0)) + (gp 0)))])) (fun t k => ?_) ?_
  · refine XS.iadd X0.here hx rfl (hb hby d2_14) rfl ?_
    refine XS.istoreN X0.here hx rfl (hb hby d2_15) rfl (l' := #[.val (.ref o0), .val (.ref o1), .val (.int (2 : Int32)), .val (.int (((0 : Int32) * (gc 0)) + (gp 0)))]) rfl ?_
    refine XS.iloadN X0.here hx rfl (hb hby d2_16) rfl ?_
    refine XS.iconst X0.here hx rfl (hb hby d2_17) ?_
    refine XS.icmpNo X0.here hx rfl (hb hby d2_18) rfl (tlt (by decide)).2.2.2 ?_
    refine XS.iloadN X0.here hx rfl (hb hby d2_21) rfl ?_
    refine XS.aloadN X0.here hx rfl (hb hby d2_22) rfl rfl ?_
    refine XS.iconst X0.here hx rfl (hb hby d2_23) ?_
    exact k
  refine Outs.of (ldI X0 hx hZ e0 A_o1 (j := (1 : Int32)) (k := 1) rfl (by decide) (f := (mkF m 24 #[.val (.ref o0), .val (.ref o1), .val (.int (2 : Int32)), .val (.int (((0 : Int32) * (gc 0)) + (gp 0)))] [(.int (1 : Int32)), (.ref o1), (.int (((0 : Int32) * (gc 0)) + (gp 0)))])) rfl rfl (hb hby d2_24)) ?_
  show Outs p e below s _ _ _ (s₁.setTop (mkF m 25 #[.val (.ref o0), .val (.ref o1), .val (.int (2 : Int32)), .val (.int (((0 : Int32) * (gc 0)) + (gp 0)))] [(.int (gc 1)), (.int (((0 : Int32) * (gc 0)) + (gp 0)))]))
  refine Outs.of (U' := s₁.setTop (mkF m 28 #[.val (.ref o0), .val (.ref o1), .val (.int (2 : Int32)), .val (.int (((0 : Int32) * (gc 0)) + (gp 0)))] [(.int (1 : Int32)), (.ref o0), (.int ((((0 : Int32) * (gc 0)) + (gp 0)) * (gc 1)))])) (fun t k => ?_) ?_
  · refine XS.imul X0.here hx rfl (hb hby d2_25) rfl ?_
    refine XS.aloadN X0.here hx rfl (hb hby d2_26) rfl rfl ?_
    refine XS.iconst X0.here hx rfl (hb hby d2_27) ?_
    exact k
  refine Outs.of (ldI X0 hx hZ e0 A_o0 (j := (1 : Int32)) (k := 1) rfl (by decide) (f := (mkF m 28 #[.val (.ref o0), .val (.ref o1), .val (.int (2 : Int32)), .val (.int (((0 : Int32) * (gc 0)) + (gp 0)))] [(.int (1 : Int32)), (.ref o0), (.int ((((0 : Int32) * (gc 0)) + (gp 0)) * (gc 1)))])) rfl rfl (hb hby d2_28)) ?_
  show Outs p e below s _ _ _ (s₁.setTop (mkF m 29 #[.val (.ref o0), .val (.ref o1), .val (.int (2 : Int32)), .val (.int (((0 : Int32) * (gc 0)) + (gp 0)))] [(.int (gp 1)), (.int ((((0 : Int32) * (gc 0)) + (gp 0)) * (gc 1)))]))
  refine Outs.of (U' := s₁.setTop (mkF m 62 #[.val (.ref o0), .val (.ref o1), .val (.int (2 : Int32)), .val (.int (((((0 : Int32) * (gc 0)) + (gp 0)) * (gc 1)) + (gp 1)))] [(.int (((((0 : Int32) * (gc 0)) + (gp 0)) * (gc 1)) + (gp 1)))])) (fun t k => ?_) ?_
  · refine XS.iadd X0.here hx rfl (hb hby d2_29) rfl ?_
    refine XS.istoreN X0.here hx rfl (hb hby d2_30) rfl (l' := #[.val (.ref o0), .val (.ref o1), .val (.int (2 : Int32)), .val (.int (((((0 : Int32) * (gc 0)) + (gp 0)) * (gc 1)) + (gp 1)))]) rfl ?_
    refine XS.iloadN X0.here hx rfl (hb hby d2_31) rfl ?_
    refine XS.iconst X0.here hx rfl (hb hby d2_32) ?_
    refine XS.icmpYes X0.here hx rfl (pc0 := 33) (pc' := 46) rfl (hb hby d2_33) rfl (flt (by decide)).2.2.2 (by decide) (by decide) ?_
    refine XS.iloadN X0.here hx rfl (hb hby d2_46) rfl ?_
    refine XS.iconst X0.here hx rfl (hb hby d2_47) ?_
    refine XS.icmpYes X0.here hx rfl (pc0 := 48) (pc' := 61) rfl (hb hby d2_48) rfl (flt (by decide)).2.2.2 (by decide) (by decide) ?_
    refine XS.iloadN X0.here hx rfl (hb hby d2_61) rfl ?_
    exact k
  exact Outs.retI X0 hx hret (hb hby d2_62) hlk (by decide) (by decide) e0 ⟨congrArg (fun z_ => some (Value.int z_)) (show (F_v2 gp gc) = (((((0 : Int32) * (gc 0)) + (gp 0)) * (gc 1)) + (gp 1)) from rfl).symm, N0, rfl⟩
def a2_g15 (gp : Nat → Int32) (gk : Nat → Int32) : Nat → Int32 := (upv gp 1 ((gp 1) + (1 : Int32)))
def a2_g30 (gp : Nat → Int32) (gk : Nat → Int32) : Nat → Int32 := (upv (a2_g15 gp gk) 1 (0 : Int32))
def a2_g15a (gp : Nat → Int32) (gk : Nat → Int32) : Nat → Int32 := (upv (a2_g30 gp gk) 0 (((a2_g30 gp gk) 0) + (1 : Int32)))
def a2_g30a (gp : Nat → Int32) (gk : Nat → Int32) : Nat → Int32 := (upv (a2_g15a gp gk) 0 (0 : Int32))
def F_a2 (gp : Nat → Int32) (gk : Nat → Int32) : Int32 := (if ((a2_g15 gp gk) 1) < (gk 1) then (1 : Int32) else (if ((a2_g15a gp gk) 0) < (gk 0) then (1 : Int32) else (0 : Int32)))
def a2_out0 (gp : Nat → Int32) (gk : Nat → Int32) : Nat → Int32 := (if ((a2_g15 gp gk) 1) < (gk 1) then (a2_g15 gp gk) else (if ((a2_g15a gp gk) 0) < (gk 0) then (a2_g15a gp gk) else (a2_g30a gp gk)))
def Q_a2 (Z : State) (o0 : Addr) (o1 : Addr) (gp : Nat → Int32) (gk : Nat → Int32) (h0 : Heap) (n0 : Nat) (v : Option Value) (h : Heap) (L : List Loc) : Prop := v = some (.int (F_a2 gp gk)) ∧ Fr n0 L ∧ Keep h0 h [o0] ∧ AI Z h o0 .int 2 (a2_out0 gp gk) ∧ AI Z h o1 .int 2 gk
set_option maxRecDepth 65536 in
set_option maxHeartbeats 40000000 in
theorem rma2 (l : Launch) (Z : State) (a0 : Array Value) (hw : ∀ d ∈ tables_1, d.before a0 Z = true) (ws : List Jvm.Cond) (o0 : Addr) (o1 : Addr) (gp : Nat → Int32) (gk : Nat → Int32) (h0 : Heap) (n0 : Nat) (A_o0 : AI Z h0 o0 .int 2 gp) (A_o1 : AI Z h0 o1 .int 2 gk) (g_o0 : n0 ≤ o0) (ne_o0_o1 : o0 ≠ o1) :
    MetFree l (⟨"com/example/ratatoskr/ratatoskr/Choices", "advance", "([I[I)Z"⟩ : MethodName) (head1 (Jvm.Cond.code (⟨"com/example/ratatoskr/ratatoskr/Choices", "advance", "([I[I)Z"⟩ : MethodName) prog_5_method_3_code 3 (some .boolean) :: ws) ({ frames := 0, cells := 0, slots := 0, locals := 0 } : Room)) (fun a U => a = #[(.ref o0), (.ref o1)] ∧ Z.Warmed39 U.vm ∧ U.heap = h0) (fun _ _ _ _ _ => True) (fun _ U o U' => ∃ v L, o = .returned v ∧ Q_a2 Z o0 o1 gp gk h0 n0 v U'.heap L ∧ FrameEnd U o U' L ({ frames := 0, cells := 0, slots := 0, locals := 0 } : Room).cells ({ frames := 0, cells := 0, slots := 0, locals := 0 } : Room).slots) := by
  refine MetFree.of_bodySF (plainFor_of_name pn_3) hisR ?_
  intro p e s m args below meth c s₁ Bd hml0 hP hK
  obtain ⟨rfl, hZ, hh⟩ := hP
  have hx := Bd.exec
  have hby := Bd.bytes
  have hml : c.maxLocals = 3 := hml0
  have hown : s.vm.findClass "com/example/ratatoskr/ratatoskr/Choices" = some m.cls := findClass_of_methodNamed Bd.named
  have hnm := (name_of_methodNamed Bd.named Bd.method).1
  have hret := Bd.returns
  have hlk : meth.locks = false := BodyLoose.notSynchronized Bd
  have X0 : Stand p l e ({ frames := 0, cells := 0, slots := 0, locals := 0 } : Room) s m #[(.ref o0), (.ref o1)] below meth c s₁ [] 0 0 := Stand.of_body Bd
  have e0 : s₁.heap = h0 := by rw [← hh, Bd.state]; rfl
  have N0 := Fr.nil n0
  show Outs p e below s (Q_a2 Z o0 o1 gp gk h0 n0) _ _ _
  refine Outs.of (U' := s₁.setTop (mkF m 0 #[.val (.ref o0), .val (.ref o1), .unset] [])) (fun t k => castTop (ef_3 m o0 o1) k) ?_
  refine Outs.of (U' := s₁.setTop (mkF m 1 #[.val (.ref o0), .val (.ref o1), .unset] [(.ref o0)])) (fun t k => ?_) ?_
  · refine XS.aloadN X0.here hx rfl (hb hby d3_0) rfl rfl ?_
    exact k
  refine Outs.of (alen X0 hx hZ e0 A_o0 (z := (2 : Int32)) rfl (f := (mkF m 1 #[.val (.ref o0), .val (.ref o1), .unset] [(.ref o0)])) rfl rfl (hb hby d3_1)) ?_
  show Outs p e below s _ _ _ (s₁.setTop (mkF m 2 #[.val (.ref o0), .val (.ref o1), .unset] [(.int (2 : Int32))]))
  refine Outs.of (U' := s₁.setTop (mkF m 12 #[.val (.ref o0), .val (.ref o1), .val (.int (1 : Int32))] [(.int (1 : Int32)), (.ref o0), (.int (1 : Int32)), (.ref o0)])) (fun t k => ?_) ?_
  · refine XS.iconst X0.here hx rfl (hb hby d3_2) ?_
    refine XS.isub X0.here hx rfl (hb hby d3_3) rfl ?_
    refine XS.istoreN X0.here hx rfl (hb hby d3_4) rfl (l' := #[.val (.ref o0), .val (.ref o1), .val (.int (1 : Int32))]) rfl ?_
    refine XS.iloadN X0.here hx rfl (hb hby d3_5) rfl ?_
    refine XS.ifNo X0.here hx rfl (hb hby d3_6) rfl ((if0 _ _).trans (flt (by decide)).1) ?_
    refine XS.aloadN X0.here hx rfl (hb hby d3_9) rfl rfl ?_
    refine XS.iloadN X0.here hx rfl (hb hby d3_10) rfl ?_
    show Steps p.tables e below (s₁.setTop (mkF m 11 #[.val (.ref o0), .val (.ref o1), .val (.int (1 : Int32))] [(.int (1 : Int32)), (.ref o0)])) _
    jvm_step X0.here [X0.here.top, hx, (hb hby d3_11), Value.category]
    exact k
  refine Outs.of (ldI X0 hx hZ e0 A_o0 (j := (1 : Int32)) (k := 1) rfl (by decide) (f := (mkF m 12 #[.val (.ref o0), .val (.ref o1), .val (.int (1 : Int32))] [(.int (1 : Int32)), (.ref o0), (.int (1 : Int32)), (.ref o0)])) rfl rfl (hb hby d3_12)) ?_
  show Outs p e below s _ _ _ (s₁.setTop (mkF m 13 #[.val (.ref o0), .val (.ref o1), .val (.int (1 : Int32))] [(.int (gp 1)), (.int (1 : Int32)), (.ref o0)]))
  refine Outs.of (U' := s₁.setTop (mkF m 15 #[.val (.ref o0), .val (.ref o1), .val (.int (1 : Int32))] [(.int ((gp 1) + (1 : Int32))), (.int (1 : Int32)), (.ref o0)])) (fun t k => ?_) ?_
  · refine XS.iconst X0.here hx rfl (hb hby d3_13) ?_
    refine XS.iadd X0.here hx rfl (hb hby d3_14) rfl ?_
    exact k
  obtain ⟨T1, h1, X1, e1, W1, V1, st1⟩ := puI X0 hx hZ e0 A_o0 (j := (1 : Int32)) (x := ((gp 1) + (1 : Int32))) (k := 1) rfl (by decide) (f := (mkF m 15 #[.val (.ref o0), .val (.ref o1), .val (.int (1 : Int32))] [(.int ((gp 1) + (1 : Int32))), (.int (1 : Int32)), (.ref o0)])) rfl rfl (hb hby d3_15)
  replace V1 : AI Z h1 o0 .int 2 (a2_g15 gp gk) := V1
  have N1 := Fr.snoc X1 N0 g_o0
  obtain ⟨Lh1, X1, N1⟩ := hide X1 N1 (C := 0) (S := 0) (by decide) (by decide)
  refine Outs.of st1 ?_
  show Outs p e below s _ _ _ (T1.setTop (mkF m 16 #[.val (.ref o0), .val (.ref o1), .val (.int (1 : Int32))] []))
  refine Outs.of (U' := T1.setTop (mkF m 18 #[.val (.ref o0), .val (.ref o1), .val (.int (1 : Int32))] [(.int (1 : Int32)), (.ref o0)])) (fun t k => ?_) ?_
  · refine XS.aloadN X1.here hx rfl (hb hby d3_16) rfl rfl ?_
    refine XS.iloadN X1.here hx rfl (hb hby d3_17) rfl ?_
    exact k
  refine Outs.of (ldI X1 hx hZ e1 V1 (j := (1 : Int32)) (k := 1) rfl (by decide) (f := (mkF m 18 #[.val (.ref o0), .val (.ref o1), .val (.int (1 : Int32))] [(.int (1 : Int32)), (.ref o0)])) rfl rfl (hb hby d3_18)) ?_
  show Outs p e below s _ _ _ (T1.setTop (mkF m 19 #[.val (.ref o0), .val (.ref o1), .val (.int (1 : Int32))] [(.int ((a2_g15 gp gk) 1))]))
  refine Outs.of (U' := T1.setTop (mkF m 21 #[.val (.ref o0), .val (.ref o1), .val (.int (1 : Int32))] [(.int (1 : Int32)), (.ref o1), (.int ((a2_g15 gp gk) 1))])) (fun t k => ?_) ?_
  · refine XS.aloadN X1.here hx rfl (hb hby d3_19) rfl rfl ?_
    refine XS.iloadN X1.here hx rfl (hb hby d3_20) rfl ?_
    exact k
  have f2 : AI Z h1 o1 .int 2 gk := (A_o1.other W1 ne_o0_o1.symm)
  refine Outs.of (ldI X1 hx hZ e1 f2 (j := (1 : Int32)) (k := 1) rfl (by decide) (f := (mkF m 21 #[.val (.ref o0), .val (.ref o1), .val (.int (1 : Int32))] [(.int (1 : Int32)), (.ref o1), (.int ((a2_g15 gp gk) 1))])) rfl rfl (hb hby d3_21)) ?_
  show Outs p e below s _ _ _ (T1.setTop (mkF m 22 #[.val (.ref o0), .val (.ref o1), .val (.int (1 : Int32))] [(.int (gk 1)), (.int ((a2_g15 gp gk) 1))]))
  by_cases hc22 : ((a2_g15 gp gk) 1) < (gk 1)
  · refine Outs.of (U' := T1.setTop (mkF m 25 #[.val (.ref o0), .val (.ref o1), .val (.int (1 : Int32))] [])) (fun t k => ?_) ?_
    · refine XS.icmpNo X1.here hx rfl (hb hby d3_22) rfl (tlt hc22).2.1 ?_
      exact k
    refine Outs.of (U' := T1.setTop (mkF m 26 #[.val (.ref o0), .val (.ref o1), .val (.int (1 : Int32))] [(.int (1 : Int32))])) (fun t k => ?_) ?_
    · refine XS.iconst X1.here hx rfl (hb hby d3_25) ?_
      exact k
    exact Outs.retN (t := .boolean) (z := (1 : Int32)) X1 hx hret (by simp) (hb hby d3_26) hlk (by decide) (by decide) e1 ⟨congrArg (fun z_ => some (Value.int z_)) (show (F_a2 gp gk) = (1 : Int32) from (if_pos hc22)).symm, N1, ((Keep.refl h0 [o0]).wr W1 (Or.inl (List.mem_of_getElem? (i := 0) rfl))), (by rw [show (a2_out0 gp gk) = (a2_g15 gp gk) from (if_pos hc22)]; exact V1), f2⟩
  · refine Outs.of (U' := T1.setTop (mkF m 27 #[.val (.ref o0), .val (.ref o1), .val (.int (1 : Int32))] [])) (fun t k => ?_) ?_
    · refine XS.icmpYes X1.here hx rfl (pc0 := 22) (pc' := 27) rfl (hb hby d3_22) rfl (flt hc22).2.1 (by decide) (by decide) ?_
      exact k
    refine Outs.of (U' := T1.setTop (mkF m 30 #[.val (.ref o0), .val (.ref o1), .val (.int (1 : Int32))] [(.int (0 : Int32)), (.int (1 : Int32)), (.ref o0)])) (fun t k => ?_) ?_
    · refine XS.aloadN X1.here hx rfl (hb hby d3_27) rfl rfl ?_
      refine XS.iloadN X1.here hx rfl (hb hby d3_28) rfl ?_
      refine XS.iconst X1.here hx rfl (hb hby d3_29) ?_
      exact k
    obtain ⟨T3, h3, X3, e3, W3, V3, st3⟩ := puI X1 hx hZ e1 V1 (j := (1 : Int32)) (x := (0 : Int32)) (k := 1) rfl (by decide) (f := (mkF m 30 #[.val (.ref o0), .val (.ref o1), .val (.int (1 : Int32))] [(.int (0 : Int32)), (.int (1 : Int32)), (.ref o0)])) rfl rfl (hb hby d3_30)
    replace V3 : AI Z h3 o0 .int 2 (a2_g30 gp gk) := V3
    have N3 := Fr.snoc X3 N1 g_o0
    obtain ⟨Lh3, X3, N3⟩ := hide X3 N3 (C := 0) (S := 0) (by decide) (by decide)
    refine Outs.of st3 ?_
    show Outs p e below s _ _ _ (T3.setTop (mkF m 31 #[.val (.ref o0), .val (.ref o1), .val (.int (1 : Int32))] []))
    refine Outs.of (U' := T3.setTop (mkF m 12 #[.val (.ref o0), .val (.ref o1), .val (.int (0 : Int32))] [(.int (0 : Int32)), (.ref o0), (.int (0 : Int32)), (.ref o0)])) (fun t k => ?_) ?_
    · refine XS.iinc X3.here hx rfl (hb hby d3_31) rfl (l' := #[.val (.ref o0), .val (.ref o1), .val (.int (0 : Int32))]) rfl ?_
      refine XS.goto X3.here hx rfl (pc0 := 34) (pc' := 5) rfl (hb hby d3_34) (by decide) (by decide) ?_
      refine XS.iloadN X3.here hx rfl (hb hby d3_5) rfl ?_
      refine XS.ifNo X3.here hx rfl (hb hby d3_6) rfl ((if0 _ _).trans (flt (by decide)).1) ?_
      refine XS.aloadN X3.here hx rfl (hb hby d3_9) rfl rfl ?_
      refine XS.iloadN X3.here hx rfl (hb hby d3_10) rfl ?_
      show Steps p.tables e below (T3.setTop (mkF m 11 #[.val (.ref o0), .val (.ref o1), .val (.int (0 : Int32))] [(.int (0 : Int32)), (.ref o0)])) _
      jvm_step X3.here [X3.here.top, hx, (hb hby d3_11), Value.category]
      exact k
    refine Outs.of (ldI X3 hx hZ e3 V3 (j := (0 : Int32)) (k := 0) rfl (by decide) (f := (mkF m 12 #[.val (.ref o0), .val (.ref o1), .val (.int (0 : Int32))] [(.int (0 : Int32)), (.ref o0), (.int (0 : Int32)), (.ref o0)])) rfl rfl (hb hby d3_12)) ?_
    show Outs p e below s _ _ _ (T3.setTop (mkF m 13 #[.val (.ref o0), .val (.ref o1), .val (.int (0 : Int32))] [(.int ((a2_g30 gp gk) 0)), (.int (0 : Int32)), (.ref o0)]))
    refine Outs.of (U' := T3.setTop (mkF m 15 #[.val (.ref o0), .val (.ref o1), .val (.int (0 : Int32))] [(.int (((a2_g30 gp gk) 0) + (1 : Int32))), (.int (0 : Int32)), (.ref o0)])) (fun t k => ?_) ?_
    · refine XS.iconst X3.here hx rfl (hb hby d3_13) ?_
      refine XS.iadd X3.here hx rfl (hb hby d3_14) rfl ?_
      exact k
    obtain ⟨T4, h4, X4, e4, W4, V4, st4⟩ := puI X3 hx hZ e3 V3 (j := (0 : Int32)) (x := (((a2_g30 gp gk) 0) + (1 : Int32))) (k := 0) rfl (by decide) (f := (mkF m 15 #[.val (.ref o0), .val (.ref o1), .val (.int (0 : Int32))] [(.int (((a2_g30 gp gk) 0) + (1 : Int32))), (.int (0 : Int32)), (.ref o0)])) rfl rfl (hb hby d3_15)
    replace V4 : AI Z h4 o0 .int 2 (a2_g15a gp gk) := V4
    have N4 := Fr.snoc X4 N3 g_o0
    obtain ⟨Lh4, X4, N4⟩ := hide X4 N4 (C := 0) (S := 0) (by decide) (by decide)
    refine Outs.of st4 ?_
    show Outs p e below s _ _ _ (T4.setTop (mkF m 16 #[.val (.ref o0), .val (.ref o1), .val (.int (0 : Int32))] []))
    refine Outs.of (U' := T4.setTop (mkF m 18 #[.val (.ref o0), .val (.ref o1), .val (.int (0 : Int32))] [(.int (0 : Int32)), (.ref o0)])) (fun t k => ?_) ?_
    · refine XS.aloadN X4.here hx rfl (hb hby d3_16) rfl rfl ?_
      refine XS.iloadN X4.here hx rfl (hb hby d3_17) rfl ?_
      exact k
    refine Outs.of (ldI X4 hx hZ e4 V4 (j := (0 : Int32)) (k := 0) rfl (by decide) (f := (mkF m 18 #[.val (.ref o0), .val (.ref o1), .val (.int (0 : Int32))] [(.int (0 : Int32)), (.ref o0)])) rfl rfl (hb hby d3_18)) ?_
    show Outs p e below s _ _ _ (T4.setTop (mkF m 19 #[.val (.ref o0), .val (.ref o1), .val (.int (0 : Int32))] [(.int ((a2_g15a gp gk) 0))]))
    refine Outs.of (U' := T4.setTop (mkF m 21 #[.val (.ref o0), .val (.ref o1), .val (.int (0 : Int32))] [(.int (0 : Int32)), (.ref o1), (.int ((a2_g15a gp gk) 0))])) (fun t k => ?_) ?_
    · refine XS.aloadN X4.here hx rfl (hb hby d3_19) rfl rfl ?_
      refine XS.iloadN X4.here hx rfl (hb hby d3_20) rfl ?_
      exact k
    have f5 : AI Z h4 o1 .int 2 gk := ((f2.other W3 ne_o0_o1.symm).other W4 ne_o0_o1.symm)
    refine Outs.of (ldI X4 hx hZ e4 f5 (j := (0 : Int32)) (k := 0) rfl (by decide) (f := (mkF m 21 #[.val (.ref o0), .val (.ref o1), .val (.int (0 : Int32))] [(.int (0 : Int32)), (.ref o1), (.int ((a2_g15a gp gk) 0))])) rfl rfl (hb hby d3_21)) ?_
    show Outs p e below s _ _ _ (T4.setTop (mkF m 22 #[.val (.ref o0), .val (.ref o1), .val (.int (0 : Int32))] [(.int (gk 0)), (.int ((a2_g15a gp gk) 0))]))
    by_cases hc22_6 : ((a2_g15a gp gk) 0) < (gk 0)
    · refine Outs.of (U' := T4.setTop (mkF m 25 #[.val (.ref o0), .val (.ref o1), .val (.int (0 : Int32))] [])) (fun t k => ?_) ?_
      · refine XS.icmpNo X4.here hx rfl (hb hby d3_22) rfl (tlt hc22_6).2.1 ?_
        exact k
      refine Outs.of (U' := T4.setTop (mkF m 26 #[.val (.ref o0), .val (.ref o1), .val (.int (0 : Int32))] [(.int (1 : Int32))])) (fun t k => ?_) ?_
      · refine XS.iconst X4.here hx rfl (hb hby d3_25) ?_
        exact k
      exact Outs.retN (t := .boolean) (z := (1 : Int32)) X4 hx hret (by simp) (hb hby d3_26) hlk (by decide) (by decide) e4 ⟨congrArg (fun z_ => some (Value.int z_)) (show (F_a2 gp gk) = (1 : Int32) from ((if_neg hc22).trans (if_pos hc22_6))).symm, N4, ((((Keep.refl h0 [o0]).wr W1 (Or.inl (List.mem_of_getElem? (i := 0) rfl))).wr W3 (Or.inl (List.mem_of_getElem? (i := 0) rfl))).wr W4 (Or.inl (List.mem_of_getElem? (i := 0) rfl))), (by rw [show (a2_out0 gp gk) = (a2_g15a gp gk) from ((if_neg hc22).trans (if_pos hc22_6))]; exact V4), f5⟩
    · refine Outs.of (U' := T4.setTop (mkF m 27 #[.val (.ref o0), .val (.ref o1), .val (.int (0 : Int32))] [])) (fun t k => ?_) ?_
      · refine XS.icmpYes X4.here hx rfl (pc0 := 22) (pc' := 27) rfl (hb hby d3_22) rfl (flt hc22_6).2.1 (by decide) (by decide) ?_
        exact k
      refine Outs.of (U' := T4.setTop (mkF m 30 #[.val (.ref o0), .val (.ref o1), .val (.int (0 : Int32))] [(.int (0 : Int32)), (.int (0 : Int32)), (.ref o0)])) (fun t k => ?_) ?_
      · refine XS.aloadN X4.here hx rfl (hb hby d3_27) rfl rfl ?_
        refine XS.iloadN X4.here hx rfl (hb hby d3_28) rfl ?_
        refine XS.iconst X4.here hx rfl (hb hby d3_29) ?_
        exact k
      obtain ⟨T7, h7, X7, e7, W7, V7, st7⟩ := puI X4 hx hZ e4 V4 (j := (0 : Int32)) (x := (0 : Int32)) (k := 0) rfl (by decide) (f := (mkF m 30 #[.val (.ref o0), .val (.ref o1), .val (.int (0 : Int32))] [(.int (0 : Int32)), (.int (0 : Int32)), (.ref o0)])) rfl rfl (hb hby d3_30)
      replace V7 : AI Z h7 o0 .int 2 (a2_g30a gp gk) := V7
      have N7 := Fr.snoc X7 N4 g_o0
      obtain ⟨Lh7, X7, N7⟩ := hide X7 N7 (C := 0) (S := 0) (by decide) (by decide)
      refine Outs.of st7 ?_
      show Outs p e below s _ _ _ (T7.setTop (mkF m 31 #[.val (.ref o0), .val (.ref o1), .val (.int (0 : Int32))] []))
      refine Outs.of (U' := T7.setTop (mkF m 38 #[.val (.ref o0), .val (.ref o1), .val (.int (-1 : Int32))] [(.int (0 : Int32))])) (fun t k => ?_) ?_
      · refine XS.iinc X7.here hx rfl (hb hby d3_31) rfl (l' := #[.val (.ref o0), .val (.ref o1), .val (.int (-1 : Int32))]) rfl ?_
        refine XS.goto X7.here hx rfl (pc0 := 34) (pc' := 5) rfl (hb hby d3_34) (by decide) (by decide) ?_
        refine XS.iloadN X7.here hx rfl (hb hby d3_5) rfl ?_
        refine XS.ifYes X7.here hx rfl (pc0 := 6) (pc' := 37) rfl (hb hby d3_6) rfl ((if0 _ _).trans (tlt (by decide)).1) (by decide) (by decide) ?_
        refine XS.iconst X7.here hx rfl (hb hby d3_37) ?_
        exact k
      have f8 : AI Z h7 o1 .int 2 gk := (f5.other W7 ne_o0_o1.symm)
      exact Outs.retN (t := .boolean) (z := (0 : Int32)) X7 hx hret (by simp) (hb hby d3_38) hlk (by decide) (by decide) e7 ⟨congrArg (fun z_ => some (Value.int z_)) (show (F_a2 gp gk) = (0 : Int32) from ((if_neg hc22).trans (if_neg hc22_6))).symm, N7, (((((Keep.refl h0 [o0]).wr W1 (Or.inl (List.mem_of_getElem? (i := 0) rfl))).wr W3 (Or.inl (List.mem_of_getElem? (i := 0) rfl))).wr W4 (Or.inl (List.mem_of_getElem? (i := 0) rfl))).wr W7 (Or.inl (List.mem_of_getElem? (i := 0) rfl))), (by rw [show (a2_out0 gp gk) = (a2_g30a gp gk) from ((if_neg hc22).trans (if_neg hc22_6))]; exact V7), f8⟩
def k2_0_34_s0 (gp : Nat → Int32) (gk : Nat → Int32) (gc : Nat → Int32) : Int32 := (if (gp 0) < (gc 0) then (1 : Int32) else (0 : Int32))
def F_k2_0 (gp : Nat → Int32) (gk : Nat → Int32) (gc : Nat → Int32) : Int32 := (if (gk 0) = (gc 0) then (if (gp 0) < (0 : Int32) then (0 : Int32) else (nar .boolean (k2_0_34_s0 gp gk gc))) else (0 : Int32))
set_option maxRecDepth 65536 in
set_option maxHeartbeats 40000000 in
theorem rmk2_0 (l : Launch) (Z : State) (a0 : Array Value) (hw : ∀ d ∈ tables_1, d.before a0 Z = true) (ws : List Jvm.Cond) (o0 : Addr) (o1 : Addr) (o2 : Addr) (gp : Nat → Int32) (gk : Nat → Int32) (gc : Nat → Int32) (h0 : Heap) (n0 : Nat) (A_o0 : AI Z h0 o0 .int 2 gp) (A_o1 : AI Z h0 o1 .int 2 gk) (A_o2 : AI Z h0 o2 .int 4 gc) :
    MetFree l (⟨"com/example/ratatoskr/ratatoskr/ChoicesAdvancePinLaw", "ok", "([I[I[III)Z"⟩ : MethodName) (head1 (Jvm.Cond.code (⟨"com/example/ratatoskr/ratatoskr/ChoicesAdvancePinLaw", "ok", "([I[I[III)Z"⟩ : MethodName) method_4_code 5 (some .boolean) :: ws) ({ frames := 0, cells := 0, slots := 0, locals := 0 } : Room)) (fun a U => a = #[(.ref o0), (.ref o1), (.ref o2), (.int (2 : Int32)), (.int (0 : Int32))] ∧ Z.Warmed39 U.vm ∧ U.heap = h0) (fun _ _ _ _ _ => True) (fun _ U o U' => ∃ v L, o = .returned v ∧ QR (some (.int (F_k2_0 gp gk gc))) h0 n0 v U'.heap L ∧ FrameEnd U o U' L ({ frames := 0, cells := 0, slots := 0, locals := 0 } : Room).cells ({ frames := 0, cells := 0, slots := 0, locals := 0 } : Room).slots) := by
  refine MetFree.of_bodySF (plainFor_of_name pn_0) hisR ?_
  intro p e s m args below meth c s₁ Bd hml0 hP hK
  obtain ⟨rfl, hZ, hh⟩ := hP
  have hx := Bd.exec
  have hby := Bd.bytes
  have hml : c.maxLocals = 5 := hml0
  have hown : s.vm.findClass "com/example/ratatoskr/ratatoskr/ChoicesAdvancePinLaw" = some m.cls := findClass_of_methodNamed Bd.named
  have hnm := (name_of_methodNamed Bd.named Bd.method).1
  have hret := Bd.returns
  have hlk : meth.locks = false := BodyLoose.notSynchronized Bd
  have X0 : Stand p l e ({ frames := 0, cells := 0, slots := 0, locals := 0 } : Room) s m #[(.ref o0), (.ref o1), (.ref o2), (.int (2 : Int32)), (.int (0 : Int32))] below meth c s₁ [] 0 0 := Stand.of_body Bd
  have e0 : s₁.heap = h0 := by rw [← hh, Bd.state]; rfl
  have N0 := Fr.nil n0
  show Outs p e below s (QR (some (.int (F_k2_0 gp gk gc))) h0 n0) _ _ _
  refine Outs.of (U' := s₁.setTop (mkF m 0 #[.val (.ref o0), .val (.ref o1), .val (.ref o2), .val (.int (2 : Int32)), .val (.int (0 : Int32))] [])) (fun t k => castTop (ef_4 m o0 o1 o2 (2 : Int32) (0 : Int32)) k) ?_
  refine Outs.of (U' := s₁.setTop (mkF m 11 #[.val (.ref o0), .val (.ref o1), .val (.ref o2), .val (.int (2 : Int32)), .val (.int (0 : Int32))] [(.int (0 : Int32)), (.ref o1)])) (fun t k => ?_) ?_
  · refine XS.iload X0.here hx rfl (hb hby d4_0) rfl ?_
    refine XS.iloadN X0.here hx rfl (hb hby d4_2) rfl ?_
    refine XS.icmpYes X0.here hx rfl (pc0 := 3) (pc' := 8) rfl (hb hby d4_3) rfl (tlt (by decide)).1 (by decide) (by decide) ?_
    refine XS.aloadN X0.here hx rfl (hb hby d4_8) rfl rfl ?_
    refine XS.iload X0.here hx rfl (hb hby d4_9) rfl ?_
    exact k
  refine Outs.of (ldI X0 hx hZ e0 A_o1 (j := (0 : Int32)) (k := 0) rfl (by decide) (f := (mkF m 11 #[.val (.ref o0), .val (.ref o1), .val (.ref o2), .val (.int (2 : Int32)), .val (.int (0 : Int32))] [(.int (0 : Int32)), (.ref o1)])) rfl rfl (hb hby d4_11)) ?_
  show Outs p e below s _ _ _ (s₁.setTop (mkF m 12 #[.val (.ref o0), .val (.ref o1), .val (.ref o2), .val (.int (2 : Int32)), .val (.int (0 : Int32))] [(.int (gk 0))]))
  refine Outs.of (U' := s₁.setTop (mkF m 15 #[.val (.ref o0), .val (.ref o1), .val (.ref o2), .val (.int (2 : Int32)), .val (.int (0 : Int32))] [(.int (0 : Int32)), (.ref o2), (.int (gk 0))])) (fun t k => ?_) ?_
  · refine XS.aloadN X0.here hx rfl (hb hby d4_12) rfl rfl ?_
    refine XS.iload X0.here hx rfl (hb hby d4_13) rfl ?_
    exact k
  refine Outs.of (ldI X0 hx hZ e0 A_o2 (j := (0 : Int32)) (k := 0) rfl (by decide) (f := (mkF m 15 #[.val (.ref o0), .val (.ref o1), .val (.ref o2), .val (.int (2 : Int32)), .val (.int (0 : Int32))] [(.int (0 : Int32)), (.ref o2), (.int (gk 0))])) rfl rfl (hb hby d4_15)) ?_
  show Outs p e below s _ _ _ (s₁.setTop (mkF m 16 #[.val (.ref o0), .val (.ref o1), .val (.ref o2), .val (.int (2 : Int32)), .val (.int (0 : Int32))] [(.int (gc 0)), (.int (gk 0))]))
  by_cases hc16 : (gk 0) = (gc 0)
  · refine Outs.of (U' := s₁.setTop (mkF m 19 #[.val (.ref o0), .val (.ref o1), .val (.ref o2), .val (.int (2 : Int32)), .val (.int (0 : Int32))] [])) (fun t k => ?_) ?_
    · refine XS.icmpNo X0.here hx rfl (hb hby d4_16) rfl (teq hc16).2 ?_
      exact k
    refine Outs.of (U' := s₁.setTop (mkF m 22 #[.val (.ref o0), .val (.ref o1), .val (.ref o2), .val (.int (2 : Int32)), .val (.int (0 : Int32))] [(.int (0 : Int32)), (.ref o0)])) (fun t k => ?_) ?_
    · refine XS.aloadN X0.here hx rfl (hb hby d4_19) rfl rfl ?_
      refine XS.iload X0.here hx rfl (hb hby d4_20) rfl ?_
      exact k
    refine Outs.of (ldI X0 hx hZ e0 A_o0 (j := (0 : Int32)) (k := 0) rfl (by decide) (f := (mkF m 22 #[.val (.ref o0), .val (.ref o1), .val (.ref o2), .val (.int (2 : Int32)), .val (.int (0 : Int32))] [(.int (0 : Int32)), (.ref o0)])) rfl rfl (hb hby d4_22)) ?_
    show Outs p e below s _ _ _ (s₁.setTop (mkF m 23 #[.val (.ref o0), .val (.ref o1), .val (.ref o2), .val (.int (2 : Int32)), .val (.int (0 : Int32))] [(.int (gp 0))]))
    by_cases hc23 : (gp 0) < (0 : Int32)
    · refine Outs.of (U' := s₁.setTop (mkF m 41 #[.val (.ref o0), .val (.ref o1), .val (.ref o2), .val (.int (2 : Int32)), .val (.int (0 : Int32))] [])) (fun t k => ?_) ?_
      · refine XS.ifYes X0.here hx rfl (pc0 := 23) (pc' := 41) rfl (hb hby d4_23) rfl ((if0 _ _).trans (tlt hc23).1) (by decide) (by decide) ?_
        exact k
      refine Outs.of (U' := s₁.setTop (mkF m 42 #[.val (.ref o0), .val (.ref o1), .val (.ref o2), .val (.int (2 : Int32)), .val (.int (0 : Int32))] [(.int (0 : Int32))])) (fun t k => ?_) ?_
      · refine XS.iconst X0.here hx rfl (hb hby d4_41) ?_
        exact k
      exact Outs.retN (t := .boolean) (z := (0 : Int32)) X0 hx hret (by simp) (hb hby d4_42) hlk (by decide) (by decide) e0 ⟨congrArg (fun z_ => some (Value.int z_)) (show (F_k2_0 gp gk gc) = (0 : Int32) from ((if_pos hc16).trans (if_pos hc23))).symm, N0, rfl⟩
    · refine Outs.of (U' := s₁.setTop (mkF m 26 #[.val (.ref o0), .val (.ref o1), .val (.ref o2), .val (.int (2 : Int32)), .val (.int (0 : Int32))] [])) (fun t k => ?_) ?_
      · refine XS.ifNo X0.here hx rfl (hb hby d4_23) rfl ((if0 _ _).trans (flt hc23).1) ?_
        exact k
      refine Outs.of (U' := s₁.setTop (mkF m 29 #[.val (.ref o0), .val (.ref o1), .val (.ref o2), .val (.int (2 : Int32)), .val (.int (0 : Int32))] [(.int (0 : Int32)), (.ref o0)])) (fun t k => ?_) ?_
      · refine XS.aloadN X0.here hx rfl (hb hby d4_26) rfl rfl ?_
        refine XS.iload X0.here hx rfl (hb hby d4_27) rfl ?_
        exact k
      refine Outs.of (ldI X0 hx hZ e0 A_o0 (j := (0 : Int32)) (k := 0) rfl (by decide) (f := (mkF m 29 #[.val (.ref o0), .val (.ref o1), .val (.ref o2), .val (.int (2 : Int32)), .val (.int (0 : Int32))] [(.int (0 : Int32)), (.ref o0)])) rfl rfl (hb hby d4_29)) ?_
      show Outs p e below s _ _ _ (s₁.setTop (mkF m 30 #[.val (.ref o0), .val (.ref o1), .val (.ref o2), .val (.int (2 : Int32)), .val (.int (0 : Int32))] [(.int (gp 0))]))
      refine Outs.of (U' := s₁.setTop (mkF m 33 #[.val (.ref o0), .val (.ref o1), .val (.ref o2), .val (.int (2 : Int32)), .val (.int (0 : Int32))] [(.int (0 : Int32)), (.ref o2), (.int (gp 0))])) (fun t k => ?_) ?_
      · refine XS.aloadN X0.here hx rfl (hb hby d4_30) rfl rfl ?_
        refine XS.iload X0.here hx rfl (hb hby d4_31) rfl ?_
        exact k
      refine Outs.of (ldI X0 hx hZ e0 A_o2 (j := (0 : Int32)) (k := 0) rfl (by decide) (f := (mkF m 33 #[.val (.ref o0), .val (.ref o1), .val (.ref o2), .val (.int (2 : Int32)), .val (.int (0 : Int32))] [(.int (0 : Int32)), (.ref o2), (.int (gp 0))])) rfl rfl (hb hby d4_33)) ?_
      show Outs p e below s _ _ _ (s₁.setTop (mkF m 34 #[.val (.ref o0), .val (.ref o1), .val (.ref o2), .val (.int (2 : Int32)), .val (.int (0 : Int32))] [(.int (gc 0)), (.int (gp 0))]))
      refine Outs.of (U' := s₁.setTop (mkF m 42 #[.val (.ref o0), .val (.ref o1), .val (.ref o2), .val (.int (2 : Int32)), .val (.int (0 : Int32))] [(.int (k2_0_34_s0 gp gk gc))])) (fun t k => ?_) ?_
      · by_cases hc34 : (gp 0) < (gc 0)
        · refine XS.icmpNo X0.here hx rfl (hb hby d4_34) rfl (tlt hc34).2.1 ?_
          refine XS.iconst X0.here hx rfl (hb hby d4_37) ?_
          refine XS.goto X0.here hx rfl (pc0 := 38) (pc' := 42) rfl (hb hby d4_38) (by decide) (by decide) ?_
          rw [show (k2_0_34_s0 gp gk gc) = (1 : Int32) from (if_pos hc34)] at k
          exact k
        · refine XS.icmpYes X0.here hx rfl (pc0 := 34) (pc' := 41) rfl (hb hby d4_34) rfl (flt hc34).2.1 (by decide) (by decide) ?_
          refine XS.iconst X0.here hx rfl (hb hby d4_41) ?_
          rw [show (k2_0_34_s0 gp gk gc) = (0 : Int32) from (if_neg hc34)] at k
          exact k
      exact Outs.retN (t := .boolean) (z := (k2_0_34_s0 gp gk gc)) X0 hx hret (by simp) (hb hby d4_42) hlk (by decide) (by decide) e0 ⟨congrArg (fun z_ => some (Value.int z_)) (show (F_k2_0 gp gk gc) = (nar .boolean (k2_0_34_s0 gp gk gc)) from ((if_pos hc16).trans (if_neg hc23))).symm, N0, rfl⟩
  · refine Outs.of (U' := s₁.setTop (mkF m 41 #[.val (.ref o0), .val (.ref o1), .val (.ref o2), .val (.int (2 : Int32)), .val (.int (0 : Int32))] [])) (fun t k => ?_) ?_
    · refine XS.icmpYes X0.here hx rfl (pc0 := 16) (pc' := 41) rfl (hb hby d4_16) rfl (feq hc16).2 (by decide) (by decide) ?_
      exact k
    refine Outs.of (U' := s₁.setTop (mkF m 42 #[.val (.ref o0), .val (.ref o1), .val (.ref o2), .val (.int (2 : Int32)), .val (.int (0 : Int32))] [(.int (0 : Int32))])) (fun t k => ?_) ?_
    · refine XS.iconst X0.here hx rfl (hb hby d4_41) ?_
      exact k
    exact Outs.retN (t := .boolean) (z := (0 : Int32)) X0 hx hret (by simp) (hb hby d4_42) hlk (by decide) (by decide) e0 ⟨congrArg (fun z_ => some (Value.int z_)) (show (F_k2_0 gp gk gc) = (0 : Int32) from (if_neg hc16)).symm, N0, rfl⟩
def k2_1_34_s0 (gp : Nat → Int32) (gk : Nat → Int32) (gc : Nat → Int32) : Int32 := (if (gp 1) < (gc 1) then (1 : Int32) else (0 : Int32))
def F_k2_1 (gp : Nat → Int32) (gk : Nat → Int32) (gc : Nat → Int32) : Int32 := (if (gk 1) = (gc 1) then (if (gp 1) < (0 : Int32) then (0 : Int32) else (nar .boolean (k2_1_34_s0 gp gk gc))) else (0 : Int32))
set_option maxRecDepth 65536 in
set_option maxHeartbeats 40000000 in
theorem rmk2_1 (l : Launch) (Z : State) (a0 : Array Value) (hw : ∀ d ∈ tables_1, d.before a0 Z = true) (ws : List Jvm.Cond) (o0 : Addr) (o1 : Addr) (o2 : Addr) (gp : Nat → Int32) (gk : Nat → Int32) (gc : Nat → Int32) (h0 : Heap) (n0 : Nat) (A_o0 : AI Z h0 o0 .int 2 gp) (A_o1 : AI Z h0 o1 .int 2 gk) (A_o2 : AI Z h0 o2 .int 4 gc) :
    MetFree l (⟨"com/example/ratatoskr/ratatoskr/ChoicesAdvancePinLaw", "ok", "([I[I[III)Z"⟩ : MethodName) (head1 (Jvm.Cond.code (⟨"com/example/ratatoskr/ratatoskr/ChoicesAdvancePinLaw", "ok", "([I[I[III)Z"⟩ : MethodName) method_4_code 5 (some .boolean) :: ws) ({ frames := 0, cells := 0, slots := 0, locals := 0 } : Room)) (fun a U => a = #[(.ref o0), (.ref o1), (.ref o2), (.int (2 : Int32)), (.int (1 : Int32))] ∧ Z.Warmed39 U.vm ∧ U.heap = h0) (fun _ _ _ _ _ => True) (fun _ U o U' => ∃ v L, o = .returned v ∧ QR (some (.int (F_k2_1 gp gk gc))) h0 n0 v U'.heap L ∧ FrameEnd U o U' L ({ frames := 0, cells := 0, slots := 0, locals := 0 } : Room).cells ({ frames := 0, cells := 0, slots := 0, locals := 0 } : Room).slots) := by
  refine MetFree.of_bodySF (plainFor_of_name pn_0) hisR ?_
  intro p e s m args below meth c s₁ Bd hml0 hP hK
  obtain ⟨rfl, hZ, hh⟩ := hP
  have hx := Bd.exec
  have hby := Bd.bytes
  have hml : c.maxLocals = 5 := hml0
  have hown : s.vm.findClass "com/example/ratatoskr/ratatoskr/ChoicesAdvancePinLaw" = some m.cls := findClass_of_methodNamed Bd.named
  have hnm := (name_of_methodNamed Bd.named Bd.method).1
  have hret := Bd.returns
  have hlk : meth.locks = false := BodyLoose.notSynchronized Bd
  have X0 : Stand p l e ({ frames := 0, cells := 0, slots := 0, locals := 0 } : Room) s m #[(.ref o0), (.ref o1), (.ref o2), (.int (2 : Int32)), (.int (1 : Int32))] below meth c s₁ [] 0 0 := Stand.of_body Bd
  have e0 : s₁.heap = h0 := by rw [← hh, Bd.state]; rfl
  have N0 := Fr.nil n0
  show Outs p e below s (QR (some (.int (F_k2_1 gp gk gc))) h0 n0) _ _ _
  refine Outs.of (U' := s₁.setTop (mkF m 0 #[.val (.ref o0), .val (.ref o1), .val (.ref o2), .val (.int (2 : Int32)), .val (.int (1 : Int32))] [])) (fun t k => castTop (ef_4 m o0 o1 o2 (2 : Int32) (1 : Int32)) k) ?_
  refine Outs.of (U' := s₁.setTop (mkF m 11 #[.val (.ref o0), .val (.ref o1), .val (.ref o2), .val (.int (2 : Int32)), .val (.int (1 : Int32))] [(.int (1 : Int32)), (.ref o1)])) (fun t k => ?_) ?_
  · refine XS.iload X0.here hx rfl (hb hby d4_0) rfl ?_
    refine XS.iloadN X0.here hx rfl (hb hby d4_2) rfl ?_
    refine XS.icmpYes X0.here hx rfl (pc0 := 3) (pc' := 8) rfl (hb hby d4_3) rfl (tlt (by decide)).1 (by decide) (by decide) ?_
    refine XS.aloadN X0.here hx rfl (hb hby d4_8) rfl rfl ?_
    refine XS.iload X0.here hx rfl (hb hby d4_9) rfl ?_
    exact k
  refine Outs.of (ldI X0 hx hZ e0 A_o1 (j := (1 : Int32)) (k := 1) rfl (by decide) (f := (mkF m 11 #[.val (.ref o0), .val (.ref o1), .val (.ref o2), .val (.int (2 : Int32)), .val (.int (1 : Int32))] [(.int (1 : Int32)), (.ref o1)])) rfl rfl (hb hby d4_11)) ?_
  show Outs p e below s _ _ _ (s₁.setTop (mkF m 12 #[.val (.ref o0), .val (.ref o1), .val (.ref o2), .val (.int (2 : Int32)), .val (.int (1 : Int32))] [(.int (gk 1))]))
  refine Outs.of (U' := s₁.setTop (mkF m 15 #[.val (.ref o0), .val (.ref o1), .val (.ref o2), .val (.int (2 : Int32)), .val (.int (1 : Int32))] [(.int (1 : Int32)), (.ref o2), (.int (gk 1))])) (fun t k => ?_) ?_
  · refine XS.aloadN X0.here hx rfl (hb hby d4_12) rfl rfl ?_
    refine XS.iload X0.here hx rfl (hb hby d4_13) rfl ?_
    exact k
  refine Outs.of (ldI X0 hx hZ e0 A_o2 (j := (1 : Int32)) (k := 1) rfl (by decide) (f := (mkF m 15 #[.val (.ref o0), .val (.ref o1), .val (.ref o2), .val (.int (2 : Int32)), .val (.int (1 : Int32))] [(.int (1 : Int32)), (.ref o2), (.int (gk 1))])) rfl rfl (hb hby d4_15)) ?_
  show Outs p e below s _ _ _ (s₁.setTop (mkF m 16 #[.val (.ref o0), .val (.ref o1), .val (.ref o2), .val (.int (2 : Int32)), .val (.int (1 : Int32))] [(.int (gc 1)), (.int (gk 1))]))
  by_cases hc16 : (gk 1) = (gc 1)
  · refine Outs.of (U' := s₁.setTop (mkF m 19 #[.val (.ref o0), .val (.ref o1), .val (.ref o2), .val (.int (2 : Int32)), .val (.int (1 : Int32))] [])) (fun t k => ?_) ?_
    · refine XS.icmpNo X0.here hx rfl (hb hby d4_16) rfl (teq hc16).2 ?_
      exact k
    refine Outs.of (U' := s₁.setTop (mkF m 22 #[.val (.ref o0), .val (.ref o1), .val (.ref o2), .val (.int (2 : Int32)), .val (.int (1 : Int32))] [(.int (1 : Int32)), (.ref o0)])) (fun t k => ?_) ?_
    · refine XS.aloadN X0.here hx rfl (hb hby d4_19) rfl rfl ?_
      refine XS.iload X0.here hx rfl (hb hby d4_20) rfl ?_
      exact k
    refine Outs.of (ldI X0 hx hZ e0 A_o0 (j := (1 : Int32)) (k := 1) rfl (by decide) (f := (mkF m 22 #[.val (.ref o0), .val (.ref o1), .val (.ref o2), .val (.int (2 : Int32)), .val (.int (1 : Int32))] [(.int (1 : Int32)), (.ref o0)])) rfl rfl (hb hby d4_22)) ?_
    show Outs p e below s _ _ _ (s₁.setTop (mkF m 23 #[.val (.ref o0), .val (.ref o1), .val (.ref o2), .val (.int (2 : Int32)), .val (.int (1 : Int32))] [(.int (gp 1))]))
    by_cases hc23 : (gp 1) < (0 : Int32)
    · refine Outs.of (U' := s₁.setTop (mkF m 41 #[.val (.ref o0), .val (.ref o1), .val (.ref o2), .val (.int (2 : Int32)), .val (.int (1 : Int32))] [])) (fun t k => ?_) ?_
      · refine XS.ifYes X0.here hx rfl (pc0 := 23) (pc' := 41) rfl (hb hby d4_23) rfl ((if0 _ _).trans (tlt hc23).1) (by decide) (by decide) ?_
        exact k
      refine Outs.of (U' := s₁.setTop (mkF m 42 #[.val (.ref o0), .val (.ref o1), .val (.ref o2), .val (.int (2 : Int32)), .val (.int (1 : Int32))] [(.int (0 : Int32))])) (fun t k => ?_) ?_
      · refine XS.iconst X0.here hx rfl (hb hby d4_41) ?_
        exact k
      exact Outs.retN (t := .boolean) (z := (0 : Int32)) X0 hx hret (by simp) (hb hby d4_42) hlk (by decide) (by decide) e0 ⟨congrArg (fun z_ => some (Value.int z_)) (show (F_k2_1 gp gk gc) = (0 : Int32) from ((if_pos hc16).trans (if_pos hc23))).symm, N0, rfl⟩
    · refine Outs.of (U' := s₁.setTop (mkF m 26 #[.val (.ref o0), .val (.ref o1), .val (.ref o2), .val (.int (2 : Int32)), .val (.int (1 : Int32))] [])) (fun t k => ?_) ?_
      · refine XS.ifNo X0.here hx rfl (hb hby d4_23) rfl ((if0 _ _).trans (flt hc23).1) ?_
        exact k
      refine Outs.of (U' := s₁.setTop (mkF m 29 #[.val (.ref o0), .val (.ref o1), .val (.ref o2), .val (.int (2 : Int32)), .val (.int (1 : Int32))] [(.int (1 : Int32)), (.ref o0)])) (fun t k => ?_) ?_
      · refine XS.aloadN X0.here hx rfl (hb hby d4_26) rfl rfl ?_
        refine XS.iload X0.here hx rfl (hb hby d4_27) rfl ?_
        exact k
      refine Outs.of (ldI X0 hx hZ e0 A_o0 (j := (1 : Int32)) (k := 1) rfl (by decide) (f := (mkF m 29 #[.val (.ref o0), .val (.ref o1), .val (.ref o2), .val (.int (2 : Int32)), .val (.int (1 : Int32))] [(.int (1 : Int32)), (.ref o0)])) rfl rfl (hb hby d4_29)) ?_
      show Outs p e below s _ _ _ (s₁.setTop (mkF m 30 #[.val (.ref o0), .val (.ref o1), .val (.ref o2), .val (.int (2 : Int32)), .val (.int (1 : Int32))] [(.int (gp 1))]))
      refine Outs.of (U' := s₁.setTop (mkF m 33 #[.val (.ref o0), .val (.ref o1), .val (.ref o2), .val (.int (2 : Int32)), .val (.int (1 : Int32))] [(.int (1 : Int32)), (.ref o2), (.int (gp 1))])) (fun t k => ?_) ?_
      · refine XS.aloadN X0.here hx rfl (hb hby d4_30) rfl rfl ?_
        refine XS.iload X0.here hx rfl (hb hby d4_31) rfl ?_
        exact k
      refine Outs.of (ldI X0 hx hZ e0 A_o2 (j := (1 : Int32)) (k := 1) rfl (by decide) (f := (mkF m 33 #[.val (.ref o0), .val (.ref o1), .val (.ref o2), .val (.int (2 : Int32)), .val (.int (1 : Int32))] [(.int (1 : Int32)), (.ref o2), (.int (gp 1))])) rfl rfl (hb hby d4_33)) ?_
      show Outs p e below s _ _ _ (s₁.setTop (mkF m 34 #[.val (.ref o0), .val (.ref o1), .val (.ref o2), .val (.int (2 : Int32)), .val (.int (1 : Int32))] [(.int (gc 1)), (.int (gp 1))]))
      refine Outs.of (U' := s₁.setTop (mkF m 42 #[.val (.ref o0), .val (.ref o1), .val (.ref o2), .val (.int (2 : Int32)), .val (.int (1 : Int32))] [(.int (k2_1_34_s0 gp gk gc))])) (fun t k => ?_) ?_
      · by_cases hc34 : (gp 1) < (gc 1)
        · refine XS.icmpNo X0.here hx rfl (hb hby d4_34) rfl (tlt hc34).2.1 ?_
          refine XS.iconst X0.here hx rfl (hb hby d4_37) ?_
          refine XS.goto X0.here hx rfl (pc0 := 38) (pc' := 42) rfl (hb hby d4_38) (by decide) (by decide) ?_
          rw [show (k2_1_34_s0 gp gk gc) = (1 : Int32) from (if_pos hc34)] at k
          exact k
        · refine XS.icmpYes X0.here hx rfl (pc0 := 34) (pc' := 41) rfl (hb hby d4_34) rfl (flt hc34).2.1 (by decide) (by decide) ?_
          refine XS.iconst X0.here hx rfl (hb hby d4_41) ?_
          rw [show (k2_1_34_s0 gp gk gc) = (0 : Int32) from (if_neg hc34)] at k
          exact k
      exact Outs.retN (t := .boolean) (z := (k2_1_34_s0 gp gk gc)) X0 hx hret (by simp) (hb hby d4_42) hlk (by decide) (by decide) e0 ⟨congrArg (fun z_ => some (Value.int z_)) (show (F_k2_1 gp gk gc) = (nar .boolean (k2_1_34_s0 gp gk gc)) from ((if_pos hc16).trans (if_neg hc23))).symm, N0, rfl⟩
  · refine Outs.of (U' := s₁.setTop (mkF m 41 #[.val (.ref o0), .val (.ref o1), .val (.ref o2), .val (.int (2 : Int32)), .val (.int (1 : Int32))] [])) (fun t k => ?_) ?_
    · refine XS.icmpYes X0.here hx rfl (pc0 := 16) (pc' := 41) rfl (hb hby d4_16) rfl (feq hc16).2 (by decide) (by decide) ?_
      exact k
    refine Outs.of (U' := s₁.setTop (mkF m 42 #[.val (.ref o0), .val (.ref o1), .val (.ref o2), .val (.int (2 : Int32)), .val (.int (1 : Int32))] [(.int (0 : Int32))])) (fun t k => ?_) ?_
    · refine XS.iconst X0.here hx rfl (hb hby d4_41) ?_
      exact k
    exact Outs.retN (t := .boolean) (z := (0 : Int32)) X0 hx hret (by simp) (hb hby d4_42) hlk (by decide) (by decide) e0 ⟨congrArg (fun z_ => some (Value.int z_)) (show (F_k2_1 gp gk gc) = (0 : Int32) from (if_neg hc16)).symm, N0, rfl⟩
def F_k2_2 (gp : Nat → Int32) (gk : Nat → Int32) (gc : Nat → Int32) : Int32 := (1 : Int32)
set_option maxRecDepth 65536 in
set_option maxHeartbeats 40000000 in
theorem rmk2_2 (l : Launch) (Z : State) (a0 : Array Value) (hw : ∀ d ∈ tables_1, d.before a0 Z = true) (ws : List Jvm.Cond) (o0 : Addr) (o1 : Addr) (o2 : Addr) (gp : Nat → Int32) (gk : Nat → Int32) (gc : Nat → Int32) (h0 : Heap) (n0 : Nat) (A_o0 : AI Z h0 o0 .int 2 gp) (A_o1 : AI Z h0 o1 .int 2 gk) (A_o2 : AI Z h0 o2 .int 4 gc) :
    MetFree l (⟨"com/example/ratatoskr/ratatoskr/ChoicesAdvancePinLaw", "ok", "([I[I[III)Z"⟩ : MethodName) (head1 (Jvm.Cond.code (⟨"com/example/ratatoskr/ratatoskr/ChoicesAdvancePinLaw", "ok", "([I[I[III)Z"⟩ : MethodName) method_4_code 5 (some .boolean) :: ws) ({ frames := 0, cells := 0, slots := 0, locals := 0 } : Room)) (fun a U => a = #[(.ref o0), (.ref o1), (.ref o2), (.int (2 : Int32)), (.int (2 : Int32))] ∧ Z.Warmed39 U.vm ∧ U.heap = h0) (fun _ _ _ _ _ => True) (fun _ U o U' => ∃ v L, o = .returned v ∧ QR (some (.int (F_k2_2 gp gk gc))) h0 n0 v U'.heap L ∧ FrameEnd U o U' L ({ frames := 0, cells := 0, slots := 0, locals := 0 } : Room).cells ({ frames := 0, cells := 0, slots := 0, locals := 0 } : Room).slots) := by
  refine MetFree.of_bodySF (plainFor_of_name pn_0) hisR ?_
  intro p e s m args below meth c s₁ Bd hml0 hP hK
  obtain ⟨rfl, hZ, hh⟩ := hP
  have hx := Bd.exec
  have hby := Bd.bytes
  have hml : c.maxLocals = 5 := hml0
  have hown : s.vm.findClass "com/example/ratatoskr/ratatoskr/ChoicesAdvancePinLaw" = some m.cls := findClass_of_methodNamed Bd.named
  have hnm := (name_of_methodNamed Bd.named Bd.method).1
  have hret := Bd.returns
  have hlk : meth.locks = false := BodyLoose.notSynchronized Bd
  have X0 : Stand p l e ({ frames := 0, cells := 0, slots := 0, locals := 0 } : Room) s m #[(.ref o0), (.ref o1), (.ref o2), (.int (2 : Int32)), (.int (2 : Int32))] below meth c s₁ [] 0 0 := Stand.of_body Bd
  have e0 : s₁.heap = h0 := by rw [← hh, Bd.state]; rfl
  have N0 := Fr.nil n0
  show Outs p e below s (QR (some (.int (F_k2_2 gp gk gc))) h0 n0) _ _ _
  refine Outs.of (U' := s₁.setTop (mkF m 0 #[.val (.ref o0), .val (.ref o1), .val (.ref o2), .val (.int (2 : Int32)), .val (.int (2 : Int32))] [])) (fun t k => castTop (ef_4 m o0 o1 o2 (2 : Int32) (2 : Int32)) k) ?_
  refine Outs.of (U' := s₁.setTop (mkF m 7 #[.val (.ref o0), .val (.ref o1), .val (.ref o2), .val (.int (2 : Int32)), .val (.int (2 : Int32))] [(.int (1 : Int32))])) (fun t k => ?_) ?_
  · refine XS.iload X0.here hx rfl (hb hby d4_0) rfl ?_
    refine XS.iloadN X0.here hx rfl (hb hby d4_2) rfl ?_
    refine XS.icmpNo X0.here hx rfl (hb hby d4_3) rfl (flt (by decide)).1 ?_
    refine XS.iconst X0.here hx rfl (hb hby d4_6) ?_
    exact k
  exact Outs.retN (t := .boolean) (z := (1 : Int32)) X0 hx hret (by simp) (hb hby d4_7) hlk (by decide) (by decide) e0 ⟨congrArg (fun z_ => some (Value.int z_)) (show (F_k2_2 gp gk gc) = (1 : Int32) from rfl).symm, N0, rfl⟩
def F_k2_3 (gp : Nat → Int32) (gk : Nat → Int32) (gc : Nat → Int32) : Int32 := (1 : Int32)
set_option maxRecDepth 65536 in
set_option maxHeartbeats 40000000 in
theorem rmk2_3 (l : Launch) (Z : State) (a0 : Array Value) (hw : ∀ d ∈ tables_1, d.before a0 Z = true) (ws : List Jvm.Cond) (o0 : Addr) (o1 : Addr) (o2 : Addr) (gp : Nat → Int32) (gk : Nat → Int32) (gc : Nat → Int32) (h0 : Heap) (n0 : Nat) (A_o0 : AI Z h0 o0 .int 2 gp) (A_o1 : AI Z h0 o1 .int 2 gk) (A_o2 : AI Z h0 o2 .int 4 gc) :
    MetFree l (⟨"com/example/ratatoskr/ratatoskr/ChoicesAdvancePinLaw", "ok", "([I[I[III)Z"⟩ : MethodName) (head1 (Jvm.Cond.code (⟨"com/example/ratatoskr/ratatoskr/ChoicesAdvancePinLaw", "ok", "([I[I[III)Z"⟩ : MethodName) method_4_code 5 (some .boolean) :: ws) ({ frames := 0, cells := 0, slots := 0, locals := 0 } : Room)) (fun a U => a = #[(.ref o0), (.ref o1), (.ref o2), (.int (2 : Int32)), (.int (3 : Int32))] ∧ Z.Warmed39 U.vm ∧ U.heap = h0) (fun _ _ _ _ _ => True) (fun _ U o U' => ∃ v L, o = .returned v ∧ QR (some (.int (F_k2_3 gp gk gc))) h0 n0 v U'.heap L ∧ FrameEnd U o U' L ({ frames := 0, cells := 0, slots := 0, locals := 0 } : Room).cells ({ frames := 0, cells := 0, slots := 0, locals := 0 } : Room).slots) := by
  refine MetFree.of_bodySF (plainFor_of_name pn_0) hisR ?_
  intro p e s m args below meth c s₁ Bd hml0 hP hK
  obtain ⟨rfl, hZ, hh⟩ := hP
  have hx := Bd.exec
  have hby := Bd.bytes
  have hml : c.maxLocals = 5 := hml0
  have hown : s.vm.findClass "com/example/ratatoskr/ratatoskr/ChoicesAdvancePinLaw" = some m.cls := findClass_of_methodNamed Bd.named
  have hnm := (name_of_methodNamed Bd.named Bd.method).1
  have hret := Bd.returns
  have hlk : meth.locks = false := BodyLoose.notSynchronized Bd
  have X0 : Stand p l e ({ frames := 0, cells := 0, slots := 0, locals := 0 } : Room) s m #[(.ref o0), (.ref o1), (.ref o2), (.int (2 : Int32)), (.int (3 : Int32))] below meth c s₁ [] 0 0 := Stand.of_body Bd
  have e0 : s₁.heap = h0 := by rw [← hh, Bd.state]; rfl
  have N0 := Fr.nil n0
  show Outs p e below s (QR (some (.int (F_k2_3 gp gk gc))) h0 n0) _ _ _
  refine Outs.of (U' := s₁.setTop (mkF m 0 #[.val (.ref o0), .val (.ref o1), .val (.ref o2), .val (.int (2 : Int32)), .val (.int (3 : Int32))] [])) (fun t k => castTop (ef_4 m o0 o1 o2 (2 : Int32) (3 : Int32)) k) ?_
  refine Outs.of (U' := s₁.setTop (mkF m 7 #[.val (.ref o0), .val (.ref o1), .val (.ref o2), .val (.int (2 : Int32)), .val (.int (3 : Int32))] [(.int (1 : Int32))])) (fun t k => ?_) ?_
  · refine XS.iload X0.here hx rfl (hb hby d4_0) rfl ?_
    refine XS.iloadN X0.here hx rfl (hb hby d4_2) rfl ?_
    refine XS.icmpNo X0.here hx rfl (hb hby d4_3) rfl (flt (by decide)).1 ?_
    refine XS.iconst X0.here hx rfl (hb hby d4_6) ?_
    exact k
  exact Outs.retN (t := .boolean) (z := (1 : Int32)) X0 hx hret (by simp) (hb hby d4_7) hlk (by decide) (by decide) e0 ⟨congrArg (fun z_ => some (Value.int z_)) (show (F_k2_3 gp gk gc) = (1 : Int32) from rfl).symm, N0, rfl⟩
theorem d1_28 : decode method_3_code 28 = .ok (.iload_n 2, 1) := by decide +kernel
theorem d1_29 : decode method_3_code 29 = .ok (.aload_n 0, 1) := by decide +kernel
theorem d1_30 : decode method_3_code 30 = .ok (.iconst 2, 1) := by decide +kernel
theorem d1_31 : decode method_3_code 31 = .ok (.iaload, 1) := by decide +kernel
theorem d1_32 : decode method_3_code 32 = .ok (.imul, 1) := by decide +kernel
theorem d1_33 : decode method_3_code 33 = .ok (.istore_n 2, 1) := by decide +kernel
def F_p3 (gc : Nat → Int32) : Int32 := ((((1 : Int32) * (gc 0)) * (gc 1)) * (gc 2))
set_option maxRecDepth 65536 in
set_option maxHeartbeats 40000000 in
theorem rmp3 (l : Launch) (Z : State) (a0 : Array Value) (hw : ∀ d ∈ tables_1, d.before a0 Z = true) (ws : List Jvm.Cond) (o0 : Addr) (gc : Nat → Int32) (h0 : Heap) (n0 : Nat) (A_o0 : AI Z h0 o0 .int 4 gc) :
    MetFree l (⟨"com/example/ratatoskr/ratatoskr/ChoicesAdvancePinLaw", "prod", "([II)I"⟩ : MethodName) (head1 (Jvm.Cond.code (⟨"com/example/ratatoskr/ratatoskr/ChoicesAdvancePinLaw", "prod", "([II)I"⟩ : MethodName) method_3_code 3 (some .int) :: ws) ({ frames := 0, cells := 0, slots := 0, locals := 0 } : Room)) (fun a U => a = #[(.ref o0), (.int (3 : Int32))] ∧ Z.Warmed39 U.vm ∧ U.heap = h0) (fun _ _ _ _ _ => True) (fun _ U o U' => ∃ v L, o = .returned v ∧ QR (some (.int (F_p3 gc))) h0 n0 v U'.heap L ∧ FrameEnd U o U' L ({ frames := 0, cells := 0, slots := 0, locals := 0 } : Room).cells ({ frames := 0, cells := 0, slots := 0, locals := 0 } : Room).slots) := by
  refine MetFree.of_bodySF (plainFor_of_name pn_0) hisR ?_
  intro p e s m args below meth c s₁ Bd hml0 hP hK
  obtain ⟨rfl, hZ, hh⟩ := hP
  have hx := Bd.exec
  have hby := Bd.bytes
  have hml : c.maxLocals = 3 := hml0
  have hown : s.vm.findClass "com/example/ratatoskr/ratatoskr/ChoicesAdvancePinLaw" = some m.cls := findClass_of_methodNamed Bd.named
  have hnm := (name_of_methodNamed Bd.named Bd.method).1
  have hret := Bd.returns
  have hlk : meth.locks = false := BodyLoose.notSynchronized Bd
  have X0 : Stand p l e ({ frames := 0, cells := 0, slots := 0, locals := 0 } : Room) s m #[(.ref o0), (.int (3 : Int32))] below meth c s₁ [] 0 0 := Stand.of_body Bd
  have e0 : s₁.heap = h0 := by rw [← hh, Bd.state]; rfl
  have N0 := Fr.nil n0
  show Outs p e below s (QR (some (.int (F_p3 gc))) h0 n0) _ _ _
  refine Outs.of (U' := s₁.setTop (mkF m 0 #[.val (.ref o0), .val (.int (3 : Int32)), .unset] [])) (fun t k => castTop (ef_1 m o0 (3 : Int32)) k) ?_
  refine Outs.of (U' := s₁.setTop (mkF m 9 #[.val (.ref o0), .val (.int (3 : Int32)), .val (.int (1 : Int32))] [(.int (0 : Int32)), (.ref o0), (.int (1 : Int32))])) (fun t k => ?_) ?_
  · refine XS.iconst X0.here hx rfl (hb hby d1_0) ?_
    refine XS.istoreN X0.here hx rfl (hb hby d1_1) rfl (l' := #[.val (.ref o0), .val (.int (3 : Int32)), .val (.int (1 : Int32))]) rfl ?_
    refine XS.iloadN X0.here hx rfl (hb hby d1_2) rfl ?_
    refine XS.ifNo X0.here hx rfl (hb hby d1_3) rfl ((if0 _ _).trans (tlt (by decide)).2.2.2) ?_
    refine XS.iloadN X0.here hx rfl (hb hby d1_6) rfl ?_
    refine XS.aloadN X0.here hx rfl (hb hby d1_7) rfl rfl ?_
    refine XS.iconst X0.here hx rfl (hb hby d1_8) ?_
    exact k
  refine Outs.of (ldI X0 hx hZ e0 A_o0 (j := (0 : Int32)) (k := 0) rfl (by decide) (f := (mkF m 9 #[.val (.ref o0), .val (.int (3 : Int32)), .val (.int (1 : Int32))] [(.int (0 : Int32)), (.ref o0), (.int (1 : Int32))])) rfl rfl (hb hby d1_9)) ?_
  show Outs p e below s _ _ _ (s₁.setTop (mkF m 10 #[.val (.ref o0), .val (.int (3 : Int32)), .val (.int (1 : Int32))] [(.int (gc 0)), (.int (1 : Int32))]))
  refine Outs.of (U' := s₁.setTop (mkF m 20 #[.val (.ref o0), .val (.int (3 : Int32)), .val (.int ((1 : Int32) * (gc 0)))] [(.int (1 : Int32)), (.ref o0), (.int ((1 : Int32) * (gc 0)))])) (fun t k => ?_) ?_
  · refine XS.imul X0.here hx rfl (hb hby d1_10) rfl ?_
    refine XS.istoreN X0.here hx rfl (hb hby d1_11) rfl (l' := #[.val (.ref o0), .val (.int (3 : Int32)), .val (.int ((1 : Int32) * (gc 0)))]) rfl ?_
    refine XS.iloadN X0.here hx rfl (hb hby d1_12) rfl ?_
    refine XS.iconst X0.here hx rfl (hb hby d1_13) ?_
    refine XS.icmpNo X0.here hx rfl (hb hby d1_14) rfl (tlt (by decide)).2.2.2 ?_
    refine XS.iloadN X0.here hx rfl (hb hby d1_17) rfl ?_
    refine XS.aloadN X0.here hx rfl (hb hby d1_18) rfl rfl ?_
    refine XS.iconst X0.here hx rfl (hb hby d1_19) ?_
    exact k
  refine Outs.of (ldI X0 hx hZ e0 A_o0 (j := (1 : Int32)) (k := 1) rfl (by decide) (f := (mkF m 20 #[.val (.ref o0), .val (.int (3 : Int32)), .val (.int ((1 : Int32) * (gc 0)))] [(.int (1 : Int32)), (.ref o0), (.int ((1 : Int32) * (gc 0)))])) rfl rfl (hb hby d1_20)) ?_
  show Outs p e below s _ _ _ (s₁.setTop (mkF m 21 #[.val (.ref o0), .val (.int (3 : Int32)), .val (.int ((1 : Int32) * (gc 0)))] [(.int (gc 1)), (.int ((1 : Int32) * (gc 0)))]))
  refine Outs.of (U' := s₁.setTop (mkF m 31 #[.val (.ref o0), .val (.int (3 : Int32)), .val (.int (((1 : Int32) * (gc 0)) * (gc 1)))] [(.int (2 : Int32)), (.ref o0), (.int (((1 : Int32) * (gc 0)) * (gc 1)))])) (fun t k => ?_) ?_
  · refine XS.imul X0.here hx rfl (hb hby d1_21) rfl ?_
    refine XS.istoreN X0.here hx rfl (hb hby d1_22) rfl (l' := #[.val (.ref o0), .val (.int (3 : Int32)), .val (.int (((1 : Int32) * (gc 0)) * (gc 1)))]) rfl ?_
    refine XS.iloadN X0.here hx rfl (hb hby d1_23) rfl ?_
    refine XS.iconst X0.here hx rfl (hb hby d1_24) ?_
    refine XS.icmpNo X0.here hx rfl (hb hby d1_25) rfl (tlt (by decide)).2.2.2 ?_
    refine XS.iloadN X0.here hx rfl (hb hby d1_28) rfl ?_
    refine XS.aloadN X0.here hx rfl (hb hby d1_29) rfl rfl ?_
    refine XS.iconst X0.here hx rfl (hb hby d1_30) ?_
    exact k
  refine Outs.of (ldI X0 hx hZ e0 A_o0 (j := (2 : Int32)) (k := 2) rfl (by decide) (f := (mkF m 31 #[.val (.ref o0), .val (.int (3 : Int32)), .val (.int (((1 : Int32) * (gc 0)) * (gc 1)))] [(.int (2 : Int32)), (.ref o0), (.int (((1 : Int32) * (gc 0)) * (gc 1)))])) rfl rfl (hb hby d1_31)) ?_
  show Outs p e below s _ _ _ (s₁.setTop (mkF m 32 #[.val (.ref o0), .val (.int (3 : Int32)), .val (.int (((1 : Int32) * (gc 0)) * (gc 1)))] [(.int (gc 2)), (.int (((1 : Int32) * (gc 0)) * (gc 1)))]))
  refine Outs.of (U' := s₁.setTop (mkF m 46 #[.val (.ref o0), .val (.int (3 : Int32)), .val (.int ((((1 : Int32) * (gc 0)) * (gc 1)) * (gc 2)))] [(.int ((((1 : Int32) * (gc 0)) * (gc 1)) * (gc 2)))])) (fun t k => ?_) ?_
  · refine XS.imul X0.here hx rfl (hb hby d1_32) rfl ?_
    refine XS.istoreN X0.here hx rfl (hb hby d1_33) rfl (l' := #[.val (.ref o0), .val (.int (3 : Int32)), .val (.int ((((1 : Int32) * (gc 0)) * (gc 1)) * (gc 2)))]) rfl ?_
    refine XS.iloadN X0.here hx rfl (hb hby d1_34) rfl ?_
    refine XS.iconst X0.here hx rfl (hb hby d1_35) ?_
    refine XS.icmpYes X0.here hx rfl (pc0 := 36) (pc' := 45) rfl (hb hby d1_36) rfl (flt (by decide)).2.2.2 (by decide) (by decide) ?_
    refine XS.iloadN X0.here hx rfl (hb hby d1_45) rfl ?_
    exact k
  exact Outs.retI X0 hx hret (hb hby d1_46) hlk (by decide) (by decide) e0 ⟨congrArg (fun z_ => some (Value.int z_)) (show (F_p3 gc) = ((((1 : Int32) * (gc 0)) * (gc 1)) * (gc 2)) from rfl).symm, N0, rfl⟩
theorem d2_36 : decode method_2_code 36 = .ok (.iload_n 3, 1) := by decide +kernel
theorem d2_37 : decode method_2_code 37 = .ok (.aload_n 1, 1) := by decide +kernel
theorem d2_38 : decode method_2_code 38 = .ok (.iconst 2, 1) := by decide +kernel
theorem d2_39 : decode method_2_code 39 = .ok (.iaload, 1) := by decide +kernel
theorem d2_40 : decode method_2_code 40 = .ok (.imul, 1) := by decide +kernel
theorem d2_41 : decode method_2_code 41 = .ok (.aload_n 0, 1) := by decide +kernel
theorem d2_42 : decode method_2_code 42 = .ok (.iconst 2, 1) := by decide +kernel
theorem d2_43 : decode method_2_code 43 = .ok (.iaload, 1) := by decide +kernel
theorem d2_44 : decode method_2_code 44 = .ok (.iadd, 1) := by decide +kernel
theorem d2_45 : decode method_2_code 45 = .ok (.istore_n 3, 1) := by decide +kernel
def v3_v45 (gp : Nat → Int32) (gc : Nat → Int32) : Int32 := (((((((0 : Int32) * (gc 0)) + (gp 0)) * (gc 1)) + (gp 1)) * (gc 2)) + (gp 2))
def F_v3 (gp : Nat → Int32) (gc : Nat → Int32) : Int32 := (v3_v45 gp gc)
set_option maxRecDepth 65536 in
set_option maxHeartbeats 40000000 in
theorem rmv3 (l : Launch) (Z : State) (a0 : Array Value) (hw : ∀ d ∈ tables_1, d.before a0 Z = true) (ws : List Jvm.Cond) (o0 : Addr) (o1 : Addr) (gp : Nat → Int32) (gc : Nat → Int32) (h0 : Heap) (n0 : Nat) (A_o0 : AI Z h0 o0 .int 3 gp) (A_o1 : AI Z h0 o1 .int 4 gc) :
    MetFree l (⟨"com/example/ratatoskr/ratatoskr/ChoicesAdvancePinLaw", "val", "([I[II)I"⟩ : MethodName) (head1 (Jvm.Cond.code (⟨"com/example/ratatoskr/ratatoskr/ChoicesAdvancePinLaw", "val", "([I[II)I"⟩ : MethodName) method_2_code 4 (some .int) :: ws) ({ frames := 0, cells := 0, slots := 0, locals := 0 } : Room)) (fun a U => a = #[(.ref o0), (.ref o1), (.int (3 : Int32))] ∧ Z.Warmed39 U.vm ∧ U.heap = h0) (fun _ _ _ _ _ => True) (fun _ U o U' => ∃ v L, o = .returned v ∧ QR (some (.int (F_v3 gp gc))) h0 n0 v U'.heap L ∧ FrameEnd U o U' L ({ frames := 0, cells := 0, slots := 0, locals := 0 } : Room).cells ({ frames := 0, cells := 0, slots := 0, locals := 0 } : Room).slots) := by
  refine MetFree.of_bodySF (plainFor_of_name pn_0) hisR ?_
  intro p e s m args below meth c s₁ Bd hml0 hP hK
  obtain ⟨rfl, hZ, hh⟩ := hP
  have hx := Bd.exec
  have hby := Bd.bytes
  have hml : c.maxLocals = 4 := hml0
  have hown : s.vm.findClass "com/example/ratatoskr/ratatoskr/ChoicesAdvancePinLaw" = some m.cls := findClass_of_methodNamed Bd.named
  have hnm := (name_of_methodNamed Bd.named Bd.method).1
  have hret := Bd.returns
  have hlk : meth.locks = false := BodyLoose.notSynchronized Bd
  have X0 : Stand p l e ({ frames := 0, cells := 0, slots := 0, locals := 0 } : Room) s m #[(.ref o0), (.ref o1), (.int (3 : Int32))] below meth c s₁ [] 0 0 := Stand.of_body Bd
  have e0 : s₁.heap = h0 := by rw [← hh, Bd.state]; rfl
  have N0 := Fr.nil n0
  show Outs p e below s (QR (some (.int (F_v3 gp gc))) h0 n0) _ _ _
  refine Outs.of (U' := s₁.setTop (mkF m 0 #[.val (.ref o0), .val (.ref o1), .val (.int (3 : Int32)), .unset] [])) (fun t k => castTop (ef_2 m o0 o1 (3 : Int32)) k) ?_
  refine Outs.of (U' := s₁.setTop (mkF m 9 #[.val (.ref o0), .val (.ref o1), .val (.int (3 : Int32)), .val (.int (0 : Int32))] [(.int (0 : Int32)), (.ref o1), (.int (0 : Int32))])) (fun t k => ?_) ?_
  · refine XS.iconst X0.here hx rfl (hb hby d2_0) ?_
    refine XS.istoreN X0.here hx rfl (hb hby d2_1) rfl (l' := #[.val (.ref o0), .val (.ref o1), .val (.int (3 : Int32)), .val (.int (0 : Int32))]) rfl ?_
    refine XS.iloadN X0.here hx rfl (hb hby d2_2) rfl ?_
    refine XS.ifNo X0.here hx rfl (hb hby d2_3) rfl ((if0 _ _).trans (tlt (by decide)).2.2.2) ?_
    refine XS.iloadN X0.here hx rfl (hb hby d2_6) rfl ?_
    refine XS.aloadN X0.here hx rfl (hb hby d2_7) rfl rfl ?_
    refine XS.iconst X0.here hx rfl (hb hby d2_8) ?_
    exact k
  refine Outs.of (ldI X0 hx hZ e0 A_o1 (j := (0 : Int32)) (k := 0) rfl (by decide) (f := (mkF m 9 #[.val (.ref o0), .val (.ref o1), .val (.int (3 : Int32)), .val (.int (0 : Int32))] [(.int (0 : Int32)), (.ref o1), (.int (0 : Int32))])) rfl rfl (hb hby d2_9)) ?_
  show Outs p e below s _ _ _ (s₁.setTop (mkF m 10 #[.val (.ref o0), .val (.ref o1), .val (.int (3 : Int32)), .val (.int (0 : Int32))] [(.int (gc 0)), (.int (0 : Int32))]))
  refine Outs.of (U' := s₁.setTop (mkF m 13 #[.val (.ref o0), .val (.ref o1), .val (.int (3 : Int32)), .val (.int (0 : Int32))] [(.int (0 : Int32)), (.ref o0), (.int ((0 : Int32) * (gc 0)))])) (fun t k => ?_) ?_
  · refine XS.imul X0.here hx rfl (hb hby d2_10) rfl ?_
    refine XS.aloadN X0.here hx rfl (hb hby d2_11) rfl rfl ?_
    refine XS.iconst X0.here hx rfl (hb hby d2_12) ?_
    exact k
  refine Outs.of (ldI X0 hx hZ e0 A_o0 (j := (0 : Int32)) (k := 0) rfl (by decide) (f := (mkF m 13 #[.val (.ref o0), .val (.ref o1), .val (.int (3 : Int32)), .val (.int (0 : Int32))] [(.int (0 : Int32)), (.ref o0), (.int ((0 : Int32) * (gc 0)))])) rfl rfl (hb hby d2_13)) ?_
  show Outs p e below s _ _ _ (s₁.setTop (mkF m 14 #[.val (.ref o0), .val (.ref o1), .val (.int (3 : Int32)), .val (.int (0 : Int32))] [(.int (gp 0)), (.int ((0 : Int32) * (gc 0)))]))
  refine Outs.of (U' := s₁.setTop (mkF m 24 #[.val (.ref o0), .val (.ref o1), .val (.int (3 : Int32)), .val (.int (((0 : Int32) * (gc 0)) + (gp 0)))] [(.int (1 : Int32)), (.ref o1), (.int (((0 : Int32) * (gc 0)) + (gp 0)))])) (fun t k => ?_) ?_
  · refine XS.iadd X0.here hx rfl (hb hby d2_14) rfl ?_
    refine XS.istoreN X0.here hx rfl (hb hby d2_15) rfl (l' := #[.val (.ref o0), .val (.ref o1), .val (.int (3 : Int32)), .val (.int (((0 : Int32) * (gc 0)) + (gp 0)))]) rfl ?_
    refine XS.iloadN X0.here hx rfl (hb hby d2_16) rfl ?_
    refine XS.iconst X0.here hx rfl (hb hby d2_17) ?_
    refine XS.icmpNo X0.here hx rfl (hb hby d2_18) rfl (tlt (by decide)).2.2.2 ?_
    refine XS.iloadN X0.here hx rfl (hb hby d2_21) rfl ?_
    refine XS.aloadN X0.here hx rfl (hb hby d2_22) rfl rfl ?_
    refine XS.iconst X0.here hx rfl (hb hby d2_23) ?_
    exact k
  refine Outs.of (ldI X0 hx hZ e0 A_o1 (j := (1 : Int32)) (k := 1) rfl (by decide) (f := (mkF m 24 #[.val (.ref o0), .val (.ref o1), .val (.int (3 : Int32)), .val (.int (((0 : Int32) * (gc 0)) + (gp 0)))] [(.int (1 : Int32)), (.ref o1), (.int (((0 : Int32) * (gc 0)) + (gp 0)))])) rfl rfl (hb hby d2_24)) ?_
  show Outs p e below s _ _ _ (s₁.setTop (mkF m 25 #[.val (.ref o0), .val (.ref o1), .val (.int (3 : Int32)), .val (.int (((0 : Int32) * (gc 0)) + (gp 0)))] [(.int (gc 1)), (.int (((0 : Int32) * (gc 0)) + (gp 0)))]))
  refine Outs.of (U' := s₁.setTop (mkF m 28 #[.val (.ref o0), .val (.ref o1), .val (.int (3 : Int32)), .val (.int (((0 : Int32) * (gc 0)) + (gp 0)))] [(.int (1 : Int32)), (.ref o0), (.int ((((0 : Int32) * (gc 0)) + (gp 0)) * (gc 1)))])) (fun t k => ?_) ?_
  · refine XS.imul X0.here hx rfl (hb hby d2_25) rfl ?_
    refine XS.aloadN X0.here hx rfl (hb hby d2_26) rfl rfl ?_
    refine XS.iconst X0.here hx rfl (hb hby d2_27) ?_
    exact k
  refine Outs.of (ldI X0 hx hZ e0 A_o0 (j := (1 : Int32)) (k := 1) rfl (by decide) (f := (mkF m 28 #[.val (.ref o0), .val (.ref o1), .val (.int (3 : Int32)), .val (.int (((0 : Int32) * (gc 0)) + (gp 0)))] [(.int (1 : Int32)), (.ref o0), (.int ((((0 : Int32) * (gc 0)) + (gp 0)) * (gc 1)))])) rfl rfl (hb hby d2_28)) ?_
  show Outs p e below s _ _ _ (s₁.setTop (mkF m 29 #[.val (.ref o0), .val (.ref o1), .val (.int (3 : Int32)), .val (.int (((0 : Int32) * (gc 0)) + (gp 0)))] [(.int (gp 1)), (.int ((((0 : Int32) * (gc 0)) + (gp 0)) * (gc 1)))]))
  refine Outs.of (U' := s₁.setTop (mkF m 39 #[.val (.ref o0), .val (.ref o1), .val (.int (3 : Int32)), .val (.int (((((0 : Int32) * (gc 0)) + (gp 0)) * (gc 1)) + (gp 1)))] [(.int (2 : Int32)), (.ref o1), (.int (((((0 : Int32) * (gc 0)) + (gp 0)) * (gc 1)) + (gp 1)))])) (fun t k => ?_) ?_
  · refine XS.iadd X0.here hx rfl (hb hby d2_29) rfl ?_
    refine XS.istoreN X0.here hx rfl (hb hby d2_30) rfl (l' := #[.val (.ref o0), .val (.ref o1), .val (.int (3 : Int32)), .val (.int (((((0 : Int32) * (gc 0)) + (gp 0)) * (gc 1)) + (gp 1)))]) rfl ?_
    refine XS.iloadN X0.here hx rfl (hb hby d2_31) rfl ?_
    refine XS.iconst X0.here hx rfl (hb hby d2_32) ?_
    refine XS.icmpNo X0.here hx rfl (hb hby d2_33) rfl (tlt (by decide)).2.2.2 ?_
    refine XS.iloadN X0.here hx rfl (hb hby d2_36) rfl ?_
    refine XS.aloadN X0.here hx rfl (hb hby d2_37) rfl rfl ?_
    refine XS.iconst X0.here hx rfl (hb hby d2_38) ?_
    exact k
  refine Outs.of (ldI X0 hx hZ e0 A_o1 (j := (2 : Int32)) (k := 2) rfl (by decide) (f := (mkF m 39 #[.val (.ref o0), .val (.ref o1), .val (.int (3 : Int32)), .val (.int (((((0 : Int32) * (gc 0)) + (gp 0)) * (gc 1)) + (gp 1)))] [(.int (2 : Int32)), (.ref o1), (.int (((((0 : Int32) * (gc 0)) + (gp 0)) * (gc 1)) + (gp 1)))])) rfl rfl (hb hby d2_39)) ?_
  show Outs p e below s _ _ _ (s₁.setTop (mkF m 40 #[.val (.ref o0), .val (.ref o1), .val (.int (3 : Int32)), .val (.int (((((0 : Int32) * (gc 0)) + (gp 0)) * (gc 1)) + (gp 1)))] [(.int (gc 2)), (.int (((((0 : Int32) * (gc 0)) + (gp 0)) * (gc 1)) + (gp 1)))]))
  refine Outs.of (U' := s₁.setTop (mkF m 43 #[.val (.ref o0), .val (.ref o1), .val (.int (3 : Int32)), .val (.int (((((0 : Int32) * (gc 0)) + (gp 0)) * (gc 1)) + (gp 1)))] [(.int (2 : Int32)), (.ref o0), (.int ((((((0 : Int32) * (gc 0)) + (gp 0)) * (gc 1)) + (gp 1)) * (gc 2)))])) (fun t k => ?_) ?_
  · refine XS.imul X0.here hx rfl (hb hby d2_40) rfl ?_
    refine XS.aloadN X0.here hx rfl (hb hby d2_41) rfl rfl ?_
    refine XS.iconst X0.here hx rfl (hb hby d2_42) ?_
    exact k
  refine Outs.of (ldI X0 hx hZ e0 A_o0 (j := (2 : Int32)) (k := 2) rfl (by decide) (f := (mkF m 43 #[.val (.ref o0), .val (.ref o1), .val (.int (3 : Int32)), .val (.int (((((0 : Int32) * (gc 0)) + (gp 0)) * (gc 1)) + (gp 1)))] [(.int (2 : Int32)), (.ref o0), (.int ((((((0 : Int32) * (gc 0)) + (gp 0)) * (gc 1)) + (gp 1)) * (gc 2)))])) rfl rfl (hb hby d2_43)) ?_
  show Outs p e below s _ _ _ (s₁.setTop (mkF m 44 #[.val (.ref o0), .val (.ref o1), .val (.int (3 : Int32)), .val (.int (((((0 : Int32) * (gc 0)) + (gp 0)) * (gc 1)) + (gp 1)))] [(.int (gp 2)), (.int ((((((0 : Int32) * (gc 0)) + (gp 0)) * (gc 1)) + (gp 1)) * (gc 2)))]))
  refine Outs.of (U' := s₁.setTop (mkF m 62 #[.val (.ref o0), .val (.ref o1), .val (.int (3 : Int32)), .val (.int (v3_v45 gp gc))] [(.int (v3_v45 gp gc))])) (fun t k => ?_) ?_
  · refine XS.iadd X0.here hx rfl (hb hby d2_44) rfl ?_
    refine XS.istoreN X0.here hx rfl (hb hby d2_45) rfl (l' := #[.val (.ref o0), .val (.ref o1), .val (.int (3 : Int32)), .val (.int (v3_v45 gp gc))]) rfl ?_
    refine XS.iloadN X0.here hx rfl (hb hby d2_46) rfl ?_
    refine XS.iconst X0.here hx rfl (hb hby d2_47) ?_
    refine XS.icmpYes X0.here hx rfl (pc0 := 48) (pc' := 61) rfl (hb hby d2_48) rfl (flt (by decide)).2.2.2 (by decide) (by decide) ?_
    refine XS.iloadN X0.here hx rfl (hb hby d2_61) rfl ?_
    exact k
  exact Outs.retI X0 hx hret (hb hby d2_62) hlk (by decide) (by decide) e0 ⟨congrArg (fun z_ => some (Value.int z_)) (show (F_v3 gp gc) = (v3_v45 gp gc) from rfl).symm, N0, rfl⟩
def a3_g15 (gp : Nat → Int32) (gk : Nat → Int32) : Nat → Int32 := (upv gp 2 ((gp 2) + (1 : Int32)))
def a3_g30 (gp : Nat → Int32) (gk : Nat → Int32) : Nat → Int32 := (upv (a3_g15 gp gk) 2 (0 : Int32))
def a3_g15a (gp : Nat → Int32) (gk : Nat → Int32) : Nat → Int32 := (upv (a3_g30 gp gk) 1 (((a3_g30 gp gk) 1) + (1 : Int32)))
def a3_g30a (gp : Nat → Int32) (gk : Nat → Int32) : Nat → Int32 := (upv (a3_g15a gp gk) 1 (0 : Int32))
def a3_g15b (gp : Nat → Int32) (gk : Nat → Int32) : Nat → Int32 := (upv (a3_g30a gp gk) 0 (((a3_g30a gp gk) 0) + (1 : Int32)))
def a3_g30b (gp : Nat → Int32) (gk : Nat → Int32) : Nat → Int32 := (upv (a3_g15b gp gk) 0 (0 : Int32))
def F_a3 (gp : Nat → Int32) (gk : Nat → Int32) : Int32 := (if ((a3_g15 gp gk) 2) < (gk 2) then (1 : Int32) else (if ((a3_g15a gp gk) 1) < (gk 1) then (1 : Int32) else (if ((a3_g15b gp gk) 0) < (gk 0) then (1 : Int32) else (0 : Int32))))
def a3_out0 (gp : Nat → Int32) (gk : Nat → Int32) : Nat → Int32 := (if ((a3_g15 gp gk) 2) < (gk 2) then (a3_g15 gp gk) else (if ((a3_g15a gp gk) 1) < (gk 1) then (a3_g15a gp gk) else (if ((a3_g15b gp gk) 0) < (gk 0) then (a3_g15b gp gk) else (a3_g30b gp gk))))
def Q_a3 (Z : State) (o0 : Addr) (o1 : Addr) (gp : Nat → Int32) (gk : Nat → Int32) (h0 : Heap) (n0 : Nat) (v : Option Value) (h : Heap) (L : List Loc) : Prop := v = some (.int (F_a3 gp gk)) ∧ Fr n0 L ∧ Keep h0 h [o0] ∧ AI Z h o0 .int 3 (a3_out0 gp gk) ∧ AI Z h o1 .int 3 gk
set_option maxRecDepth 65536 in
set_option maxHeartbeats 40000000 in
theorem rma3 (l : Launch) (Z : State) (a0 : Array Value) (hw : ∀ d ∈ tables_1, d.before a0 Z = true) (ws : List Jvm.Cond) (o0 : Addr) (o1 : Addr) (gp : Nat → Int32) (gk : Nat → Int32) (h0 : Heap) (n0 : Nat) (A_o0 : AI Z h0 o0 .int 3 gp) (A_o1 : AI Z h0 o1 .int 3 gk) (g_o0 : n0 ≤ o0) (ne_o0_o1 : o0 ≠ o1) :
    MetFree l (⟨"com/example/ratatoskr/ratatoskr/Choices", "advance", "([I[I)Z"⟩ : MethodName) (head1 (Jvm.Cond.code (⟨"com/example/ratatoskr/ratatoskr/Choices", "advance", "([I[I)Z"⟩ : MethodName) prog_5_method_3_code 3 (some .boolean) :: ws) ({ frames := 0, cells := 0, slots := 0, locals := 0 } : Room)) (fun a U => a = #[(.ref o0), (.ref o1)] ∧ Z.Warmed39 U.vm ∧ U.heap = h0) (fun _ _ _ _ _ => True) (fun _ U o U' => ∃ v L, o = .returned v ∧ Q_a3 Z o0 o1 gp gk h0 n0 v U'.heap L ∧ FrameEnd U o U' L ({ frames := 0, cells := 0, slots := 0, locals := 0 } : Room).cells ({ frames := 0, cells := 0, slots := 0, locals := 0 } : Room).slots) := by
  refine MetFree.of_bodySF (plainFor_of_name pn_3) hisR ?_
  intro p e s m args below meth c s₁ Bd hml0 hP hK
  obtain ⟨rfl, hZ, hh⟩ := hP
  have hx := Bd.exec
  have hby := Bd.bytes
  have hml : c.maxLocals = 3 := hml0
  have hown : s.vm.findClass "com/example/ratatoskr/ratatoskr/Choices" = some m.cls := findClass_of_methodNamed Bd.named
  have hnm := (name_of_methodNamed Bd.named Bd.method).1
  have hret := Bd.returns
  have hlk : meth.locks = false := BodyLoose.notSynchronized Bd
  have X0 : Stand p l e ({ frames := 0, cells := 0, slots := 0, locals := 0 } : Room) s m #[(.ref o0), (.ref o1)] below meth c s₁ [] 0 0 := Stand.of_body Bd
  have e0 : s₁.heap = h0 := by rw [← hh, Bd.state]; rfl
  have N0 := Fr.nil n0
  show Outs p e below s (Q_a3 Z o0 o1 gp gk h0 n0) _ _ _
  refine Outs.of (U' := s₁.setTop (mkF m 0 #[.val (.ref o0), .val (.ref o1), .unset] [])) (fun t k => castTop (ef_3 m o0 o1) k) ?_
  refine Outs.of (U' := s₁.setTop (mkF m 1 #[.val (.ref o0), .val (.ref o1), .unset] [(.ref o0)])) (fun t k => ?_) ?_
  · refine XS.aloadN X0.here hx rfl (hb hby d3_0) rfl rfl ?_
    exact k
  refine Outs.of (alen X0 hx hZ e0 A_o0 (z := (3 : Int32)) rfl (f := (mkF m 1 #[.val (.ref o0), .val (.ref o1), .unset] [(.ref o0)])) rfl rfl (hb hby d3_1)) ?_
  show Outs p e below s _ _ _ (s₁.setTop (mkF m 2 #[.val (.ref o0), .val (.ref o1), .unset] [(.int (3 : Int32))]))
  refine Outs.of (U' := s₁.setTop (mkF m 12 #[.val (.ref o0), .val (.ref o1), .val (.int (2 : Int32))] [(.int (2 : Int32)), (.ref o0), (.int (2 : Int32)), (.ref o0)])) (fun t k => ?_) ?_
  · refine XS.iconst X0.here hx rfl (hb hby d3_2) ?_
    refine XS.isub X0.here hx rfl (hb hby d3_3) rfl ?_
    refine XS.istoreN X0.here hx rfl (hb hby d3_4) rfl (l' := #[.val (.ref o0), .val (.ref o1), .val (.int (2 : Int32))]) rfl ?_
    refine XS.iloadN X0.here hx rfl (hb hby d3_5) rfl ?_
    refine XS.ifNo X0.here hx rfl (hb hby d3_6) rfl ((if0 _ _).trans (flt (by decide)).1) ?_
    refine XS.aloadN X0.here hx rfl (hb hby d3_9) rfl rfl ?_
    refine XS.iloadN X0.here hx rfl (hb hby d3_10) rfl ?_
    show Steps p.tables e below (s₁.setTop (mkF m 11 #[.val (.ref o0), .val (.ref o1), .val (.int (2 : Int32))] [(.int (2 : Int32)), (.ref o0)])) _
    jvm_step X0.here [X0.here.top, hx, (hb hby d3_11), Value.category]
    exact k
  refine Outs.of (ldI X0 hx hZ e0 A_o0 (j := (2 : Int32)) (k := 2) rfl (by decide) (f := (mkF m 12 #[.val (.ref o0), .val (.ref o1), .val (.int (2 : Int32))] [(.int (2 : Int32)), (.ref o0), (.int (2 : Int32)), (.ref o0)])) rfl rfl (hb hby d3_12)) ?_
  show Outs p e below s _ _ _ (s₁.setTop (mkF m 13 #[.val (.ref o0), .val (.ref o1), .val (.int (2 : Int32))] [(.int (gp 2)), (.int (2 : Int32)), (.ref o0)]))
  refine Outs.of (U' := s₁.setTop (mkF m 15 #[.val (.ref o0), .val (.ref o1), .val (.int (2 : Int32))] [(.int ((gp 2) + (1 : Int32))), (.int (2 : Int32)), (.ref o0)])) (fun t k => ?_) ?_
  · refine XS.iconst X0.here hx rfl (hb hby d3_13) ?_
    refine XS.iadd X0.here hx rfl (hb hby d3_14) rfl ?_
    exact k
  obtain ⟨T1, h1, X1, e1, W1, V1, st1⟩ := puI X0 hx hZ e0 A_o0 (j := (2 : Int32)) (x := ((gp 2) + (1 : Int32))) (k := 2) rfl (by decide) (f := (mkF m 15 #[.val (.ref o0), .val (.ref o1), .val (.int (2 : Int32))] [(.int ((gp 2) + (1 : Int32))), (.int (2 : Int32)), (.ref o0)])) rfl rfl (hb hby d3_15)
  replace V1 : AI Z h1 o0 .int 3 (a3_g15 gp gk) := V1
  have N1 := Fr.snoc X1 N0 g_o0
  obtain ⟨Lh1, X1, N1⟩ := hide X1 N1 (C := 0) (S := 0) (by decide) (by decide)
  refine Outs.of st1 ?_
  show Outs p e below s _ _ _ (T1.setTop (mkF m 16 #[.val (.ref o0), .val (.ref o1), .val (.int (2 : Int32))] []))
  refine Outs.of (U' := T1.setTop (mkF m 18 #[.val (.ref o0), .val (.ref o1), .val (.int (2 : Int32))] [(.int (2 : Int32)), (.ref o0)])) (fun t k => ?_) ?_
  · refine XS.aloadN X1.here hx rfl (hb hby d3_16) rfl rfl ?_
    refine XS.iloadN X1.here hx rfl (hb hby d3_17) rfl ?_
    exact k
  refine Outs.of (ldI X1 hx hZ e1 V1 (j := (2 : Int32)) (k := 2) rfl (by decide) (f := (mkF m 18 #[.val (.ref o0), .val (.ref o1), .val (.int (2 : Int32))] [(.int (2 : Int32)), (.ref o0)])) rfl rfl (hb hby d3_18)) ?_
  show Outs p e below s _ _ _ (T1.setTop (mkF m 19 #[.val (.ref o0), .val (.ref o1), .val (.int (2 : Int32))] [(.int ((a3_g15 gp gk) 2))]))
  refine Outs.of (U' := T1.setTop (mkF m 21 #[.val (.ref o0), .val (.ref o1), .val (.int (2 : Int32))] [(.int (2 : Int32)), (.ref o1), (.int ((a3_g15 gp gk) 2))])) (fun t k => ?_) ?_
  · refine XS.aloadN X1.here hx rfl (hb hby d3_19) rfl rfl ?_
    refine XS.iloadN X1.here hx rfl (hb hby d3_20) rfl ?_
    exact k
  have f2 : AI Z h1 o1 .int 3 gk := (A_o1.other W1 ne_o0_o1.symm)
  refine Outs.of (ldI X1 hx hZ e1 f2 (j := (2 : Int32)) (k := 2) rfl (by decide) (f := (mkF m 21 #[.val (.ref o0), .val (.ref o1), .val (.int (2 : Int32))] [(.int (2 : Int32)), (.ref o1), (.int ((a3_g15 gp gk) 2))])) rfl rfl (hb hby d3_21)) ?_
  show Outs p e below s _ _ _ (T1.setTop (mkF m 22 #[.val (.ref o0), .val (.ref o1), .val (.int (2 : Int32))] [(.int (gk 2)), (.int ((a3_g15 gp gk) 2))]))
  by_cases hc22 : ((a3_g15 gp gk) 2) < (gk 2)
  · refine Outs.of (U' := T1.setTop (mkF m 25 #[.val (.ref o0), .val (.ref o1), .val (.int (2 : Int32))] [])) (fun t k => ?_) ?_
    · refine XS.icmpNo X1.here hx rfl (hb hby d3_22) rfl (tlt hc22).2.1 ?_
      exact k
    refine Outs.of (U' := T1.setTop (mkF m 26 #[.val (.ref o0), .val (.ref o1), .val (.int (2 : Int32))] [(.int (1 : Int32))])) (fun t k => ?_) ?_
    · refine XS.iconst X1.here hx rfl (hb hby d3_25) ?_
      exact k
    exact Outs.retN (t := .boolean) (z := (1 : Int32)) X1 hx hret (by simp) (hb hby d3_26) hlk (by decide) (by decide) e1 ⟨congrArg (fun z_ => some (Value.int z_)) (show (F_a3 gp gk) = (1 : Int32) from (if_pos hc22)).symm, N1, ((Keep.refl h0 [o0]).wr W1 (Or.inl (List.mem_of_getElem? (i := 0) rfl))), (by rw [show (a3_out0 gp gk) = (a3_g15 gp gk) from (if_pos hc22)]; exact V1), f2⟩
  · refine Outs.of (U' := T1.setTop (mkF m 27 #[.val (.ref o0), .val (.ref o1), .val (.int (2 : Int32))] [])) (fun t k => ?_) ?_
    · refine XS.icmpYes X1.here hx rfl (pc0 := 22) (pc' := 27) rfl (hb hby d3_22) rfl (flt hc22).2.1 (by decide) (by decide) ?_
      exact k
    refine Outs.of (U' := T1.setTop (mkF m 30 #[.val (.ref o0), .val (.ref o1), .val (.int (2 : Int32))] [(.int (0 : Int32)), (.int (2 : Int32)), (.ref o0)])) (fun t k => ?_) ?_
    · refine XS.aloadN X1.here hx rfl (hb hby d3_27) rfl rfl ?_
      refine XS.iloadN X1.here hx rfl (hb hby d3_28) rfl ?_
      refine XS.iconst X1.here hx rfl (hb hby d3_29) ?_
      exact k
    obtain ⟨T3, h3, X3, e3, W3, V3, st3⟩ := puI X1 hx hZ e1 V1 (j := (2 : Int32)) (x := (0 : Int32)) (k := 2) rfl (by decide) (f := (mkF m 30 #[.val (.ref o0), .val (.ref o1), .val (.int (2 : Int32))] [(.int (0 : Int32)), (.int (2 : Int32)), (.ref o0)])) rfl rfl (hb hby d3_30)
    replace V3 : AI Z h3 o0 .int 3 (a3_g30 gp gk) := V3
    have N3 := Fr.snoc X3 N1 g_o0
    obtain ⟨Lh3, X3, N3⟩ := hide X3 N3 (C := 0) (S := 0) (by decide) (by decide)
    refine Outs.of st3 ?_
    show Outs p e below s _ _ _ (T3.setTop (mkF m 31 #[.val (.ref o0), .val (.ref o1), .val (.int (2 : Int32))] []))
    refine Outs.of (U' := T3.setTop (mkF m 12 #[.val (.ref o0), .val (.ref o1), .val (.int (1 : Int32))] [(.int (1 : Int32)), (.ref o0), (.int (1 : Int32)), (.ref o0)])) (fun t k => ?_) ?_
    · refine XS.iinc X3.here hx rfl (hb hby d3_31) rfl (l' := #[.val (.ref o0), .val (.ref o1), .val (.int (1 : Int32))]) rfl ?_
      refine XS.goto X3.here hx rfl (pc0 := 34) (pc' := 5) rfl (hb hby d3_34) (by decide) (by decide) ?_
      refine XS.iloadN X3.here hx rfl (hb hby d3_5) rfl ?_
      refine XS.ifNo X3.here hx rfl (hb hby d3_6) rfl ((if0 _ _).trans (flt (by decide)).1) ?_
      refine XS.aloadN X3.here hx rfl (hb hby d3_9) rfl rfl ?_
      refine XS.iloadN X3.here hx rfl (hb hby d3_10) rfl ?_
      show Steps p.tables e below (T3.setTop (mkF m 11 #[.val (.ref o0), .val (.ref o1), .val (.int (1 : Int32))] [(.int (1 : Int32)), (.ref o0)])) _
      jvm_step X3.here [X3.here.top, hx, (hb hby d3_11), Value.category]
      exact k
    refine Outs.of (ldI X3 hx hZ e3 V3 (j := (1 : Int32)) (k := 1) rfl (by decide) (f := (mkF m 12 #[.val (.ref o0), .val (.ref o1), .val (.int (1 : Int32))] [(.int (1 : Int32)), (.ref o0), (.int (1 : Int32)), (.ref o0)])) rfl rfl (hb hby d3_12)) ?_
    show Outs p e below s _ _ _ (T3.setTop (mkF m 13 #[.val (.ref o0), .val (.ref o1), .val (.int (1 : Int32))] [(.int ((a3_g30 gp gk) 1)), (.int (1 : Int32)), (.ref o0)]))
    refine Outs.of (U' := T3.setTop (mkF m 15 #[.val (.ref o0), .val (.ref o1), .val (.int (1 : Int32))] [(.int (((a3_g30 gp gk) 1) + (1 : Int32))), (.int (1 : Int32)), (.ref o0)])) (fun t k => ?_) ?_
    · refine XS.iconst X3.here hx rfl (hb hby d3_13) ?_
      refine XS.iadd X3.here hx rfl (hb hby d3_14) rfl ?_
      exact k
    obtain ⟨T4, h4, X4, e4, W4, V4, st4⟩ := puI X3 hx hZ e3 V3 (j := (1 : Int32)) (x := (((a3_g30 gp gk) 1) + (1 : Int32))) (k := 1) rfl (by decide) (f := (mkF m 15 #[.val (.ref o0), .val (.ref o1), .val (.int (1 : Int32))] [(.int (((a3_g30 gp gk) 1) + (1 : Int32))), (.int (1 : Int32)), (.ref o0)])) rfl rfl (hb hby d3_15)
    replace V4 : AI Z h4 o0 .int 3 (a3_g15a gp gk) := V4
    have N4 := Fr.snoc X4 N3 g_o0
    obtain ⟨Lh4, X4, N4⟩ := hide X4 N4 (C := 0) (S := 0) (by decide) (by decide)
    refine Outs.of st4 ?_
    show Outs p e below s _ _ _ (T4.setTop (mkF m 16 #[.val (.ref o0), .val (.ref o1), .val (.int (1 : Int32))] []))
    refine Outs.of (U' := T4.setTop (mkF m 18 #[.val (.ref o0), .val (.ref o1), .val (.int (1 : Int32))] [(.int (1 : Int32)), (.ref o0)])) (fun t k => ?_) ?_
    · refine XS.aloadN X4.here hx rfl (hb hby d3_16) rfl rfl ?_
      refine XS.iloadN X4.here hx rfl (hb hby d3_17) rfl ?_
      exact k
    refine Outs.of (ldI X4 hx hZ e4 V4 (j := (1 : Int32)) (k := 1) rfl (by decide) (f := (mkF m 18 #[.val (.ref o0), .val (.ref o1), .val (.int (1 : Int32))] [(.int (1 : Int32)), (.ref o0)])) rfl rfl (hb hby d3_18)) ?_
    show Outs p e below s _ _ _ (T4.setTop (mkF m 19 #[.val (.ref o0), .val (.ref o1), .val (.int (1 : Int32))] [(.int ((a3_g15a gp gk) 1))]))
    refine Outs.of (U' := T4.setTop (mkF m 21 #[.val (.ref o0), .val (.ref o1), .val (.int (1 : Int32))] [(.int (1 : Int32)), (.ref o1), (.int ((a3_g15a gp gk) 1))])) (fun t k => ?_) ?_
    · refine XS.aloadN X4.here hx rfl (hb hby d3_19) rfl rfl ?_
      refine XS.iloadN X4.here hx rfl (hb hby d3_20) rfl ?_
      exact k
    have f5 : AI Z h4 o1 .int 3 gk := ((f2.other W3 ne_o0_o1.symm).other W4 ne_o0_o1.symm)
    refine Outs.of (ldI X4 hx hZ e4 f5 (j := (1 : Int32)) (k := 1) rfl (by decide) (f := (mkF m 21 #[.val (.ref o0), .val (.ref o1), .val (.int (1 : Int32))] [(.int (1 : Int32)), (.ref o1), (.int ((a3_g15a gp gk) 1))])) rfl rfl (hb hby d3_21)) ?_
    show Outs p e below s _ _ _ (T4.setTop (mkF m 22 #[.val (.ref o0), .val (.ref o1), .val (.int (1 : Int32))] [(.int (gk 1)), (.int ((a3_g15a gp gk) 1))]))
    by_cases hc22_6 : ((a3_g15a gp gk) 1) < (gk 1)
    · refine Outs.of (U' := T4.setTop (mkF m 25 #[.val (.ref o0), .val (.ref o1), .val (.int (1 : Int32))] [])) (fun t k => ?_) ?_
      · refine XS.icmpNo X4.here hx rfl (hb hby d3_22) rfl (tlt hc22_6).2.1 ?_
        exact k
      refine Outs.of (U' := T4.setTop (mkF m 26 #[.val (.ref o0), .val (.ref o1), .val (.int (1 : Int32))] [(.int (1 : Int32))])) (fun t k => ?_) ?_
      · refine XS.iconst X4.here hx rfl (hb hby d3_25) ?_
        exact k
      exact Outs.retN (t := .boolean) (z := (1 : Int32)) X4 hx hret (by simp) (hb hby d3_26) hlk (by decide) (by decide) e4 ⟨congrArg (fun z_ => some (Value.int z_)) (show (F_a3 gp gk) = (1 : Int32) from ((if_neg hc22).trans (if_pos hc22_6))).symm, N4, ((((Keep.refl h0 [o0]).wr W1 (Or.inl (List.mem_of_getElem? (i := 0) rfl))).wr W3 (Or.inl (List.mem_of_getElem? (i := 0) rfl))).wr W4 (Or.inl (List.mem_of_getElem? (i := 0) rfl))), (by rw [show (a3_out0 gp gk) = (a3_g15a gp gk) from ((if_neg hc22).trans (if_pos hc22_6))]; exact V4), f5⟩
    · refine Outs.of (U' := T4.setTop (mkF m 27 #[.val (.ref o0), .val (.ref o1), .val (.int (1 : Int32))] [])) (fun t k => ?_) ?_
      · refine XS.icmpYes X4.here hx rfl (pc0 := 22) (pc' := 27) rfl (hb hby d3_22) rfl (flt hc22_6).2.1 (by decide) (by decide) ?_
        exact k
      refine Outs.of (U' := T4.setTop (mkF m 30 #[.val (.ref o0), .val (.ref o1), .val (.int (1 : Int32))] [(.int (0 : Int32)), (.int (1 : Int32)), (.ref o0)])) (fun t k => ?_) ?_
      · refine XS.aloadN X4.here hx rfl (hb hby d3_27) rfl rfl ?_
        refine XS.iloadN X4.here hx rfl (hb hby d3_28) rfl ?_
        refine XS.iconst X4.here hx rfl (hb hby d3_29) ?_
        exact k
      obtain ⟨T7, h7, X7, e7, W7, V7, st7⟩ := puI X4 hx hZ e4 V4 (j := (1 : Int32)) (x := (0 : Int32)) (k := 1) rfl (by decide) (f := (mkF m 30 #[.val (.ref o0), .val (.ref o1), .val (.int (1 : Int32))] [(.int (0 : Int32)), (.int (1 : Int32)), (.ref o0)])) rfl rfl (hb hby d3_30)
      replace V7 : AI Z h7 o0 .int 3 (a3_g30a gp gk) := V7
      have N7 := Fr.snoc X7 N4 g_o0
      obtain ⟨Lh7, X7, N7⟩ := hide X7 N7 (C := 0) (S := 0) (by decide) (by decide)
      refine Outs.of st7 ?_
      show Outs p e below s _ _ _ (T7.setTop (mkF m 31 #[.val (.ref o0), .val (.ref o1), .val (.int (1 : Int32))] []))
      refine Outs.of (U' := T7.setTop (mkF m 12 #[.val (.ref o0), .val (.ref o1), .val (.int (0 : Int32))] [(.int (0 : Int32)), (.ref o0), (.int (0 : Int32)), (.ref o0)])) (fun t k => ?_) ?_
      · refine XS.iinc X7.here hx rfl (hb hby d3_31) rfl (l' := #[.val (.ref o0), .val (.ref o1), .val (.int (0 : Int32))]) rfl ?_
        refine XS.goto X7.here hx rfl (pc0 := 34) (pc' := 5) rfl (hb hby d3_34) (by decide) (by decide) ?_
        refine XS.iloadN X7.here hx rfl (hb hby d3_5) rfl ?_
        refine XS.ifNo X7.here hx rfl (hb hby d3_6) rfl ((if0 _ _).trans (flt (by decide)).1) ?_
        refine XS.aloadN X7.here hx rfl (hb hby d3_9) rfl rfl ?_
        refine XS.iloadN X7.here hx rfl (hb hby d3_10) rfl ?_
        show Steps p.tables e below (T7.setTop (mkF m 11 #[.val (.ref o0), .val (.ref o1), .val (.int (0 : Int32))] [(.int (0 : Int32)), (.ref o0)])) _
        jvm_step X7.here [X7.here.top, hx, (hb hby d3_11), Value.category]
        exact k
      refine Outs.of (ldI X7 hx hZ e7 V7 (j := (0 : Int32)) (k := 0) rfl (by decide) (f := (mkF m 12 #[.val (.ref o0), .val (.ref o1), .val (.int (0 : Int32))] [(.int (0 : Int32)), (.ref o0), (.int (0 : Int32)), (.ref o0)])) rfl rfl (hb hby d3_12)) ?_
      show Outs p e below s _ _ _ (T7.setTop (mkF m 13 #[.val (.ref o0), .val (.ref o1), .val (.int (0 : Int32))] [(.int ((a3_g30a gp gk) 0)), (.int (0 : Int32)), (.ref o0)]))
      refine Outs.of (U' := T7.setTop (mkF m 15 #[.val (.ref o0), .val (.ref o1), .val (.int (0 : Int32))] [(.int (((a3_g30a gp gk) 0) + (1 : Int32))), (.int (0 : Int32)), (.ref o0)])) (fun t k => ?_) ?_
      · refine XS.iconst X7.here hx rfl (hb hby d3_13) ?_
        refine XS.iadd X7.here hx rfl (hb hby d3_14) rfl ?_
        exact k
      obtain ⟨T8, h8, X8, e8, W8, V8, st8⟩ := puI X7 hx hZ e7 V7 (j := (0 : Int32)) (x := (((a3_g30a gp gk) 0) + (1 : Int32))) (k := 0) rfl (by decide) (f := (mkF m 15 #[.val (.ref o0), .val (.ref o1), .val (.int (0 : Int32))] [(.int (((a3_g30a gp gk) 0) + (1 : Int32))), (.int (0 : Int32)), (.ref o0)])) rfl rfl (hb hby d3_15)
      replace V8 : AI Z h8 o0 .int 3 (a3_g15b gp gk) := V8
      have N8 := Fr.snoc X8 N7 g_o0
      obtain ⟨Lh8, X8, N8⟩ := hide X8 N8 (C := 0) (S := 0) (by decide) (by decide)
      refine Outs.of st8 ?_
      show Outs p e below s _ _ _ (T8.setTop (mkF m 16 #[.val (.ref o0), .val (.ref o1), .val (.int (0 : Int32))] []))
      refine Outs.of (U' := T8.setTop (mkF m 18 #[.val (.ref o0), .val (.ref o1), .val (.int (0 : Int32))] [(.int (0 : Int32)), (.ref o0)])) (fun t k => ?_) ?_
      · refine XS.aloadN X8.here hx rfl (hb hby d3_16) rfl rfl ?_
        refine XS.iloadN X8.here hx rfl (hb hby d3_17) rfl ?_
        exact k
      refine Outs.of (ldI X8 hx hZ e8 V8 (j := (0 : Int32)) (k := 0) rfl (by decide) (f := (mkF m 18 #[.val (.ref o0), .val (.ref o1), .val (.int (0 : Int32))] [(.int (0 : Int32)), (.ref o0)])) rfl rfl (hb hby d3_18)) ?_
      show Outs p e below s _ _ _ (T8.setTop (mkF m 19 #[.val (.ref o0), .val (.ref o1), .val (.int (0 : Int32))] [(.int ((a3_g15b gp gk) 0))]))
      refine Outs.of (U' := T8.setTop (mkF m 21 #[.val (.ref o0), .val (.ref o1), .val (.int (0 : Int32))] [(.int (0 : Int32)), (.ref o1), (.int ((a3_g15b gp gk) 0))])) (fun t k => ?_) ?_
      · refine XS.aloadN X8.here hx rfl (hb hby d3_19) rfl rfl ?_
        refine XS.iloadN X8.here hx rfl (hb hby d3_20) rfl ?_
        exact k
      have f9 : AI Z h8 o1 .int 3 gk := ((f5.other W7 ne_o0_o1.symm).other W8 ne_o0_o1.symm)
      refine Outs.of (ldI X8 hx hZ e8 f9 (j := (0 : Int32)) (k := 0) rfl (by decide) (f := (mkF m 21 #[.val (.ref o0), .val (.ref o1), .val (.int (0 : Int32))] [(.int (0 : Int32)), (.ref o1), (.int ((a3_g15b gp gk) 0))])) rfl rfl (hb hby d3_21)) ?_
      show Outs p e below s _ _ _ (T8.setTop (mkF m 22 #[.val (.ref o0), .val (.ref o1), .val (.int (0 : Int32))] [(.int (gk 0)), (.int ((a3_g15b gp gk) 0))]))
      by_cases hc22_10 : ((a3_g15b gp gk) 0) < (gk 0)
      · refine Outs.of (U' := T8.setTop (mkF m 25 #[.val (.ref o0), .val (.ref o1), .val (.int (0 : Int32))] [])) (fun t k => ?_) ?_
        · refine XS.icmpNo X8.here hx rfl (hb hby d3_22) rfl (tlt hc22_10).2.1 ?_
          exact k
        refine Outs.of (U' := T8.setTop (mkF m 26 #[.val (.ref o0), .val (.ref o1), .val (.int (0 : Int32))] [(.int (1 : Int32))])) (fun t k => ?_) ?_
        · refine XS.iconst X8.here hx rfl (hb hby d3_25) ?_
          exact k
        exact Outs.retN (t := .boolean) (z := (1 : Int32)) X8 hx hret (by simp) (hb hby d3_26) hlk (by decide) (by decide) e8 ⟨congrArg (fun z_ => some (Value.int z_)) (show (F_a3 gp gk) = (1 : Int32) from ((if_neg hc22).trans ((if_neg hc22_6).trans (if_pos hc22_10)))).symm, N8, ((((((Keep.refl h0 [o0]).wr W1 (Or.inl (List.mem_of_getElem? (i := 0) rfl))).wr W3 (Or.inl (List.mem_of_getElem? (i := 0) rfl))).wr W4 (Or.inl (List.mem_of_getElem? (i := 0) rfl))).wr W7 (Or.inl (List.mem_of_getElem? (i := 0) rfl))).wr W8 (Or.inl (List.mem_of_getElem? (i := 0) rfl))), (by rw [show (a3_out0 gp gk) = (a3_g15b gp gk) from ((if_neg hc22).trans ((if_neg hc22_6).trans (if_pos hc22_10)))]; exact V8), f9⟩
      · refine Outs.of (U' := T8.setTop (mkF m 27 #[.val (.ref o0), .val (.ref o1), .val (.int (0 : Int32))] [])) (fun t k => ?_) ?_
        · refine XS.icmpYes X8.here hx rfl (pc0 := 22) (pc' := 27) rfl (hb hby d3_22) rfl (flt hc22_10).2.1 (by decide) (by decide) ?_
          exact k
        refine Outs.of (U' := T8.setTop (mkF m 30 #[.val (.ref o0), .val (.ref o1), .val (.int (0 : Int32))] [(.int (0 : Int32)), (.int (0 : Int32)), (.ref o0)])) (fun t k => ?_) ?_
        · refine XS.aloadN X8.here hx rfl (hb hby d3_27) rfl rfl ?_
          refine XS.iloadN X8.here hx rfl (hb hby d3_28) rfl ?_
          refine XS.iconst X8.here hx rfl (hb hby d3_29) ?_
          exact k
        obtain ⟨T11, h11, X11, e11, W11, V11, st11⟩ := puI X8 hx hZ e8 V8 (j := (0 : Int32)) (x := (0 : Int32)) (k := 0) rfl (by decide) (f := (mkF m 30 #[.val (.ref o0), .val (.ref o1), .val (.int (0 : Int32))] [(.int (0 : Int32)), (.int (0 : Int32)), (.ref o0)])) rfl rfl (hb hby d3_30)
        replace V11 : AI Z h11 o0 .int 3 (a3_g30b gp gk) := V11
        have N11 := Fr.snoc X11 N8 g_o0
        obtain ⟨Lh11, X11, N11⟩ := hide X11 N11 (C := 0) (S := 0) (by decide) (by decide)
        refine Outs.of st11 ?_
        show Outs p e below s _ _ _ (T11.setTop (mkF m 31 #[.val (.ref o0), .val (.ref o1), .val (.int (0 : Int32))] []))
        refine Outs.of (U' := T11.setTop (mkF m 38 #[.val (.ref o0), .val (.ref o1), .val (.int (-1 : Int32))] [(.int (0 : Int32))])) (fun t k => ?_) ?_
        · refine XS.iinc X11.here hx rfl (hb hby d3_31) rfl (l' := #[.val (.ref o0), .val (.ref o1), .val (.int (-1 : Int32))]) rfl ?_
          refine XS.goto X11.here hx rfl (pc0 := 34) (pc' := 5) rfl (hb hby d3_34) (by decide) (by decide) ?_
          refine XS.iloadN X11.here hx rfl (hb hby d3_5) rfl ?_
          refine XS.ifYes X11.here hx rfl (pc0 := 6) (pc' := 37) rfl (hb hby d3_6) rfl ((if0 _ _).trans (tlt (by decide)).1) (by decide) (by decide) ?_
          refine XS.iconst X11.here hx rfl (hb hby d3_37) ?_
          exact k
        have f12 : AI Z h11 o1 .int 3 gk := (f9.other W11 ne_o0_o1.symm)
        exact Outs.retN (t := .boolean) (z := (0 : Int32)) X11 hx hret (by simp) (hb hby d3_38) hlk (by decide) (by decide) e11 ⟨congrArg (fun z_ => some (Value.int z_)) (show (F_a3 gp gk) = (0 : Int32) from ((if_neg hc22).trans ((if_neg hc22_6).trans (if_neg hc22_10)))).symm, N11, (((((((Keep.refl h0 [o0]).wr W1 (Or.inl (List.mem_of_getElem? (i := 0) rfl))).wr W3 (Or.inl (List.mem_of_getElem? (i := 0) rfl))).wr W4 (Or.inl (List.mem_of_getElem? (i := 0) rfl))).wr W7 (Or.inl (List.mem_of_getElem? (i := 0) rfl))).wr W8 (Or.inl (List.mem_of_getElem? (i := 0) rfl))).wr W11 (Or.inl (List.mem_of_getElem? (i := 0) rfl))), (by rw [show (a3_out0 gp gk) = (a3_g30b gp gk) from ((if_neg hc22).trans ((if_neg hc22_6).trans (if_neg hc22_10)))]; exact V11), f12⟩
def k3_0_34_s0 (gp : Nat → Int32) (gk : Nat → Int32) (gc : Nat → Int32) : Int32 := (if (gp 0) < (gc 0) then (1 : Int32) else (0 : Int32))
def F_k3_0 (gp : Nat → Int32) (gk : Nat → Int32) (gc : Nat → Int32) : Int32 := (if (gk 0) = (gc 0) then (if (gp 0) < (0 : Int32) then (0 : Int32) else (nar .boolean (k3_0_34_s0 gp gk gc))) else (0 : Int32))
set_option maxRecDepth 65536 in
set_option maxHeartbeats 40000000 in
theorem rmk3_0 (l : Launch) (Z : State) (a0 : Array Value) (hw : ∀ d ∈ tables_1, d.before a0 Z = true) (ws : List Jvm.Cond) (o0 : Addr) (o1 : Addr) (o2 : Addr) (gp : Nat → Int32) (gk : Nat → Int32) (gc : Nat → Int32) (h0 : Heap) (n0 : Nat) (A_o0 : AI Z h0 o0 .int 3 gp) (A_o1 : AI Z h0 o1 .int 3 gk) (A_o2 : AI Z h0 o2 .int 4 gc) :
    MetFree l (⟨"com/example/ratatoskr/ratatoskr/ChoicesAdvancePinLaw", "ok", "([I[I[III)Z"⟩ : MethodName) (head1 (Jvm.Cond.code (⟨"com/example/ratatoskr/ratatoskr/ChoicesAdvancePinLaw", "ok", "([I[I[III)Z"⟩ : MethodName) method_4_code 5 (some .boolean) :: ws) ({ frames := 0, cells := 0, slots := 0, locals := 0 } : Room)) (fun a U => a = #[(.ref o0), (.ref o1), (.ref o2), (.int (3 : Int32)), (.int (0 : Int32))] ∧ Z.Warmed39 U.vm ∧ U.heap = h0) (fun _ _ _ _ _ => True) (fun _ U o U' => ∃ v L, o = .returned v ∧ QR (some (.int (F_k3_0 gp gk gc))) h0 n0 v U'.heap L ∧ FrameEnd U o U' L ({ frames := 0, cells := 0, slots := 0, locals := 0 } : Room).cells ({ frames := 0, cells := 0, slots := 0, locals := 0 } : Room).slots) := by
  refine MetFree.of_bodySF (plainFor_of_name pn_0) hisR ?_
  intro p e s m args below meth c s₁ Bd hml0 hP hK
  obtain ⟨rfl, hZ, hh⟩ := hP
  have hx := Bd.exec
  have hby := Bd.bytes
  have hml : c.maxLocals = 5 := hml0
  have hown : s.vm.findClass "com/example/ratatoskr/ratatoskr/ChoicesAdvancePinLaw" = some m.cls := findClass_of_methodNamed Bd.named
  have hnm := (name_of_methodNamed Bd.named Bd.method).1
  have hret := Bd.returns
  have hlk : meth.locks = false := BodyLoose.notSynchronized Bd
  have X0 : Stand p l e ({ frames := 0, cells := 0, slots := 0, locals := 0 } : Room) s m #[(.ref o0), (.ref o1), (.ref o2), (.int (3 : Int32)), (.int (0 : Int32))] below meth c s₁ [] 0 0 := Stand.of_body Bd
  have e0 : s₁.heap = h0 := by rw [← hh, Bd.state]; rfl
  have N0 := Fr.nil n0
  show Outs p e below s (QR (some (.int (F_k3_0 gp gk gc))) h0 n0) _ _ _
  refine Outs.of (U' := s₁.setTop (mkF m 0 #[.val (.ref o0), .val (.ref o1), .val (.ref o2), .val (.int (3 : Int32)), .val (.int (0 : Int32))] [])) (fun t k => castTop (ef_4 m o0 o1 o2 (3 : Int32) (0 : Int32)) k) ?_
  refine Outs.of (U' := s₁.setTop (mkF m 11 #[.val (.ref o0), .val (.ref o1), .val (.ref o2), .val (.int (3 : Int32)), .val (.int (0 : Int32))] [(.int (0 : Int32)), (.ref o1)])) (fun t k => ?_) ?_
  · refine XS.iload X0.here hx rfl (hb hby d4_0) rfl ?_
    refine XS.iloadN X0.here hx rfl (hb hby d4_2) rfl ?_
    refine XS.icmpYes X0.here hx rfl (pc0 := 3) (pc' := 8) rfl (hb hby d4_3) rfl (tlt (by decide)).1 (by decide) (by decide) ?_
    refine XS.aloadN X0.here hx rfl (hb hby d4_8) rfl rfl ?_
    refine XS.iload X0.here hx rfl (hb hby d4_9) rfl ?_
    exact k
  refine Outs.of (ldI X0 hx hZ e0 A_o1 (j := (0 : Int32)) (k := 0) rfl (by decide) (f := (mkF m 11 #[.val (.ref o0), .val (.ref o1), .val (.ref o2), .val (.int (3 : Int32)), .val (.int (0 : Int32))] [(.int (0 : Int32)), (.ref o1)])) rfl rfl (hb hby d4_11)) ?_
  show Outs p e below s _ _ _ (s₁.setTop (mkF m 12 #[.val (.ref o0), .val (.ref o1), .val (.ref o2), .val (.int (3 : Int32)), .val (.int (0 : Int32))] [(.int (gk 0))]))
  refine Outs.of (U' := s₁.setTop (mkF m 15 #[.val (.ref o0), .val (.ref o1), .val (.ref o2), .val (.int (3 : Int32)), .val (.int (0 : Int32))] [(.int (0 : Int32)), (.ref o2), (.int (gk 0))])) (fun t k => ?_) ?_
  · refine XS.aloadN X0.here hx rfl (hb hby d4_12) rfl rfl ?_
    refine XS.iload X0.here hx rfl (hb hby d4_13) rfl ?_
    exact k
  refine Outs.of (ldI X0 hx hZ e0 A_o2 (j := (0 : Int32)) (k := 0) rfl (by decide) (f := (mkF m 15 #[.val (.ref o0), .val (.ref o1), .val (.ref o2), .val (.int (3 : Int32)), .val (.int (0 : Int32))] [(.int (0 : Int32)), (.ref o2), (.int (gk 0))])) rfl rfl (hb hby d4_15)) ?_
  show Outs p e below s _ _ _ (s₁.setTop (mkF m 16 #[.val (.ref o0), .val (.ref o1), .val (.ref o2), .val (.int (3 : Int32)), .val (.int (0 : Int32))] [(.int (gc 0)), (.int (gk 0))]))
  by_cases hc16 : (gk 0) = (gc 0)
  · refine Outs.of (U' := s₁.setTop (mkF m 19 #[.val (.ref o0), .val (.ref o1), .val (.ref o2), .val (.int (3 : Int32)), .val (.int (0 : Int32))] [])) (fun t k => ?_) ?_
    · refine XS.icmpNo X0.here hx rfl (hb hby d4_16) rfl (teq hc16).2 ?_
      exact k
    refine Outs.of (U' := s₁.setTop (mkF m 22 #[.val (.ref o0), .val (.ref o1), .val (.ref o2), .val (.int (3 : Int32)), .val (.int (0 : Int32))] [(.int (0 : Int32)), (.ref o0)])) (fun t k => ?_) ?_
    · refine XS.aloadN X0.here hx rfl (hb hby d4_19) rfl rfl ?_
      refine XS.iload X0.here hx rfl (hb hby d4_20) rfl ?_
      exact k
    refine Outs.of (ldI X0 hx hZ e0 A_o0 (j := (0 : Int32)) (k := 0) rfl (by decide) (f := (mkF m 22 #[.val (.ref o0), .val (.ref o1), .val (.ref o2), .val (.int (3 : Int32)), .val (.int (0 : Int32))] [(.int (0 : Int32)), (.ref o0)])) rfl rfl (hb hby d4_22)) ?_
    show Outs p e below s _ _ _ (s₁.setTop (mkF m 23 #[.val (.ref o0), .val (.ref o1), .val (.ref o2), .val (.int (3 : Int32)), .val (.int (0 : Int32))] [(.int (gp 0))]))
    by_cases hc23 : (gp 0) < (0 : Int32)
    · refine Outs.of (U' := s₁.setTop (mkF m 41 #[.val (.ref o0), .val (.ref o1), .val (.ref o2), .val (.int (3 : Int32)), .val (.int (0 : Int32))] [])) (fun t k => ?_) ?_
      · refine XS.ifYes X0.here hx rfl (pc0 := 23) (pc' := 41) rfl (hb hby d4_23) rfl ((if0 _ _).trans (tlt hc23).1) (by decide) (by decide) ?_
        exact k
      refine Outs.of (U' := s₁.setTop (mkF m 42 #[.val (.ref o0), .val (.ref o1), .val (.ref o2), .val (.int (3 : Int32)), .val (.int (0 : Int32))] [(.int (0 : Int32))])) (fun t k => ?_) ?_
      · refine XS.iconst X0.here hx rfl (hb hby d4_41) ?_
        exact k
      exact Outs.retN (t := .boolean) (z := (0 : Int32)) X0 hx hret (by simp) (hb hby d4_42) hlk (by decide) (by decide) e0 ⟨congrArg (fun z_ => some (Value.int z_)) (show (F_k3_0 gp gk gc) = (0 : Int32) from ((if_pos hc16).trans (if_pos hc23))).symm, N0, rfl⟩
    · refine Outs.of (U' := s₁.setTop (mkF m 26 #[.val (.ref o0), .val (.ref o1), .val (.ref o2), .val (.int (3 : Int32)), .val (.int (0 : Int32))] [])) (fun t k => ?_) ?_
      · refine XS.ifNo X0.here hx rfl (hb hby d4_23) rfl ((if0 _ _).trans (flt hc23).1) ?_
        exact k
      refine Outs.of (U' := s₁.setTop (mkF m 29 #[.val (.ref o0), .val (.ref o1), .val (.ref o2), .val (.int (3 : Int32)), .val (.int (0 : Int32))] [(.int (0 : Int32)), (.ref o0)])) (fun t k => ?_) ?_
      · refine XS.aloadN X0.here hx rfl (hb hby d4_26) rfl rfl ?_
        refine XS.iload X0.here hx rfl (hb hby d4_27) rfl ?_
        exact k
      refine Outs.of (ldI X0 hx hZ e0 A_o0 (j := (0 : Int32)) (k := 0) rfl (by decide) (f := (mkF m 29 #[.val (.ref o0), .val (.ref o1), .val (.ref o2), .val (.int (3 : Int32)), .val (.int (0 : Int32))] [(.int (0 : Int32)), (.ref o0)])) rfl rfl (hb hby d4_29)) ?_
      show Outs p e below s _ _ _ (s₁.setTop (mkF m 30 #[.val (.ref o0), .val (.ref o1), .val (.ref o2), .val (.int (3 : Int32)), .val (.int (0 : Int32))] [(.int (gp 0))]))
      refine Outs.of (U' := s₁.setTop (mkF m 33 #[.val (.ref o0), .val (.ref o1), .val (.ref o2), .val (.int (3 : Int32)), .val (.int (0 : Int32))] [(.int (0 : Int32)), (.ref o2), (.int (gp 0))])) (fun t k => ?_) ?_
      · refine XS.aloadN X0.here hx rfl (hb hby d4_30) rfl rfl ?_
        refine XS.iload X0.here hx rfl (hb hby d4_31) rfl ?_
        exact k
      refine Outs.of (ldI X0 hx hZ e0 A_o2 (j := (0 : Int32)) (k := 0) rfl (by decide) (f := (mkF m 33 #[.val (.ref o0), .val (.ref o1), .val (.ref o2), .val (.int (3 : Int32)), .val (.int (0 : Int32))] [(.int (0 : Int32)), (.ref o2), (.int (gp 0))])) rfl rfl (hb hby d4_33)) ?_
      show Outs p e below s _ _ _ (s₁.setTop (mkF m 34 #[.val (.ref o0), .val (.ref o1), .val (.ref o2), .val (.int (3 : Int32)), .val (.int (0 : Int32))] [(.int (gc 0)), (.int (gp 0))]))
      refine Outs.of (U' := s₁.setTop (mkF m 42 #[.val (.ref o0), .val (.ref o1), .val (.ref o2), .val (.int (3 : Int32)), .val (.int (0 : Int32))] [(.int (k3_0_34_s0 gp gk gc))])) (fun t k => ?_) ?_
      · by_cases hc34 : (gp 0) < (gc 0)
        · refine XS.icmpNo X0.here hx rfl (hb hby d4_34) rfl (tlt hc34).2.1 ?_
          refine XS.iconst X0.here hx rfl (hb hby d4_37) ?_
          refine XS.goto X0.here hx rfl (pc0 := 38) (pc' := 42) rfl (hb hby d4_38) (by decide) (by decide) ?_
          rw [show (k3_0_34_s0 gp gk gc) = (1 : Int32) from (if_pos hc34)] at k
          exact k
        · refine XS.icmpYes X0.here hx rfl (pc0 := 34) (pc' := 41) rfl (hb hby d4_34) rfl (flt hc34).2.1 (by decide) (by decide) ?_
          refine XS.iconst X0.here hx rfl (hb hby d4_41) ?_
          rw [show (k3_0_34_s0 gp gk gc) = (0 : Int32) from (if_neg hc34)] at k
          exact k
      exact Outs.retN (t := .boolean) (z := (k3_0_34_s0 gp gk gc)) X0 hx hret (by simp) (hb hby d4_42) hlk (by decide) (by decide) e0 ⟨congrArg (fun z_ => some (Value.int z_)) (show (F_k3_0 gp gk gc) = (nar .boolean (k3_0_34_s0 gp gk gc)) from ((if_pos hc16).trans (if_neg hc23))).symm, N0, rfl⟩
  · refine Outs.of (U' := s₁.setTop (mkF m 41 #[.val (.ref o0), .val (.ref o1), .val (.ref o2), .val (.int (3 : Int32)), .val (.int (0 : Int32))] [])) (fun t k => ?_) ?_
    · refine XS.icmpYes X0.here hx rfl (pc0 := 16) (pc' := 41) rfl (hb hby d4_16) rfl (feq hc16).2 (by decide) (by decide) ?_
      exact k
    refine Outs.of (U' := s₁.setTop (mkF m 42 #[.val (.ref o0), .val (.ref o1), .val (.ref o2), .val (.int (3 : Int32)), .val (.int (0 : Int32))] [(.int (0 : Int32))])) (fun t k => ?_) ?_
    · refine XS.iconst X0.here hx rfl (hb hby d4_41) ?_
      exact k
    exact Outs.retN (t := .boolean) (z := (0 : Int32)) X0 hx hret (by simp) (hb hby d4_42) hlk (by decide) (by decide) e0 ⟨congrArg (fun z_ => some (Value.int z_)) (show (F_k3_0 gp gk gc) = (0 : Int32) from (if_neg hc16)).symm, N0, rfl⟩
def k3_1_34_s0 (gp : Nat → Int32) (gk : Nat → Int32) (gc : Nat → Int32) : Int32 := (if (gp 1) < (gc 1) then (1 : Int32) else (0 : Int32))
def F_k3_1 (gp : Nat → Int32) (gk : Nat → Int32) (gc : Nat → Int32) : Int32 := (if (gk 1) = (gc 1) then (if (gp 1) < (0 : Int32) then (0 : Int32) else (nar .boolean (k3_1_34_s0 gp gk gc))) else (0 : Int32))
set_option maxRecDepth 65536 in
set_option maxHeartbeats 40000000 in
theorem rmk3_1 (l : Launch) (Z : State) (a0 : Array Value) (hw : ∀ d ∈ tables_1, d.before a0 Z = true) (ws : List Jvm.Cond) (o0 : Addr) (o1 : Addr) (o2 : Addr) (gp : Nat → Int32) (gk : Nat → Int32) (gc : Nat → Int32) (h0 : Heap) (n0 : Nat) (A_o0 : AI Z h0 o0 .int 3 gp) (A_o1 : AI Z h0 o1 .int 3 gk) (A_o2 : AI Z h0 o2 .int 4 gc) :
    MetFree l (⟨"com/example/ratatoskr/ratatoskr/ChoicesAdvancePinLaw", "ok", "([I[I[III)Z"⟩ : MethodName) (head1 (Jvm.Cond.code (⟨"com/example/ratatoskr/ratatoskr/ChoicesAdvancePinLaw", "ok", "([I[I[III)Z"⟩ : MethodName) method_4_code 5 (some .boolean) :: ws) ({ frames := 0, cells := 0, slots := 0, locals := 0 } : Room)) (fun a U => a = #[(.ref o0), (.ref o1), (.ref o2), (.int (3 : Int32)), (.int (1 : Int32))] ∧ Z.Warmed39 U.vm ∧ U.heap = h0) (fun _ _ _ _ _ => True) (fun _ U o U' => ∃ v L, o = .returned v ∧ QR (some (.int (F_k3_1 gp gk gc))) h0 n0 v U'.heap L ∧ FrameEnd U o U' L ({ frames := 0, cells := 0, slots := 0, locals := 0 } : Room).cells ({ frames := 0, cells := 0, slots := 0, locals := 0 } : Room).slots) := by
  refine MetFree.of_bodySF (plainFor_of_name pn_0) hisR ?_
  intro p e s m args below meth c s₁ Bd hml0 hP hK
  obtain ⟨rfl, hZ, hh⟩ := hP
  have hx := Bd.exec
  have hby := Bd.bytes
  have hml : c.maxLocals = 5 := hml0
  have hown : s.vm.findClass "com/example/ratatoskr/ratatoskr/ChoicesAdvancePinLaw" = some m.cls := findClass_of_methodNamed Bd.named
  have hnm := (name_of_methodNamed Bd.named Bd.method).1
  have hret := Bd.returns
  have hlk : meth.locks = false := BodyLoose.notSynchronized Bd
  have X0 : Stand p l e ({ frames := 0, cells := 0, slots := 0, locals := 0 } : Room) s m #[(.ref o0), (.ref o1), (.ref o2), (.int (3 : Int32)), (.int (1 : Int32))] below meth c s₁ [] 0 0 := Stand.of_body Bd
  have e0 : s₁.heap = h0 := by rw [← hh, Bd.state]; rfl
  have N0 := Fr.nil n0
  show Outs p e below s (QR (some (.int (F_k3_1 gp gk gc))) h0 n0) _ _ _
  refine Outs.of (U' := s₁.setTop (mkF m 0 #[.val (.ref o0), .val (.ref o1), .val (.ref o2), .val (.int (3 : Int32)), .val (.int (1 : Int32))] [])) (fun t k => castTop (ef_4 m o0 o1 o2 (3 : Int32) (1 : Int32)) k) ?_
  refine Outs.of (U' := s₁.setTop (mkF m 11 #[.val (.ref o0), .val (.ref o1), .val (.ref o2), .val (.int (3 : Int32)), .val (.int (1 : Int32))] [(.int (1 : Int32)), (.ref o1)])) (fun t k => ?_) ?_
  · refine XS.iload X0.here hx rfl (hb hby d4_0) rfl ?_
    refine XS.iloadN X0.here hx rfl (hb hby d4_2) rfl ?_
    refine XS.icmpYes X0.here hx rfl (pc0 := 3) (pc' := 8) rfl (hb hby d4_3) rfl (tlt (by decide)).1 (by decide) (by decide) ?_
    refine XS.aloadN X0.here hx rfl (hb hby d4_8) rfl rfl ?_
    refine XS.iload X0.here hx rfl (hb hby d4_9) rfl ?_
    exact k
  refine Outs.of (ldI X0 hx hZ e0 A_o1 (j := (1 : Int32)) (k := 1) rfl (by decide) (f := (mkF m 11 #[.val (.ref o0), .val (.ref o1), .val (.ref o2), .val (.int (3 : Int32)), .val (.int (1 : Int32))] [(.int (1 : Int32)), (.ref o1)])) rfl rfl (hb hby d4_11)) ?_
  show Outs p e below s _ _ _ (s₁.setTop (mkF m 12 #[.val (.ref o0), .val (.ref o1), .val (.ref o2), .val (.int (3 : Int32)), .val (.int (1 : Int32))] [(.int (gk 1))]))
  refine Outs.of (U' := s₁.setTop (mkF m 15 #[.val (.ref o0), .val (.ref o1), .val (.ref o2), .val (.int (3 : Int32)), .val (.int (1 : Int32))] [(.int (1 : Int32)), (.ref o2), (.int (gk 1))])) (fun t k => ?_) ?_
  · refine XS.aloadN X0.here hx rfl (hb hby d4_12) rfl rfl ?_
    refine XS.iload X0.here hx rfl (hb hby d4_13) rfl ?_
    exact k
  refine Outs.of (ldI X0 hx hZ e0 A_o2 (j := (1 : Int32)) (k := 1) rfl (by decide) (f := (mkF m 15 #[.val (.ref o0), .val (.ref o1), .val (.ref o2), .val (.int (3 : Int32)), .val (.int (1 : Int32))] [(.int (1 : Int32)), (.ref o2), (.int (gk 1))])) rfl rfl (hb hby d4_15)) ?_
  show Outs p e below s _ _ _ (s₁.setTop (mkF m 16 #[.val (.ref o0), .val (.ref o1), .val (.ref o2), .val (.int (3 : Int32)), .val (.int (1 : Int32))] [(.int (gc 1)), (.int (gk 1))]))
  by_cases hc16 : (gk 1) = (gc 1)
  · refine Outs.of (U' := s₁.setTop (mkF m 19 #[.val (.ref o0), .val (.ref o1), .val (.ref o2), .val (.int (3 : Int32)), .val (.int (1 : Int32))] [])) (fun t k => ?_) ?_
    · refine XS.icmpNo X0.here hx rfl (hb hby d4_16) rfl (teq hc16).2 ?_
      exact k
    refine Outs.of (U' := s₁.setTop (mkF m 22 #[.val (.ref o0), .val (.ref o1), .val (.ref o2), .val (.int (3 : Int32)), .val (.int (1 : Int32))] [(.int (1 : Int32)), (.ref o0)])) (fun t k => ?_) ?_
    · refine XS.aloadN X0.here hx rfl (hb hby d4_19) rfl rfl ?_
      refine XS.iload X0.here hx rfl (hb hby d4_20) rfl ?_
      exact k
    refine Outs.of (ldI X0 hx hZ e0 A_o0 (j := (1 : Int32)) (k := 1) rfl (by decide) (f := (mkF m 22 #[.val (.ref o0), .val (.ref o1), .val (.ref o2), .val (.int (3 : Int32)), .val (.int (1 : Int32))] [(.int (1 : Int32)), (.ref o0)])) rfl rfl (hb hby d4_22)) ?_
    show Outs p e below s _ _ _ (s₁.setTop (mkF m 23 #[.val (.ref o0), .val (.ref o1), .val (.ref o2), .val (.int (3 : Int32)), .val (.int (1 : Int32))] [(.int (gp 1))]))
    by_cases hc23 : (gp 1) < (0 : Int32)
    · refine Outs.of (U' := s₁.setTop (mkF m 41 #[.val (.ref o0), .val (.ref o1), .val (.ref o2), .val (.int (3 : Int32)), .val (.int (1 : Int32))] [])) (fun t k => ?_) ?_
      · refine XS.ifYes X0.here hx rfl (pc0 := 23) (pc' := 41) rfl (hb hby d4_23) rfl ((if0 _ _).trans (tlt hc23).1) (by decide) (by decide) ?_
        exact k
      refine Outs.of (U' := s₁.setTop (mkF m 42 #[.val (.ref o0), .val (.ref o1), .val (.ref o2), .val (.int (3 : Int32)), .val (.int (1 : Int32))] [(.int (0 : Int32))])) (fun t k => ?_) ?_
      · refine XS.iconst X0.here hx rfl (hb hby d4_41) ?_
        exact k
      exact Outs.retN (t := .boolean) (z := (0 : Int32)) X0 hx hret (by simp) (hb hby d4_42) hlk (by decide) (by decide) e0 ⟨congrArg (fun z_ => some (Value.int z_)) (show (F_k3_1 gp gk gc) = (0 : Int32) from ((if_pos hc16).trans (if_pos hc23))).symm, N0, rfl⟩
    · refine Outs.of (U' := s₁.setTop (mkF m 26 #[.val (.ref o0), .val (.ref o1), .val (.ref o2), .val (.int (3 : Int32)), .val (.int (1 : Int32))] [])) (fun t k => ?_) ?_
      · refine XS.ifNo X0.here hx rfl (hb hby d4_23) rfl ((if0 _ _).trans (flt hc23).1) ?_
        exact k
      refine Outs.of (U' := s₁.setTop (mkF m 29 #[.val (.ref o0), .val (.ref o1), .val (.ref o2), .val (.int (3 : Int32)), .val (.int (1 : Int32))] [(.int (1 : Int32)), (.ref o0)])) (fun t k => ?_) ?_
      · refine XS.aloadN X0.here hx rfl (hb hby d4_26) rfl rfl ?_
        refine XS.iload X0.here hx rfl (hb hby d4_27) rfl ?_
        exact k
      refine Outs.of (ldI X0 hx hZ e0 A_o0 (j := (1 : Int32)) (k := 1) rfl (by decide) (f := (mkF m 29 #[.val (.ref o0), .val (.ref o1), .val (.ref o2), .val (.int (3 : Int32)), .val (.int (1 : Int32))] [(.int (1 : Int32)), (.ref o0)])) rfl rfl (hb hby d4_29)) ?_
      show Outs p e below s _ _ _ (s₁.setTop (mkF m 30 #[.val (.ref o0), .val (.ref o1), .val (.ref o2), .val (.int (3 : Int32)), .val (.int (1 : Int32))] [(.int (gp 1))]))
      refine Outs.of (U' := s₁.setTop (mkF m 33 #[.val (.ref o0), .val (.ref o1), .val (.ref o2), .val (.int (3 : Int32)), .val (.int (1 : Int32))] [(.int (1 : Int32)), (.ref o2), (.int (gp 1))])) (fun t k => ?_) ?_
      · refine XS.aloadN X0.here hx rfl (hb hby d4_30) rfl rfl ?_
        refine XS.iload X0.here hx rfl (hb hby d4_31) rfl ?_
        exact k
      refine Outs.of (ldI X0 hx hZ e0 A_o2 (j := (1 : Int32)) (k := 1) rfl (by decide) (f := (mkF m 33 #[.val (.ref o0), .val (.ref o1), .val (.ref o2), .val (.int (3 : Int32)), .val (.int (1 : Int32))] [(.int (1 : Int32)), (.ref o2), (.int (gp 1))])) rfl rfl (hb hby d4_33)) ?_
      show Outs p e below s _ _ _ (s₁.setTop (mkF m 34 #[.val (.ref o0), .val (.ref o1), .val (.ref o2), .val (.int (3 : Int32)), .val (.int (1 : Int32))] [(.int (gc 1)), (.int (gp 1))]))
      refine Outs.of (U' := s₁.setTop (mkF m 42 #[.val (.ref o0), .val (.ref o1), .val (.ref o2), .val (.int (3 : Int32)), .val (.int (1 : Int32))] [(.int (k3_1_34_s0 gp gk gc))])) (fun t k => ?_) ?_
      · by_cases hc34 : (gp 1) < (gc 1)
        · refine XS.icmpNo X0.here hx rfl (hb hby d4_34) rfl (tlt hc34).2.1 ?_
          refine XS.iconst X0.here hx rfl (hb hby d4_37) ?_
          refine XS.goto X0.here hx rfl (pc0 := 38) (pc' := 42) rfl (hb hby d4_38) (by decide) (by decide) ?_
          rw [show (k3_1_34_s0 gp gk gc) = (1 : Int32) from (if_pos hc34)] at k
          exact k
        · refine XS.icmpYes X0.here hx rfl (pc0 := 34) (pc' := 41) rfl (hb hby d4_34) rfl (flt hc34).2.1 (by decide) (by decide) ?_
          refine XS.iconst X0.here hx rfl (hb hby d4_41) ?_
          rw [show (k3_1_34_s0 gp gk gc) = (0 : Int32) from (if_neg hc34)] at k
          exact k
      exact Outs.retN (t := .boolean) (z := (k3_1_34_s0 gp gk gc)) X0 hx hret (by simp) (hb hby d4_42) hlk (by decide) (by decide) e0 ⟨congrArg (fun z_ => some (Value.int z_)) (show (F_k3_1 gp gk gc) = (nar .boolean (k3_1_34_s0 gp gk gc)) from ((if_pos hc16).trans (if_neg hc23))).symm, N0, rfl⟩
  · refine Outs.of (U' := s₁.setTop (mkF m 41 #[.val (.ref o0), .val (.ref o1), .val (.ref o2), .val (.int (3 : Int32)), .val (.int (1 : Int32))] [])) (fun t k => ?_) ?_
    · refine XS.icmpYes X0.here hx rfl (pc0 := 16) (pc' := 41) rfl (hb hby d4_16) rfl (feq hc16).2 (by decide) (by decide) ?_
      exact k
    refine Outs.of (U' := s₁.setTop (mkF m 42 #[.val (.ref o0), .val (.ref o1), .val (.ref o2), .val (.int (3 : Int32)), .val (.int (1 : Int32))] [(.int (0 : Int32))])) (fun t k => ?_) ?_
    · refine XS.iconst X0.here hx rfl (hb hby d4_41) ?_
      exact k
    exact Outs.retN (t := .boolean) (z := (0 : Int32)) X0 hx hret (by simp) (hb hby d4_42) hlk (by decide) (by decide) e0 ⟨congrArg (fun z_ => some (Value.int z_)) (show (F_k3_1 gp gk gc) = (0 : Int32) from (if_neg hc16)).symm, N0, rfl⟩
def k3_2_34_s0 (gp : Nat → Int32) (gk : Nat → Int32) (gc : Nat → Int32) : Int32 := (if (gp 2) < (gc 2) then (1 : Int32) else (0 : Int32))
def F_k3_2 (gp : Nat → Int32) (gk : Nat → Int32) (gc : Nat → Int32) : Int32 := (if (gk 2) = (gc 2) then (if (gp 2) < (0 : Int32) then (0 : Int32) else (nar .boolean (k3_2_34_s0 gp gk gc))) else (0 : Int32))
set_option maxRecDepth 65536 in
set_option maxHeartbeats 40000000 in
theorem rmk3_2 (l : Launch) (Z : State) (a0 : Array Value) (hw : ∀ d ∈ tables_1, d.before a0 Z = true) (ws : List Jvm.Cond) (o0 : Addr) (o1 : Addr) (o2 : Addr) (gp : Nat → Int32) (gk : Nat → Int32) (gc : Nat → Int32) (h0 : Heap) (n0 : Nat) (A_o0 : AI Z h0 o0 .int 3 gp) (A_o1 : AI Z h0 o1 .int 3 gk) (A_o2 : AI Z h0 o2 .int 4 gc) :
    MetFree l (⟨"com/example/ratatoskr/ratatoskr/ChoicesAdvancePinLaw", "ok", "([I[I[III)Z"⟩ : MethodName) (head1 (Jvm.Cond.code (⟨"com/example/ratatoskr/ratatoskr/ChoicesAdvancePinLaw", "ok", "([I[I[III)Z"⟩ : MethodName) method_4_code 5 (some .boolean) :: ws) ({ frames := 0, cells := 0, slots := 0, locals := 0 } : Room)) (fun a U => a = #[(.ref o0), (.ref o1), (.ref o2), (.int (3 : Int32)), (.int (2 : Int32))] ∧ Z.Warmed39 U.vm ∧ U.heap = h0) (fun _ _ _ _ _ => True) (fun _ U o U' => ∃ v L, o = .returned v ∧ QR (some (.int (F_k3_2 gp gk gc))) h0 n0 v U'.heap L ∧ FrameEnd U o U' L ({ frames := 0, cells := 0, slots := 0, locals := 0 } : Room).cells ({ frames := 0, cells := 0, slots := 0, locals := 0 } : Room).slots) := by
  refine MetFree.of_bodySF (plainFor_of_name pn_0) hisR ?_
  intro p e s m args below meth c s₁ Bd hml0 hP hK
  obtain ⟨rfl, hZ, hh⟩ := hP
  have hx := Bd.exec
  have hby := Bd.bytes
  have hml : c.maxLocals = 5 := hml0
  have hown : s.vm.findClass "com/example/ratatoskr/ratatoskr/ChoicesAdvancePinLaw" = some m.cls := findClass_of_methodNamed Bd.named
  have hnm := (name_of_methodNamed Bd.named Bd.method).1
  have hret := Bd.returns
  have hlk : meth.locks = false := BodyLoose.notSynchronized Bd
  have X0 : Stand p l e ({ frames := 0, cells := 0, slots := 0, locals := 0 } : Room) s m #[(.ref o0), (.ref o1), (.ref o2), (.int (3 : Int32)), (.int (2 : Int32))] below meth c s₁ [] 0 0 := Stand.of_body Bd
  have e0 : s₁.heap = h0 := by rw [← hh, Bd.state]; rfl
  have N0 := Fr.nil n0
  show Outs p e below s (QR (some (.int (F_k3_2 gp gk gc))) h0 n0) _ _ _
  refine Outs.of (U' := s₁.setTop (mkF m 0 #[.val (.ref o0), .val (.ref o1), .val (.ref o2), .val (.int (3 : Int32)), .val (.int (2 : Int32))] [])) (fun t k => castTop (ef_4 m o0 o1 o2 (3 : Int32) (2 : Int32)) k) ?_
  refine Outs.of (U' := s₁.setTop (mkF m 11 #[.val (.ref o0), .val (.ref o1), .val (.ref o2), .val (.int (3 : Int32)), .val (.int (2 : Int32))] [(.int (2 : Int32)), (.ref o1)])) (fun t k => ?_) ?_
  · refine XS.iload X0.here hx rfl (hb hby d4_0) rfl ?_
    refine XS.iloadN X0.here hx rfl (hb hby d4_2) rfl ?_
    refine XS.icmpYes X0.here hx rfl (pc0 := 3) (pc' := 8) rfl (hb hby d4_3) rfl (tlt (by decide)).1 (by decide) (by decide) ?_
    refine XS.aloadN X0.here hx rfl (hb hby d4_8) rfl rfl ?_
    refine XS.iload X0.here hx rfl (hb hby d4_9) rfl ?_
    exact k
  refine Outs.of (ldI X0 hx hZ e0 A_o1 (j := (2 : Int32)) (k := 2) rfl (by decide) (f := (mkF m 11 #[.val (.ref o0), .val (.ref o1), .val (.ref o2), .val (.int (3 : Int32)), .val (.int (2 : Int32))] [(.int (2 : Int32)), (.ref o1)])) rfl rfl (hb hby d4_11)) ?_
  show Outs p e below s _ _ _ (s₁.setTop (mkF m 12 #[.val (.ref o0), .val (.ref o1), .val (.ref o2), .val (.int (3 : Int32)), .val (.int (2 : Int32))] [(.int (gk 2))]))
  refine Outs.of (U' := s₁.setTop (mkF m 15 #[.val (.ref o0), .val (.ref o1), .val (.ref o2), .val (.int (3 : Int32)), .val (.int (2 : Int32))] [(.int (2 : Int32)), (.ref o2), (.int (gk 2))])) (fun t k => ?_) ?_
  · refine XS.aloadN X0.here hx rfl (hb hby d4_12) rfl rfl ?_
    refine XS.iload X0.here hx rfl (hb hby d4_13) rfl ?_
    exact k
  refine Outs.of (ldI X0 hx hZ e0 A_o2 (j := (2 : Int32)) (k := 2) rfl (by decide) (f := (mkF m 15 #[.val (.ref o0), .val (.ref o1), .val (.ref o2), .val (.int (3 : Int32)), .val (.int (2 : Int32))] [(.int (2 : Int32)), (.ref o2), (.int (gk 2))])) rfl rfl (hb hby d4_15)) ?_
  show Outs p e below s _ _ _ (s₁.setTop (mkF m 16 #[.val (.ref o0), .val (.ref o1), .val (.ref o2), .val (.int (3 : Int32)), .val (.int (2 : Int32))] [(.int (gc 2)), (.int (gk 2))]))
  by_cases hc16 : (gk 2) = (gc 2)
  · refine Outs.of (U' := s₁.setTop (mkF m 19 #[.val (.ref o0), .val (.ref o1), .val (.ref o2), .val (.int (3 : Int32)), .val (.int (2 : Int32))] [])) (fun t k => ?_) ?_
    · refine XS.icmpNo X0.here hx rfl (hb hby d4_16) rfl (teq hc16).2 ?_
      exact k
    refine Outs.of (U' := s₁.setTop (mkF m 22 #[.val (.ref o0), .val (.ref o1), .val (.ref o2), .val (.int (3 : Int32)), .val (.int (2 : Int32))] [(.int (2 : Int32)), (.ref o0)])) (fun t k => ?_) ?_
    · refine XS.aloadN X0.here hx rfl (hb hby d4_19) rfl rfl ?_
      refine XS.iload X0.here hx rfl (hb hby d4_20) rfl ?_
      exact k
    refine Outs.of (ldI X0 hx hZ e0 A_o0 (j := (2 : Int32)) (k := 2) rfl (by decide) (f := (mkF m 22 #[.val (.ref o0), .val (.ref o1), .val (.ref o2), .val (.int (3 : Int32)), .val (.int (2 : Int32))] [(.int (2 : Int32)), (.ref o0)])) rfl rfl (hb hby d4_22)) ?_
    show Outs p e below s _ _ _ (s₁.setTop (mkF m 23 #[.val (.ref o0), .val (.ref o1), .val (.ref o2), .val (.int (3 : Int32)), .val (.int (2 : Int32))] [(.int (gp 2))]))
    by_cases hc23 : (gp 2) < (0 : Int32)
    · refine Outs.of (U' := s₁.setTop (mkF m 41 #[.val (.ref o0), .val (.ref o1), .val (.ref o2), .val (.int (3 : Int32)), .val (.int (2 : Int32))] [])) (fun t k => ?_) ?_
      · refine XS.ifYes X0.here hx rfl (pc0 := 23) (pc' := 41) rfl (hb hby d4_23) rfl ((if0 _ _).trans (tlt hc23).1) (by decide) (by decide) ?_
        exact k
      refine Outs.of (U' := s₁.setTop (mkF m 42 #[.val (.ref o0), .val (.ref o1), .val (.ref o2), .val (.int (3 : Int32)), .val (.int (2 : Int32))] [(.int (0 : Int32))])) (fun t k => ?_) ?_
      · refine XS.iconst X0.here hx rfl (hb hby d4_41) ?_
        exact k
      exact Outs.retN (t := .boolean) (z := (0 : Int32)) X0 hx hret (by simp) (hb hby d4_42) hlk (by decide) (by decide) e0 ⟨congrArg (fun z_ => some (Value.int z_)) (show (F_k3_2 gp gk gc) = (0 : Int32) from ((if_pos hc16).trans (if_pos hc23))).symm, N0, rfl⟩
    · refine Outs.of (U' := s₁.setTop (mkF m 26 #[.val (.ref o0), .val (.ref o1), .val (.ref o2), .val (.int (3 : Int32)), .val (.int (2 : Int32))] [])) (fun t k => ?_) ?_
      · refine XS.ifNo X0.here hx rfl (hb hby d4_23) rfl ((if0 _ _).trans (flt hc23).1) ?_
        exact k
      refine Outs.of (U' := s₁.setTop (mkF m 29 #[.val (.ref o0), .val (.ref o1), .val (.ref o2), .val (.int (3 : Int32)), .val (.int (2 : Int32))] [(.int (2 : Int32)), (.ref o0)])) (fun t k => ?_) ?_
      · refine XS.aloadN X0.here hx rfl (hb hby d4_26) rfl rfl ?_
        refine XS.iload X0.here hx rfl (hb hby d4_27) rfl ?_
        exact k
      refine Outs.of (ldI X0 hx hZ e0 A_o0 (j := (2 : Int32)) (k := 2) rfl (by decide) (f := (mkF m 29 #[.val (.ref o0), .val (.ref o1), .val (.ref o2), .val (.int (3 : Int32)), .val (.int (2 : Int32))] [(.int (2 : Int32)), (.ref o0)])) rfl rfl (hb hby d4_29)) ?_
      show Outs p e below s _ _ _ (s₁.setTop (mkF m 30 #[.val (.ref o0), .val (.ref o1), .val (.ref o2), .val (.int (3 : Int32)), .val (.int (2 : Int32))] [(.int (gp 2))]))
      refine Outs.of (U' := s₁.setTop (mkF m 33 #[.val (.ref o0), .val (.ref o1), .val (.ref o2), .val (.int (3 : Int32)), .val (.int (2 : Int32))] [(.int (2 : Int32)), (.ref o2), (.int (gp 2))])) (fun t k => ?_) ?_
      · refine XS.aloadN X0.here hx rfl (hb hby d4_30) rfl rfl ?_
        refine XS.iload X0.here hx rfl (hb hby d4_31) rfl ?_
        exact k
      refine Outs.of (ldI X0 hx hZ e0 A_o2 (j := (2 : Int32)) (k := 2) rfl (by decide) (f := (mkF m 33 #[.val (.ref o0), .val (.ref o1), .val (.ref o2), .val (.int (3 : Int32)), .val (.int (2 : Int32))] [(.int (2 : Int32)), (.ref o2), (.int (gp 2))])) rfl rfl (hb hby d4_33)) ?_
      show Outs p e below s _ _ _ (s₁.setTop (mkF m 34 #[.val (.ref o0), .val (.ref o1), .val (.ref o2), .val (.int (3 : Int32)), .val (.int (2 : Int32))] [(.int (gc 2)), (.int (gp 2))]))
      refine Outs.of (U' := s₁.setTop (mkF m 42 #[.val (.ref o0), .val (.ref o1), .val (.ref o2), .val (.int (3 : Int32)), .val (.int (2 : Int32))] [(.int (k3_2_34_s0 gp gk gc))])) (fun t k => ?_) ?_
      · by_cases hc34 : (gp 2) < (gc 2)
        · refine XS.icmpNo X0.here hx rfl (hb hby d4_34) rfl (tlt hc34).2.1 ?_
          refine XS.iconst X0.here hx rfl (hb hby d4_37) ?_
          refine XS.goto X0.here hx rfl (pc0 := 38) (pc' := 42) rfl (hb hby d4_38) (by decide) (by decide) ?_
          rw [show (k3_2_34_s0 gp gk gc) = (1 : Int32) from (if_pos hc34)] at k
          exact k
        · refine XS.icmpYes X0.here hx rfl (pc0 := 34) (pc' := 41) rfl (hb hby d4_34) rfl (flt hc34).2.1 (by decide) (by decide) ?_
          refine XS.iconst X0.here hx rfl (hb hby d4_41) ?_
          rw [show (k3_2_34_s0 gp gk gc) = (0 : Int32) from (if_neg hc34)] at k
          exact k
      exact Outs.retN (t := .boolean) (z := (k3_2_34_s0 gp gk gc)) X0 hx hret (by simp) (hb hby d4_42) hlk (by decide) (by decide) e0 ⟨congrArg (fun z_ => some (Value.int z_)) (show (F_k3_2 gp gk gc) = (nar .boolean (k3_2_34_s0 gp gk gc)) from ((if_pos hc16).trans (if_neg hc23))).symm, N0, rfl⟩
  · refine Outs.of (U' := s₁.setTop (mkF m 41 #[.val (.ref o0), .val (.ref o1), .val (.ref o2), .val (.int (3 : Int32)), .val (.int (2 : Int32))] [])) (fun t k => ?_) ?_
    · refine XS.icmpYes X0.here hx rfl (pc0 := 16) (pc' := 41) rfl (hb hby d4_16) rfl (feq hc16).2 (by decide) (by decide) ?_
      exact k
    refine Outs.of (U' := s₁.setTop (mkF m 42 #[.val (.ref o0), .val (.ref o1), .val (.ref o2), .val (.int (3 : Int32)), .val (.int (2 : Int32))] [(.int (0 : Int32))])) (fun t k => ?_) ?_
    · refine XS.iconst X0.here hx rfl (hb hby d4_41) ?_
      exact k
    exact Outs.retN (t := .boolean) (z := (0 : Int32)) X0 hx hret (by simp) (hb hby d4_42) hlk (by decide) (by decide) e0 ⟨congrArg (fun z_ => some (Value.int z_)) (show (F_k3_2 gp gk gc) = (0 : Int32) from (if_neg hc16)).symm, N0, rfl⟩
def F_k3_3 (gp : Nat → Int32) (gk : Nat → Int32) (gc : Nat → Int32) : Int32 := (1 : Int32)
set_option maxRecDepth 65536 in
set_option maxHeartbeats 40000000 in
theorem rmk3_3 (l : Launch) (Z : State) (a0 : Array Value) (hw : ∀ d ∈ tables_1, d.before a0 Z = true) (ws : List Jvm.Cond) (o0 : Addr) (o1 : Addr) (o2 : Addr) (gp : Nat → Int32) (gk : Nat → Int32) (gc : Nat → Int32) (h0 : Heap) (n0 : Nat) (A_o0 : AI Z h0 o0 .int 3 gp) (A_o1 : AI Z h0 o1 .int 3 gk) (A_o2 : AI Z h0 o2 .int 4 gc) :
    MetFree l (⟨"com/example/ratatoskr/ratatoskr/ChoicesAdvancePinLaw", "ok", "([I[I[III)Z"⟩ : MethodName) (head1 (Jvm.Cond.code (⟨"com/example/ratatoskr/ratatoskr/ChoicesAdvancePinLaw", "ok", "([I[I[III)Z"⟩ : MethodName) method_4_code 5 (some .boolean) :: ws) ({ frames := 0, cells := 0, slots := 0, locals := 0 } : Room)) (fun a U => a = #[(.ref o0), (.ref o1), (.ref o2), (.int (3 : Int32)), (.int (3 : Int32))] ∧ Z.Warmed39 U.vm ∧ U.heap = h0) (fun _ _ _ _ _ => True) (fun _ U o U' => ∃ v L, o = .returned v ∧ QR (some (.int (F_k3_3 gp gk gc))) h0 n0 v U'.heap L ∧ FrameEnd U o U' L ({ frames := 0, cells := 0, slots := 0, locals := 0 } : Room).cells ({ frames := 0, cells := 0, slots := 0, locals := 0 } : Room).slots) := by
  refine MetFree.of_bodySF (plainFor_of_name pn_0) hisR ?_
  intro p e s m args below meth c s₁ Bd hml0 hP hK
  obtain ⟨rfl, hZ, hh⟩ := hP
  have hx := Bd.exec
  have hby := Bd.bytes
  have hml : c.maxLocals = 5 := hml0
  have hown : s.vm.findClass "com/example/ratatoskr/ratatoskr/ChoicesAdvancePinLaw" = some m.cls := findClass_of_methodNamed Bd.named
  have hnm := (name_of_methodNamed Bd.named Bd.method).1
  have hret := Bd.returns
  have hlk : meth.locks = false := BodyLoose.notSynchronized Bd
  have X0 : Stand p l e ({ frames := 0, cells := 0, slots := 0, locals := 0 } : Room) s m #[(.ref o0), (.ref o1), (.ref o2), (.int (3 : Int32)), (.int (3 : Int32))] below meth c s₁ [] 0 0 := Stand.of_body Bd
  have e0 : s₁.heap = h0 := by rw [← hh, Bd.state]; rfl
  have N0 := Fr.nil n0
  show Outs p e below s (QR (some (.int (F_k3_3 gp gk gc))) h0 n0) _ _ _
  refine Outs.of (U' := s₁.setTop (mkF m 0 #[.val (.ref o0), .val (.ref o1), .val (.ref o2), .val (.int (3 : Int32)), .val (.int (3 : Int32))] [])) (fun t k => castTop (ef_4 m o0 o1 o2 (3 : Int32) (3 : Int32)) k) ?_
  refine Outs.of (U' := s₁.setTop (mkF m 7 #[.val (.ref o0), .val (.ref o1), .val (.ref o2), .val (.int (3 : Int32)), .val (.int (3 : Int32))] [(.int (1 : Int32))])) (fun t k => ?_) ?_
  · refine XS.iload X0.here hx rfl (hb hby d4_0) rfl ?_
    refine XS.iloadN X0.here hx rfl (hb hby d4_2) rfl ?_
    refine XS.icmpNo X0.here hx rfl (hb hby d4_3) rfl (flt (by decide)).1 ?_
    refine XS.iconst X0.here hx rfl (hb hby d4_6) ?_
    exact k
  exact Outs.retN (t := .boolean) (z := (1 : Int32)) X0 hx hret (by simp) (hb hby d4_7) hlk (by decide) (by decide) e0 ⟨congrArg (fun z_ => some (Value.int z_)) (show (F_k3_3 gp gk gc) = (1 : Int32) from rfl).symm, N0, rfl⟩
theorem d1_39 : decode method_3_code 39 = .ok (.iload_n 2, 1) := by decide +kernel
theorem d1_40 : decode method_3_code 40 = .ok (.aload_n 0, 1) := by decide +kernel
theorem d1_41 : decode method_3_code 41 = .ok (.iconst 3, 1) := by decide +kernel
theorem d1_42 : decode method_3_code 42 = .ok (.iaload, 1) := by decide +kernel
theorem d1_43 : decode method_3_code 43 = .ok (.imul, 1) := by decide +kernel
theorem d1_44 : decode method_3_code 44 = .ok (.istore_n 2, 1) := by decide +kernel
def F_p4 (gc : Nat → Int32) : Int32 := (((((1 : Int32) * (gc 0)) * (gc 1)) * (gc 2)) * (gc 3))
set_option maxRecDepth 65536 in
set_option maxHeartbeats 40000000 in
theorem rmp4 (l : Launch) (Z : State) (a0 : Array Value) (hw : ∀ d ∈ tables_1, d.before a0 Z = true) (ws : List Jvm.Cond) (o0 : Addr) (gc : Nat → Int32) (h0 : Heap) (n0 : Nat) (A_o0 : AI Z h0 o0 .int 4 gc) :
    MetFree l (⟨"com/example/ratatoskr/ratatoskr/ChoicesAdvancePinLaw", "prod", "([II)I"⟩ : MethodName) (head1 (Jvm.Cond.code (⟨"com/example/ratatoskr/ratatoskr/ChoicesAdvancePinLaw", "prod", "([II)I"⟩ : MethodName) method_3_code 3 (some .int) :: ws) ({ frames := 0, cells := 0, slots := 0, locals := 0 } : Room)) (fun a U => a = #[(.ref o0), (.int (4 : Int32))] ∧ Z.Warmed39 U.vm ∧ U.heap = h0) (fun _ _ _ _ _ => True) (fun _ U o U' => ∃ v L, o = .returned v ∧ QR (some (.int (F_p4 gc))) h0 n0 v U'.heap L ∧ FrameEnd U o U' L ({ frames := 0, cells := 0, slots := 0, locals := 0 } : Room).cells ({ frames := 0, cells := 0, slots := 0, locals := 0 } : Room).slots) := by
  refine MetFree.of_bodySF (plainFor_of_name pn_0) hisR ?_
  intro p e s m args below meth c s₁ Bd hml0 hP hK
  obtain ⟨rfl, hZ, hh⟩ := hP
  have hx := Bd.exec
  have hby := Bd.bytes
  have hml : c.maxLocals = 3 := hml0
  have hown : s.vm.findClass "com/example/ratatoskr/ratatoskr/ChoicesAdvancePinLaw" = some m.cls := findClass_of_methodNamed Bd.named
  have hnm := (name_of_methodNamed Bd.named Bd.method).1
  have hret := Bd.returns
  have hlk : meth.locks = false := BodyLoose.notSynchronized Bd
  have X0 : Stand p l e ({ frames := 0, cells := 0, slots := 0, locals := 0 } : Room) s m #[(.ref o0), (.int (4 : Int32))] below meth c s₁ [] 0 0 := Stand.of_body Bd
  have e0 : s₁.heap = h0 := by rw [← hh, Bd.state]; rfl
  have N0 := Fr.nil n0
  show Outs p e below s (QR (some (.int (F_p4 gc))) h0 n0) _ _ _
  refine Outs.of (U' := s₁.setTop (mkF m 0 #[.val (.ref o0), .val (.int (4 : Int32)), .unset] [])) (fun t k => castTop (ef_1 m o0 (4 : Int32)) k) ?_
  refine Outs.of (U' := s₁.setTop (mkF m 9 #[.val (.ref o0), .val (.int (4 : Int32)), .val (.int (1 : Int32))] [(.int (0 : Int32)), (.ref o0), (.int (1 : Int32))])) (fun t k => ?_) ?_
  · refine XS.iconst X0.here hx rfl (hb hby d1_0) ?_
    refine XS.istoreN X0.here hx rfl (hb hby d1_1) rfl (l' := #[.val (.ref o0), .val (.int (4 : Int32)), .val (.int (1 : Int32))]) rfl ?_
    refine XS.iloadN X0.here hx rfl (hb hby d1_2) rfl ?_
    refine XS.ifNo X0.here hx rfl (hb hby d1_3) rfl ((if0 _ _).trans (tlt (by decide)).2.2.2) ?_
    refine XS.iloadN X0.here hx rfl (hb hby d1_6) rfl ?_
    refine XS.aloadN X0.here hx rfl (hb hby d1_7) rfl rfl ?_
    refine XS.iconst X0.here hx rfl (hb hby d1_8) ?_
    exact k
  refine Outs.of (ldI X0 hx hZ e0 A_o0 (j := (0 : Int32)) (k := 0) rfl (by decide) (f := (mkF m 9 #[.val (.ref o0), .val (.int (4 : Int32)), .val (.int (1 : Int32))] [(.int (0 : Int32)), (.ref o0), (.int (1 : Int32))])) rfl rfl (hb hby d1_9)) ?_
  show Outs p e below s _ _ _ (s₁.setTop (mkF m 10 #[.val (.ref o0), .val (.int (4 : Int32)), .val (.int (1 : Int32))] [(.int (gc 0)), (.int (1 : Int32))]))
  refine Outs.of (U' := s₁.setTop (mkF m 20 #[.val (.ref o0), .val (.int (4 : Int32)), .val (.int ((1 : Int32) * (gc 0)))] [(.int (1 : Int32)), (.ref o0), (.int ((1 : Int32) * (gc 0)))])) (fun t k => ?_) ?_
  · refine XS.imul X0.here hx rfl (hb hby d1_10) rfl ?_
    refine XS.istoreN X0.here hx rfl (hb hby d1_11) rfl (l' := #[.val (.ref o0), .val (.int (4 : Int32)), .val (.int ((1 : Int32) * (gc 0)))]) rfl ?_
    refine XS.iloadN X0.here hx rfl (hb hby d1_12) rfl ?_
    refine XS.iconst X0.here hx rfl (hb hby d1_13) ?_
    refine XS.icmpNo X0.here hx rfl (hb hby d1_14) rfl (tlt (by decide)).2.2.2 ?_
    refine XS.iloadN X0.here hx rfl (hb hby d1_17) rfl ?_
    refine XS.aloadN X0.here hx rfl (hb hby d1_18) rfl rfl ?_
    refine XS.iconst X0.here hx rfl (hb hby d1_19) ?_
    exact k
  refine Outs.of (ldI X0 hx hZ e0 A_o0 (j := (1 : Int32)) (k := 1) rfl (by decide) (f := (mkF m 20 #[.val (.ref o0), .val (.int (4 : Int32)), .val (.int ((1 : Int32) * (gc 0)))] [(.int (1 : Int32)), (.ref o0), (.int ((1 : Int32) * (gc 0)))])) rfl rfl (hb hby d1_20)) ?_
  show Outs p e below s _ _ _ (s₁.setTop (mkF m 21 #[.val (.ref o0), .val (.int (4 : Int32)), .val (.int ((1 : Int32) * (gc 0)))] [(.int (gc 1)), (.int ((1 : Int32) * (gc 0)))]))
  refine Outs.of (U' := s₁.setTop (mkF m 31 #[.val (.ref o0), .val (.int (4 : Int32)), .val (.int (((1 : Int32) * (gc 0)) * (gc 1)))] [(.int (2 : Int32)), (.ref o0), (.int (((1 : Int32) * (gc 0)) * (gc 1)))])) (fun t k => ?_) ?_
  · refine XS.imul X0.here hx rfl (hb hby d1_21) rfl ?_
    refine XS.istoreN X0.here hx rfl (hb hby d1_22) rfl (l' := #[.val (.ref o0), .val (.int (4 : Int32)), .val (.int (((1 : Int32) * (gc 0)) * (gc 1)))]) rfl ?_
    refine XS.iloadN X0.here hx rfl (hb hby d1_23) rfl ?_
    refine XS.iconst X0.here hx rfl (hb hby d1_24) ?_
    refine XS.icmpNo X0.here hx rfl (hb hby d1_25) rfl (tlt (by decide)).2.2.2 ?_
    refine XS.iloadN X0.here hx rfl (hb hby d1_28) rfl ?_
    refine XS.aloadN X0.here hx rfl (hb hby d1_29) rfl rfl ?_
    refine XS.iconst X0.here hx rfl (hb hby d1_30) ?_
    exact k
  refine Outs.of (ldI X0 hx hZ e0 A_o0 (j := (2 : Int32)) (k := 2) rfl (by decide) (f := (mkF m 31 #[.val (.ref o0), .val (.int (4 : Int32)), .val (.int (((1 : Int32) * (gc 0)) * (gc 1)))] [(.int (2 : Int32)), (.ref o0), (.int (((1 : Int32) * (gc 0)) * (gc 1)))])) rfl rfl (hb hby d1_31)) ?_
  show Outs p e below s _ _ _ (s₁.setTop (mkF m 32 #[.val (.ref o0), .val (.int (4 : Int32)), .val (.int (((1 : Int32) * (gc 0)) * (gc 1)))] [(.int (gc 2)), (.int (((1 : Int32) * (gc 0)) * (gc 1)))]))
  refine Outs.of (U' := s₁.setTop (mkF m 42 #[.val (.ref o0), .val (.int (4 : Int32)), .val (.int ((((1 : Int32) * (gc 0)) * (gc 1)) * (gc 2)))] [(.int (3 : Int32)), (.ref o0), (.int ((((1 : Int32) * (gc 0)) * (gc 1)) * (gc 2)))])) (fun t k => ?_) ?_
  · refine XS.imul X0.here hx rfl (hb hby d1_32) rfl ?_
    refine XS.istoreN X0.here hx rfl (hb hby d1_33) rfl (l' := #[.val (.ref o0), .val (.int (4 : Int32)), .val (.int ((((1 : Int32) * (gc 0)) * (gc 1)) * (gc 2)))]) rfl ?_
    refine XS.iloadN X0.here hx rfl (hb hby d1_34) rfl ?_
    refine XS.iconst X0.here hx rfl (hb hby d1_35) ?_
    refine XS.icmpNo X0.here hx rfl (hb hby d1_36) rfl (tlt (by decide)).2.2.2 ?_
    refine XS.iloadN X0.here hx rfl (hb hby d1_39) rfl ?_
    refine XS.aloadN X0.here hx rfl (hb hby d1_40) rfl rfl ?_
    refine XS.iconst X0.here hx rfl (hb hby d1_41) ?_
    exact k
  refine Outs.of (ldI X0 hx hZ e0 A_o0 (j := (3 : Int32)) (k := 3) rfl (by decide) (f := (mkF m 42 #[.val (.ref o0), .val (.int (4 : Int32)), .val (.int ((((1 : Int32) * (gc 0)) * (gc 1)) * (gc 2)))] [(.int (3 : Int32)), (.ref o0), (.int ((((1 : Int32) * (gc 0)) * (gc 1)) * (gc 2)))])) rfl rfl (hb hby d1_42)) ?_
  show Outs p e below s _ _ _ (s₁.setTop (mkF m 43 #[.val (.ref o0), .val (.int (4 : Int32)), .val (.int ((((1 : Int32) * (gc 0)) * (gc 1)) * (gc 2)))] [(.int (gc 3)), (.int ((((1 : Int32) * (gc 0)) * (gc 1)) * (gc 2)))]))
  refine Outs.of (U' := s₁.setTop (mkF m 46 #[.val (.ref o0), .val (.int (4 : Int32)), .val (.int (((((1 : Int32) * (gc 0)) * (gc 1)) * (gc 2)) * (gc 3)))] [(.int (((((1 : Int32) * (gc 0)) * (gc 1)) * (gc 2)) * (gc 3)))])) (fun t k => ?_) ?_
  · refine XS.imul X0.here hx rfl (hb hby d1_43) rfl ?_
    refine XS.istoreN X0.here hx rfl (hb hby d1_44) rfl (l' := #[.val (.ref o0), .val (.int (4 : Int32)), .val (.int (((((1 : Int32) * (gc 0)) * (gc 1)) * (gc 2)) * (gc 3)))]) rfl ?_
    refine XS.iloadN X0.here hx rfl (hb hby d1_45) rfl ?_
    exact k
  exact Outs.retI X0 hx hret (hb hby d1_46) hlk (by decide) (by decide) e0 ⟨congrArg (fun z_ => some (Value.int z_)) (show (F_p4 gc) = (((((1 : Int32) * (gc 0)) * (gc 1)) * (gc 2)) * (gc 3)) from rfl).symm, N0, rfl⟩
theorem d2_51 : decode method_2_code 51 = .ok (.iload_n 3, 1) := by decide +kernel
theorem d2_52 : decode method_2_code 52 = .ok (.aload_n 1, 1) := by decide +kernel
theorem d2_53 : decode method_2_code 53 = .ok (.iconst 3, 1) := by decide +kernel
theorem d2_54 : decode method_2_code 54 = .ok (.iaload, 1) := by decide +kernel
theorem d2_55 : decode method_2_code 55 = .ok (.imul, 1) := by decide +kernel
theorem d2_56 : decode method_2_code 56 = .ok (.aload_n 0, 1) := by decide +kernel
theorem d2_57 : decode method_2_code 57 = .ok (.iconst 3, 1) := by decide +kernel
theorem d2_58 : decode method_2_code 58 = .ok (.iaload, 1) := by decide +kernel
theorem d2_59 : decode method_2_code 59 = .ok (.iadd, 1) := by decide +kernel
theorem d2_60 : decode method_2_code 60 = .ok (.istore_n 3, 1) := by decide +kernel
def v4_v45 (gp : Nat → Int32) (gc : Nat → Int32) : Int32 := (((((((0 : Int32) * (gc 0)) + (gp 0)) * (gc 1)) + (gp 1)) * (gc 2)) + (gp 2))
def F_v4 (gp : Nat → Int32) (gc : Nat → Int32) : Int32 := (((v4_v45 gp gc) * (gc 3)) + (gp 3))
set_option maxRecDepth 65536 in
set_option maxHeartbeats 40000000 in
theorem rmv4 (l : Launch) (Z : State) (a0 : Array Value) (hw : ∀ d ∈ tables_1, d.before a0 Z = true) (ws : List Jvm.Cond) (o0 : Addr) (o1 : Addr) (gp : Nat → Int32) (gc : Nat → Int32) (h0 : Heap) (n0 : Nat) (A_o0 : AI Z h0 o0 .int 4 gp) (A_o1 : AI Z h0 o1 .int 4 gc) :
    MetFree l (⟨"com/example/ratatoskr/ratatoskr/ChoicesAdvancePinLaw", "val", "([I[II)I"⟩ : MethodName) (head1 (Jvm.Cond.code (⟨"com/example/ratatoskr/ratatoskr/ChoicesAdvancePinLaw", "val", "([I[II)I"⟩ : MethodName) method_2_code 4 (some .int) :: ws) ({ frames := 0, cells := 0, slots := 0, locals := 0 } : Room)) (fun a U => a = #[(.ref o0), (.ref o1), (.int (4 : Int32))] ∧ Z.Warmed39 U.vm ∧ U.heap = h0) (fun _ _ _ _ _ => True) (fun _ U o U' => ∃ v L, o = .returned v ∧ QR (some (.int (F_v4 gp gc))) h0 n0 v U'.heap L ∧ FrameEnd U o U' L ({ frames := 0, cells := 0, slots := 0, locals := 0 } : Room).cells ({ frames := 0, cells := 0, slots := 0, locals := 0 } : Room).slots) := by
  refine MetFree.of_bodySF (plainFor_of_name pn_0) hisR ?_
  intro p e s m args below meth c s₁ Bd hml0 hP hK
  obtain ⟨rfl, hZ, hh⟩ := hP
  have hx := Bd.exec
  have hby := Bd.bytes
  have hml : c.maxLocals = 4 := hml0
  have hown : s.vm.findClass "com/example/ratatoskr/ratatoskr/ChoicesAdvancePinLaw" = some m.cls := findClass_of_methodNamed Bd.named
  have hnm := (name_of_methodNamed Bd.named Bd.method).1
  have hret := Bd.returns
  have hlk : meth.locks = false := BodyLoose.notSynchronized Bd
  have X0 : Stand p l e ({ frames := 0, cells := 0, slots := 0, locals := 0 } : Room) s m #[(.ref o0), (.ref o1), (.int (4 : Int32))] below meth c s₁ [] 0 0 := Stand.of_body Bd
  have e0 : s₁.heap = h0 := by rw [← hh, Bd.state]; rfl
  have N0 := Fr.nil n0
  show Outs p e below s (QR (some (.int (F_v4 gp gc))) h0 n0) _ _ _
  refine Outs.of (U' := s₁.setTop (mkF m 0 #[.val (.ref o0), .val (.ref o1), .val (.int (4 : Int32)), .unset] [])) (fun t k => castTop (ef_2 m o0 o1 (4 : Int32)) k) ?_
  refine Outs.of (U' := s₁.setTop (mkF m 9 #[.val (.ref o0), .val (.ref o1), .val (.int (4 : Int32)), .val (.int (0 : Int32))] [(.int (0 : Int32)), (.ref o1), (.int (0 : Int32))])) (fun t k => ?_) ?_
  · refine XS.iconst X0.here hx rfl (hb hby d2_0) ?_
    refine XS.istoreN X0.here hx rfl (hb hby d2_1) rfl (l' := #[.val (.ref o0), .val (.ref o1), .val (.int (4 : Int32)), .val (.int (0 : Int32))]) rfl ?_
    refine XS.iloadN X0.here hx rfl (hb hby d2_2) rfl ?_
    refine XS.ifNo X0.here hx rfl (hb hby d2_3) rfl ((if0 _ _).trans (tlt (by decide)).2.2.2) ?_
    refine XS.iloadN X0.here hx rfl (hb hby d2_6) rfl ?_
    refine XS.aloadN X0.here hx rfl (hb hby d2_7) rfl rfl ?_
    refine XS.iconst X0.here hx rfl (hb hby d2_8) ?_
    exact k
  refine Outs.of (ldI X0 hx hZ e0 A_o1 (j := (0 : Int32)) (k := 0) rfl (by decide) (f := (mkF m 9 #[.val (.ref o0), .val (.ref o1), .val (.int (4 : Int32)), .val (.int (0 : Int32))] [(.int (0 : Int32)), (.ref o1), (.int (0 : Int32))])) rfl rfl (hb hby d2_9)) ?_
  show Outs p e below s _ _ _ (s₁.setTop (mkF m 10 #[.val (.ref o0), .val (.ref o1), .val (.int (4 : Int32)), .val (.int (0 : Int32))] [(.int (gc 0)), (.int (0 : Int32))]))
  refine Outs.of (U' := s₁.setTop (mkF m 13 #[.val (.ref o0), .val (.ref o1), .val (.int (4 : Int32)), .val (.int (0 : Int32))] [(.int (0 : Int32)), (.ref o0), (.int ((0 : Int32) * (gc 0)))])) (fun t k => ?_) ?_
  · refine XS.imul X0.here hx rfl (hb hby d2_10) rfl ?_
    refine XS.aloadN X0.here hx rfl (hb hby d2_11) rfl rfl ?_
    refine XS.iconst X0.here hx rfl (hb hby d2_12) ?_
    exact k
  refine Outs.of (ldI X0 hx hZ e0 A_o0 (j := (0 : Int32)) (k := 0) rfl (by decide) (f := (mkF m 13 #[.val (.ref o0), .val (.ref o1), .val (.int (4 : Int32)), .val (.int (0 : Int32))] [(.int (0 : Int32)), (.ref o0), (.int ((0 : Int32) * (gc 0)))])) rfl rfl (hb hby d2_13)) ?_
  show Outs p e below s _ _ _ (s₁.setTop (mkF m 14 #[.val (.ref o0), .val (.ref o1), .val (.int (4 : Int32)), .val (.int (0 : Int32))] [(.int (gp 0)), (.int ((0 : Int32) * (gc 0)))]))
  refine Outs.of (U' := s₁.setTop (mkF m 24 #[.val (.ref o0), .val (.ref o1), .val (.int (4 : Int32)), .val (.int (((0 : Int32) * (gc 0)) + (gp 0)))] [(.int (1 : Int32)), (.ref o1), (.int (((0 : Int32) * (gc 0)) + (gp 0)))])) (fun t k => ?_) ?_
  · refine XS.iadd X0.here hx rfl (hb hby d2_14) rfl ?_
    refine XS.istoreN X0.here hx rfl (hb hby d2_15) rfl (l' := #[.val (.ref o0), .val (.ref o1), .val (.int (4 : Int32)), .val (.int (((0 : Int32) * (gc 0)) + (gp 0)))]) rfl ?_
    refine XS.iloadN X0.here hx rfl (hb hby d2_16) rfl ?_
    refine XS.iconst X0.here hx rfl (hb hby d2_17) ?_
    refine XS.icmpNo X0.here hx rfl (hb hby d2_18) rfl (tlt (by decide)).2.2.2 ?_
    refine XS.iloadN X0.here hx rfl (hb hby d2_21) rfl ?_
    refine XS.aloadN X0.here hx rfl (hb hby d2_22) rfl rfl ?_
    refine XS.iconst X0.here hx rfl (hb hby d2_23) ?_
    exact k
  refine Outs.of (ldI X0 hx hZ e0 A_o1 (j := (1 : Int32)) (k := 1) rfl (by decide) (f := (mkF m 24 #[.val (.ref o0), .val (.ref o1), .val (.int (4 : Int32)), .val (.int (((0 : Int32) * (gc 0)) + (gp 0)))] [(.int (1 : Int32)), (.ref o1), (.int (((0 : Int32) * (gc 0)) + (gp 0)))])) rfl rfl (hb hby d2_24)) ?_
  show Outs p e below s _ _ _ (s₁.setTop (mkF m 25 #[.val (.ref o0), .val (.ref o1), .val (.int (4 : Int32)), .val (.int (((0 : Int32) * (gc 0)) + (gp 0)))] [(.int (gc 1)), (.int (((0 : Int32) * (gc 0)) + (gp 0)))]))
  refine Outs.of (U' := s₁.setTop (mkF m 28 #[.val (.ref o0), .val (.ref o1), .val (.int (4 : Int32)), .val (.int (((0 : Int32) * (gc 0)) + (gp 0)))] [(.int (1 : Int32)), (.ref o0), (.int ((((0 : Int32) * (gc 0)) + (gp 0)) * (gc 1)))])) (fun t k => ?_) ?_
  · refine XS.imul X0.here hx rfl (hb hby d2_25) rfl ?_
    refine XS.aloadN X0.here hx rfl (hb hby d2_26) rfl rfl ?_
    refine XS.iconst X0.here hx rfl (hb hby d2_27) ?_
    exact k
  refine Outs.of (ldI X0 hx hZ e0 A_o0 (j := (1 : Int32)) (k := 1) rfl (by decide) (f := (mkF m 28 #[.val (.ref o0), .val (.ref o1), .val (.int (4 : Int32)), .val (.int (((0 : Int32) * (gc 0)) + (gp 0)))] [(.int (1 : Int32)), (.ref o0), (.int ((((0 : Int32) * (gc 0)) + (gp 0)) * (gc 1)))])) rfl rfl (hb hby d2_28)) ?_
  show Outs p e below s _ _ _ (s₁.setTop (mkF m 29 #[.val (.ref o0), .val (.ref o1), .val (.int (4 : Int32)), .val (.int (((0 : Int32) * (gc 0)) + (gp 0)))] [(.int (gp 1)), (.int ((((0 : Int32) * (gc 0)) + (gp 0)) * (gc 1)))]))
  refine Outs.of (U' := s₁.setTop (mkF m 39 #[.val (.ref o0), .val (.ref o1), .val (.int (4 : Int32)), .val (.int (((((0 : Int32) * (gc 0)) + (gp 0)) * (gc 1)) + (gp 1)))] [(.int (2 : Int32)), (.ref o1), (.int (((((0 : Int32) * (gc 0)) + (gp 0)) * (gc 1)) + (gp 1)))])) (fun t k => ?_) ?_
  · refine XS.iadd X0.here hx rfl (hb hby d2_29) rfl ?_
    refine XS.istoreN X0.here hx rfl (hb hby d2_30) rfl (l' := #[.val (.ref o0), .val (.ref o1), .val (.int (4 : Int32)), .val (.int (((((0 : Int32) * (gc 0)) + (gp 0)) * (gc 1)) + (gp 1)))]) rfl ?_
    refine XS.iloadN X0.here hx rfl (hb hby d2_31) rfl ?_
    refine XS.iconst X0.here hx rfl (hb hby d2_32) ?_
    refine XS.icmpNo X0.here hx rfl (hb hby d2_33) rfl (tlt (by decide)).2.2.2 ?_
    refine XS.iloadN X0.here hx rfl (hb hby d2_36) rfl ?_
    refine XS.aloadN X0.here hx rfl (hb hby d2_37) rfl rfl ?_
    refine XS.iconst X0.here hx rfl (hb hby d2_38) ?_
    exact k
  refine Outs.of (ldI X0 hx hZ e0 A_o1 (j := (2 : Int32)) (k := 2) rfl (by decide) (f := (mkF m 39 #[.val (.ref o0), .val (.ref o1), .val (.int (4 : Int32)), .val (.int (((((0 : Int32) * (gc 0)) + (gp 0)) * (gc 1)) + (gp 1)))] [(.int (2 : Int32)), (.ref o1), (.int (((((0 : Int32) * (gc 0)) + (gp 0)) * (gc 1)) + (gp 1)))])) rfl rfl (hb hby d2_39)) ?_
  show Outs p e below s _ _ _ (s₁.setTop (mkF m 40 #[.val (.ref o0), .val (.ref o1), .val (.int (4 : Int32)), .val (.int (((((0 : Int32) * (gc 0)) + (gp 0)) * (gc 1)) + (gp 1)))] [(.int (gc 2)), (.int (((((0 : Int32) * (gc 0)) + (gp 0)) * (gc 1)) + (gp 1)))]))
  refine Outs.of (U' := s₁.setTop (mkF m 43 #[.val (.ref o0), .val (.ref o1), .val (.int (4 : Int32)), .val (.int (((((0 : Int32) * (gc 0)) + (gp 0)) * (gc 1)) + (gp 1)))] [(.int (2 : Int32)), (.ref o0), (.int ((((((0 : Int32) * (gc 0)) + (gp 0)) * (gc 1)) + (gp 1)) * (gc 2)))])) (fun t k => ?_) ?_
  · refine XS.imul X0.here hx rfl (hb hby d2_40) rfl ?_
    refine XS.aloadN X0.here hx rfl (hb hby d2_41) rfl rfl ?_
    refine XS.iconst X0.here hx rfl (hb hby d2_42) ?_
    exact k
  refine Outs.of (ldI X0 hx hZ e0 A_o0 (j := (2 : Int32)) (k := 2) rfl (by decide) (f := (mkF m 43 #[.val (.ref o0), .val (.ref o1), .val (.int (4 : Int32)), .val (.int (((((0 : Int32) * (gc 0)) + (gp 0)) * (gc 1)) + (gp 1)))] [(.int (2 : Int32)), (.ref o0), (.int ((((((0 : Int32) * (gc 0)) + (gp 0)) * (gc 1)) + (gp 1)) * (gc 2)))])) rfl rfl (hb hby d2_43)) ?_
  show Outs p e below s _ _ _ (s₁.setTop (mkF m 44 #[.val (.ref o0), .val (.ref o1), .val (.int (4 : Int32)), .val (.int (((((0 : Int32) * (gc 0)) + (gp 0)) * (gc 1)) + (gp 1)))] [(.int (gp 2)), (.int ((((((0 : Int32) * (gc 0)) + (gp 0)) * (gc 1)) + (gp 1)) * (gc 2)))]))
  refine Outs.of (U' := s₁.setTop (mkF m 54 #[.val (.ref o0), .val (.ref o1), .val (.int (4 : Int32)), .val (.int (v4_v45 gp gc))] [(.int (3 : Int32)), (.ref o1), (.int (v4_v45 gp gc))])) (fun t k => ?_) ?_
  · refine XS.iadd X0.here hx rfl (hb hby d2_44) rfl ?_
    refine XS.istoreN X0.here hx rfl (hb hby d2_45) rfl (l' := #[.val (.ref o0), .val (.ref o1), .val (.int (4 : Int32)), .val (.int (v4_v45 gp gc))]) rfl ?_
    refine XS.iloadN X0.here hx rfl (hb hby d2_46) rfl ?_
    refine XS.iconst X0.here hx rfl (hb hby d2_47) ?_
    refine XS.icmpNo X0.here hx rfl (hb hby d2_48) rfl (tlt (by decide)).2.2.2 ?_
    refine XS.iloadN X0.here hx rfl (hb hby d2_51) rfl ?_
    refine XS.aloadN X0.here hx rfl (hb hby d2_52) rfl rfl ?_
    refine XS.iconst X0.here hx rfl (hb hby d2_53) ?_
    exact k
  refine Outs.of (ldI X0 hx hZ e0 A_o1 (j := (3 : Int32)) (k := 3) rfl (by decide) (f := (mkF m 54 #[.val (.ref o0), .val (.ref o1), .val (.int (4 : Int32)), .val (.int (v4_v45 gp gc))] [(.int (3 : Int32)), (.ref o1), (.int (v4_v45 gp gc))])) rfl rfl (hb hby d2_54)) ?_
  show Outs p e below s _ _ _ (s₁.setTop (mkF m 55 #[.val (.ref o0), .val (.ref o1), .val (.int (4 : Int32)), .val (.int (v4_v45 gp gc))] [(.int (gc 3)), (.int (v4_v45 gp gc))]))
  refine Outs.of (U' := s₁.setTop (mkF m 58 #[.val (.ref o0), .val (.ref o1), .val (.int (4 : Int32)), .val (.int (v4_v45 gp gc))] [(.int (3 : Int32)), (.ref o0), (.int ((v4_v45 gp gc) * (gc 3)))])) (fun t k => ?_) ?_
  · refine XS.imul X0.here hx rfl (hb hby d2_55) rfl ?_
    refine XS.aloadN X0.here hx rfl (hb hby d2_56) rfl rfl ?_
    refine XS.iconst X0.here hx rfl (hb hby d2_57) ?_
    exact k
  refine Outs.of (ldI X0 hx hZ e0 A_o0 (j := (3 : Int32)) (k := 3) rfl (by decide) (f := (mkF m 58 #[.val (.ref o0), .val (.ref o1), .val (.int (4 : Int32)), .val (.int (v4_v45 gp gc))] [(.int (3 : Int32)), (.ref o0), (.int ((v4_v45 gp gc) * (gc 3)))])) rfl rfl (hb hby d2_58)) ?_
  show Outs p e below s _ _ _ (s₁.setTop (mkF m 59 #[.val (.ref o0), .val (.ref o1), .val (.int (4 : Int32)), .val (.int (v4_v45 gp gc))] [(.int (gp 3)), (.int ((v4_v45 gp gc) * (gc 3)))]))
  refine Outs.of (U' := s₁.setTop (mkF m 62 #[.val (.ref o0), .val (.ref o1), .val (.int (4 : Int32)), .val (.int (((v4_v45 gp gc) * (gc 3)) + (gp 3)))] [(.int (((v4_v45 gp gc) * (gc 3)) + (gp 3)))])) (fun t k => ?_) ?_
  · refine XS.iadd X0.here hx rfl (hb hby d2_59) rfl ?_
    refine XS.istoreN X0.here hx rfl (hb hby d2_60) rfl (l' := #[.val (.ref o0), .val (.ref o1), .val (.int (4 : Int32)), .val (.int (((v4_v45 gp gc) * (gc 3)) + (gp 3)))]) rfl ?_
    refine XS.iloadN X0.here hx rfl (hb hby d2_61) rfl ?_
    exact k
  exact Outs.retI X0 hx hret (hb hby d2_62) hlk (by decide) (by decide) e0 ⟨congrArg (fun z_ => some (Value.int z_)) (show (F_v4 gp gc) = (((v4_v45 gp gc) * (gc 3)) + (gp 3)) from rfl).symm, N0, rfl⟩
def a4_g15 (gp : Nat → Int32) (gk : Nat → Int32) : Nat → Int32 := (upv gp 3 ((gp 3) + (1 : Int32)))
def a4_g30 (gp : Nat → Int32) (gk : Nat → Int32) : Nat → Int32 := (upv (a4_g15 gp gk) 3 (0 : Int32))
def a4_g15a (gp : Nat → Int32) (gk : Nat → Int32) : Nat → Int32 := (upv (a4_g30 gp gk) 2 (((a4_g30 gp gk) 2) + (1 : Int32)))
def a4_g30a (gp : Nat → Int32) (gk : Nat → Int32) : Nat → Int32 := (upv (a4_g15a gp gk) 2 (0 : Int32))
def a4_g15b (gp : Nat → Int32) (gk : Nat → Int32) : Nat → Int32 := (upv (a4_g30a gp gk) 1 (((a4_g30a gp gk) 1) + (1 : Int32)))
def a4_g30b (gp : Nat → Int32) (gk : Nat → Int32) : Nat → Int32 := (upv (a4_g15b gp gk) 1 (0 : Int32))
def a4_g15c (gp : Nat → Int32) (gk : Nat → Int32) : Nat → Int32 := (upv (a4_g30b gp gk) 0 (((a4_g30b gp gk) 0) + (1 : Int32)))
def a4_g30c (gp : Nat → Int32) (gk : Nat → Int32) : Nat → Int32 := (upv (a4_g15c gp gk) 0 (0 : Int32))
def F_a4 (gp : Nat → Int32) (gk : Nat → Int32) : Int32 := (if ((a4_g15 gp gk) 3) < (gk 3) then (1 : Int32) else (if ((a4_g15a gp gk) 2) < (gk 2) then (1 : Int32) else (if ((a4_g15b gp gk) 1) < (gk 1) then (1 : Int32) else (if ((a4_g15c gp gk) 0) < (gk 0) then (1 : Int32) else (0 : Int32)))))
def a4_out0 (gp : Nat → Int32) (gk : Nat → Int32) : Nat → Int32 := (if ((a4_g15 gp gk) 3) < (gk 3) then (a4_g15 gp gk) else (if ((a4_g15a gp gk) 2) < (gk 2) then (a4_g15a gp gk) else (if ((a4_g15b gp gk) 1) < (gk 1) then (a4_g15b gp gk) else (if ((a4_g15c gp gk) 0) < (gk 0) then (a4_g15c gp gk) else (a4_g30c gp gk)))))
def Q_a4 (Z : State) (o0 : Addr) (o1 : Addr) (gp : Nat → Int32) (gk : Nat → Int32) (h0 : Heap) (n0 : Nat) (v : Option Value) (h : Heap) (L : List Loc) : Prop := v = some (.int (F_a4 gp gk)) ∧ Fr n0 L ∧ Keep h0 h [o0] ∧ AI Z h o0 .int 4 (a4_out0 gp gk) ∧ AI Z h o1 .int 4 gk
set_option maxRecDepth 65536 in
set_option maxHeartbeats 40000000 in
theorem rma4 (l : Launch) (Z : State) (a0 : Array Value) (hw : ∀ d ∈ tables_1, d.before a0 Z = true) (ws : List Jvm.Cond) (o0 : Addr) (o1 : Addr) (gp : Nat → Int32) (gk : Nat → Int32) (h0 : Heap) (n0 : Nat) (A_o0 : AI Z h0 o0 .int 4 gp) (A_o1 : AI Z h0 o1 .int 4 gk) (g_o0 : n0 ≤ o0) (ne_o0_o1 : o0 ≠ o1) :
    MetFree l (⟨"com/example/ratatoskr/ratatoskr/Choices", "advance", "([I[I)Z"⟩ : MethodName) (head1 (Jvm.Cond.code (⟨"com/example/ratatoskr/ratatoskr/Choices", "advance", "([I[I)Z"⟩ : MethodName) prog_5_method_3_code 3 (some .boolean) :: ws) ({ frames := 0, cells := 0, slots := 0, locals := 0 } : Room)) (fun a U => a = #[(.ref o0), (.ref o1)] ∧ Z.Warmed39 U.vm ∧ U.heap = h0) (fun _ _ _ _ _ => True) (fun _ U o U' => ∃ v L, o = .returned v ∧ Q_a4 Z o0 o1 gp gk h0 n0 v U'.heap L ∧ FrameEnd U o U' L ({ frames := 0, cells := 0, slots := 0, locals := 0 } : Room).cells ({ frames := 0, cells := 0, slots := 0, locals := 0 } : Room).slots) := by
  refine MetFree.of_bodySF (plainFor_of_name pn_3) hisR ?_
  intro p e s m args below meth c s₁ Bd hml0 hP hK
  obtain ⟨rfl, hZ, hh⟩ := hP
  have hx := Bd.exec
  have hby := Bd.bytes
  have hml : c.maxLocals = 3 := hml0
  have hown : s.vm.findClass "com/example/ratatoskr/ratatoskr/Choices" = some m.cls := findClass_of_methodNamed Bd.named
  have hnm := (name_of_methodNamed Bd.named Bd.method).1
  have hret := Bd.returns
  have hlk : meth.locks = false := BodyLoose.notSynchronized Bd
  have X0 : Stand p l e ({ frames := 0, cells := 0, slots := 0, locals := 0 } : Room) s m #[(.ref o0), (.ref o1)] below meth c s₁ [] 0 0 := Stand.of_body Bd
  have e0 : s₁.heap = h0 := by rw [← hh, Bd.state]; rfl
  have N0 := Fr.nil n0
  show Outs p e below s (Q_a4 Z o0 o1 gp gk h0 n0) _ _ _
  refine Outs.of (U' := s₁.setTop (mkF m 0 #[.val (.ref o0), .val (.ref o1), .unset] [])) (fun t k => castTop (ef_3 m o0 o1) k) ?_
  refine Outs.of (U' := s₁.setTop (mkF m 1 #[.val (.ref o0), .val (.ref o1), .unset] [(.ref o0)])) (fun t k => ?_) ?_
  · refine XS.aloadN X0.here hx rfl (hb hby d3_0) rfl rfl ?_
    exact k
  refine Outs.of (alen X0 hx hZ e0 A_o0 (z := (4 : Int32)) rfl (f := (mkF m 1 #[.val (.ref o0), .val (.ref o1), .unset] [(.ref o0)])) rfl rfl (hb hby d3_1)) ?_
  show Outs p e below s _ _ _ (s₁.setTop (mkF m 2 #[.val (.ref o0), .val (.ref o1), .unset] [(.int (4 : Int32))]))
  refine Outs.of (U' := s₁.setTop (mkF m 12 #[.val (.ref o0), .val (.ref o1), .val (.int (3 : Int32))] [(.int (3 : Int32)), (.ref o0), (.int (3 : Int32)), (.ref o0)])) (fun t k => ?_) ?_
  · refine XS.iconst X0.here hx rfl (hb hby d3_2) ?_
    refine XS.isub X0.here hx rfl (hb hby d3_3) rfl ?_
    refine XS.istoreN X0.here hx rfl (hb hby d3_4) rfl (l' := #[.val (.ref o0), .val (.ref o1), .val (.int (3 : Int32))]) rfl ?_
    refine XS.iloadN X0.here hx rfl (hb hby d3_5) rfl ?_
    refine XS.ifNo X0.here hx rfl (hb hby d3_6) rfl ((if0 _ _).trans (flt (by decide)).1) ?_
    refine XS.aloadN X0.here hx rfl (hb hby d3_9) rfl rfl ?_
    refine XS.iloadN X0.here hx rfl (hb hby d3_10) rfl ?_
    show Steps p.tables e below (s₁.setTop (mkF m 11 #[.val (.ref o0), .val (.ref o1), .val (.int (3 : Int32))] [(.int (3 : Int32)), (.ref o0)])) _
    jvm_step X0.here [X0.here.top, hx, (hb hby d3_11), Value.category]
    exact k
  refine Outs.of (ldI X0 hx hZ e0 A_o0 (j := (3 : Int32)) (k := 3) rfl (by decide) (f := (mkF m 12 #[.val (.ref o0), .val (.ref o1), .val (.int (3 : Int32))] [(.int (3 : Int32)), (.ref o0), (.int (3 : Int32)), (.ref o0)])) rfl rfl (hb hby d3_12)) ?_
  show Outs p e below s _ _ _ (s₁.setTop (mkF m 13 #[.val (.ref o0), .val (.ref o1), .val (.int (3 : Int32))] [(.int (gp 3)), (.int (3 : Int32)), (.ref o0)]))
  refine Outs.of (U' := s₁.setTop (mkF m 15 #[.val (.ref o0), .val (.ref o1), .val (.int (3 : Int32))] [(.int ((gp 3) + (1 : Int32))), (.int (3 : Int32)), (.ref o0)])) (fun t k => ?_) ?_
  · refine XS.iconst X0.here hx rfl (hb hby d3_13) ?_
    refine XS.iadd X0.here hx rfl (hb hby d3_14) rfl ?_
    exact k
  obtain ⟨T1, h1, X1, e1, W1, V1, st1⟩ := puI X0 hx hZ e0 A_o0 (j := (3 : Int32)) (x := ((gp 3) + (1 : Int32))) (k := 3) rfl (by decide) (f := (mkF m 15 #[.val (.ref o0), .val (.ref o1), .val (.int (3 : Int32))] [(.int ((gp 3) + (1 : Int32))), (.int (3 : Int32)), (.ref o0)])) rfl rfl (hb hby d3_15)
  replace V1 : AI Z h1 o0 .int 4 (a4_g15 gp gk) := V1
  have N1 := Fr.snoc X1 N0 g_o0
  obtain ⟨Lh1, X1, N1⟩ := hide X1 N1 (C := 0) (S := 0) (by decide) (by decide)
  refine Outs.of st1 ?_
  show Outs p e below s _ _ _ (T1.setTop (mkF m 16 #[.val (.ref o0), .val (.ref o1), .val (.int (3 : Int32))] []))
  refine Outs.of (U' := T1.setTop (mkF m 18 #[.val (.ref o0), .val (.ref o1), .val (.int (3 : Int32))] [(.int (3 : Int32)), (.ref o0)])) (fun t k => ?_) ?_
  · refine XS.aloadN X1.here hx rfl (hb hby d3_16) rfl rfl ?_
    refine XS.iloadN X1.here hx rfl (hb hby d3_17) rfl ?_
    exact k
  refine Outs.of (ldI X1 hx hZ e1 V1 (j := (3 : Int32)) (k := 3) rfl (by decide) (f := (mkF m 18 #[.val (.ref o0), .val (.ref o1), .val (.int (3 : Int32))] [(.int (3 : Int32)), (.ref o0)])) rfl rfl (hb hby d3_18)) ?_
  show Outs p e below s _ _ _ (T1.setTop (mkF m 19 #[.val (.ref o0), .val (.ref o1), .val (.int (3 : Int32))] [(.int ((a4_g15 gp gk) 3))]))
  refine Outs.of (U' := T1.setTop (mkF m 21 #[.val (.ref o0), .val (.ref o1), .val (.int (3 : Int32))] [(.int (3 : Int32)), (.ref o1), (.int ((a4_g15 gp gk) 3))])) (fun t k => ?_) ?_
  · refine XS.aloadN X1.here hx rfl (hb hby d3_19) rfl rfl ?_
    refine XS.iloadN X1.here hx rfl (hb hby d3_20) rfl ?_
    exact k
  have f2 : AI Z h1 o1 .int 4 gk := (A_o1.other W1 ne_o0_o1.symm)
  refine Outs.of (ldI X1 hx hZ e1 f2 (j := (3 : Int32)) (k := 3) rfl (by decide) (f := (mkF m 21 #[.val (.ref o0), .val (.ref o1), .val (.int (3 : Int32))] [(.int (3 : Int32)), (.ref o1), (.int ((a4_g15 gp gk) 3))])) rfl rfl (hb hby d3_21)) ?_
  show Outs p e below s _ _ _ (T1.setTop (mkF m 22 #[.val (.ref o0), .val (.ref o1), .val (.int (3 : Int32))] [(.int (gk 3)), (.int ((a4_g15 gp gk) 3))]))
  by_cases hc22 : ((a4_g15 gp gk) 3) < (gk 3)
  · refine Outs.of (U' := T1.setTop (mkF m 25 #[.val (.ref o0), .val (.ref o1), .val (.int (3 : Int32))] [])) (fun t k => ?_) ?_
    · refine XS.icmpNo X1.here hx rfl (hb hby d3_22) rfl (tlt hc22).2.1 ?_
      exact k
    refine Outs.of (U' := T1.setTop (mkF m 26 #[.val (.ref o0), .val (.ref o1), .val (.int (3 : Int32))] [(.int (1 : Int32))])) (fun t k => ?_) ?_
    · refine XS.iconst X1.here hx rfl (hb hby d3_25) ?_
      exact k
    exact Outs.retN (t := .boolean) (z := (1 : Int32)) X1 hx hret (by simp) (hb hby d3_26) hlk (by decide) (by decide) e1 ⟨congrArg (fun z_ => some (Value.int z_)) (show (F_a4 gp gk) = (1 : Int32) from (if_pos hc22)).symm, N1, ((Keep.refl h0 [o0]).wr W1 (Or.inl (List.mem_of_getElem? (i := 0) rfl))), (by rw [show (a4_out0 gp gk) = (a4_g15 gp gk) from (if_pos hc22)]; exact V1), f2⟩
  · refine Outs.of (U' := T1.setTop (mkF m 27 #[.val (.ref o0), .val (.ref o1), .val (.int (3 : Int32))] [])) (fun t k => ?_) ?_
    · refine XS.icmpYes X1.here hx rfl (pc0 := 22) (pc' := 27) rfl (hb hby d3_22) rfl (flt hc22).2.1 (by decide) (by decide) ?_
      exact k
    refine Outs.of (U' := T1.setTop (mkF m 30 #[.val (.ref o0), .val (.ref o1), .val (.int (3 : Int32))] [(.int (0 : Int32)), (.int (3 : Int32)), (.ref o0)])) (fun t k => ?_) ?_
    · refine XS.aloadN X1.here hx rfl (hb hby d3_27) rfl rfl ?_
      refine XS.iloadN X1.here hx rfl (hb hby d3_28) rfl ?_
      refine XS.iconst X1.here hx rfl (hb hby d3_29) ?_
      exact k
    obtain ⟨T3, h3, X3, e3, W3, V3, st3⟩ := puI X1 hx hZ e1 V1 (j := (3 : Int32)) (x := (0 : Int32)) (k := 3) rfl (by decide) (f := (mkF m 30 #[.val (.ref o0), .val (.ref o1), .val (.int (3 : Int32))] [(.int (0 : Int32)), (.int (3 : Int32)), (.ref o0)])) rfl rfl (hb hby d3_30)
    replace V3 : AI Z h3 o0 .int 4 (a4_g30 gp gk) := V3
    have N3 := Fr.snoc X3 N1 g_o0
    obtain ⟨Lh3, X3, N3⟩ := hide X3 N3 (C := 0) (S := 0) (by decide) (by decide)
    refine Outs.of st3 ?_
    show Outs p e below s _ _ _ (T3.setTop (mkF m 31 #[.val (.ref o0), .val (.ref o1), .val (.int (3 : Int32))] []))
    refine Outs.of (U' := T3.setTop (mkF m 12 #[.val (.ref o0), .val (.ref o1), .val (.int (2 : Int32))] [(.int (2 : Int32)), (.ref o0), (.int (2 : Int32)), (.ref o0)])) (fun t k => ?_) ?_
    · refine XS.iinc X3.here hx rfl (hb hby d3_31) rfl (l' := #[.val (.ref o0), .val (.ref o1), .val (.int (2 : Int32))]) rfl ?_
      refine XS.goto X3.here hx rfl (pc0 := 34) (pc' := 5) rfl (hb hby d3_34) (by decide) (by decide) ?_
      refine XS.iloadN X3.here hx rfl (hb hby d3_5) rfl ?_
      refine XS.ifNo X3.here hx rfl (hb hby d3_6) rfl ((if0 _ _).trans (flt (by decide)).1) ?_
      refine XS.aloadN X3.here hx rfl (hb hby d3_9) rfl rfl ?_
      refine XS.iloadN X3.here hx rfl (hb hby d3_10) rfl ?_
      show Steps p.tables e below (T3.setTop (mkF m 11 #[.val (.ref o0), .val (.ref o1), .val (.int (2 : Int32))] [(.int (2 : Int32)), (.ref o0)])) _
      jvm_step X3.here [X3.here.top, hx, (hb hby d3_11), Value.category]
      exact k
    refine Outs.of (ldI X3 hx hZ e3 V3 (j := (2 : Int32)) (k := 2) rfl (by decide) (f := (mkF m 12 #[.val (.ref o0), .val (.ref o1), .val (.int (2 : Int32))] [(.int (2 : Int32)), (.ref o0), (.int (2 : Int32)), (.ref o0)])) rfl rfl (hb hby d3_12)) ?_
    show Outs p e below s _ _ _ (T3.setTop (mkF m 13 #[.val (.ref o0), .val (.ref o1), .val (.int (2 : Int32))] [(.int ((a4_g30 gp gk) 2)), (.int (2 : Int32)), (.ref o0)]))
    refine Outs.of (U' := T3.setTop (mkF m 15 #[.val (.ref o0), .val (.ref o1), .val (.int (2 : Int32))] [(.int (((a4_g30 gp gk) 2) + (1 : Int32))), (.int (2 : Int32)), (.ref o0)])) (fun t k => ?_) ?_
    · refine XS.iconst X3.here hx rfl (hb hby d3_13) ?_
      refine XS.iadd X3.here hx rfl (hb hby d3_14) rfl ?_
      exact k
    obtain ⟨T4, h4, X4, e4, W4, V4, st4⟩ := puI X3 hx hZ e3 V3 (j := (2 : Int32)) (x := (((a4_g30 gp gk) 2) + (1 : Int32))) (k := 2) rfl (by decide) (f := (mkF m 15 #[.val (.ref o0), .val (.ref o1), .val (.int (2 : Int32))] [(.int (((a4_g30 gp gk) 2) + (1 : Int32))), (.int (2 : Int32)), (.ref o0)])) rfl rfl (hb hby d3_15)
    replace V4 : AI Z h4 o0 .int 4 (a4_g15a gp gk) := V4
    have N4 := Fr.snoc X4 N3 g_o0
    obtain ⟨Lh4, X4, N4⟩ := hide X4 N4 (C := 0) (S := 0) (by decide) (by decide)
    refine Outs.of st4 ?_
    show Outs p e below s _ _ _ (T4.setTop (mkF m 16 #[.val (.ref o0), .val (.ref o1), .val (.int (2 : Int32))] []))
    refine Outs.of (U' := T4.setTop (mkF m 18 #[.val (.ref o0), .val (.ref o1), .val (.int (2 : Int32))] [(.int (2 : Int32)), (.ref o0)])) (fun t k => ?_) ?_
    · refine XS.aloadN X4.here hx rfl (hb hby d3_16) rfl rfl ?_
      refine XS.iloadN X4.here hx rfl (hb hby d3_17) rfl ?_
      exact k
    refine Outs.of (ldI X4 hx hZ e4 V4 (j := (2 : Int32)) (k := 2) rfl (by decide) (f := (mkF m 18 #[.val (.ref o0), .val (.ref o1), .val (.int (2 : Int32))] [(.int (2 : Int32)), (.ref o0)])) rfl rfl (hb hby d3_18)) ?_
    show Outs p e below s _ _ _ (T4.setTop (mkF m 19 #[.val (.ref o0), .val (.ref o1), .val (.int (2 : Int32))] [(.int ((a4_g15a gp gk) 2))]))
    refine Outs.of (U' := T4.setTop (mkF m 21 #[.val (.ref o0), .val (.ref o1), .val (.int (2 : Int32))] [(.int (2 : Int32)), (.ref o1), (.int ((a4_g15a gp gk) 2))])) (fun t k => ?_) ?_
    · refine XS.aloadN X4.here hx rfl (hb hby d3_19) rfl rfl ?_
      refine XS.iloadN X4.here hx rfl (hb hby d3_20) rfl ?_
      exact k
    have f5 : AI Z h4 o1 .int 4 gk := ((f2.other W3 ne_o0_o1.symm).other W4 ne_o0_o1.symm)
    refine Outs.of (ldI X4 hx hZ e4 f5 (j := (2 : Int32)) (k := 2) rfl (by decide) (f := (mkF m 21 #[.val (.ref o0), .val (.ref o1), .val (.int (2 : Int32))] [(.int (2 : Int32)), (.ref o1), (.int ((a4_g15a gp gk) 2))])) rfl rfl (hb hby d3_21)) ?_
    show Outs p e below s _ _ _ (T4.setTop (mkF m 22 #[.val (.ref o0), .val (.ref o1), .val (.int (2 : Int32))] [(.int (gk 2)), (.int ((a4_g15a gp gk) 2))]))
    by_cases hc22_6 : ((a4_g15a gp gk) 2) < (gk 2)
    · refine Outs.of (U' := T4.setTop (mkF m 25 #[.val (.ref o0), .val (.ref o1), .val (.int (2 : Int32))] [])) (fun t k => ?_) ?_
      · refine XS.icmpNo X4.here hx rfl (hb hby d3_22) rfl (tlt hc22_6).2.1 ?_
        exact k
      refine Outs.of (U' := T4.setTop (mkF m 26 #[.val (.ref o0), .val (.ref o1), .val (.int (2 : Int32))] [(.int (1 : Int32))])) (fun t k => ?_) ?_
      · refine XS.iconst X4.here hx rfl (hb hby d3_25) ?_
        exact k
      exact Outs.retN (t := .boolean) (z := (1 : Int32)) X4 hx hret (by simp) (hb hby d3_26) hlk (by decide) (by decide) e4 ⟨congrArg (fun z_ => some (Value.int z_)) (show (F_a4 gp gk) = (1 : Int32) from ((if_neg hc22).trans (if_pos hc22_6))).symm, N4, ((((Keep.refl h0 [o0]).wr W1 (Or.inl (List.mem_of_getElem? (i := 0) rfl))).wr W3 (Or.inl (List.mem_of_getElem? (i := 0) rfl))).wr W4 (Or.inl (List.mem_of_getElem? (i := 0) rfl))), (by rw [show (a4_out0 gp gk) = (a4_g15a gp gk) from ((if_neg hc22).trans (if_pos hc22_6))]; exact V4), f5⟩
    · refine Outs.of (U' := T4.setTop (mkF m 27 #[.val (.ref o0), .val (.ref o1), .val (.int (2 : Int32))] [])) (fun t k => ?_) ?_
      · refine XS.icmpYes X4.here hx rfl (pc0 := 22) (pc' := 27) rfl (hb hby d3_22) rfl (flt hc22_6).2.1 (by decide) (by decide) ?_
        exact k
      refine Outs.of (U' := T4.setTop (mkF m 30 #[.val (.ref o0), .val (.ref o1), .val (.int (2 : Int32))] [(.int (0 : Int32)), (.int (2 : Int32)), (.ref o0)])) (fun t k => ?_) ?_
      · refine XS.aloadN X4.here hx rfl (hb hby d3_27) rfl rfl ?_
        refine XS.iloadN X4.here hx rfl (hb hby d3_28) rfl ?_
        refine XS.iconst X4.here hx rfl (hb hby d3_29) ?_
        exact k
      obtain ⟨T7, h7, X7, e7, W7, V7, st7⟩ := puI X4 hx hZ e4 V4 (j := (2 : Int32)) (x := (0 : Int32)) (k := 2) rfl (by decide) (f := (mkF m 30 #[.val (.ref o0), .val (.ref o1), .val (.int (2 : Int32))] [(.int (0 : Int32)), (.int (2 : Int32)), (.ref o0)])) rfl rfl (hb hby d3_30)
      replace V7 : AI Z h7 o0 .int 4 (a4_g30a gp gk) := V7
      have N7 := Fr.snoc X7 N4 g_o0
      obtain ⟨Lh7, X7, N7⟩ := hide X7 N7 (C := 0) (S := 0) (by decide) (by decide)
      refine Outs.of st7 ?_
      show Outs p e below s _ _ _ (T7.setTop (mkF m 31 #[.val (.ref o0), .val (.ref o1), .val (.int (2 : Int32))] []))
      refine Outs.of (U' := T7.setTop (mkF m 12 #[.val (.ref o0), .val (.ref o1), .val (.int (1 : Int32))] [(.int (1 : Int32)), (.ref o0), (.int (1 : Int32)), (.ref o0)])) (fun t k => ?_) ?_
      · refine XS.iinc X7.here hx rfl (hb hby d3_31) rfl (l' := #[.val (.ref o0), .val (.ref o1), .val (.int (1 : Int32))]) rfl ?_
        refine XS.goto X7.here hx rfl (pc0 := 34) (pc' := 5) rfl (hb hby d3_34) (by decide) (by decide) ?_
        refine XS.iloadN X7.here hx rfl (hb hby d3_5) rfl ?_
        refine XS.ifNo X7.here hx rfl (hb hby d3_6) rfl ((if0 _ _).trans (flt (by decide)).1) ?_
        refine XS.aloadN X7.here hx rfl (hb hby d3_9) rfl rfl ?_
        refine XS.iloadN X7.here hx rfl (hb hby d3_10) rfl ?_
        show Steps p.tables e below (T7.setTop (mkF m 11 #[.val (.ref o0), .val (.ref o1), .val (.int (1 : Int32))] [(.int (1 : Int32)), (.ref o0)])) _
        jvm_step X7.here [X7.here.top, hx, (hb hby d3_11), Value.category]
        exact k
      refine Outs.of (ldI X7 hx hZ e7 V7 (j := (1 : Int32)) (k := 1) rfl (by decide) (f := (mkF m 12 #[.val (.ref o0), .val (.ref o1), .val (.int (1 : Int32))] [(.int (1 : Int32)), (.ref o0), (.int (1 : Int32)), (.ref o0)])) rfl rfl (hb hby d3_12)) ?_
      show Outs p e below s _ _ _ (T7.setTop (mkF m 13 #[.val (.ref o0), .val (.ref o1), .val (.int (1 : Int32))] [(.int ((a4_g30a gp gk) 1)), (.int (1 : Int32)), (.ref o0)]))
      refine Outs.of (U' := T7.setTop (mkF m 15 #[.val (.ref o0), .val (.ref o1), .val (.int (1 : Int32))] [(.int (((a4_g30a gp gk) 1) + (1 : Int32))), (.int (1 : Int32)), (.ref o0)])) (fun t k => ?_) ?_
      · refine XS.iconst X7.here hx rfl (hb hby d3_13) ?_
        refine XS.iadd X7.here hx rfl (hb hby d3_14) rfl ?_
        exact k
      obtain ⟨T8, h8, X8, e8, W8, V8, st8⟩ := puI X7 hx hZ e7 V7 (j := (1 : Int32)) (x := (((a4_g30a gp gk) 1) + (1 : Int32))) (k := 1) rfl (by decide) (f := (mkF m 15 #[.val (.ref o0), .val (.ref o1), .val (.int (1 : Int32))] [(.int (((a4_g30a gp gk) 1) + (1 : Int32))), (.int (1 : Int32)), (.ref o0)])) rfl rfl (hb hby d3_15)
      replace V8 : AI Z h8 o0 .int 4 (a4_g15b gp gk) := V8
      have N8 := Fr.snoc X8 N7 g_o0
      obtain ⟨Lh8, X8, N8⟩ := hide X8 N8 (C := 0) (S := 0) (by decide) (by decide)
      refine Outs.of st8 ?_
      show Outs p e below s _ _ _ (T8.setTop (mkF m 16 #[.val (.ref o0), .val (.ref o1), .val (.int (1 : Int32))] []))
      refine Outs.of (U' := T8.setTop (mkF m 18 #[.val (.ref o0), .val (.ref o1), .val (.int (1 : Int32))] [(.int (1 : Int32)), (.ref o0)])) (fun t k => ?_) ?_
      · refine XS.aloadN X8.here hx rfl (hb hby d3_16) rfl rfl ?_
        refine XS.iloadN X8.here hx rfl (hb hby d3_17) rfl ?_
        exact k
      refine Outs.of (ldI X8 hx hZ e8 V8 (j := (1 : Int32)) (k := 1) rfl (by decide) (f := (mkF m 18 #[.val (.ref o0), .val (.ref o1), .val (.int (1 : Int32))] [(.int (1 : Int32)), (.ref o0)])) rfl rfl (hb hby d3_18)) ?_
      show Outs p e below s _ _ _ (T8.setTop (mkF m 19 #[.val (.ref o0), .val (.ref o1), .val (.int (1 : Int32))] [(.int ((a4_g15b gp gk) 1))]))
      refine Outs.of (U' := T8.setTop (mkF m 21 #[.val (.ref o0), .val (.ref o1), .val (.int (1 : Int32))] [(.int (1 : Int32)), (.ref o1), (.int ((a4_g15b gp gk) 1))])) (fun t k => ?_) ?_
      · refine XS.aloadN X8.here hx rfl (hb hby d3_19) rfl rfl ?_
        refine XS.iloadN X8.here hx rfl (hb hby d3_20) rfl ?_
        exact k
      have f9 : AI Z h8 o1 .int 4 gk := ((f5.other W7 ne_o0_o1.symm).other W8 ne_o0_o1.symm)
      refine Outs.of (ldI X8 hx hZ e8 f9 (j := (1 : Int32)) (k := 1) rfl (by decide) (f := (mkF m 21 #[.val (.ref o0), .val (.ref o1), .val (.int (1 : Int32))] [(.int (1 : Int32)), (.ref o1), (.int ((a4_g15b gp gk) 1))])) rfl rfl (hb hby d3_21)) ?_
      show Outs p e below s _ _ _ (T8.setTop (mkF m 22 #[.val (.ref o0), .val (.ref o1), .val (.int (1 : Int32))] [(.int (gk 1)), (.int ((a4_g15b gp gk) 1))]))
      by_cases hc22_10 : ((a4_g15b gp gk) 1) < (gk 1)
      · refine Outs.of (U' := T8.setTop (mkF m 25 #[.val (.ref o0), .val (.ref o1), .val (.int (1 : Int32))] [])) (fun t k => ?_) ?_
        · refine XS.icmpNo X8.here hx rfl (hb hby d3_22) rfl (tlt hc22_10).2.1 ?_
          exact k
        refine Outs.of (U' := T8.setTop (mkF m 26 #[.val (.ref o0), .val (.ref o1), .val (.int (1 : Int32))] [(.int (1 : Int32))])) (fun t k => ?_) ?_
        · refine XS.iconst X8.here hx rfl (hb hby d3_25) ?_
          exact k
        exact Outs.retN (t := .boolean) (z := (1 : Int32)) X8 hx hret (by simp) (hb hby d3_26) hlk (by decide) (by decide) e8 ⟨congrArg (fun z_ => some (Value.int z_)) (show (F_a4 gp gk) = (1 : Int32) from ((if_neg hc22).trans ((if_neg hc22_6).trans (if_pos hc22_10)))).symm, N8, ((((((Keep.refl h0 [o0]).wr W1 (Or.inl (List.mem_of_getElem? (i := 0) rfl))).wr W3 (Or.inl (List.mem_of_getElem? (i := 0) rfl))).wr W4 (Or.inl (List.mem_of_getElem? (i := 0) rfl))).wr W7 (Or.inl (List.mem_of_getElem? (i := 0) rfl))).wr W8 (Or.inl (List.mem_of_getElem? (i := 0) rfl))), (by rw [show (a4_out0 gp gk) = (a4_g15b gp gk) from ((if_neg hc22).trans ((if_neg hc22_6).trans (if_pos hc22_10)))]; exact V8), f9⟩
      · refine Outs.of (U' := T8.setTop (mkF m 27 #[.val (.ref o0), .val (.ref o1), .val (.int (1 : Int32))] [])) (fun t k => ?_) ?_
        · refine XS.icmpYes X8.here hx rfl (pc0 := 22) (pc' := 27) rfl (hb hby d3_22) rfl (flt hc22_10).2.1 (by decide) (by decide) ?_
          exact k
        refine Outs.of (U' := T8.setTop (mkF m 30 #[.val (.ref o0), .val (.ref o1), .val (.int (1 : Int32))] [(.int (0 : Int32)), (.int (1 : Int32)), (.ref o0)])) (fun t k => ?_) ?_
        · refine XS.aloadN X8.here hx rfl (hb hby d3_27) rfl rfl ?_
          refine XS.iloadN X8.here hx rfl (hb hby d3_28) rfl ?_
          refine XS.iconst X8.here hx rfl (hb hby d3_29) ?_
          exact k
        obtain ⟨T11, h11, X11, e11, W11, V11, st11⟩ := puI X8 hx hZ e8 V8 (j := (1 : Int32)) (x := (0 : Int32)) (k := 1) rfl (by decide) (f := (mkF m 30 #[.val (.ref o0), .val (.ref o1), .val (.int (1 : Int32))] [(.int (0 : Int32)), (.int (1 : Int32)), (.ref o0)])) rfl rfl (hb hby d3_30)
        replace V11 : AI Z h11 o0 .int 4 (a4_g30b gp gk) := V11
        have N11 := Fr.snoc X11 N8 g_o0
        obtain ⟨Lh11, X11, N11⟩ := hide X11 N11 (C := 0) (S := 0) (by decide) (by decide)
        refine Outs.of st11 ?_
        show Outs p e below s _ _ _ (T11.setTop (mkF m 31 #[.val (.ref o0), .val (.ref o1), .val (.int (1 : Int32))] []))
        refine Outs.of (U' := T11.setTop (mkF m 12 #[.val (.ref o0), .val (.ref o1), .val (.int (0 : Int32))] [(.int (0 : Int32)), (.ref o0), (.int (0 : Int32)), (.ref o0)])) (fun t k => ?_) ?_
        · refine XS.iinc X11.here hx rfl (hb hby d3_31) rfl (l' := #[.val (.ref o0), .val (.ref o1), .val (.int (0 : Int32))]) rfl ?_
          refine XS.goto X11.here hx rfl (pc0 := 34) (pc' := 5) rfl (hb hby d3_34) (by decide) (by decide) ?_
          refine XS.iloadN X11.here hx rfl (hb hby d3_5) rfl ?_
          refine XS.ifNo X11.here hx rfl (hb hby d3_6) rfl ((if0 _ _).trans (flt (by decide)).1) ?_
          refine XS.aloadN X11.here hx rfl (hb hby d3_9) rfl rfl ?_
          refine XS.iloadN X11.here hx rfl (hb hby d3_10) rfl ?_
          show Steps p.tables e below (T11.setTop (mkF m 11 #[.val (.ref o0), .val (.ref o1), .val (.int (0 : Int32))] [(.int (0 : Int32)), (.ref o0)])) _
          jvm_step X11.here [X11.here.top, hx, (hb hby d3_11), Value.category]
          exact k
        refine Outs.of (ldI X11 hx hZ e11 V11 (j := (0 : Int32)) (k := 0) rfl (by decide) (f := (mkF m 12 #[.val (.ref o0), .val (.ref o1), .val (.int (0 : Int32))] [(.int (0 : Int32)), (.ref o0), (.int (0 : Int32)), (.ref o0)])) rfl rfl (hb hby d3_12)) ?_
        show Outs p e below s _ _ _ (T11.setTop (mkF m 13 #[.val (.ref o0), .val (.ref o1), .val (.int (0 : Int32))] [(.int ((a4_g30b gp gk) 0)), (.int (0 : Int32)), (.ref o0)]))
        refine Outs.of (U' := T11.setTop (mkF m 15 #[.val (.ref o0), .val (.ref o1), .val (.int (0 : Int32))] [(.int (((a4_g30b gp gk) 0) + (1 : Int32))), (.int (0 : Int32)), (.ref o0)])) (fun t k => ?_) ?_
        · refine XS.iconst X11.here hx rfl (hb hby d3_13) ?_
          refine XS.iadd X11.here hx rfl (hb hby d3_14) rfl ?_
          exact k
        obtain ⟨T12, h12, X12, e12, W12, V12, st12⟩ := puI X11 hx hZ e11 V11 (j := (0 : Int32)) (x := (((a4_g30b gp gk) 0) + (1 : Int32))) (k := 0) rfl (by decide) (f := (mkF m 15 #[.val (.ref o0), .val (.ref o1), .val (.int (0 : Int32))] [(.int (((a4_g30b gp gk) 0) + (1 : Int32))), (.int (0 : Int32)), (.ref o0)])) rfl rfl (hb hby d3_15)
        replace V12 : AI Z h12 o0 .int 4 (a4_g15c gp gk) := V12
        have N12 := Fr.snoc X12 N11 g_o0
        obtain ⟨Lh12, X12, N12⟩ := hide X12 N12 (C := 0) (S := 0) (by decide) (by decide)
        refine Outs.of st12 ?_
        show Outs p e below s _ _ _ (T12.setTop (mkF m 16 #[.val (.ref o0), .val (.ref o1), .val (.int (0 : Int32))] []))
        refine Outs.of (U' := T12.setTop (mkF m 18 #[.val (.ref o0), .val (.ref o1), .val (.int (0 : Int32))] [(.int (0 : Int32)), (.ref o0)])) (fun t k => ?_) ?_
        · refine XS.aloadN X12.here hx rfl (hb hby d3_16) rfl rfl ?_
          refine XS.iloadN X12.here hx rfl (hb hby d3_17) rfl ?_
          exact k
        refine Outs.of (ldI X12 hx hZ e12 V12 (j := (0 : Int32)) (k := 0) rfl (by decide) (f := (mkF m 18 #[.val (.ref o0), .val (.ref o1), .val (.int (0 : Int32))] [(.int (0 : Int32)), (.ref o0)])) rfl rfl (hb hby d3_18)) ?_
        show Outs p e below s _ _ _ (T12.setTop (mkF m 19 #[.val (.ref o0), .val (.ref o1), .val (.int (0 : Int32))] [(.int ((a4_g15c gp gk) 0))]))
        refine Outs.of (U' := T12.setTop (mkF m 21 #[.val (.ref o0), .val (.ref o1), .val (.int (0 : Int32))] [(.int (0 : Int32)), (.ref o1), (.int ((a4_g15c gp gk) 0))])) (fun t k => ?_) ?_
        · refine XS.aloadN X12.here hx rfl (hb hby d3_19) rfl rfl ?_
          refine XS.iloadN X12.here hx rfl (hb hby d3_20) rfl ?_
          exact k
        have f13 : AI Z h12 o1 .int 4 gk := ((f9.other W11 ne_o0_o1.symm).other W12 ne_o0_o1.symm)
        refine Outs.of (ldI X12 hx hZ e12 f13 (j := (0 : Int32)) (k := 0) rfl (by decide) (f := (mkF m 21 #[.val (.ref o0), .val (.ref o1), .val (.int (0 : Int32))] [(.int (0 : Int32)), (.ref o1), (.int ((a4_g15c gp gk) 0))])) rfl rfl (hb hby d3_21)) ?_
        show Outs p e below s _ _ _ (T12.setTop (mkF m 22 #[.val (.ref o0), .val (.ref o1), .val (.int (0 : Int32))] [(.int (gk 0)), (.int ((a4_g15c gp gk) 0))]))
        by_cases hc22_14 : ((a4_g15c gp gk) 0) < (gk 0)
        · refine Outs.of (U' := T12.setTop (mkF m 25 #[.val (.ref o0), .val (.ref o1), .val (.int (0 : Int32))] [])) (fun t k => ?_) ?_
          · refine XS.icmpNo X12.here hx rfl (hb hby d3_22) rfl (tlt hc22_14).2.1 ?_
            exact k
          refine Outs.of (U' := T12.setTop (mkF m 26 #[.val (.ref o0), .val (.ref o1), .val (.int (0 : Int32))] [(.int (1 : Int32))])) (fun t k => ?_) ?_
          · refine XS.iconst X12.here hx rfl (hb hby d3_25) ?_
            exact k
          exact Outs.retN (t := .boolean) (z := (1 : Int32)) X12 hx hret (by simp) (hb hby d3_26) hlk (by decide) (by decide) e12 ⟨congrArg (fun z_ => some (Value.int z_)) (show (F_a4 gp gk) = (1 : Int32) from ((if_neg hc22).trans ((if_neg hc22_6).trans ((if_neg hc22_10).trans (if_pos hc22_14))))).symm, N12, ((((((((Keep.refl h0 [o0]).wr W1 (Or.inl (List.mem_of_getElem? (i := 0) rfl))).wr W3 (Or.inl (List.mem_of_getElem? (i := 0) rfl))).wr W4 (Or.inl (List.mem_of_getElem? (i := 0) rfl))).wr W7 (Or.inl (List.mem_of_getElem? (i := 0) rfl))).wr W8 (Or.inl (List.mem_of_getElem? (i := 0) rfl))).wr W11 (Or.inl (List.mem_of_getElem? (i := 0) rfl))).wr W12 (Or.inl (List.mem_of_getElem? (i := 0) rfl))), (by rw [show (a4_out0 gp gk) = (a4_g15c gp gk) from ((if_neg hc22).trans ((if_neg hc22_6).trans ((if_neg hc22_10).trans (if_pos hc22_14))))]; exact V12), f13⟩
        · refine Outs.of (U' := T12.setTop (mkF m 27 #[.val (.ref o0), .val (.ref o1), .val (.int (0 : Int32))] [])) (fun t k => ?_) ?_
          · refine XS.icmpYes X12.here hx rfl (pc0 := 22) (pc' := 27) rfl (hb hby d3_22) rfl (flt hc22_14).2.1 (by decide) (by decide) ?_
            exact k
          refine Outs.of (U' := T12.setTop (mkF m 30 #[.val (.ref o0), .val (.ref o1), .val (.int (0 : Int32))] [(.int (0 : Int32)), (.int (0 : Int32)), (.ref o0)])) (fun t k => ?_) ?_
          · refine XS.aloadN X12.here hx rfl (hb hby d3_27) rfl rfl ?_
            refine XS.iloadN X12.here hx rfl (hb hby d3_28) rfl ?_
            refine XS.iconst X12.here hx rfl (hb hby d3_29) ?_
            exact k
          obtain ⟨T15, h15, X15, e15, W15, V15, st15⟩ := puI X12 hx hZ e12 V12 (j := (0 : Int32)) (x := (0 : Int32)) (k := 0) rfl (by decide) (f := (mkF m 30 #[.val (.ref o0), .val (.ref o1), .val (.int (0 : Int32))] [(.int (0 : Int32)), (.int (0 : Int32)), (.ref o0)])) rfl rfl (hb hby d3_30)
          replace V15 : AI Z h15 o0 .int 4 (a4_g30c gp gk) := V15
          have N15 := Fr.snoc X15 N12 g_o0
          obtain ⟨Lh15, X15, N15⟩ := hide X15 N15 (C := 0) (S := 0) (by decide) (by decide)
          refine Outs.of st15 ?_
          show Outs p e below s _ _ _ (T15.setTop (mkF m 31 #[.val (.ref o0), .val (.ref o1), .val (.int (0 : Int32))] []))
          refine Outs.of (U' := T15.setTop (mkF m 38 #[.val (.ref o0), .val (.ref o1), .val (.int (-1 : Int32))] [(.int (0 : Int32))])) (fun t k => ?_) ?_
          · refine XS.iinc X15.here hx rfl (hb hby d3_31) rfl (l' := #[.val (.ref o0), .val (.ref o1), .val (.int (-1 : Int32))]) rfl ?_
            refine XS.goto X15.here hx rfl (pc0 := 34) (pc' := 5) rfl (hb hby d3_34) (by decide) (by decide) ?_
            refine XS.iloadN X15.here hx rfl (hb hby d3_5) rfl ?_
            refine XS.ifYes X15.here hx rfl (pc0 := 6) (pc' := 37) rfl (hb hby d3_6) rfl ((if0 _ _).trans (tlt (by decide)).1) (by decide) (by decide) ?_
            refine XS.iconst X15.here hx rfl (hb hby d3_37) ?_
            exact k
          have f16 : AI Z h15 o1 .int 4 gk := (f13.other W15 ne_o0_o1.symm)
          exact Outs.retN (t := .boolean) (z := (0 : Int32)) X15 hx hret (by simp) (hb hby d3_38) hlk (by decide) (by decide) e15 ⟨congrArg (fun z_ => some (Value.int z_)) (show (F_a4 gp gk) = (0 : Int32) from ((if_neg hc22).trans ((if_neg hc22_6).trans ((if_neg hc22_10).trans (if_neg hc22_14))))).symm, N15, (((((((((Keep.refl h0 [o0]).wr W1 (Or.inl (List.mem_of_getElem? (i := 0) rfl))).wr W3 (Or.inl (List.mem_of_getElem? (i := 0) rfl))).wr W4 (Or.inl (List.mem_of_getElem? (i := 0) rfl))).wr W7 (Or.inl (List.mem_of_getElem? (i := 0) rfl))).wr W8 (Or.inl (List.mem_of_getElem? (i := 0) rfl))).wr W11 (Or.inl (List.mem_of_getElem? (i := 0) rfl))).wr W12 (Or.inl (List.mem_of_getElem? (i := 0) rfl))).wr W15 (Or.inl (List.mem_of_getElem? (i := 0) rfl))), (by rw [show (a4_out0 gp gk) = (a4_g30c gp gk) from ((if_neg hc22).trans ((if_neg hc22_6).trans ((if_neg hc22_10).trans (if_neg hc22_14))))]; exact V15), f16⟩
def k4_0_34_s0 (gp : Nat → Int32) (gk : Nat → Int32) (gc : Nat → Int32) : Int32 := (if (gp 0) < (gc 0) then (1 : Int32) else (0 : Int32))
def F_k4_0 (gp : Nat → Int32) (gk : Nat → Int32) (gc : Nat → Int32) : Int32 := (if (gk 0) = (gc 0) then (if (gp 0) < (0 : Int32) then (0 : Int32) else (nar .boolean (k4_0_34_s0 gp gk gc))) else (0 : Int32))
set_option maxRecDepth 65536 in
set_option maxHeartbeats 40000000 in
theorem rmk4_0 (l : Launch) (Z : State) (a0 : Array Value) (hw : ∀ d ∈ tables_1, d.before a0 Z = true) (ws : List Jvm.Cond) (o0 : Addr) (o1 : Addr) (o2 : Addr) (gp : Nat → Int32) (gk : Nat → Int32) (gc : Nat → Int32) (h0 : Heap) (n0 : Nat) (A_o0 : AI Z h0 o0 .int 4 gp) (A_o1 : AI Z h0 o1 .int 4 gk) (A_o2 : AI Z h0 o2 .int 4 gc) :
    MetFree l (⟨"com/example/ratatoskr/ratatoskr/ChoicesAdvancePinLaw", "ok", "([I[I[III)Z"⟩ : MethodName) (head1 (Jvm.Cond.code (⟨"com/example/ratatoskr/ratatoskr/ChoicesAdvancePinLaw", "ok", "([I[I[III)Z"⟩ : MethodName) method_4_code 5 (some .boolean) :: ws) ({ frames := 0, cells := 0, slots := 0, locals := 0 } : Room)) (fun a U => a = #[(.ref o0), (.ref o1), (.ref o2), (.int (4 : Int32)), (.int (0 : Int32))] ∧ Z.Warmed39 U.vm ∧ U.heap = h0) (fun _ _ _ _ _ => True) (fun _ U o U' => ∃ v L, o = .returned v ∧ QR (some (.int (F_k4_0 gp gk gc))) h0 n0 v U'.heap L ∧ FrameEnd U o U' L ({ frames := 0, cells := 0, slots := 0, locals := 0 } : Room).cells ({ frames := 0, cells := 0, slots := 0, locals := 0 } : Room).slots) := by
  refine MetFree.of_bodySF (plainFor_of_name pn_0) hisR ?_
  intro p e s m args below meth c s₁ Bd hml0 hP hK
  obtain ⟨rfl, hZ, hh⟩ := hP
  have hx := Bd.exec
  have hby := Bd.bytes
  have hml : c.maxLocals = 5 := hml0
  have hown : s.vm.findClass "com/example/ratatoskr/ratatoskr/ChoicesAdvancePinLaw" = some m.cls := findClass_of_methodNamed Bd.named
  have hnm := (name_of_methodNamed Bd.named Bd.method).1
  have hret := Bd.returns
  have hlk : meth.locks = false := BodyLoose.notSynchronized Bd
  have X0 : Stand p l e ({ frames := 0, cells := 0, slots := 0, locals := 0 } : Room) s m #[(.ref o0), (.ref o1), (.ref o2), (.int (4 : Int32)), (.int (0 : Int32))] below meth c s₁ [] 0 0 := Stand.of_body Bd
  have e0 : s₁.heap = h0 := by rw [← hh, Bd.state]; rfl
  have N0 := Fr.nil n0
  show Outs p e below s (QR (some (.int (F_k4_0 gp gk gc))) h0 n0) _ _ _
  refine Outs.of (U' := s₁.setTop (mkF m 0 #[.val (.ref o0), .val (.ref o1), .val (.ref o2), .val (.int (4 : Int32)), .val (.int (0 : Int32))] [])) (fun t k => castTop (ef_4 m o0 o1 o2 (4 : Int32) (0 : Int32)) k) ?_
  refine Outs.of (U' := s₁.setTop (mkF m 11 #[.val (.ref o0), .val (.ref o1), .val (.ref o2), .val (.int (4 : Int32)), .val (.int (0 : Int32))] [(.int (0 : Int32)), (.ref o1)])) (fun t k => ?_) ?_
  · refine XS.iload X0.here hx rfl (hb hby d4_0) rfl ?_
    refine XS.iloadN X0.here hx rfl (hb hby d4_2) rfl ?_
    refine XS.icmpYes X0.here hx rfl (pc0 := 3) (pc' := 8) rfl (hb hby d4_3) rfl (tlt (by decide)).1 (by decide) (by decide) ?_
    refine XS.aloadN X0.here hx rfl (hb hby d4_8) rfl rfl ?_
    refine XS.iload X0.here hx rfl (hb hby d4_9) rfl ?_
    exact k
  refine Outs.of (ldI X0 hx hZ e0 A_o1 (j := (0 : Int32)) (k := 0) rfl (by decide) (f := (mkF m 11 #[.val (.ref o0), .val (.ref o1), .val (.ref o2), .val (.int (4 : Int32)), .val (.int (0 : Int32))] [(.int (0 : Int32)), (.ref o1)])) rfl rfl (hb hby d4_11)) ?_
  show Outs p e below s _ _ _ (s₁.setTop (mkF m 12 #[.val (.ref o0), .val (.ref o1), .val (.ref o2), .val (.int (4 : Int32)), .val (.int (0 : Int32))] [(.int (gk 0))]))
  refine Outs.of (U' := s₁.setTop (mkF m 15 #[.val (.ref o0), .val (.ref o1), .val (.ref o2), .val (.int (4 : Int32)), .val (.int (0 : Int32))] [(.int (0 : Int32)), (.ref o2), (.int (gk 0))])) (fun t k => ?_) ?_
  · refine XS.aloadN X0.here hx rfl (hb hby d4_12) rfl rfl ?_
    refine XS.iload X0.here hx rfl (hb hby d4_13) rfl ?_
    exact k
  refine Outs.of (ldI X0 hx hZ e0 A_o2 (j := (0 : Int32)) (k := 0) rfl (by decide) (f := (mkF m 15 #[.val (.ref o0), .val (.ref o1), .val (.ref o2), .val (.int (4 : Int32)), .val (.int (0 : Int32))] [(.int (0 : Int32)), (.ref o2), (.int (gk 0))])) rfl rfl (hb hby d4_15)) ?_
  show Outs p e below s _ _ _ (s₁.setTop (mkF m 16 #[.val (.ref o0), .val (.ref o1), .val (.ref o2), .val (.int (4 : Int32)), .val (.int (0 : Int32))] [(.int (gc 0)), (.int (gk 0))]))
  by_cases hc16 : (gk 0) = (gc 0)
  · refine Outs.of (U' := s₁.setTop (mkF m 19 #[.val (.ref o0), .val (.ref o1), .val (.ref o2), .val (.int (4 : Int32)), .val (.int (0 : Int32))] [])) (fun t k => ?_) ?_
    · refine XS.icmpNo X0.here hx rfl (hb hby d4_16) rfl (teq hc16).2 ?_
      exact k
    refine Outs.of (U' := s₁.setTop (mkF m 22 #[.val (.ref o0), .val (.ref o1), .val (.ref o2), .val (.int (4 : Int32)), .val (.int (0 : Int32))] [(.int (0 : Int32)), (.ref o0)])) (fun t k => ?_) ?_
    · refine XS.aloadN X0.here hx rfl (hb hby d4_19) rfl rfl ?_
      refine XS.iload X0.here hx rfl (hb hby d4_20) rfl ?_
      exact k
    refine Outs.of (ldI X0 hx hZ e0 A_o0 (j := (0 : Int32)) (k := 0) rfl (by decide) (f := (mkF m 22 #[.val (.ref o0), .val (.ref o1), .val (.ref o2), .val (.int (4 : Int32)), .val (.int (0 : Int32))] [(.int (0 : Int32)), (.ref o0)])) rfl rfl (hb hby d4_22)) ?_
    show Outs p e below s _ _ _ (s₁.setTop (mkF m 23 #[.val (.ref o0), .val (.ref o1), .val (.ref o2), .val (.int (4 : Int32)), .val (.int (0 : Int32))] [(.int (gp 0))]))
    by_cases hc23 : (gp 0) < (0 : Int32)
    · refine Outs.of (U' := s₁.setTop (mkF m 41 #[.val (.ref o0), .val (.ref o1), .val (.ref o2), .val (.int (4 : Int32)), .val (.int (0 : Int32))] [])) (fun t k => ?_) ?_
      · refine XS.ifYes X0.here hx rfl (pc0 := 23) (pc' := 41) rfl (hb hby d4_23) rfl ((if0 _ _).trans (tlt hc23).1) (by decide) (by decide) ?_
        exact k
      refine Outs.of (U' := s₁.setTop (mkF m 42 #[.val (.ref o0), .val (.ref o1), .val (.ref o2), .val (.int (4 : Int32)), .val (.int (0 : Int32))] [(.int (0 : Int32))])) (fun t k => ?_) ?_
      · refine XS.iconst X0.here hx rfl (hb hby d4_41) ?_
        exact k
      exact Outs.retN (t := .boolean) (z := (0 : Int32)) X0 hx hret (by simp) (hb hby d4_42) hlk (by decide) (by decide) e0 ⟨congrArg (fun z_ => some (Value.int z_)) (show (F_k4_0 gp gk gc) = (0 : Int32) from ((if_pos hc16).trans (if_pos hc23))).symm, N0, rfl⟩
    · refine Outs.of (U' := s₁.setTop (mkF m 26 #[.val (.ref o0), .val (.ref o1), .val (.ref o2), .val (.int (4 : Int32)), .val (.int (0 : Int32))] [])) (fun t k => ?_) ?_
      · refine XS.ifNo X0.here hx rfl (hb hby d4_23) rfl ((if0 _ _).trans (flt hc23).1) ?_
        exact k
      refine Outs.of (U' := s₁.setTop (mkF m 29 #[.val (.ref o0), .val (.ref o1), .val (.ref o2), .val (.int (4 : Int32)), .val (.int (0 : Int32))] [(.int (0 : Int32)), (.ref o0)])) (fun t k => ?_) ?_
      · refine XS.aloadN X0.here hx rfl (hb hby d4_26) rfl rfl ?_
        refine XS.iload X0.here hx rfl (hb hby d4_27) rfl ?_
        exact k
      refine Outs.of (ldI X0 hx hZ e0 A_o0 (j := (0 : Int32)) (k := 0) rfl (by decide) (f := (mkF m 29 #[.val (.ref o0), .val (.ref o1), .val (.ref o2), .val (.int (4 : Int32)), .val (.int (0 : Int32))] [(.int (0 : Int32)), (.ref o0)])) rfl rfl (hb hby d4_29)) ?_
      show Outs p e below s _ _ _ (s₁.setTop (mkF m 30 #[.val (.ref o0), .val (.ref o1), .val (.ref o2), .val (.int (4 : Int32)), .val (.int (0 : Int32))] [(.int (gp 0))]))
      refine Outs.of (U' := s₁.setTop (mkF m 33 #[.val (.ref o0), .val (.ref o1), .val (.ref o2), .val (.int (4 : Int32)), .val (.int (0 : Int32))] [(.int (0 : Int32)), (.ref o2), (.int (gp 0))])) (fun t k => ?_) ?_
      · refine XS.aloadN X0.here hx rfl (hb hby d4_30) rfl rfl ?_
        refine XS.iload X0.here hx rfl (hb hby d4_31) rfl ?_
        exact k
      refine Outs.of (ldI X0 hx hZ e0 A_o2 (j := (0 : Int32)) (k := 0) rfl (by decide) (f := (mkF m 33 #[.val (.ref o0), .val (.ref o1), .val (.ref o2), .val (.int (4 : Int32)), .val (.int (0 : Int32))] [(.int (0 : Int32)), (.ref o2), (.int (gp 0))])) rfl rfl (hb hby d4_33)) ?_
      show Outs p e below s _ _ _ (s₁.setTop (mkF m 34 #[.val (.ref o0), .val (.ref o1), .val (.ref o2), .val (.int (4 : Int32)), .val (.int (0 : Int32))] [(.int (gc 0)), (.int (gp 0))]))
      refine Outs.of (U' := s₁.setTop (mkF m 42 #[.val (.ref o0), .val (.ref o1), .val (.ref o2), .val (.int (4 : Int32)), .val (.int (0 : Int32))] [(.int (k4_0_34_s0 gp gk gc))])) (fun t k => ?_) ?_
      · by_cases hc34 : (gp 0) < (gc 0)
        · refine XS.icmpNo X0.here hx rfl (hb hby d4_34) rfl (tlt hc34).2.1 ?_
          refine XS.iconst X0.here hx rfl (hb hby d4_37) ?_
          refine XS.goto X0.here hx rfl (pc0 := 38) (pc' := 42) rfl (hb hby d4_38) (by decide) (by decide) ?_
          rw [show (k4_0_34_s0 gp gk gc) = (1 : Int32) from (if_pos hc34)] at k
          exact k
        · refine XS.icmpYes X0.here hx rfl (pc0 := 34) (pc' := 41) rfl (hb hby d4_34) rfl (flt hc34).2.1 (by decide) (by decide) ?_
          refine XS.iconst X0.here hx rfl (hb hby d4_41) ?_
          rw [show (k4_0_34_s0 gp gk gc) = (0 : Int32) from (if_neg hc34)] at k
          exact k
      exact Outs.retN (t := .boolean) (z := (k4_0_34_s0 gp gk gc)) X0 hx hret (by simp) (hb hby d4_42) hlk (by decide) (by decide) e0 ⟨congrArg (fun z_ => some (Value.int z_)) (show (F_k4_0 gp gk gc) = (nar .boolean (k4_0_34_s0 gp gk gc)) from ((if_pos hc16).trans (if_neg hc23))).symm, N0, rfl⟩
  · refine Outs.of (U' := s₁.setTop (mkF m 41 #[.val (.ref o0), .val (.ref o1), .val (.ref o2), .val (.int (4 : Int32)), .val (.int (0 : Int32))] [])) (fun t k => ?_) ?_
    · refine XS.icmpYes X0.here hx rfl (pc0 := 16) (pc' := 41) rfl (hb hby d4_16) rfl (feq hc16).2 (by decide) (by decide) ?_
      exact k
    refine Outs.of (U' := s₁.setTop (mkF m 42 #[.val (.ref o0), .val (.ref o1), .val (.ref o2), .val (.int (4 : Int32)), .val (.int (0 : Int32))] [(.int (0 : Int32))])) (fun t k => ?_) ?_
    · refine XS.iconst X0.here hx rfl (hb hby d4_41) ?_
      exact k
    exact Outs.retN (t := .boolean) (z := (0 : Int32)) X0 hx hret (by simp) (hb hby d4_42) hlk (by decide) (by decide) e0 ⟨congrArg (fun z_ => some (Value.int z_)) (show (F_k4_0 gp gk gc) = (0 : Int32) from (if_neg hc16)).symm, N0, rfl⟩
def k4_1_34_s0 (gp : Nat → Int32) (gk : Nat → Int32) (gc : Nat → Int32) : Int32 := (if (gp 1) < (gc 1) then (1 : Int32) else (0 : Int32))
def F_k4_1 (gp : Nat → Int32) (gk : Nat → Int32) (gc : Nat → Int32) : Int32 := (if (gk 1) = (gc 1) then (if (gp 1) < (0 : Int32) then (0 : Int32) else (nar .boolean (k4_1_34_s0 gp gk gc))) else (0 : Int32))
set_option maxRecDepth 65536 in
set_option maxHeartbeats 40000000 in
theorem rmk4_1 (l : Launch) (Z : State) (a0 : Array Value) (hw : ∀ d ∈ tables_1, d.before a0 Z = true) (ws : List Jvm.Cond) (o0 : Addr) (o1 : Addr) (o2 : Addr) (gp : Nat → Int32) (gk : Nat → Int32) (gc : Nat → Int32) (h0 : Heap) (n0 : Nat) (A_o0 : AI Z h0 o0 .int 4 gp) (A_o1 : AI Z h0 o1 .int 4 gk) (A_o2 : AI Z h0 o2 .int 4 gc) :
    MetFree l (⟨"com/example/ratatoskr/ratatoskr/ChoicesAdvancePinLaw", "ok", "([I[I[III)Z"⟩ : MethodName) (head1 (Jvm.Cond.code (⟨"com/example/ratatoskr/ratatoskr/ChoicesAdvancePinLaw", "ok", "([I[I[III)Z"⟩ : MethodName) method_4_code 5 (some .boolean) :: ws) ({ frames := 0, cells := 0, slots := 0, locals := 0 } : Room)) (fun a U => a = #[(.ref o0), (.ref o1), (.ref o2), (.int (4 : Int32)), (.int (1 : Int32))] ∧ Z.Warmed39 U.vm ∧ U.heap = h0) (fun _ _ _ _ _ => True) (fun _ U o U' => ∃ v L, o = .returned v ∧ QR (some (.int (F_k4_1 gp gk gc))) h0 n0 v U'.heap L ∧ FrameEnd U o U' L ({ frames := 0, cells := 0, slots := 0, locals := 0 } : Room).cells ({ frames := 0, cells := 0, slots := 0, locals := 0 } : Room).slots) := by
  refine MetFree.of_bodySF (plainFor_of_name pn_0) hisR ?_
  intro p e s m args below meth c s₁ Bd hml0 hP hK
  obtain ⟨rfl, hZ, hh⟩ := hP
  have hx := Bd.exec
  have hby := Bd.bytes
  have hml : c.maxLocals = 5 := hml0
  have hown : s.vm.findClass "com/example/ratatoskr/ratatoskr/ChoicesAdvancePinLaw" = some m.cls := findClass_of_methodNamed Bd.named
  have hnm := (name_of_methodNamed Bd.named Bd.method).1
  have hret := Bd.returns
  have hlk : meth.locks = false := BodyLoose.notSynchronized Bd
  have X0 : Stand p l e ({ frames := 0, cells := 0, slots := 0, locals := 0 } : Room) s m #[(.ref o0), (.ref o1), (.ref o2), (.int (4 : Int32)), (.int (1 : Int32))] below meth c s₁ [] 0 0 := Stand.of_body Bd
  have e0 : s₁.heap = h0 := by rw [← hh, Bd.state]; rfl
  have N0 := Fr.nil n0
  show Outs p e below s (QR (some (.int (F_k4_1 gp gk gc))) h0 n0) _ _ _
  refine Outs.of (U' := s₁.setTop (mkF m 0 #[.val (.ref o0), .val (.ref o1), .val (.ref o2), .val (.int (4 : Int32)), .val (.int (1 : Int32))] [])) (fun t k => castTop (ef_4 m o0 o1 o2 (4 : Int32) (1 : Int32)) k) ?_
  refine Outs.of (U' := s₁.setTop (mkF m 11 #[.val (.ref o0), .val (.ref o1), .val (.ref o2), .val (.int (4 : Int32)), .val (.int (1 : Int32))] [(.int (1 : Int32)), (.ref o1)])) (fun t k => ?_) ?_
  · refine XS.iload X0.here hx rfl (hb hby d4_0) rfl ?_
    refine XS.iloadN X0.here hx rfl (hb hby d4_2) rfl ?_
    refine XS.icmpYes X0.here hx rfl (pc0 := 3) (pc' := 8) rfl (hb hby d4_3) rfl (tlt (by decide)).1 (by decide) (by decide) ?_
    refine XS.aloadN X0.here hx rfl (hb hby d4_8) rfl rfl ?_
    refine XS.iload X0.here hx rfl (hb hby d4_9) rfl ?_
    exact k
  refine Outs.of (ldI X0 hx hZ e0 A_o1 (j := (1 : Int32)) (k := 1) rfl (by decide) (f := (mkF m 11 #[.val (.ref o0), .val (.ref o1), .val (.ref o2), .val (.int (4 : Int32)), .val (.int (1 : Int32))] [(.int (1 : Int32)), (.ref o1)])) rfl rfl (hb hby d4_11)) ?_
  show Outs p e below s _ _ _ (s₁.setTop (mkF m 12 #[.val (.ref o0), .val (.ref o1), .val (.ref o2), .val (.int (4 : Int32)), .val (.int (1 : Int32))] [(.int (gk 1))]))
  refine Outs.of (U' := s₁.setTop (mkF m 15 #[.val (.ref o0), .val (.ref o1), .val (.ref o2), .val (.int (4 : Int32)), .val (.int (1 : Int32))] [(.int (1 : Int32)), (.ref o2), (.int (gk 1))])) (fun t k => ?_) ?_
  · refine XS.aloadN X0.here hx rfl (hb hby d4_12) rfl rfl ?_
    refine XS.iload X0.here hx rfl (hb hby d4_13) rfl ?_
    exact k
  refine Outs.of (ldI X0 hx hZ e0 A_o2 (j := (1 : Int32)) (k := 1) rfl (by decide) (f := (mkF m 15 #[.val (.ref o0), .val (.ref o1), .val (.ref o2), .val (.int (4 : Int32)), .val (.int (1 : Int32))] [(.int (1 : Int32)), (.ref o2), (.int (gk 1))])) rfl rfl (hb hby d4_15)) ?_
  show Outs p e below s _ _ _ (s₁.setTop (mkF m 16 #[.val (.ref o0), .val (.ref o1), .val (.ref o2), .val (.int (4 : Int32)), .val (.int (1 : Int32))] [(.int (gc 1)), (.int (gk 1))]))
  by_cases hc16 : (gk 1) = (gc 1)
  · refine Outs.of (U' := s₁.setTop (mkF m 19 #[.val (.ref o0), .val (.ref o1), .val (.ref o2), .val (.int (4 : Int32)), .val (.int (1 : Int32))] [])) (fun t k => ?_) ?_
    · refine XS.icmpNo X0.here hx rfl (hb hby d4_16) rfl (teq hc16).2 ?_
      exact k
    refine Outs.of (U' := s₁.setTop (mkF m 22 #[.val (.ref o0), .val (.ref o1), .val (.ref o2), .val (.int (4 : Int32)), .val (.int (1 : Int32))] [(.int (1 : Int32)), (.ref o0)])) (fun t k => ?_) ?_
    · refine XS.aloadN X0.here hx rfl (hb hby d4_19) rfl rfl ?_
      refine XS.iload X0.here hx rfl (hb hby d4_20) rfl ?_
      exact k
    refine Outs.of (ldI X0 hx hZ e0 A_o0 (j := (1 : Int32)) (k := 1) rfl (by decide) (f := (mkF m 22 #[.val (.ref o0), .val (.ref o1), .val (.ref o2), .val (.int (4 : Int32)), .val (.int (1 : Int32))] [(.int (1 : Int32)), (.ref o0)])) rfl rfl (hb hby d4_22)) ?_
    show Outs p e below s _ _ _ (s₁.setTop (mkF m 23 #[.val (.ref o0), .val (.ref o1), .val (.ref o2), .val (.int (4 : Int32)), .val (.int (1 : Int32))] [(.int (gp 1))]))
    by_cases hc23 : (gp 1) < (0 : Int32)
    · refine Outs.of (U' := s₁.setTop (mkF m 41 #[.val (.ref o0), .val (.ref o1), .val (.ref o2), .val (.int (4 : Int32)), .val (.int (1 : Int32))] [])) (fun t k => ?_) ?_
      · refine XS.ifYes X0.here hx rfl (pc0 := 23) (pc' := 41) rfl (hb hby d4_23) rfl ((if0 _ _).trans (tlt hc23).1) (by decide) (by decide) ?_
        exact k
      refine Outs.of (U' := s₁.setTop (mkF m 42 #[.val (.ref o0), .val (.ref o1), .val (.ref o2), .val (.int (4 : Int32)), .val (.int (1 : Int32))] [(.int (0 : Int32))])) (fun t k => ?_) ?_
      · refine XS.iconst X0.here hx rfl (hb hby d4_41) ?_
        exact k
      exact Outs.retN (t := .boolean) (z := (0 : Int32)) X0 hx hret (by simp) (hb hby d4_42) hlk (by decide) (by decide) e0 ⟨congrArg (fun z_ => some (Value.int z_)) (show (F_k4_1 gp gk gc) = (0 : Int32) from ((if_pos hc16).trans (if_pos hc23))).symm, N0, rfl⟩
    · refine Outs.of (U' := s₁.setTop (mkF m 26 #[.val (.ref o0), .val (.ref o1), .val (.ref o2), .val (.int (4 : Int32)), .val (.int (1 : Int32))] [])) (fun t k => ?_) ?_
      · refine XS.ifNo X0.here hx rfl (hb hby d4_23) rfl ((if0 _ _).trans (flt hc23).1) ?_
        exact k
      refine Outs.of (U' := s₁.setTop (mkF m 29 #[.val (.ref o0), .val (.ref o1), .val (.ref o2), .val (.int (4 : Int32)), .val (.int (1 : Int32))] [(.int (1 : Int32)), (.ref o0)])) (fun t k => ?_) ?_
      · refine XS.aloadN X0.here hx rfl (hb hby d4_26) rfl rfl ?_
        refine XS.iload X0.here hx rfl (hb hby d4_27) rfl ?_
        exact k
      refine Outs.of (ldI X0 hx hZ e0 A_o0 (j := (1 : Int32)) (k := 1) rfl (by decide) (f := (mkF m 29 #[.val (.ref o0), .val (.ref o1), .val (.ref o2), .val (.int (4 : Int32)), .val (.int (1 : Int32))] [(.int (1 : Int32)), (.ref o0)])) rfl rfl (hb hby d4_29)) ?_
      show Outs p e below s _ _ _ (s₁.setTop (mkF m 30 #[.val (.ref o0), .val (.ref o1), .val (.ref o2), .val (.int (4 : Int32)), .val (.int (1 : Int32))] [(.int (gp 1))]))
      refine Outs.of (U' := s₁.setTop (mkF m 33 #[.val (.ref o0), .val (.ref o1), .val (.ref o2), .val (.int (4 : Int32)), .val (.int (1 : Int32))] [(.int (1 : Int32)), (.ref o2), (.int (gp 1))])) (fun t k => ?_) ?_
      · refine XS.aloadN X0.here hx rfl (hb hby d4_30) rfl rfl ?_
        refine XS.iload X0.here hx rfl (hb hby d4_31) rfl ?_
        exact k
      refine Outs.of (ldI X0 hx hZ e0 A_o2 (j := (1 : Int32)) (k := 1) rfl (by decide) (f := (mkF m 33 #[.val (.ref o0), .val (.ref o1), .val (.ref o2), .val (.int (4 : Int32)), .val (.int (1 : Int32))] [(.int (1 : Int32)), (.ref o2), (.int (gp 1))])) rfl rfl (hb hby d4_33)) ?_
      show Outs p e below s _ _ _ (s₁.setTop (mkF m 34 #[.val (.ref o0), .val (.ref o1), .val (.ref o2), .val (.int (4 : Int32)), .val (.int (1 : Int32))] [(.int (gc 1)), (.int (gp 1))]))
      refine Outs.of (U' := s₁.setTop (mkF m 42 #[.val (.ref o0), .val (.ref o1), .val (.ref o2), .val (.int (4 : Int32)), .val (.int (1 : Int32))] [(.int (k4_1_34_s0 gp gk gc))])) (fun t k => ?_) ?_
      · by_cases hc34 : (gp 1) < (gc 1)
        · refine XS.icmpNo X0.here hx rfl (hb hby d4_34) rfl (tlt hc34).2.1 ?_
          refine XS.iconst X0.here hx rfl (hb hby d4_37) ?_
          refine XS.goto X0.here hx rfl (pc0 := 38) (pc' := 42) rfl (hb hby d4_38) (by decide) (by decide) ?_
          rw [show (k4_1_34_s0 gp gk gc) = (1 : Int32) from (if_pos hc34)] at k
          exact k
        · refine XS.icmpYes X0.here hx rfl (pc0 := 34) (pc' := 41) rfl (hb hby d4_34) rfl (flt hc34).2.1 (by decide) (by decide) ?_
          refine XS.iconst X0.here hx rfl (hb hby d4_41) ?_
          rw [show (k4_1_34_s0 gp gk gc) = (0 : Int32) from (if_neg hc34)] at k
          exact k
      exact Outs.retN (t := .boolean) (z := (k4_1_34_s0 gp gk gc)) X0 hx hret (by simp) (hb hby d4_42) hlk (by decide) (by decide) e0 ⟨congrArg (fun z_ => some (Value.int z_)) (show (F_k4_1 gp gk gc) = (nar .boolean (k4_1_34_s0 gp gk gc)) from ((if_pos hc16).trans (if_neg hc23))).symm, N0, rfl⟩
  · refine Outs.of (U' := s₁.setTop (mkF m 41 #[.val (.ref o0), .val (.ref o1), .val (.ref o2), .val (.int (4 : Int32)), .val (.int (1 : Int32))] [])) (fun t k => ?_) ?_
    · refine XS.icmpYes X0.here hx rfl (pc0 := 16) (pc' := 41) rfl (hb hby d4_16) rfl (feq hc16).2 (by decide) (by decide) ?_
      exact k
    refine Outs.of (U' := s₁.setTop (mkF m 42 #[.val (.ref o0), .val (.ref o1), .val (.ref o2), .val (.int (4 : Int32)), .val (.int (1 : Int32))] [(.int (0 : Int32))])) (fun t k => ?_) ?_
    · refine XS.iconst X0.here hx rfl (hb hby d4_41) ?_
      exact k
    exact Outs.retN (t := .boolean) (z := (0 : Int32)) X0 hx hret (by simp) (hb hby d4_42) hlk (by decide) (by decide) e0 ⟨congrArg (fun z_ => some (Value.int z_)) (show (F_k4_1 gp gk gc) = (0 : Int32) from (if_neg hc16)).symm, N0, rfl⟩
def k4_2_34_s0 (gp : Nat → Int32) (gk : Nat → Int32) (gc : Nat → Int32) : Int32 := (if (gp 2) < (gc 2) then (1 : Int32) else (0 : Int32))
def F_k4_2 (gp : Nat → Int32) (gk : Nat → Int32) (gc : Nat → Int32) : Int32 := (if (gk 2) = (gc 2) then (if (gp 2) < (0 : Int32) then (0 : Int32) else (nar .boolean (k4_2_34_s0 gp gk gc))) else (0 : Int32))
set_option maxRecDepth 65536 in
set_option maxHeartbeats 40000000 in
theorem rmk4_2 (l : Launch) (Z : State) (a0 : Array Value) (hw : ∀ d ∈ tables_1, d.before a0 Z = true) (ws : List Jvm.Cond) (o0 : Addr) (o1 : Addr) (o2 : Addr) (gp : Nat → Int32) (gk : Nat → Int32) (gc : Nat → Int32) (h0 : Heap) (n0 : Nat) (A_o0 : AI Z h0 o0 .int 4 gp) (A_o1 : AI Z h0 o1 .int 4 gk) (A_o2 : AI Z h0 o2 .int 4 gc) :
    MetFree l (⟨"com/example/ratatoskr/ratatoskr/ChoicesAdvancePinLaw", "ok", "([I[I[III)Z"⟩ : MethodName) (head1 (Jvm.Cond.code (⟨"com/example/ratatoskr/ratatoskr/ChoicesAdvancePinLaw", "ok", "([I[I[III)Z"⟩ : MethodName) method_4_code 5 (some .boolean) :: ws) ({ frames := 0, cells := 0, slots := 0, locals := 0 } : Room)) (fun a U => a = #[(.ref o0), (.ref o1), (.ref o2), (.int (4 : Int32)), (.int (2 : Int32))] ∧ Z.Warmed39 U.vm ∧ U.heap = h0) (fun _ _ _ _ _ => True) (fun _ U o U' => ∃ v L, o = .returned v ∧ QR (some (.int (F_k4_2 gp gk gc))) h0 n0 v U'.heap L ∧ FrameEnd U o U' L ({ frames := 0, cells := 0, slots := 0, locals := 0 } : Room).cells ({ frames := 0, cells := 0, slots := 0, locals := 0 } : Room).slots) := by
  refine MetFree.of_bodySF (plainFor_of_name pn_0) hisR ?_
  intro p e s m args below meth c s₁ Bd hml0 hP hK
  obtain ⟨rfl, hZ, hh⟩ := hP
  have hx := Bd.exec
  have hby := Bd.bytes
  have hml : c.maxLocals = 5 := hml0
  have hown : s.vm.findClass "com/example/ratatoskr/ratatoskr/ChoicesAdvancePinLaw" = some m.cls := findClass_of_methodNamed Bd.named
  have hnm := (name_of_methodNamed Bd.named Bd.method).1
  have hret := Bd.returns
  have hlk : meth.locks = false := BodyLoose.notSynchronized Bd
  have X0 : Stand p l e ({ frames := 0, cells := 0, slots := 0, locals := 0 } : Room) s m #[(.ref o0), (.ref o1), (.ref o2), (.int (4 : Int32)), (.int (2 : Int32))] below meth c s₁ [] 0 0 := Stand.of_body Bd
  have e0 : s₁.heap = h0 := by rw [← hh, Bd.state]; rfl
  have N0 := Fr.nil n0
  show Outs p e below s (QR (some (.int (F_k4_2 gp gk gc))) h0 n0) _ _ _
  refine Outs.of (U' := s₁.setTop (mkF m 0 #[.val (.ref o0), .val (.ref o1), .val (.ref o2), .val (.int (4 : Int32)), .val (.int (2 : Int32))] [])) (fun t k => castTop (ef_4 m o0 o1 o2 (4 : Int32) (2 : Int32)) k) ?_
  refine Outs.of (U' := s₁.setTop (mkF m 11 #[.val (.ref o0), .val (.ref o1), .val (.ref o2), .val (.int (4 : Int32)), .val (.int (2 : Int32))] [(.int (2 : Int32)), (.ref o1)])) (fun t k => ?_) ?_
  · refine XS.iload X0.here hx rfl (hb hby d4_0) rfl ?_
    refine XS.iloadN X0.here hx rfl (hb hby d4_2) rfl ?_
    refine XS.icmpYes X0.here hx rfl (pc0 := 3) (pc' := 8) rfl (hb hby d4_3) rfl (tlt (by decide)).1 (by decide) (by decide) ?_
    refine XS.aloadN X0.here hx rfl (hb hby d4_8) rfl rfl ?_
    refine XS.iload X0.here hx rfl (hb hby d4_9) rfl ?_
    exact k
  refine Outs.of (ldI X0 hx hZ e0 A_o1 (j := (2 : Int32)) (k := 2) rfl (by decide) (f := (mkF m 11 #[.val (.ref o0), .val (.ref o1), .val (.ref o2), .val (.int (4 : Int32)), .val (.int (2 : Int32))] [(.int (2 : Int32)), (.ref o1)])) rfl rfl (hb hby d4_11)) ?_
  show Outs p e below s _ _ _ (s₁.setTop (mkF m 12 #[.val (.ref o0), .val (.ref o1), .val (.ref o2), .val (.int (4 : Int32)), .val (.int (2 : Int32))] [(.int (gk 2))]))
  refine Outs.of (U' := s₁.setTop (mkF m 15 #[.val (.ref o0), .val (.ref o1), .val (.ref o2), .val (.int (4 : Int32)), .val (.int (2 : Int32))] [(.int (2 : Int32)), (.ref o2), (.int (gk 2))])) (fun t k => ?_) ?_
  · refine XS.aloadN X0.here hx rfl (hb hby d4_12) rfl rfl ?_
    refine XS.iload X0.here hx rfl (hb hby d4_13) rfl ?_
    exact k
  refine Outs.of (ldI X0 hx hZ e0 A_o2 (j := (2 : Int32)) (k := 2) rfl (by decide) (f := (mkF m 15 #[.val (.ref o0), .val (.ref o1), .val (.ref o2), .val (.int (4 : Int32)), .val (.int (2 : Int32))] [(.int (2 : Int32)), (.ref o2), (.int (gk 2))])) rfl rfl (hb hby d4_15)) ?_
  show Outs p e below s _ _ _ (s₁.setTop (mkF m 16 #[.val (.ref o0), .val (.ref o1), .val (.ref o2), .val (.int (4 : Int32)), .val (.int (2 : Int32))] [(.int (gc 2)), (.int (gk 2))]))
  by_cases hc16 : (gk 2) = (gc 2)
  · refine Outs.of (U' := s₁.setTop (mkF m 19 #[.val (.ref o0), .val (.ref o1), .val (.ref o2), .val (.int (4 : Int32)), .val (.int (2 : Int32))] [])) (fun t k => ?_) ?_
    · refine XS.icmpNo X0.here hx rfl (hb hby d4_16) rfl (teq hc16).2 ?_
      exact k
    refine Outs.of (U' := s₁.setTop (mkF m 22 #[.val (.ref o0), .val (.ref o1), .val (.ref o2), .val (.int (4 : Int32)), .val (.int (2 : Int32))] [(.int (2 : Int32)), (.ref o0)])) (fun t k => ?_) ?_
    · refine XS.aloadN X0.here hx rfl (hb hby d4_19) rfl rfl ?_
      refine XS.iload X0.here hx rfl (hb hby d4_20) rfl ?_
      exact k
    refine Outs.of (ldI X0 hx hZ e0 A_o0 (j := (2 : Int32)) (k := 2) rfl (by decide) (f := (mkF m 22 #[.val (.ref o0), .val (.ref o1), .val (.ref o2), .val (.int (4 : Int32)), .val (.int (2 : Int32))] [(.int (2 : Int32)), (.ref o0)])) rfl rfl (hb hby d4_22)) ?_
    show Outs p e below s _ _ _ (s₁.setTop (mkF m 23 #[.val (.ref o0), .val (.ref o1), .val (.ref o2), .val (.int (4 : Int32)), .val (.int (2 : Int32))] [(.int (gp 2))]))
    by_cases hc23 : (gp 2) < (0 : Int32)
    · refine Outs.of (U' := s₁.setTop (mkF m 41 #[.val (.ref o0), .val (.ref o1), .val (.ref o2), .val (.int (4 : Int32)), .val (.int (2 : Int32))] [])) (fun t k => ?_) ?_
      · refine XS.ifYes X0.here hx rfl (pc0 := 23) (pc' := 41) rfl (hb hby d4_23) rfl ((if0 _ _).trans (tlt hc23).1) (by decide) (by decide) ?_
        exact k
      refine Outs.of (U' := s₁.setTop (mkF m 42 #[.val (.ref o0), .val (.ref o1), .val (.ref o2), .val (.int (4 : Int32)), .val (.int (2 : Int32))] [(.int (0 : Int32))])) (fun t k => ?_) ?_
      · refine XS.iconst X0.here hx rfl (hb hby d4_41) ?_
        exact k
      exact Outs.retN (t := .boolean) (z := (0 : Int32)) X0 hx hret (by simp) (hb hby d4_42) hlk (by decide) (by decide) e0 ⟨congrArg (fun z_ => some (Value.int z_)) (show (F_k4_2 gp gk gc) = (0 : Int32) from ((if_pos hc16).trans (if_pos hc23))).symm, N0, rfl⟩
    · refine Outs.of (U' := s₁.setTop (mkF m 26 #[.val (.ref o0), .val (.ref o1), .val (.ref o2), .val (.int (4 : Int32)), .val (.int (2 : Int32))] [])) (fun t k => ?_) ?_
      · refine XS.ifNo X0.here hx rfl (hb hby d4_23) rfl ((if0 _ _).trans (flt hc23).1) ?_
        exact k
      refine Outs.of (U' := s₁.setTop (mkF m 29 #[.val (.ref o0), .val (.ref o1), .val (.ref o2), .val (.int (4 : Int32)), .val (.int (2 : Int32))] [(.int (2 : Int32)), (.ref o0)])) (fun t k => ?_) ?_
      · refine XS.aloadN X0.here hx rfl (hb hby d4_26) rfl rfl ?_
        refine XS.iload X0.here hx rfl (hb hby d4_27) rfl ?_
        exact k
      refine Outs.of (ldI X0 hx hZ e0 A_o0 (j := (2 : Int32)) (k := 2) rfl (by decide) (f := (mkF m 29 #[.val (.ref o0), .val (.ref o1), .val (.ref o2), .val (.int (4 : Int32)), .val (.int (2 : Int32))] [(.int (2 : Int32)), (.ref o0)])) rfl rfl (hb hby d4_29)) ?_
      show Outs p e below s _ _ _ (s₁.setTop (mkF m 30 #[.val (.ref o0), .val (.ref o1), .val (.ref o2), .val (.int (4 : Int32)), .val (.int (2 : Int32))] [(.int (gp 2))]))
      refine Outs.of (U' := s₁.setTop (mkF m 33 #[.val (.ref o0), .val (.ref o1), .val (.ref o2), .val (.int (4 : Int32)), .val (.int (2 : Int32))] [(.int (2 : Int32)), (.ref o2), (.int (gp 2))])) (fun t k => ?_) ?_
      · refine XS.aloadN X0.here hx rfl (hb hby d4_30) rfl rfl ?_
        refine XS.iload X0.here hx rfl (hb hby d4_31) rfl ?_
        exact k
      refine Outs.of (ldI X0 hx hZ e0 A_o2 (j := (2 : Int32)) (k := 2) rfl (by decide) (f := (mkF m 33 #[.val (.ref o0), .val (.ref o1), .val (.ref o2), .val (.int (4 : Int32)), .val (.int (2 : Int32))] [(.int (2 : Int32)), (.ref o2), (.int (gp 2))])) rfl rfl (hb hby d4_33)) ?_
      show Outs p e below s _ _ _ (s₁.setTop (mkF m 34 #[.val (.ref o0), .val (.ref o1), .val (.ref o2), .val (.int (4 : Int32)), .val (.int (2 : Int32))] [(.int (gc 2)), (.int (gp 2))]))
      refine Outs.of (U' := s₁.setTop (mkF m 42 #[.val (.ref o0), .val (.ref o1), .val (.ref o2), .val (.int (4 : Int32)), .val (.int (2 : Int32))] [(.int (k4_2_34_s0 gp gk gc))])) (fun t k => ?_) ?_
      · by_cases hc34 : (gp 2) < (gc 2)
        · refine XS.icmpNo X0.here hx rfl (hb hby d4_34) rfl (tlt hc34).2.1 ?_
          refine XS.iconst X0.here hx rfl (hb hby d4_37) ?_
          refine XS.goto X0.here hx rfl (pc0 := 38) (pc' := 42) rfl (hb hby d4_38) (by decide) (by decide) ?_
          rw [show (k4_2_34_s0 gp gk gc) = (1 : Int32) from (if_pos hc34)] at k
          exact k
        · refine XS.icmpYes X0.here hx rfl (pc0 := 34) (pc' := 41) rfl (hb hby d4_34) rfl (flt hc34).2.1 (by decide) (by decide) ?_
          refine XS.iconst X0.here hx rfl (hb hby d4_41) ?_
          rw [show (k4_2_34_s0 gp gk gc) = (0 : Int32) from (if_neg hc34)] at k
          exact k
      exact Outs.retN (t := .boolean) (z := (k4_2_34_s0 gp gk gc)) X0 hx hret (by simp) (hb hby d4_42) hlk (by decide) (by decide) e0 ⟨congrArg (fun z_ => some (Value.int z_)) (show (F_k4_2 gp gk gc) = (nar .boolean (k4_2_34_s0 gp gk gc)) from ((if_pos hc16).trans (if_neg hc23))).symm, N0, rfl⟩
  · refine Outs.of (U' := s₁.setTop (mkF m 41 #[.val (.ref o0), .val (.ref o1), .val (.ref o2), .val (.int (4 : Int32)), .val (.int (2 : Int32))] [])) (fun t k => ?_) ?_
    · refine XS.icmpYes X0.here hx rfl (pc0 := 16) (pc' := 41) rfl (hb hby d4_16) rfl (feq hc16).2 (by decide) (by decide) ?_
      exact k
    refine Outs.of (U' := s₁.setTop (mkF m 42 #[.val (.ref o0), .val (.ref o1), .val (.ref o2), .val (.int (4 : Int32)), .val (.int (2 : Int32))] [(.int (0 : Int32))])) (fun t k => ?_) ?_
    · refine XS.iconst X0.here hx rfl (hb hby d4_41) ?_
      exact k
    exact Outs.retN (t := .boolean) (z := (0 : Int32)) X0 hx hret (by simp) (hb hby d4_42) hlk (by decide) (by decide) e0 ⟨congrArg (fun z_ => some (Value.int z_)) (show (F_k4_2 gp gk gc) = (0 : Int32) from (if_neg hc16)).symm, N0, rfl⟩
def k4_3_34_s0 (gp : Nat → Int32) (gk : Nat → Int32) (gc : Nat → Int32) : Int32 := (if (gp 3) < (gc 3) then (1 : Int32) else (0 : Int32))
def F_k4_3 (gp : Nat → Int32) (gk : Nat → Int32) (gc : Nat → Int32) : Int32 := (if (gk 3) = (gc 3) then (if (gp 3) < (0 : Int32) then (0 : Int32) else (nar .boolean (k4_3_34_s0 gp gk gc))) else (0 : Int32))
set_option maxRecDepth 65536 in
set_option maxHeartbeats 40000000 in
theorem rmk4_3 (l : Launch) (Z : State) (a0 : Array Value) (hw : ∀ d ∈ tables_1, d.before a0 Z = true) (ws : List Jvm.Cond) (o0 : Addr) (o1 : Addr) (o2 : Addr) (gp : Nat → Int32) (gk : Nat → Int32) (gc : Nat → Int32) (h0 : Heap) (n0 : Nat) (A_o0 : AI Z h0 o0 .int 4 gp) (A_o1 : AI Z h0 o1 .int 4 gk) (A_o2 : AI Z h0 o2 .int 4 gc) :
    MetFree l (⟨"com/example/ratatoskr/ratatoskr/ChoicesAdvancePinLaw", "ok", "([I[I[III)Z"⟩ : MethodName) (head1 (Jvm.Cond.code (⟨"com/example/ratatoskr/ratatoskr/ChoicesAdvancePinLaw", "ok", "([I[I[III)Z"⟩ : MethodName) method_4_code 5 (some .boolean) :: ws) ({ frames := 0, cells := 0, slots := 0, locals := 0 } : Room)) (fun a U => a = #[(.ref o0), (.ref o1), (.ref o2), (.int (4 : Int32)), (.int (3 : Int32))] ∧ Z.Warmed39 U.vm ∧ U.heap = h0) (fun _ _ _ _ _ => True) (fun _ U o U' => ∃ v L, o = .returned v ∧ QR (some (.int (F_k4_3 gp gk gc))) h0 n0 v U'.heap L ∧ FrameEnd U o U' L ({ frames := 0, cells := 0, slots := 0, locals := 0 } : Room).cells ({ frames := 0, cells := 0, slots := 0, locals := 0 } : Room).slots) := by
  refine MetFree.of_bodySF (plainFor_of_name pn_0) hisR ?_
  intro p e s m args below meth c s₁ Bd hml0 hP hK
  obtain ⟨rfl, hZ, hh⟩ := hP
  have hx := Bd.exec
  have hby := Bd.bytes
  have hml : c.maxLocals = 5 := hml0
  have hown : s.vm.findClass "com/example/ratatoskr/ratatoskr/ChoicesAdvancePinLaw" = some m.cls := findClass_of_methodNamed Bd.named
  have hnm := (name_of_methodNamed Bd.named Bd.method).1
  have hret := Bd.returns
  have hlk : meth.locks = false := BodyLoose.notSynchronized Bd
  have X0 : Stand p l e ({ frames := 0, cells := 0, slots := 0, locals := 0 } : Room) s m #[(.ref o0), (.ref o1), (.ref o2), (.int (4 : Int32)), (.int (3 : Int32))] below meth c s₁ [] 0 0 := Stand.of_body Bd
  have e0 : s₁.heap = h0 := by rw [← hh, Bd.state]; rfl
  have N0 := Fr.nil n0
  show Outs p e below s (QR (some (.int (F_k4_3 gp gk gc))) h0 n0) _ _ _
  refine Outs.of (U' := s₁.setTop (mkF m 0 #[.val (.ref o0), .val (.ref o1), .val (.ref o2), .val (.int (4 : Int32)), .val (.int (3 : Int32))] [])) (fun t k => castTop (ef_4 m o0 o1 o2 (4 : Int32) (3 : Int32)) k) ?_
  refine Outs.of (U' := s₁.setTop (mkF m 11 #[.val (.ref o0), .val (.ref o1), .val (.ref o2), .val (.int (4 : Int32)), .val (.int (3 : Int32))] [(.int (3 : Int32)), (.ref o1)])) (fun t k => ?_) ?_
  · refine XS.iload X0.here hx rfl (hb hby d4_0) rfl ?_
    refine XS.iloadN X0.here hx rfl (hb hby d4_2) rfl ?_
    refine XS.icmpYes X0.here hx rfl (pc0 := 3) (pc' := 8) rfl (hb hby d4_3) rfl (tlt (by decide)).1 (by decide) (by decide) ?_
    refine XS.aloadN X0.here hx rfl (hb hby d4_8) rfl rfl ?_
    refine XS.iload X0.here hx rfl (hb hby d4_9) rfl ?_
    exact k
  refine Outs.of (ldI X0 hx hZ e0 A_o1 (j := (3 : Int32)) (k := 3) rfl (by decide) (f := (mkF m 11 #[.val (.ref o0), .val (.ref o1), .val (.ref o2), .val (.int (4 : Int32)), .val (.int (3 : Int32))] [(.int (3 : Int32)), (.ref o1)])) rfl rfl (hb hby d4_11)) ?_
  show Outs p e below s _ _ _ (s₁.setTop (mkF m 12 #[.val (.ref o0), .val (.ref o1), .val (.ref o2), .val (.int (4 : Int32)), .val (.int (3 : Int32))] [(.int (gk 3))]))
  refine Outs.of (U' := s₁.setTop (mkF m 15 #[.val (.ref o0), .val (.ref o1), .val (.ref o2), .val (.int (4 : Int32)), .val (.int (3 : Int32))] [(.int (3 : Int32)), (.ref o2), (.int (gk 3))])) (fun t k => ?_) ?_
  · refine XS.aloadN X0.here hx rfl (hb hby d4_12) rfl rfl ?_
    refine XS.iload X0.here hx rfl (hb hby d4_13) rfl ?_
    exact k
  refine Outs.of (ldI X0 hx hZ e0 A_o2 (j := (3 : Int32)) (k := 3) rfl (by decide) (f := (mkF m 15 #[.val (.ref o0), .val (.ref o1), .val (.ref o2), .val (.int (4 : Int32)), .val (.int (3 : Int32))] [(.int (3 : Int32)), (.ref o2), (.int (gk 3))])) rfl rfl (hb hby d4_15)) ?_
  show Outs p e below s _ _ _ (s₁.setTop (mkF m 16 #[.val (.ref o0), .val (.ref o1), .val (.ref o2), .val (.int (4 : Int32)), .val (.int (3 : Int32))] [(.int (gc 3)), (.int (gk 3))]))
  by_cases hc16 : (gk 3) = (gc 3)
  · refine Outs.of (U' := s₁.setTop (mkF m 19 #[.val (.ref o0), .val (.ref o1), .val (.ref o2), .val (.int (4 : Int32)), .val (.int (3 : Int32))] [])) (fun t k => ?_) ?_
    · refine XS.icmpNo X0.here hx rfl (hb hby d4_16) rfl (teq hc16).2 ?_
      exact k
    refine Outs.of (U' := s₁.setTop (mkF m 22 #[.val (.ref o0), .val (.ref o1), .val (.ref o2), .val (.int (4 : Int32)), .val (.int (3 : Int32))] [(.int (3 : Int32)), (.ref o0)])) (fun t k => ?_) ?_
    · refine XS.aloadN X0.here hx rfl (hb hby d4_19) rfl rfl ?_
      refine XS.iload X0.here hx rfl (hb hby d4_20) rfl ?_
      exact k
    refine Outs.of (ldI X0 hx hZ e0 A_o0 (j := (3 : Int32)) (k := 3) rfl (by decide) (f := (mkF m 22 #[.val (.ref o0), .val (.ref o1), .val (.ref o2), .val (.int (4 : Int32)), .val (.int (3 : Int32))] [(.int (3 : Int32)), (.ref o0)])) rfl rfl (hb hby d4_22)) ?_
    show Outs p e below s _ _ _ (s₁.setTop (mkF m 23 #[.val (.ref o0), .val (.ref o1), .val (.ref o2), .val (.int (4 : Int32)), .val (.int (3 : Int32))] [(.int (gp 3))]))
    by_cases hc23 : (gp 3) < (0 : Int32)
    · refine Outs.of (U' := s₁.setTop (mkF m 41 #[.val (.ref o0), .val (.ref o1), .val (.ref o2), .val (.int (4 : Int32)), .val (.int (3 : Int32))] [])) (fun t k => ?_) ?_
      · refine XS.ifYes X0.here hx rfl (pc0 := 23) (pc' := 41) rfl (hb hby d4_23) rfl ((if0 _ _).trans (tlt hc23).1) (by decide) (by decide) ?_
        exact k
      refine Outs.of (U' := s₁.setTop (mkF m 42 #[.val (.ref o0), .val (.ref o1), .val (.ref o2), .val (.int (4 : Int32)), .val (.int (3 : Int32))] [(.int (0 : Int32))])) (fun t k => ?_) ?_
      · refine XS.iconst X0.here hx rfl (hb hby d4_41) ?_
        exact k
      exact Outs.retN (t := .boolean) (z := (0 : Int32)) X0 hx hret (by simp) (hb hby d4_42) hlk (by decide) (by decide) e0 ⟨congrArg (fun z_ => some (Value.int z_)) (show (F_k4_3 gp gk gc) = (0 : Int32) from ((if_pos hc16).trans (if_pos hc23))).symm, N0, rfl⟩
    · refine Outs.of (U' := s₁.setTop (mkF m 26 #[.val (.ref o0), .val (.ref o1), .val (.ref o2), .val (.int (4 : Int32)), .val (.int (3 : Int32))] [])) (fun t k => ?_) ?_
      · refine XS.ifNo X0.here hx rfl (hb hby d4_23) rfl ((if0 _ _).trans (flt hc23).1) ?_
        exact k
      refine Outs.of (U' := s₁.setTop (mkF m 29 #[.val (.ref o0), .val (.ref o1), .val (.ref o2), .val (.int (4 : Int32)), .val (.int (3 : Int32))] [(.int (3 : Int32)), (.ref o0)])) (fun t k => ?_) ?_
      · refine XS.aloadN X0.here hx rfl (hb hby d4_26) rfl rfl ?_
        refine XS.iload X0.here hx rfl (hb hby d4_27) rfl ?_
        exact k
      refine Outs.of (ldI X0 hx hZ e0 A_o0 (j := (3 : Int32)) (k := 3) rfl (by decide) (f := (mkF m 29 #[.val (.ref o0), .val (.ref o1), .val (.ref o2), .val (.int (4 : Int32)), .val (.int (3 : Int32))] [(.int (3 : Int32)), (.ref o0)])) rfl rfl (hb hby d4_29)) ?_
      show Outs p e below s _ _ _ (s₁.setTop (mkF m 30 #[.val (.ref o0), .val (.ref o1), .val (.ref o2), .val (.int (4 : Int32)), .val (.int (3 : Int32))] [(.int (gp 3))]))
      refine Outs.of (U' := s₁.setTop (mkF m 33 #[.val (.ref o0), .val (.ref o1), .val (.ref o2), .val (.int (4 : Int32)), .val (.int (3 : Int32))] [(.int (3 : Int32)), (.ref o2), (.int (gp 3))])) (fun t k => ?_) ?_
      · refine XS.aloadN X0.here hx rfl (hb hby d4_30) rfl rfl ?_
        refine XS.iload X0.here hx rfl (hb hby d4_31) rfl ?_
        exact k
      refine Outs.of (ldI X0 hx hZ e0 A_o2 (j := (3 : Int32)) (k := 3) rfl (by decide) (f := (mkF m 33 #[.val (.ref o0), .val (.ref o1), .val (.ref o2), .val (.int (4 : Int32)), .val (.int (3 : Int32))] [(.int (3 : Int32)), (.ref o2), (.int (gp 3))])) rfl rfl (hb hby d4_33)) ?_
      show Outs p e below s _ _ _ (s₁.setTop (mkF m 34 #[.val (.ref o0), .val (.ref o1), .val (.ref o2), .val (.int (4 : Int32)), .val (.int (3 : Int32))] [(.int (gc 3)), (.int (gp 3))]))
      refine Outs.of (U' := s₁.setTop (mkF m 42 #[.val (.ref o0), .val (.ref o1), .val (.ref o2), .val (.int (4 : Int32)), .val (.int (3 : Int32))] [(.int (k4_3_34_s0 gp gk gc))])) (fun t k => ?_) ?_
      · by_cases hc34 : (gp 3) < (gc 3)
        · refine XS.icmpNo X0.here hx rfl (hb hby d4_34) rfl (tlt hc34).2.1 ?_
          refine XS.iconst X0.here hx rfl (hb hby d4_37) ?_
          refine XS.goto X0.here hx rfl (pc0 := 38) (pc' := 42) rfl (hb hby d4_38) (by decide) (by decide) ?_
          rw [show (k4_3_34_s0 gp gk gc) = (1 : Int32) from (if_pos hc34)] at k
          exact k
        · refine XS.icmpYes X0.here hx rfl (pc0 := 34) (pc' := 41) rfl (hb hby d4_34) rfl (flt hc34).2.1 (by decide) (by decide) ?_
          refine XS.iconst X0.here hx rfl (hb hby d4_41) ?_
          rw [show (k4_3_34_s0 gp gk gc) = (0 : Int32) from (if_neg hc34)] at k
          exact k
      exact Outs.retN (t := .boolean) (z := (k4_3_34_s0 gp gk gc)) X0 hx hret (by simp) (hb hby d4_42) hlk (by decide) (by decide) e0 ⟨congrArg (fun z_ => some (Value.int z_)) (show (F_k4_3 gp gk gc) = (nar .boolean (k4_3_34_s0 gp gk gc)) from ((if_pos hc16).trans (if_neg hc23))).symm, N0, rfl⟩
  · refine Outs.of (U' := s₁.setTop (mkF m 41 #[.val (.ref o0), .val (.ref o1), .val (.ref o2), .val (.int (4 : Int32)), .val (.int (3 : Int32))] [])) (fun t k => ?_) ?_
    · refine XS.icmpYes X0.here hx rfl (pc0 := 16) (pc' := 41) rfl (hb hby d4_16) rfl (feq hc16).2 (by decide) (by decide) ?_
      exact k
    refine Outs.of (U' := s₁.setTop (mkF m 42 #[.val (.ref o0), .val (.ref o1), .val (.ref o2), .val (.int (4 : Int32)), .val (.int (3 : Int32))] [(.int (0 : Int32))])) (fun t k => ?_) ?_
    · refine XS.iconst X0.here hx rfl (hb hby d4_41) ?_
      exact k
    exact Outs.retN (t := .boolean) (z := (0 : Int32)) X0 hx hret (by simp) (hb hby d4_42) hlk (by decide) (by decide) e0 ⟨congrArg (fun z_ => some (Value.int z_)) (show (F_k4_3 gp gk gc) = (0 : Int32) from (if_neg hc16)).symm, N0, rfl⟩
def f0_g26 (i0 : Int32) (i1 : Int32) (i2 : Int32) : Nat → Int32 := (upv (fun _ => (0 : Int32)) 0 ((i1 &&& (15 : Int32)) + (1 : Int32)))
def f0_g38 (i0 : Int32) (i1 : Int32) (i2 : Int32) : Nat → Int32 := (upv (f0_g26 i0 i1 i2) 1 ((((i1.toUInt32 >>> ((4 : Int32) &&& 31).toUInt32).toInt32) &&& (15 : Int32)) + (1 : Int32)))
def f0_g51 (i0 : Int32) (i1 : Int32) (i2 : Int32) : Nat → Int32 := (upv (f0_g38 i0 i1 i2) 2 ((((i1.toUInt32 >>> ((8 : Int32) &&& 31).toUInt32).toInt32) &&& (15 : Int32)) + (1 : Int32)))
def f0_g64 (i0 : Int32) (i1 : Int32) (i2 : Int32) : Nat → Int32 := (upv (f0_g51 i0 i1 i2) 3 ((((i1.toUInt32 >>> ((12 : Int32) &&& 31).toUInt32).toInt32) &&& (15 : Int32)) + (1 : Int32)))
def f0_g78 (i0 : Int32) (i1 : Int32) (i2 : Int32) : Nat → Int32 := (upv (fun _ => (0 : Int32)) 0 ((i2 &&& (255 : Int32)) % ((f0_g64 i0 i1 i2) 0)))
def f0_g95 (i0 : Int32) (i1 : Int32) (i2 : Int32) : Nat → Int32 := (upv (f0_g78 i0 i1 i2) 1 ((((i2.toUInt32 >>> ((8 : Int32) &&& 31).toUInt32).toInt32) &&& (255 : Int32)) % ((f0_g64 i0 i1 i2) 1)))
def f0_g112 (i0 : Int32) (i1 : Int32) (i2 : Int32) : Nat → Int32 := (upv (f0_g95 i0 i1 i2) 2 ((((i2.toUInt32 >>> ((16 : Int32) &&& 31).toUInt32).toInt32) &&& (255 : Int32)) % ((f0_g64 i0 i1 i2) 2)))
def f0_g129 (i0 : Int32) (i1 : Int32) (i2 : Int32) : Nat → Int32 := (upv (f0_g112 i0 i1 i2) 3 ((((i2.toUInt32 >>> ((24 : Int32) &&& 31).toUInt32).toInt32) &&& (255 : Int32)) % ((f0_g64 i0 i1 i2) 3)))
def f0_329_s0 (i0 : Int32) (i1 : Int32) (i2 : Int32) : Int32 := (if (F_a0 (fun _ => (0 : Int32)) (fun _ => (0 : Int32))) = (0 : Int32) then (0 : Int32) else (if (F_v0 (fun _ => (0 : Int32)) (f0_g64 i0 i1 i2)) = ((F_v0 (fun _ => (0 : Int32)) (f0_g64 i0 i1 i2)) + (1 : Int32)) then (1 : Int32) else (0 : Int32)))
def f0_349_s0 (i0 : Int32) (i1 : Int32) (i2 : Int32) : Int32 := (if (F_a0 (fun _ => (0 : Int32)) (fun _ => (0 : Int32))) = (0 : Int32) then (if (F_v0 (fun _ => (0 : Int32)) (f0_g64 i0 i1 i2)) = (0 : Int32) then (1 : Int32) else (0 : Int32)) else (0 : Int32))
def f0_g151 (i0 : Int32) (i1 : Int32) (i2 : Int32) : Nat → Int32 := (upv (fun _ => (0 : Int32)) 0 ((f0_g64 i0 i1 i2) 0))
def f0_g159 (i0 : Int32) (i1 : Int32) (i2 : Int32) : Nat → Int32 := (upv (fun _ => (0 : Int32)) 0 ((f0_g129 i0 i1 i2) 0))
def f0_v316 (i0 : Int32) (i1 : Int32) (i2 : Int32) : Int32 := (F_v1 (a1_out0 (f0_g159 i0 i1 i2) (f0_g151 i0 i1 i2)) (f0_g64 i0 i1 i2))
def f0_329_s0a (i0 : Int32) (i1 : Int32) (i2 : Int32) : Int32 := (if (F_a1 (f0_g159 i0 i1 i2) (f0_g151 i0 i1 i2)) = (0 : Int32) then (0 : Int32) else (if (f0_v316 i0 i1 i2) = ((F_v1 (f0_g159 i0 i1 i2) (f0_g64 i0 i1 i2)) + (1 : Int32)) then (1 : Int32) else (0 : Int32)))
def f0_349_s0a (i0 : Int32) (i1 : Int32) (i2 : Int32) : Int32 := (if (F_a1 (f0_g159 i0 i1 i2) (f0_g151 i0 i1 i2)) = (0 : Int32) then (if (f0_v316 i0 i1 i2) = (0 : Int32) then (1 : Int32) else (0 : Int32)) else (0 : Int32))
def f0_g172 (i0 : Int32) (i1 : Int32) (i2 : Int32) : Nat → Int32 := (upv (f0_g151 i0 i1 i2) 1 ((f0_g64 i0 i1 i2) 1))
def f0_g180 (i0 : Int32) (i1 : Int32) (i2 : Int32) : Nat → Int32 := (upv (f0_g159 i0 i1 i2) 1 ((f0_g129 i0 i1 i2) 1))
def f0_v316a (i0 : Int32) (i1 : Int32) (i2 : Int32) : Int32 := (F_v2 (a2_out0 (f0_g180 i0 i1 i2) (f0_g172 i0 i1 i2)) (f0_g64 i0 i1 i2))
def f0_329_s0b (i0 : Int32) (i1 : Int32) (i2 : Int32) : Int32 := (if (F_a2 (f0_g180 i0 i1 i2) (f0_g172 i0 i1 i2)) = (0 : Int32) then (0 : Int32) else (if (f0_v316a i0 i1 i2) = ((F_v2 (f0_g180 i0 i1 i2) (f0_g64 i0 i1 i2)) + (1 : Int32)) then (1 : Int32) else (0 : Int32)))
def f0_349_s0b (i0 : Int32) (i1 : Int32) (i2 : Int32) : Int32 := (if (F_a2 (f0_g180 i0 i1 i2) (f0_g172 i0 i1 i2)) = (0 : Int32) then (if (f0_v316a i0 i1 i2) = (0 : Int32) then (1 : Int32) else (0 : Int32)) else (0 : Int32))
def f0_g193 (i0 : Int32) (i1 : Int32) (i2 : Int32) : Nat → Int32 := (upv (f0_g172 i0 i1 i2) 2 ((f0_g64 i0 i1 i2) 2))
def f0_g201 (i0 : Int32) (i1 : Int32) (i2 : Int32) : Nat → Int32 := (upv (f0_g180 i0 i1 i2) 2 ((f0_g129 i0 i1 i2) 2))
def f0_v316b (i0 : Int32) (i1 : Int32) (i2 : Int32) : Int32 := (F_v3 (a3_out0 (f0_g201 i0 i1 i2) (f0_g193 i0 i1 i2)) (f0_g64 i0 i1 i2))
def f0_329_s0c (i0 : Int32) (i1 : Int32) (i2 : Int32) : Int32 := (if (F_a3 (f0_g201 i0 i1 i2) (f0_g193 i0 i1 i2)) = (0 : Int32) then (0 : Int32) else (if (f0_v316b i0 i1 i2) = ((F_v3 (f0_g201 i0 i1 i2) (f0_g64 i0 i1 i2)) + (1 : Int32)) then (1 : Int32) else (0 : Int32)))
def f0_349_s0c (i0 : Int32) (i1 : Int32) (i2 : Int32) : Int32 := (if (F_a3 (f0_g201 i0 i1 i2) (f0_g193 i0 i1 i2)) = (0 : Int32) then (if (f0_v316b i0 i1 i2) = (0 : Int32) then (1 : Int32) else (0 : Int32)) else (0 : Int32))
def f0_g214 (i0 : Int32) (i1 : Int32) (i2 : Int32) : Nat → Int32 := (upv (f0_g193 i0 i1 i2) 3 ((f0_g64 i0 i1 i2) 3))
def f0_g222 (i0 : Int32) (i1 : Int32) (i2 : Int32) : Nat → Int32 := (upv (f0_g201 i0 i1 i2) 3 ((f0_g129 i0 i1 i2) 3))
def f0_v316c (i0 : Int32) (i1 : Int32) (i2 : Int32) : Int32 := (F_v4 (a4_out0 (f0_g222 i0 i1 i2) (f0_g214 i0 i1 i2)) (f0_g64 i0 i1 i2))
def f0_329_s0d (i0 : Int32) (i1 : Int32) (i2 : Int32) : Int32 := (if (F_a4 (f0_g222 i0 i1 i2) (f0_g214 i0 i1 i2)) = (0 : Int32) then (0 : Int32) else (if (f0_v316c i0 i1 i2) = ((F_v4 (f0_g222 i0 i1 i2) (f0_g64 i0 i1 i2)) + (1 : Int32)) then (1 : Int32) else (0 : Int32)))
def f0_349_s0d (i0 : Int32) (i1 : Int32) (i2 : Int32) : Int32 := (if (F_a4 (f0_g222 i0 i1 i2) (f0_g214 i0 i1 i2)) = (0 : Int32) then (if (f0_v316c i0 i1 i2) = (0 : Int32) then (1 : Int32) else (0 : Int32)) else (0 : Int32))
theorem own_n (i0 : Int32) : (i0 &&& (2147483647 : Int32)) % (5 : Int32) = 0 ∨ (i0 &&& (2147483647 : Int32)) % (5 : Int32) = 1 ∨ (i0 &&& (2147483647 : Int32)) % (5 : Int32) = 2 ∨ (i0 &&& (2147483647 : Int32)) % (5 : Int32) = 3 ∨ (i0 &&& (2147483647 : Int32)) % (5 : Int32) = 4 := by
  have a := c_mask i0 2147483647 31 (by decide) (by decide)
  have m := (c_irem (i0 &&& 2147483647) 5 5 (by decide)).1 (by omega)
  generalize (i0 &&& (2147483647 : Int32)) % (5 : Int32) = z at *
  rcases (by omega : z.toInt = 0 ∨ z.toInt = 1 ∨ z.toInt = 2 ∨ z.toInt = 3 ∨ z.toInt = 4) with h | h | h | h | h
  · exact Or.inl (Int32.toInt_inj.mp (h.trans (by decide)))
  · exact Or.inr (Or.inl (Int32.toInt_inj.mp (h.trans (by decide))))
  · exact Or.inr (Or.inr (Or.inl (Int32.toInt_inj.mp (h.trans (by decide)))))
  · exact Or.inr (Or.inr (Or.inr (Or.inl (Int32.toInt_inj.mp (h.trans (by decide))))))
  · exact Or.inr (Or.inr (Or.inr (Or.inr (Int32.toInt_inj.mp (h.trans (by decide))))))
/-! printed -/
def vv : Nat → (Nat → Int32) → (Nat → Int32) → Int32
  | 0, _, _ => 0
  | n + 1, gp, gc => vv n gp gc * gc n + gp n
def tt : Nat → (Nat → Int32) → Int32
  | 0, _ => 1
  | n + 1, gc => tt n gc * gc n
def aaR : Nat → (Nat → Int32) → (Nat → Int32) → Int32
  | 0, _, _ => 0
  | n + 1, gp, gk => if (upv gp n (gp n + 1)) n < gk n then 1 else aaR n (upv (upv gp n (gp n + 1)) n 0) gk
def aaG : Nat → (Nat → Int32) → (Nat → Int32) → (Nat → Int32)
  | 0, gp, _ => gp
  | n + 1, gp, gk => if (upv gp n (gp n + 1)) n < gk n then upv gp n (gp n + 1) else aaG n (upv (upv gp n (gp n + 1)) n 0) gk
def cap : Nat → Int
  | 0 => 1
  | n + 1 => cap n * 16
theorem own_mac (x y z : Int32) (hx : 0 ≤ x.toInt ∧ x.toInt ≤ 65536) (hy : 0 ≤ y.toInt ∧ y.toInt ≤ 16) (hz : 0 ≤ z.toInt ∧ z.toInt ≤ 16) : (x * y).toInt = x.toInt * y.toInt ∧ (x * y + z).toInt = x.toInt * y.toInt + z.toInt := by
  have a := c_imul x y
  have b := c_iadd (x * y) z
  have r := rng32 (x * y)
  have r2 := rng32 (x * y + z)
  have l : 0 ≤ x.toInt * y.toInt := Int.mul_nonneg hx.1 hy.1
  have u : x.toInt * y.toInt ≤ 65536 * y.toInt := Int.mul_le_mul_of_nonneg_right hx.2 hy.1
  omega
theorem vv_cong (n : Nat) (gp gp' gc : Nat → Int32) (h : ∀ k, k < n → gp k = gp' k) : vv n gp gc = vv n gp' gc := by
  induction n with
  | zero => rfl
  | succ n ih => simp only [vv]; rw [ih (fun k hk => h k (by omega)), h n (by omega)]
theorem own_inv (n : Nat) (hn : n ≤ 4) (gp gc : Nat → Int32) (h : ∀ k, k < n → (1 ≤ (gc k).toInt ∧ (gc k).toInt ≤ 16) ∧ 0 ≤ (gp k).toInt ∧ (gp k).toInt < (gc k).toInt) :
    0 ≤ (vv n gp gc).toInt ∧ (vv n gp gc).toInt + 1 ≤ (tt n gc).toInt ∧ (tt n gc).toInt ≤ cap n := by
  induction n with
  | zero => exact ⟨show (0 : Int) ≤ (0 : Int32).toInt by decide, show (0 : Int32).toInt + 1 ≤ (1 : Int32).toInt by decide, show (1 : Int32).toInt ≤ 1 by decide⟩
  | succ n ih =>
    obtain ⟨i1, i2, i3⟩ := ih (by omega) (fun k hk => h k (by omega))
    obtain ⟨hc, hp⟩ := h n (by omega)
    have hcap : cap n ≤ 4096 := by
      rcases (by omega : n = 0 ∨ n = 1 ∨ n = 2 ∨ n = 3) with rfl | rfl | rfl | rfl <;> decide
    have m1 := own_mac (vv n gp gc) (gc n) (gp n) (by omega) (by omega) (by omega)
    have m2 := own_mac (tt n gc) (gc n) 0 (by omega) (by omega) (by decide)
    have e : vv (n + 1) gp gc = vv n gp gc * gc n + gp n := rfl
    have e2 : tt (n + 1) gc = tt n gc * gc n := rfl
    have e3 : cap (n + 1) = cap n * 16 := rfl
    rw [e, e2, e3, m1.2, m2.1]
    have l : 0 ≤ (vv n gp gc).toInt * (gc n).toInt := Int.mul_nonneg i1 (by omega)
    have q1 : ((vv n gp gc).toInt + 1) * (gc n).toInt ≤ (tt n gc).toInt * (gc n).toInt := Int.mul_le_mul_of_nonneg_right i2 (by omega)
    have q2 : (tt n gc).toInt * (gc n).toInt ≤ (tt n gc).toInt * 16 := Int.mul_le_mul_of_nonneg_left hc.2 (by omega)
    rw [Int.add_mul] at q1
    omega
theorem own_adv (n : Nat) (hn : n ≤ 4) (gk gc : Nat → Int32) (hk : ∀ k, k < n → gk k = gc k) : ∀ gp : Nat → Int32, (∀ k, k < n → (1 ≤ (gc k).toInt ∧ (gc k).toInt ≤ 16) ∧ 0 ≤ (gp k).toInt ∧ (gp k).toInt < (gc k).toInt) →
    ((aaR n gp gk = 1 ∧ (vv n gp gc).toInt + 1 < (tt n gc).toInt ∧ (vv n (aaG n gp gk) gc).toInt = (vv n gp gc).toInt + 1) ∨ (aaR n gp gk = 0 ∧ (vv n gp gc).toInt + 1 = (tt n gc).toInt ∧ (vv n (aaG n gp gk) gc).toInt = 0)) ∧
    (∀ k, k < n → 0 ≤ ((aaG n gp gk) k).toInt ∧ ((aaG n gp gk) k).toInt < (gc k).toInt) ∧ (∀ k, n ≤ k → (aaG n gp gk) k = gp k) := by
  induction n with
  | zero => intro gp h; exact ⟨Or.inr ⟨rfl, show (0 : Int32).toInt + 1 = (1 : Int32).toInt by decide, show (0 : Int32).toInt = 0 by decide⟩, fun k hk => absurd hk (by omega), fun k _ => rfl⟩
  | succ n ih =>
    intro gp h
    have hinv := own_inv n (by omega) gp gc (fun k hk => h k (by omega))
    have hcap : cap n ≤ 4096 := by
      rcases (by omega : n = 0 ∨ n = 1 ∨ n = 2 ∨ n = 3) with rfl | rfl | rfl | rfl <;> decide
    obtain ⟨hc, hp⟩ := h n (by omega)
    have a1 := c_iadd (gp n) 1
    have e1 : (1 : Int32).toInt = 1 := by decide
    have r1 := rng32 (gp n + 1)
    have p1 : (gp n + 1).toInt = (gp n).toInt + 1 := by omega
    have m1 := own_mac (vv n gp gc) (gc n) (gp n) (by omega) (by omega) (by omega)
    have m2 := own_mac (tt n gc) (gc n) 0 (by omega) (by omega) (by decide)
    have ev : vv (n + 1) gp gc = vv n gp gc * gc n + gp n := rfl
    have et : tt (n + 1) gc = tt n gc * gc n := rfl
    have q1 : ((vv n gp gc).toInt + 1) * (gc n).toInt ≤ (tt n gc).toInt * (gc n).toInt := Int.mul_le_mul_of_nonneg_right hinv.2.1 (by omega)
    rw [Int.add_mul] at q1
    by_cases c : (upv gp n (gp n + 1)) n < gk n
    · have eR : aaR (n + 1) gp gk = 1 := if_pos c
      have eG : aaG (n + 1) gp gk = upv gp n (gp n + 1) := if_pos c
      rw [upv_same, hk n (by omega), Int32.lt_iff_toInt_lt, p1] at c
      have ew : vv (n + 1) (upv gp n (gp n + 1)) gc = vv n gp gc * gc n + (gp n + 1) := by
        show vv n (upv gp n (gp n + 1)) gc * gc n + (upv gp n (gp n + 1)) n = _
        rw [upv_same, vv_cong n (upv gp n (gp n + 1)) gp gc (fun k hk => upv_ne _ _ (by omega))]
      have m3 := own_mac (vv n gp gc) (gc n) (gp n + 1) (by omega) (by omega) (by omega)
      rw [eR, eG]
      refine ⟨Or.inl ⟨rfl, ?_, ?_⟩, fun k hk => ?_, fun k hk => ?_⟩
      · rw [ev, et, m1.2, m2.1]; omega
      · rw [ew, m3.2, ev, m1.2]; omega
      · by_cases w : k = n
        · subst w; rw [upv_same]; omega
        · rw [upv_ne _ _ w]; exact (h k hk).2
      · rw [upv_ne _ _ (by omega)]
    · have eR : aaR (n + 1) gp gk = aaR n (upv (upv gp n (gp n + 1)) n 0) gk := if_neg c
      have eG : aaG (n + 1) gp gk = aaG n (upv (upv gp n (gp n + 1)) n 0) gk := if_neg c
      rw [upv_same, hk n (by omega), Int32.lt_iff_toInt_lt, p1] at c
      have hs : ∀ k, k < n → (upv (upv gp n (gp n + 1)) n 0) k = gp k := fun k hk => by rw [upv_ne _ _ (by omega), upv_ne _ _ (by omega)]
      obtain ⟨j1, j2, j3⟩ := ih (by omega) (fun k w => hk k (by omega)) (upv (upv gp n (gp n + 1)) n 0) (fun k w => by rw [hs k w]; exact h k (by omega))
      have es := vv_cong n (upv (upv gp n (gp n + 1)) n 0) gp gc hs
      rw [es] at j1
      have e0 : (aaG n (upv (upv gp n (gp n + 1)) n 0) gk) n = 0 := by rw [j3 n (by omega), upv_same]
      have ew : vv (n + 1) (aaG n (upv (upv gp n (gp n + 1)) n 0) gk) gc = vv n (aaG n (upv (upv gp n (gp n + 1)) n 0) gk) gc * gc n + 0 := by
        show vv n _ gc * gc n + (aaG n (upv (upv gp n (gp n + 1)) n 0) gk) n = _
        rw [e0]
      have ez : (0 : Int32).toInt = 0 := by decide
      have ep : (gp n).toInt + 1 = (gc n).toInt := by omega
      rw [eR, eG]
      refine ⟨?_, fun k w => ?_, fun k w => ?_⟩
      · rcases j1 with ⟨k1, k2, k3⟩ | ⟨k1, k2, k3⟩
        · have m3 := own_mac (vv n (aaG n (upv (upv gp n (gp n + 1)) n 0) gk) gc) (gc n) 0 (by omega) (by omega) (by decide)
          have q2 : ((vv n gp gc).toInt + 1 + 1) * (gc n).toInt ≤ (tt n gc).toInt * (gc n).toInt := Int.mul_le_mul_of_nonneg_right (by omega) (by omega)
          rw [Int.add_mul, Int.add_mul] at q2
          refine Or.inl ⟨k1, ?_, ?_⟩
          · rw [ev, et, m1.2, m2.1]; omega
          · rw [ew, m3.2, k3, ev, m1.2, Int.add_mul]; omega
        · have m3 := own_mac (vv n (aaG n (upv (upv gp n (gp n + 1)) n 0) gk) gc) (gc n) 0 (by omega) (by omega) (by decide)
          refine Or.inr ⟨k1, ?_, ?_⟩
          · rw [ev, et, m1.2, m2.1, ← k2, Int.add_mul]; omega
          · rw [ew, m3.2, k3, ez]; omega
      · by_cases v : k = n
        · subst v; rw [e0, ez]; omega
        · exact j2 k (by omega)
      · rw [j3 k (by omega), upv_ne _ _ (by omega), upv_ne _ _ (by omega)]
theorem own_nib (z : Int32) : 1 ≤ ((z &&& (15 : Int32)) + (1 : Int32)).toInt ∧ ((z &&& (15 : Int32)) + (1 : Int32)).toInt ≤ 16 := by
  have a := c_mask z 15 4 (by decide) (by decide)
  have b := c_iadd (z &&& 15) 1
  have e1 : (1 : Int32).toInt = 1 := by decide
  have r := rng32 ((z &&& 15) + 1)
  omega
theorem own_rem (z c : Int32) (hc : 1 ≤ c.toInt ∧ c.toInt ≤ 16) : 0 ≤ ((z &&& (255 : Int32)) % c).toInt ∧ ((z &&& (255 : Int32)) % c).toInt < c.toInt := by
  have a := c_mask z 255 8 (by decide) (by decide)
  have m := (c_iremV (z &&& 255) c).1 (by omega) (by omega)
  exact ⟨m.1, m.2.1⟩
theorem own_c0 (i0 i1 i2 : Int32) : 1 ≤ (f0_g64 i0 i1 i2 0).toInt ∧ (f0_g64 i0 i1 i2 0).toInt ≤ 16 := by
  unfold f0_g64 f0_g51 f0_g38 f0_g26 upv
  rw [if_neg (by decide), if_neg (by decide), if_neg (by decide), if_pos rfl]
  exact own_nib _
theorem own_cnz0 (i0 i1 i2 : Int32) : f0_g64 i0 i1 i2 0 ≠ 0 := fun q => by
  have := own_c0 i0 i1 i2
  rw [q] at this
  exact absurd this (by decide)
theorem own_p0 (i0 i1 i2 : Int32) : 0 ≤ (f0_g129 i0 i1 i2 0).toInt ∧ (f0_g129 i0 i1 i2 0).toInt < (f0_g64 i0 i1 i2 0).toInt := by
  have h := own_c0 i0 i1 i2
  unfold f0_g129 f0_g112 f0_g95 f0_g78 upv
  rw [if_neg (by decide), if_neg (by decide), if_neg (by decide), if_pos rfl]
  exact own_rem _ _ h
theorem own_c1 (i0 i1 i2 : Int32) : 1 ≤ (f0_g64 i0 i1 i2 1).toInt ∧ (f0_g64 i0 i1 i2 1).toInt ≤ 16 := by
  unfold f0_g64 f0_g51 f0_g38 upv
  rw [if_neg (by decide), if_neg (by decide), if_pos rfl]
  exact own_nib _
theorem own_cnz1 (i0 i1 i2 : Int32) : f0_g64 i0 i1 i2 1 ≠ 0 := fun q => by
  have := own_c1 i0 i1 i2
  rw [q] at this
  exact absurd this (by decide)
theorem own_p1 (i0 i1 i2 : Int32) : 0 ≤ (f0_g129 i0 i1 i2 1).toInt ∧ (f0_g129 i0 i1 i2 1).toInt < (f0_g64 i0 i1 i2 1).toInt := by
  have h := own_c1 i0 i1 i2
  unfold f0_g129 f0_g112 f0_g95 upv
  rw [if_neg (by decide), if_neg (by decide), if_pos rfl]
  exact own_rem _ _ h
theorem own_c2 (i0 i1 i2 : Int32) : 1 ≤ (f0_g64 i0 i1 i2 2).toInt ∧ (f0_g64 i0 i1 i2 2).toInt ≤ 16 := by
  unfold f0_g64 f0_g51 upv
  rw [if_neg (by decide), if_pos rfl]
  exact own_nib _
theorem own_cnz2 (i0 i1 i2 : Int32) : f0_g64 i0 i1 i2 2 ≠ 0 := fun q => by
  have := own_c2 i0 i1 i2
  rw [q] at this
  exact absurd this (by decide)
theorem own_p2 (i0 i1 i2 : Int32) : 0 ≤ (f0_g129 i0 i1 i2 2).toInt ∧ (f0_g129 i0 i1 i2 2).toInt < (f0_g64 i0 i1 i2 2).toInt := by
  have h := own_c2 i0 i1 i2
  unfold f0_g129 f0_g112 upv
  rw [if_neg (by decide), if_pos rfl]
  exact own_rem _ _ h
theorem own_c3 (i0 i1 i2 : Int32) : 1 ≤ (f0_g64 i0 i1 i2 3).toInt ∧ (f0_g64 i0 i1 i2 3).toInt ≤ 16 := by
  unfold f0_g64 upv
  rw [if_pos rfl]
  exact own_nib _
theorem own_cnz3 (i0 i1 i2 : Int32) : f0_g64 i0 i1 i2 3 ≠ 0 := fun q => by
  have := own_c3 i0 i1 i2
  rw [q] at this
  exact absurd this (by decide)
theorem own_p3 (i0 i1 i2 : Int32) : 0 ≤ (f0_g129 i0 i1 i2 3).toInt ∧ (f0_g129 i0 i1 i2 3).toInt < (f0_g64 i0 i1 i2 3).toInt := by
  have h := own_c3 i0 i1 i2
  unfold f0_g129 upv
  rw [if_pos rfl]
  exact own_rem _ _ h
theorem own_gp0 (i0 i1 i2 : Int32) (k : Nat) (hk : k < 0) : (fun _ => (0 : Int32)) k = f0_g129 i0 i1 i2 k := by
  exact absurd hk (by omega)
theorem own_gk0 (i0 i1 i2 : Int32) (k : Nat) (hk : k < 0) : (fun _ => (0 : Int32)) k = f0_g64 i0 i1 i2 k := by
  exact absurd hk (by omega)
theorem own_H0 (i0 i1 i2 : Int32) : ∀ k, k < 0 → (1 ≤ (f0_g64 i0 i1 i2 k).toInt ∧ (f0_g64 i0 i1 i2 k).toInt ≤ 16) ∧ 0 ≤ ((fun _ => (0 : Int32)) k).toInt ∧ ((fun _ => (0 : Int32)) k).toInt < (f0_g64 i0 i1 i2 k).toInt := fun k hk => by
  rw [own_gp0 i0 i1 i2 k hk]
  exact absurd hk (by omega)
theorem law_ok0_0 (i0 i1 i2 : Int32) : ¬ F_k0_0 (fun _ => (0 : Int32)) (fun _ => (0 : Int32)) (f0_g64 i0 i1 i2) = 0 := by
  show ¬ (1 : Int32) = 0
  decide
theorem law_ok0_1 (i0 i1 i2 : Int32) : ¬ F_k0_1 (fun _ => (0 : Int32)) (fun _ => (0 : Int32)) (f0_g64 i0 i1 i2) = 0 := by
  show ¬ (1 : Int32) = 0
  decide
theorem law_ok0_2 (i0 i1 i2 : Int32) : ¬ F_k0_2 (fun _ => (0 : Int32)) (fun _ => (0 : Int32)) (f0_g64 i0 i1 i2) = 0 := by
  show ¬ (1 : Int32) = 0
  decide
theorem law_ok0_3 (i0 i1 i2 : Int32) : ¬ F_k0_3 (fun _ => (0 : Int32)) (fun _ => (0 : Int32)) (f0_g64 i0 i1 i2) = 0 := by
  show ¬ (1 : Int32) = 0
  decide
theorem law_f0_329_s0 (i0 i1 i2 : Int32) (h : (F_v0 (fun _ => (0 : Int32)) (f0_g64 i0 i1 i2) + (1 : Int32)) < F_p0 (f0_g64 i0 i1 i2)) : nar .boolean (f0_329_s0 i0 i1 i2) = 1 := absurd h (show ¬ ((0 : Int32) + 1) < 1 by decide)
theorem law_f0_349_s0 (i0 i1 i2 : Int32) (h : ¬ (F_v0 (fun _ => (0 : Int32)) (f0_g64 i0 i1 i2) + (1 : Int32)) < F_p0 (f0_g64 i0 i1 i2)) : nar .boolean (f0_349_s0 i0 i1 i2) = 1 := by
  show nar .boolean (if (0 : Int32) = 0 then (if (0 : Int32) = 0 then 1 else 0) else 0) = 1
  rfl
theorem own_gp1 (i0 i1 i2 : Int32) (k : Nat) (hk : k < 1) : (f0_g159 i0 i1 i2) k = f0_g129 i0 i1 i2 k := by
  rcases (by omega : k = 0) with rfl
  · unfold f0_g159 upv; rw [if_pos rfl]
theorem own_gk1 (i0 i1 i2 : Int32) (k : Nat) (hk : k < 1) : (f0_g151 i0 i1 i2) k = f0_g64 i0 i1 i2 k := by
  rcases (by omega : k = 0) with rfl
  · unfold f0_g151 upv; rw [if_pos rfl]
theorem own_H1 (i0 i1 i2 : Int32) : ∀ k, k < 1 → (1 ≤ (f0_g64 i0 i1 i2 k).toInt ∧ (f0_g64 i0 i1 i2 k).toInt ≤ 16) ∧ 0 ≤ ((f0_g159 i0 i1 i2) k).toInt ∧ ((f0_g159 i0 i1 i2) k).toInt < (f0_g64 i0 i1 i2 k).toInt := fun k hk => by
  rw [own_gp1 i0 i1 i2 k hk]
  rcases (by omega : k = 0) with rfl
  · exact ⟨own_c0 i0 i1 i2, own_p0 i0 i1 i2⟩
theorem law_ok1_0 (i0 i1 i2 : Int32) : ¬ F_k1_0 (a1_out0 (f0_g159 i0 i1 i2) (f0_g151 i0 i1 i2)) (f0_g151 i0 i1 i2) (f0_g64 i0 i1 i2) = 0 := by
  have h : 0 ≤ ((a1_out0 (f0_g159 i0 i1 i2) (f0_g151 i0 i1 i2)) 0).toInt ∧ ((a1_out0 (f0_g159 i0 i1 i2) (f0_g151 i0 i1 i2)) 0).toInt < (f0_g64 i0 i1 i2 0).toInt := (own_adv 1 (by decide) (f0_g151 i0 i1 i2) (f0_g64 i0 i1 i2) (fun k hk => own_gk1 i0 i1 i2 k hk) (f0_g159 i0 i1 i2) (own_H1 i0 i1 i2)).2.1 0 (by decide)
  have e0 : (0 : Int32).toInt = 0 := by decide
  unfold F_k1_0 k1_0_34_s0
  rw [if_pos (own_gk1 i0 i1 i2 0 (by decide)), if_neg (by rw [Int32.lt_iff_toInt_lt]; omega), if_pos (by rw [Int32.lt_iff_toInt_lt]; omega)]
  decide
theorem law_ok1_1 (i0 i1 i2 : Int32) : ¬ F_k1_1 (a1_out0 (f0_g159 i0 i1 i2) (f0_g151 i0 i1 i2)) (f0_g151 i0 i1 i2) (f0_g64 i0 i1 i2) = 0 := by
  show ¬ (1 : Int32) = 0
  decide
theorem law_ok1_2 (i0 i1 i2 : Int32) : ¬ F_k1_2 (a1_out0 (f0_g159 i0 i1 i2) (f0_g151 i0 i1 i2)) (f0_g151 i0 i1 i2) (f0_g64 i0 i1 i2) = 0 := by
  show ¬ (1 : Int32) = 0
  decide
theorem law_ok1_3 (i0 i1 i2 : Int32) : ¬ F_k1_3 (a1_out0 (f0_g159 i0 i1 i2) (f0_g151 i0 i1 i2)) (f0_g151 i0 i1 i2) (f0_g64 i0 i1 i2) = 0 := by
  show ¬ (1 : Int32) = 0
  decide
theorem own_B1 (i0 i1 i2 : Int32) : ((F_v1 (f0_g159 i0 i1 i2) (f0_g64 i0 i1 i2) + (1 : Int32)) < F_p1 (f0_g64 i0 i1 i2) ∧ F_a1 (f0_g159 i0 i1 i2) (f0_g151 i0 i1 i2) = 1 ∧ F_v1 (a1_out0 (f0_g159 i0 i1 i2) (f0_g151 i0 i1 i2)) (f0_g64 i0 i1 i2) = F_v1 (f0_g159 i0 i1 i2) (f0_g64 i0 i1 i2) + 1) ∨ (¬ (F_v1 (f0_g159 i0 i1 i2) (f0_g64 i0 i1 i2) + (1 : Int32)) < F_p1 (f0_g64 i0 i1 i2) ∧ F_a1 (f0_g159 i0 i1 i2) (f0_g151 i0 i1 i2) = 0 ∧ F_v1 (a1_out0 (f0_g159 i0 i1 i2) (f0_g151 i0 i1 i2)) (f0_g64 i0 i1 i2) = 0) := by
  have hi := own_inv 1 (by decide) (f0_g159 i0 i1 i2) (f0_g64 i0 i1 i2) (own_H1 i0 i1 i2)
  have hcap : cap 1 ≤ 65536 := by decide
  have hv : vv 1 (f0_g159 i0 i1 i2) (f0_g64 i0 i1 i2) = F_v1 (f0_g159 i0 i1 i2) (f0_g64 i0 i1 i2) := rfl
  have ht : tt 1 (f0_g64 i0 i1 i2) = F_p1 (f0_g64 i0 i1 i2) := rfl
  have A := (own_adv 1 (by decide) (f0_g151 i0 i1 i2) (f0_g64 i0 i1 i2) (fun k hk => own_gk1 i0 i1 i2 k hk) (f0_g159 i0 i1 i2) (own_H1 i0 i1 i2)).1
  have hr : aaR 1 (f0_g159 i0 i1 i2) (f0_g151 i0 i1 i2) = F_a1 (f0_g159 i0 i1 i2) (f0_g151 i0 i1 i2) := rfl
  have hg : aaG 1 (f0_g159 i0 i1 i2) (f0_g151 i0 i1 i2) = (a1_out0 (f0_g159 i0 i1 i2) (f0_g151 i0 i1 i2)) := rfl
  have hw : vv 1 (a1_out0 (f0_g159 i0 i1 i2) (f0_g151 i0 i1 i2)) (f0_g64 i0 i1 i2) = F_v1 (a1_out0 (f0_g159 i0 i1 i2) (f0_g151 i0 i1 i2)) (f0_g64 i0 i1 i2) := rfl
  rw [hr, hg, hw, hv, ht] at A
  rw [hv, ht] at hi
  have e1 : (1 : Int32).toInt = 1 := by decide
  have a := c_iadd (F_v1 (f0_g159 i0 i1 i2) (f0_g64 i0 i1 i2)) 1
  have r := rng32 (F_v1 (f0_g159 i0 i1 i2) (f0_g64 i0 i1 i2) + 1)
  have p : (F_v1 (f0_g159 i0 i1 i2) (f0_g64 i0 i1 i2) + 1).toInt = (F_v1 (f0_g159 i0 i1 i2) (f0_g64 i0 i1 i2)).toInt + 1 := by omega
  rw [Int32.lt_iff_toInt_lt, p]
  rcases A with ⟨k1, k2, k3⟩ | ⟨k1, k2, k3⟩
  · exact Or.inl ⟨k2, k1, Int32.toInt_inj.mp (by omega)⟩
  · exact Or.inr ⟨by omega, k1, Int32.toInt_inj.mp (k3.trans (by decide))⟩
theorem law_f0_329_s0a (i0 i1 i2 : Int32) (h : (F_v1 (f0_g159 i0 i1 i2) (f0_g64 i0 i1 i2) + (1 : Int32)) < F_p1 (f0_g64 i0 i1 i2)) : nar .boolean (f0_329_s0a i0 i1 i2) = 1 := by
  rcases own_B1 i0 i1 i2 with ⟨k1, k2, k3⟩ | ⟨k1, k2, k3⟩
  · unfold f0_329_s0a f0_v316
    rw [k2, k3, if_neg (by decide), if_pos rfl]; rfl
  · exact absurd h k1
theorem law_f0_349_s0a (i0 i1 i2 : Int32) (h : ¬ (F_v1 (f0_g159 i0 i1 i2) (f0_g64 i0 i1 i2) + (1 : Int32)) < F_p1 (f0_g64 i0 i1 i2)) : nar .boolean (f0_349_s0a i0 i1 i2) = 1 := by
  rcases own_B1 i0 i1 i2 with ⟨k1, k2, k3⟩ | ⟨k1, k2, k3⟩
  · exact absurd k1 h
  · unfold f0_349_s0a f0_v316
    rw [k2, k3, if_pos rfl]; rfl
theorem own_gp2 (i0 i1 i2 : Int32) (k : Nat) (hk : k < 2) : (f0_g180 i0 i1 i2) k = f0_g129 i0 i1 i2 k := by
  rcases (by omega : k = 0 ∨ k = 1) with rfl | rfl
  · unfold f0_g180 f0_g159 upv; rw [if_neg (by decide), if_pos rfl]
  · unfold f0_g180 upv; rw [if_pos rfl]
theorem own_gk2 (i0 i1 i2 : Int32) (k : Nat) (hk : k < 2) : (f0_g172 i0 i1 i2) k = f0_g64 i0 i1 i2 k := by
  rcases (by omega : k = 0 ∨ k = 1) with rfl | rfl
  · unfold f0_g172 f0_g151 upv; rw [if_neg (by decide), if_pos rfl]
  · unfold f0_g172 upv; rw [if_pos rfl]
theorem own_H2 (i0 i1 i2 : Int32) : ∀ k, k < 2 → (1 ≤ (f0_g64 i0 i1 i2 k).toInt ∧ (f0_g64 i0 i1 i2 k).toInt ≤ 16) ∧ 0 ≤ ((f0_g180 i0 i1 i2) k).toInt ∧ ((f0_g180 i0 i1 i2) k).toInt < (f0_g64 i0 i1 i2 k).toInt := fun k hk => by
  rw [own_gp2 i0 i1 i2 k hk]
  rcases (by omega : k = 0 ∨ k = 1) with rfl | rfl
  · exact ⟨own_c0 i0 i1 i2, own_p0 i0 i1 i2⟩
  · exact ⟨own_c1 i0 i1 i2, own_p1 i0 i1 i2⟩
theorem law_ok2_0 (i0 i1 i2 : Int32) : ¬ F_k2_0 (a2_out0 (f0_g180 i0 i1 i2) (f0_g172 i0 i1 i2)) (f0_g172 i0 i1 i2) (f0_g64 i0 i1 i2) = 0 := by
  have h : 0 ≤ ((a2_out0 (f0_g180 i0 i1 i2) (f0_g172 i0 i1 i2)) 0).toInt ∧ ((a2_out0 (f0_g180 i0 i1 i2) (f0_g172 i0 i1 i2)) 0).toInt < (f0_g64 i0 i1 i2 0).toInt := (own_adv 2 (by decide) (f0_g172 i0 i1 i2) (f0_g64 i0 i1 i2) (fun k hk => own_gk2 i0 i1 i2 k hk) (f0_g180 i0 i1 i2) (own_H2 i0 i1 i2)).2.1 0 (by decide)
  have e0 : (0 : Int32).toInt = 0 := by decide
  unfold F_k2_0 k2_0_34_s0
  rw [if_pos (own_gk2 i0 i1 i2 0 (by decide)), if_neg (by rw [Int32.lt_iff_toInt_lt]; omega), if_pos (by rw [Int32.lt_iff_toInt_lt]; omega)]
  decide
theorem law_ok2_1 (i0 i1 i2 : Int32) : ¬ F_k2_1 (a2_out0 (f0_g180 i0 i1 i2) (f0_g172 i0 i1 i2)) (f0_g172 i0 i1 i2) (f0_g64 i0 i1 i2) = 0 := by
  have h : 0 ≤ ((a2_out0 (f0_g180 i0 i1 i2) (f0_g172 i0 i1 i2)) 1).toInt ∧ ((a2_out0 (f0_g180 i0 i1 i2) (f0_g172 i0 i1 i2)) 1).toInt < (f0_g64 i0 i1 i2 1).toInt := (own_adv 2 (by decide) (f0_g172 i0 i1 i2) (f0_g64 i0 i1 i2) (fun k hk => own_gk2 i0 i1 i2 k hk) (f0_g180 i0 i1 i2) (own_H2 i0 i1 i2)).2.1 1 (by decide)
  have e0 : (0 : Int32).toInt = 0 := by decide
  unfold F_k2_1 k2_1_34_s0
  rw [if_pos (own_gk2 i0 i1 i2 1 (by decide)), if_neg (by rw [Int32.lt_iff_toInt_lt]; omega), if_pos (by rw [Int32.lt_iff_toInt_lt]; omega)]
  decide
theorem law_ok2_2 (i0 i1 i2 : Int32) : ¬ F_k2_2 (a2_out0 (f0_g180 i0 i1 i2) (f0_g172 i0 i1 i2)) (f0_g172 i0 i1 i2) (f0_g64 i0 i1 i2) = 0 := by
  show ¬ (1 : Int32) = 0
  decide
theorem law_ok2_3 (i0 i1 i2 : Int32) : ¬ F_k2_3 (a2_out0 (f0_g180 i0 i1 i2) (f0_g172 i0 i1 i2)) (f0_g172 i0 i1 i2) (f0_g64 i0 i1 i2) = 0 := by
  show ¬ (1 : Int32) = 0
  decide
theorem own_B2 (i0 i1 i2 : Int32) : ((F_v2 (f0_g180 i0 i1 i2) (f0_g64 i0 i1 i2) + (1 : Int32)) < F_p2 (f0_g64 i0 i1 i2) ∧ F_a2 (f0_g180 i0 i1 i2) (f0_g172 i0 i1 i2) = 1 ∧ F_v2 (a2_out0 (f0_g180 i0 i1 i2) (f0_g172 i0 i1 i2)) (f0_g64 i0 i1 i2) = F_v2 (f0_g180 i0 i1 i2) (f0_g64 i0 i1 i2) + 1) ∨ (¬ (F_v2 (f0_g180 i0 i1 i2) (f0_g64 i0 i1 i2) + (1 : Int32)) < F_p2 (f0_g64 i0 i1 i2) ∧ F_a2 (f0_g180 i0 i1 i2) (f0_g172 i0 i1 i2) = 0 ∧ F_v2 (a2_out0 (f0_g180 i0 i1 i2) (f0_g172 i0 i1 i2)) (f0_g64 i0 i1 i2) = 0) := by
  have hi := own_inv 2 (by decide) (f0_g180 i0 i1 i2) (f0_g64 i0 i1 i2) (own_H2 i0 i1 i2)
  have hcap : cap 2 ≤ 65536 := by decide
  have hv : vv 2 (f0_g180 i0 i1 i2) (f0_g64 i0 i1 i2) = F_v2 (f0_g180 i0 i1 i2) (f0_g64 i0 i1 i2) := rfl
  have ht : tt 2 (f0_g64 i0 i1 i2) = F_p2 (f0_g64 i0 i1 i2) := rfl
  have A := (own_adv 2 (by decide) (f0_g172 i0 i1 i2) (f0_g64 i0 i1 i2) (fun k hk => own_gk2 i0 i1 i2 k hk) (f0_g180 i0 i1 i2) (own_H2 i0 i1 i2)).1
  have hr : aaR 2 (f0_g180 i0 i1 i2) (f0_g172 i0 i1 i2) = F_a2 (f0_g180 i0 i1 i2) (f0_g172 i0 i1 i2) := rfl
  have hg : aaG 2 (f0_g180 i0 i1 i2) (f0_g172 i0 i1 i2) = (a2_out0 (f0_g180 i0 i1 i2) (f0_g172 i0 i1 i2)) := rfl
  have hw : vv 2 (a2_out0 (f0_g180 i0 i1 i2) (f0_g172 i0 i1 i2)) (f0_g64 i0 i1 i2) = F_v2 (a2_out0 (f0_g180 i0 i1 i2) (f0_g172 i0 i1 i2)) (f0_g64 i0 i1 i2) := rfl
  rw [hr, hg, hw, hv, ht] at A
  rw [hv, ht] at hi
  have e1 : (1 : Int32).toInt = 1 := by decide
  have a := c_iadd (F_v2 (f0_g180 i0 i1 i2) (f0_g64 i0 i1 i2)) 1
  have r := rng32 (F_v2 (f0_g180 i0 i1 i2) (f0_g64 i0 i1 i2) + 1)
  have p : (F_v2 (f0_g180 i0 i1 i2) (f0_g64 i0 i1 i2) + 1).toInt = (F_v2 (f0_g180 i0 i1 i2) (f0_g64 i0 i1 i2)).toInt + 1 := by omega
  rw [Int32.lt_iff_toInt_lt, p]
  rcases A with ⟨k1, k2, k3⟩ | ⟨k1, k2, k3⟩
  · exact Or.inl ⟨k2, k1, Int32.toInt_inj.mp (by omega)⟩
  · exact Or.inr ⟨by omega, k1, Int32.toInt_inj.mp (k3.trans (by decide))⟩
theorem law_f0_329_s0b (i0 i1 i2 : Int32) (h : (F_v2 (f0_g180 i0 i1 i2) (f0_g64 i0 i1 i2) + (1 : Int32)) < F_p2 (f0_g64 i0 i1 i2)) : nar .boolean (f0_329_s0b i0 i1 i2) = 1 := by
  rcases own_B2 i0 i1 i2 with ⟨k1, k2, k3⟩ | ⟨k1, k2, k3⟩
  · unfold f0_329_s0b f0_v316a
    rw [k2, k3, if_neg (by decide), if_pos rfl]; rfl
  · exact absurd h k1
theorem law_f0_349_s0b (i0 i1 i2 : Int32) (h : ¬ (F_v2 (f0_g180 i0 i1 i2) (f0_g64 i0 i1 i2) + (1 : Int32)) < F_p2 (f0_g64 i0 i1 i2)) : nar .boolean (f0_349_s0b i0 i1 i2) = 1 := by
  rcases own_B2 i0 i1 i2 with ⟨k1, k2, k3⟩ | ⟨k1, k2, k3⟩
  · exact absurd k1 h
  · unfold f0_349_s0b f0_v316a
    rw [k2, k3, if_pos rfl]; rfl
theorem own_gp3 (i0 i1 i2 : Int32) (k : Nat) (hk : k < 3) : (f0_g201 i0 i1 i2) k = f0_g129 i0 i1 i2 k := by
  rcases (by omega : k = 0 ∨ k = 1 ∨ k = 2) with rfl | rfl | rfl
  · unfold f0_g201 f0_g180 f0_g159 upv; rw [if_neg (by decide), if_neg (by decide), if_pos rfl]
  · unfold f0_g201 f0_g180 upv; rw [if_neg (by decide), if_pos rfl]
  · unfold f0_g201 upv; rw [if_pos rfl]
theorem own_gk3 (i0 i1 i2 : Int32) (k : Nat) (hk : k < 3) : (f0_g193 i0 i1 i2) k = f0_g64 i0 i1 i2 k := by
  rcases (by omega : k = 0 ∨ k = 1 ∨ k = 2) with rfl | rfl | rfl
  · unfold f0_g193 f0_g172 f0_g151 upv; rw [if_neg (by decide), if_neg (by decide), if_pos rfl]
  · unfold f0_g193 f0_g172 upv; rw [if_neg (by decide), if_pos rfl]
  · unfold f0_g193 upv; rw [if_pos rfl]
theorem own_H3 (i0 i1 i2 : Int32) : ∀ k, k < 3 → (1 ≤ (f0_g64 i0 i1 i2 k).toInt ∧ (f0_g64 i0 i1 i2 k).toInt ≤ 16) ∧ 0 ≤ ((f0_g201 i0 i1 i2) k).toInt ∧ ((f0_g201 i0 i1 i2) k).toInt < (f0_g64 i0 i1 i2 k).toInt := fun k hk => by
  rw [own_gp3 i0 i1 i2 k hk]
  rcases (by omega : k = 0 ∨ k = 1 ∨ k = 2) with rfl | rfl | rfl
  · exact ⟨own_c0 i0 i1 i2, own_p0 i0 i1 i2⟩
  · exact ⟨own_c1 i0 i1 i2, own_p1 i0 i1 i2⟩
  · exact ⟨own_c2 i0 i1 i2, own_p2 i0 i1 i2⟩
theorem law_ok3_0 (i0 i1 i2 : Int32) : ¬ F_k3_0 (a3_out0 (f0_g201 i0 i1 i2) (f0_g193 i0 i1 i2)) (f0_g193 i0 i1 i2) (f0_g64 i0 i1 i2) = 0 := by
  have h : 0 ≤ ((a3_out0 (f0_g201 i0 i1 i2) (f0_g193 i0 i1 i2)) 0).toInt ∧ ((a3_out0 (f0_g201 i0 i1 i2) (f0_g193 i0 i1 i2)) 0).toInt < (f0_g64 i0 i1 i2 0).toInt := (own_adv 3 (by decide) (f0_g193 i0 i1 i2) (f0_g64 i0 i1 i2) (fun k hk => own_gk3 i0 i1 i2 k hk) (f0_g201 i0 i1 i2) (own_H3 i0 i1 i2)).2.1 0 (by decide)
  have e0 : (0 : Int32).toInt = 0 := by decide
  unfold F_k3_0 k3_0_34_s0
  rw [if_pos (own_gk3 i0 i1 i2 0 (by decide)), if_neg (by rw [Int32.lt_iff_toInt_lt]; omega), if_pos (by rw [Int32.lt_iff_toInt_lt]; omega)]
  decide
theorem law_ok3_1 (i0 i1 i2 : Int32) : ¬ F_k3_1 (a3_out0 (f0_g201 i0 i1 i2) (f0_g193 i0 i1 i2)) (f0_g193 i0 i1 i2) (f0_g64 i0 i1 i2) = 0 := by
  have h : 0 ≤ ((a3_out0 (f0_g201 i0 i1 i2) (f0_g193 i0 i1 i2)) 1).toInt ∧ ((a3_out0 (f0_g201 i0 i1 i2) (f0_g193 i0 i1 i2)) 1).toInt < (f0_g64 i0 i1 i2 1).toInt := (own_adv 3 (by decide) (f0_g193 i0 i1 i2) (f0_g64 i0 i1 i2) (fun k hk => own_gk3 i0 i1 i2 k hk) (f0_g201 i0 i1 i2) (own_H3 i0 i1 i2)).2.1 1 (by decide)
  have e0 : (0 : Int32).toInt = 0 := by decide
  unfold F_k3_1 k3_1_34_s0
  rw [if_pos (own_gk3 i0 i1 i2 1 (by decide)), if_neg (by rw [Int32.lt_iff_toInt_lt]; omega), if_pos (by rw [Int32.lt_iff_toInt_lt]; omega)]
  decide
theorem law_ok3_2 (i0 i1 i2 : Int32) : ¬ F_k3_2 (a3_out0 (f0_g201 i0 i1 i2) (f0_g193 i0 i1 i2)) (f0_g193 i0 i1 i2) (f0_g64 i0 i1 i2) = 0 := by
  have h : 0 ≤ ((a3_out0 (f0_g201 i0 i1 i2) (f0_g193 i0 i1 i2)) 2).toInt ∧ ((a3_out0 (f0_g201 i0 i1 i2) (f0_g193 i0 i1 i2)) 2).toInt < (f0_g64 i0 i1 i2 2).toInt := (own_adv 3 (by decide) (f0_g193 i0 i1 i2) (f0_g64 i0 i1 i2) (fun k hk => own_gk3 i0 i1 i2 k hk) (f0_g201 i0 i1 i2) (own_H3 i0 i1 i2)).2.1 2 (by decide)
  have e0 : (0 : Int32).toInt = 0 := by decide
  unfold F_k3_2 k3_2_34_s0
  rw [if_pos (own_gk3 i0 i1 i2 2 (by decide)), if_neg (by rw [Int32.lt_iff_toInt_lt]; omega), if_pos (by rw [Int32.lt_iff_toInt_lt]; omega)]
  decide
theorem law_ok3_3 (i0 i1 i2 : Int32) : ¬ F_k3_3 (a3_out0 (f0_g201 i0 i1 i2) (f0_g193 i0 i1 i2)) (f0_g193 i0 i1 i2) (f0_g64 i0 i1 i2) = 0 := by
  show ¬ (1 : Int32) = 0
  decide
theorem own_B3 (i0 i1 i2 : Int32) : ((F_v3 (f0_g201 i0 i1 i2) (f0_g64 i0 i1 i2) + (1 : Int32)) < F_p3 (f0_g64 i0 i1 i2) ∧ F_a3 (f0_g201 i0 i1 i2) (f0_g193 i0 i1 i2) = 1 ∧ F_v3 (a3_out0 (f0_g201 i0 i1 i2) (f0_g193 i0 i1 i2)) (f0_g64 i0 i1 i2) = F_v3 (f0_g201 i0 i1 i2) (f0_g64 i0 i1 i2) + 1) ∨ (¬ (F_v3 (f0_g201 i0 i1 i2) (f0_g64 i0 i1 i2) + (1 : Int32)) < F_p3 (f0_g64 i0 i1 i2) ∧ F_a3 (f0_g201 i0 i1 i2) (f0_g193 i0 i1 i2) = 0 ∧ F_v3 (a3_out0 (f0_g201 i0 i1 i2) (f0_g193 i0 i1 i2)) (f0_g64 i0 i1 i2) = 0) := by
  have hi := own_inv 3 (by decide) (f0_g201 i0 i1 i2) (f0_g64 i0 i1 i2) (own_H3 i0 i1 i2)
  have hcap : cap 3 ≤ 65536 := by decide
  have hv : vv 3 (f0_g201 i0 i1 i2) (f0_g64 i0 i1 i2) = F_v3 (f0_g201 i0 i1 i2) (f0_g64 i0 i1 i2) := rfl
  have ht : tt 3 (f0_g64 i0 i1 i2) = F_p3 (f0_g64 i0 i1 i2) := rfl
  have A := (own_adv 3 (by decide) (f0_g193 i0 i1 i2) (f0_g64 i0 i1 i2) (fun k hk => own_gk3 i0 i1 i2 k hk) (f0_g201 i0 i1 i2) (own_H3 i0 i1 i2)).1
  have hr : aaR 3 (f0_g201 i0 i1 i2) (f0_g193 i0 i1 i2) = F_a3 (f0_g201 i0 i1 i2) (f0_g193 i0 i1 i2) := rfl
  have hg : aaG 3 (f0_g201 i0 i1 i2) (f0_g193 i0 i1 i2) = (a3_out0 (f0_g201 i0 i1 i2) (f0_g193 i0 i1 i2)) := rfl
  have hw : vv 3 (a3_out0 (f0_g201 i0 i1 i2) (f0_g193 i0 i1 i2)) (f0_g64 i0 i1 i2) = F_v3 (a3_out0 (f0_g201 i0 i1 i2) (f0_g193 i0 i1 i2)) (f0_g64 i0 i1 i2) := rfl
  rw [hr, hg, hw, hv, ht] at A
  rw [hv, ht] at hi
  have e1 : (1 : Int32).toInt = 1 := by decide
  have a := c_iadd (F_v3 (f0_g201 i0 i1 i2) (f0_g64 i0 i1 i2)) 1
  have r := rng32 (F_v3 (f0_g201 i0 i1 i2) (f0_g64 i0 i1 i2) + 1)
  have p : (F_v3 (f0_g201 i0 i1 i2) (f0_g64 i0 i1 i2) + 1).toInt = (F_v3 (f0_g201 i0 i1 i2) (f0_g64 i0 i1 i2)).toInt + 1 := by omega
  rw [Int32.lt_iff_toInt_lt, p]
  rcases A with ⟨k1, k2, k3⟩ | ⟨k1, k2, k3⟩
  · exact Or.inl ⟨k2, k1, Int32.toInt_inj.mp (by omega)⟩
  · exact Or.inr ⟨by omega, k1, Int32.toInt_inj.mp (k3.trans (by decide))⟩
theorem law_f0_329_s0c (i0 i1 i2 : Int32) (h : (F_v3 (f0_g201 i0 i1 i2) (f0_g64 i0 i1 i2) + (1 : Int32)) < F_p3 (f0_g64 i0 i1 i2)) : nar .boolean (f0_329_s0c i0 i1 i2) = 1 := by
  rcases own_B3 i0 i1 i2 with ⟨k1, k2, k3⟩ | ⟨k1, k2, k3⟩
  · unfold f0_329_s0c f0_v316b
    rw [k2, k3, if_neg (by decide), if_pos rfl]; rfl
  · exact absurd h k1
theorem law_f0_349_s0c (i0 i1 i2 : Int32) (h : ¬ (F_v3 (f0_g201 i0 i1 i2) (f0_g64 i0 i1 i2) + (1 : Int32)) < F_p3 (f0_g64 i0 i1 i2)) : nar .boolean (f0_349_s0c i0 i1 i2) = 1 := by
  rcases own_B3 i0 i1 i2 with ⟨k1, k2, k3⟩ | ⟨k1, k2, k3⟩
  · exact absurd k1 h
  · unfold f0_349_s0c f0_v316b
    rw [k2, k3, if_pos rfl]; rfl
theorem own_gp4 (i0 i1 i2 : Int32) (k : Nat) (hk : k < 4) : (f0_g222 i0 i1 i2) k = f0_g129 i0 i1 i2 k := by
  rcases (by omega : k = 0 ∨ k = 1 ∨ k = 2 ∨ k = 3) with rfl | rfl | rfl | rfl
  · unfold f0_g222 f0_g201 f0_g180 f0_g159 upv; rw [if_neg (by decide), if_neg (by decide), if_neg (by decide), if_pos rfl]
  · unfold f0_g222 f0_g201 f0_g180 upv; rw [if_neg (by decide), if_neg (by decide), if_pos rfl]
  · unfold f0_g222 f0_g201 upv; rw [if_neg (by decide), if_pos rfl]
  · unfold f0_g222 upv; rw [if_pos rfl]
theorem own_gk4 (i0 i1 i2 : Int32) (k : Nat) (hk : k < 4) : (f0_g214 i0 i1 i2) k = f0_g64 i0 i1 i2 k := by
  rcases (by omega : k = 0 ∨ k = 1 ∨ k = 2 ∨ k = 3) with rfl | rfl | rfl | rfl
  · unfold f0_g214 f0_g193 f0_g172 f0_g151 upv; rw [if_neg (by decide), if_neg (by decide), if_neg (by decide), if_pos rfl]
  · unfold f0_g214 f0_g193 f0_g172 upv; rw [if_neg (by decide), if_neg (by decide), if_pos rfl]
  · unfold f0_g214 f0_g193 upv; rw [if_neg (by decide), if_pos rfl]
  · unfold f0_g214 upv; rw [if_pos rfl]
theorem own_H4 (i0 i1 i2 : Int32) : ∀ k, k < 4 → (1 ≤ (f0_g64 i0 i1 i2 k).toInt ∧ (f0_g64 i0 i1 i2 k).toInt ≤ 16) ∧ 0 ≤ ((f0_g222 i0 i1 i2) k).toInt ∧ ((f0_g222 i0 i1 i2) k).toInt < (f0_g64 i0 i1 i2 k).toInt := fun k hk => by
  rw [own_gp4 i0 i1 i2 k hk]
  rcases (by omega : k = 0 ∨ k = 1 ∨ k = 2 ∨ k = 3) with rfl | rfl | rfl | rfl
  · exact ⟨own_c0 i0 i1 i2, own_p0 i0 i1 i2⟩
  · exact ⟨own_c1 i0 i1 i2, own_p1 i0 i1 i2⟩
  · exact ⟨own_c2 i0 i1 i2, own_p2 i0 i1 i2⟩
  · exact ⟨own_c3 i0 i1 i2, own_p3 i0 i1 i2⟩
theorem law_ok4_0 (i0 i1 i2 : Int32) : ¬ F_k4_0 (a4_out0 (f0_g222 i0 i1 i2) (f0_g214 i0 i1 i2)) (f0_g214 i0 i1 i2) (f0_g64 i0 i1 i2) = 0 := by
  have h : 0 ≤ ((a4_out0 (f0_g222 i0 i1 i2) (f0_g214 i0 i1 i2)) 0).toInt ∧ ((a4_out0 (f0_g222 i0 i1 i2) (f0_g214 i0 i1 i2)) 0).toInt < (f0_g64 i0 i1 i2 0).toInt := (own_adv 4 (by decide) (f0_g214 i0 i1 i2) (f0_g64 i0 i1 i2) (fun k hk => own_gk4 i0 i1 i2 k hk) (f0_g222 i0 i1 i2) (own_H4 i0 i1 i2)).2.1 0 (by decide)
  have e0 : (0 : Int32).toInt = 0 := by decide
  unfold F_k4_0 k4_0_34_s0
  rw [if_pos (own_gk4 i0 i1 i2 0 (by decide)), if_neg (by rw [Int32.lt_iff_toInt_lt]; omega), if_pos (by rw [Int32.lt_iff_toInt_lt]; omega)]
  decide
theorem law_ok4_1 (i0 i1 i2 : Int32) : ¬ F_k4_1 (a4_out0 (f0_g222 i0 i1 i2) (f0_g214 i0 i1 i2)) (f0_g214 i0 i1 i2) (f0_g64 i0 i1 i2) = 0 := by
  have h : 0 ≤ ((a4_out0 (f0_g222 i0 i1 i2) (f0_g214 i0 i1 i2)) 1).toInt ∧ ((a4_out0 (f0_g222 i0 i1 i2) (f0_g214 i0 i1 i2)) 1).toInt < (f0_g64 i0 i1 i2 1).toInt := (own_adv 4 (by decide) (f0_g214 i0 i1 i2) (f0_g64 i0 i1 i2) (fun k hk => own_gk4 i0 i1 i2 k hk) (f0_g222 i0 i1 i2) (own_H4 i0 i1 i2)).2.1 1 (by decide)
  have e0 : (0 : Int32).toInt = 0 := by decide
  unfold F_k4_1 k4_1_34_s0
  rw [if_pos (own_gk4 i0 i1 i2 1 (by decide)), if_neg (by rw [Int32.lt_iff_toInt_lt]; omega), if_pos (by rw [Int32.lt_iff_toInt_lt]; omega)]
  decide
theorem law_ok4_2 (i0 i1 i2 : Int32) : ¬ F_k4_2 (a4_out0 (f0_g222 i0 i1 i2) (f0_g214 i0 i1 i2)) (f0_g214 i0 i1 i2) (f0_g64 i0 i1 i2) = 0 := by
  have h : 0 ≤ ((a4_out0 (f0_g222 i0 i1 i2) (f0_g214 i0 i1 i2)) 2).toInt ∧ ((a4_out0 (f0_g222 i0 i1 i2) (f0_g214 i0 i1 i2)) 2).toInt < (f0_g64 i0 i1 i2 2).toInt := (own_adv 4 (by decide) (f0_g214 i0 i1 i2) (f0_g64 i0 i1 i2) (fun k hk => own_gk4 i0 i1 i2 k hk) (f0_g222 i0 i1 i2) (own_H4 i0 i1 i2)).2.1 2 (by decide)
  have e0 : (0 : Int32).toInt = 0 := by decide
  unfold F_k4_2 k4_2_34_s0
  rw [if_pos (own_gk4 i0 i1 i2 2 (by decide)), if_neg (by rw [Int32.lt_iff_toInt_lt]; omega), if_pos (by rw [Int32.lt_iff_toInt_lt]; omega)]
  decide
theorem law_ok4_3 (i0 i1 i2 : Int32) : ¬ F_k4_3 (a4_out0 (f0_g222 i0 i1 i2) (f0_g214 i0 i1 i2)) (f0_g214 i0 i1 i2) (f0_g64 i0 i1 i2) = 0 := by
  have h : 0 ≤ ((a4_out0 (f0_g222 i0 i1 i2) (f0_g214 i0 i1 i2)) 3).toInt ∧ ((a4_out0 (f0_g222 i0 i1 i2) (f0_g214 i0 i1 i2)) 3).toInt < (f0_g64 i0 i1 i2 3).toInt := (own_adv 4 (by decide) (f0_g214 i0 i1 i2) (f0_g64 i0 i1 i2) (fun k hk => own_gk4 i0 i1 i2 k hk) (f0_g222 i0 i1 i2) (own_H4 i0 i1 i2)).2.1 3 (by decide)
  have e0 : (0 : Int32).toInt = 0 := by decide
  unfold F_k4_3 k4_3_34_s0
  rw [if_pos (own_gk4 i0 i1 i2 3 (by decide)), if_neg (by rw [Int32.lt_iff_toInt_lt]; omega), if_pos (by rw [Int32.lt_iff_toInt_lt]; omega)]
  decide
theorem own_B4 (i0 i1 i2 : Int32) : ((F_v4 (f0_g222 i0 i1 i2) (f0_g64 i0 i1 i2) + (1 : Int32)) < F_p4 (f0_g64 i0 i1 i2) ∧ F_a4 (f0_g222 i0 i1 i2) (f0_g214 i0 i1 i2) = 1 ∧ F_v4 (a4_out0 (f0_g222 i0 i1 i2) (f0_g214 i0 i1 i2)) (f0_g64 i0 i1 i2) = F_v4 (f0_g222 i0 i1 i2) (f0_g64 i0 i1 i2) + 1) ∨ (¬ (F_v4 (f0_g222 i0 i1 i2) (f0_g64 i0 i1 i2) + (1 : Int32)) < F_p4 (f0_g64 i0 i1 i2) ∧ F_a4 (f0_g222 i0 i1 i2) (f0_g214 i0 i1 i2) = 0 ∧ F_v4 (a4_out0 (f0_g222 i0 i1 i2) (f0_g214 i0 i1 i2)) (f0_g64 i0 i1 i2) = 0) := by
  have hi := own_inv 4 (by decide) (f0_g222 i0 i1 i2) (f0_g64 i0 i1 i2) (own_H4 i0 i1 i2)
  have hcap : cap 4 ≤ 65536 := by decide
  have hv : vv 4 (f0_g222 i0 i1 i2) (f0_g64 i0 i1 i2) = F_v4 (f0_g222 i0 i1 i2) (f0_g64 i0 i1 i2) := rfl
  have ht : tt 4 (f0_g64 i0 i1 i2) = F_p4 (f0_g64 i0 i1 i2) := rfl
  have A := (own_adv 4 (by decide) (f0_g214 i0 i1 i2) (f0_g64 i0 i1 i2) (fun k hk => own_gk4 i0 i1 i2 k hk) (f0_g222 i0 i1 i2) (own_H4 i0 i1 i2)).1
  have hr : aaR 4 (f0_g222 i0 i1 i2) (f0_g214 i0 i1 i2) = F_a4 (f0_g222 i0 i1 i2) (f0_g214 i0 i1 i2) := rfl
  have hg : aaG 4 (f0_g222 i0 i1 i2) (f0_g214 i0 i1 i2) = (a4_out0 (f0_g222 i0 i1 i2) (f0_g214 i0 i1 i2)) := rfl
  have hw : vv 4 (a4_out0 (f0_g222 i0 i1 i2) (f0_g214 i0 i1 i2)) (f0_g64 i0 i1 i2) = F_v4 (a4_out0 (f0_g222 i0 i1 i2) (f0_g214 i0 i1 i2)) (f0_g64 i0 i1 i2) := rfl
  rw [hr, hg, hw, hv, ht] at A
  rw [hv, ht] at hi
  have e1 : (1 : Int32).toInt = 1 := by decide
  have a := c_iadd (F_v4 (f0_g222 i0 i1 i2) (f0_g64 i0 i1 i2)) 1
  have r := rng32 (F_v4 (f0_g222 i0 i1 i2) (f0_g64 i0 i1 i2) + 1)
  have p : (F_v4 (f0_g222 i0 i1 i2) (f0_g64 i0 i1 i2) + 1).toInt = (F_v4 (f0_g222 i0 i1 i2) (f0_g64 i0 i1 i2)).toInt + 1 := by omega
  rw [Int32.lt_iff_toInt_lt, p]
  rcases A with ⟨k1, k2, k3⟩ | ⟨k1, k2, k3⟩
  · exact Or.inl ⟨k2, k1, Int32.toInt_inj.mp (by omega)⟩
  · exact Or.inr ⟨by omega, k1, Int32.toInt_inj.mp (k3.trans (by decide))⟩
theorem law_f0_329_s0d (i0 i1 i2 : Int32) (h : (F_v4 (f0_g222 i0 i1 i2) (f0_g64 i0 i1 i2) + (1 : Int32)) < F_p4 (f0_g64 i0 i1 i2)) : nar .boolean (f0_329_s0d i0 i1 i2) = 1 := by
  rcases own_B4 i0 i1 i2 with ⟨k1, k2, k3⟩ | ⟨k1, k2, k3⟩
  · unfold f0_329_s0d f0_v316c
    rw [k2, k3, if_neg (by decide), if_pos rfl]; rfl
  · exact absurd h k1
theorem law_f0_349_s0d (i0 i1 i2 : Int32) (h : ¬ (F_v4 (f0_g222 i0 i1 i2) (f0_g64 i0 i1 i2) + (1 : Int32)) < F_p4 (f0_g64 i0 i1 i2)) : nar .boolean (f0_349_s0d i0 i1 i2) = 1 := by
  rcases own_B4 i0 i1 i2 with ⟨k1, k2, k3⟩ | ⟨k1, k2, k3⟩
  · exact absurd k1 h
  · unfold f0_349_s0d f0_v316c
    rw [k2, k3, if_pos rfl]; rfl
theorem ef_0 (m : MethodId) (x0 : Int32) (x1 : Int32) (x2 : Int32) : entryFrame m #[(.int x0), (.int x1), (.int x2)] maxLocals = mkF m 0 #[.val (.int x0), .val (.int x1), .val (.int x2), .unset, .unset, .unset, .unset, .unset, .unset, .unset, .unset, .unset] [] := by first | (simp [entryFrame, mkF, argsToLocals, Value.category, maxLocals]; done) | rfl
theorem pd_0 : parseMethodDescriptor "([II)I" = some ⟨[(.array .int), .int], some .int⟩ := by decide +kernel
theorem pd_1 : parseMethodDescriptor "([I[II)I" = some ⟨[(.array .int), (.array .int), .int], some .int⟩ := by decide +kernel
theorem pd_2 : parseMethodDescriptor "([I[I)Z" = some ⟨[(.array .int), (.array .int)], some .boolean⟩ := by decide +kernel
theorem pd_3 : parseMethodDescriptor "([I[I[III)Z" = some ⟨[(.array .int), (.array .int), (.array .int), .int, .int], some .boolean⟩ := by decide +kernel
set_option maxRecDepth 65536 in
set_option maxHeartbeats 40000000 in
theorem rm0 (l : Launch) (Z : State) (a0 : Array Value) (hw : ∀ d ∈ tables_1, d.before a0 Z = true) (ws : List Jvm.Cond) (i0 : Int32) (i1 : Int32) (i2 : Int32)  (h0 : Heap) (n0 : Nat) (Z0 : n0 ≤ h0.size) :
    MetFree l x (head1 (Jvm.Cond.code x code maxLocals ret :: ws) room_1) (fun a U => a = #[(.int i0), (.int i1), (.int i2)] ∧ Z.Warmed39 U.vm ∧ U.heap = h0) (fun _ _ _ _ _ => True) (fun _ U o U' => ∃ v L, o = .returned v ∧ QL n0 v U'.heap L ∧ FrameEnd U o U' L room_1.cells room_1.slots) := by
  refine MetFree.of_bodySF (plainFor_of_name pn_0) hisR ?_
  intro p e s m args below meth c s₁ Bd hml0 hP hK
  obtain ⟨rfl, hZ, hh⟩ := hP
  have hx := Bd.exec
  have hby := Bd.bytes
  have hml : c.maxLocals = 12 := hml0
  have hown : s.vm.findClass "com/example/ratatoskr/ratatoskr/ChoicesAdvancePinLaw" = some m.cls := findClass_of_methodNamed Bd.named
  have hnm := (name_of_methodNamed Bd.named Bd.method).1
  have hret := Bd.returns
  have hlk : meth.locks = false := BodyLoose.notSynchronized Bd
  have X0 : Stand p l e room_1 s m #[(.int i0), (.int i1), (.int i2)] below meth c s₁ [] 0 0 := Stand.of_body Bd
  have e0 : s₁.heap = h0 := by rw [← hh, Bd.state]; rfl
  have N0 := Fr.nil n0
  show Outs p e below s (QL n0) _ _ _
  refine Outs.of (U' := s₁.setTop (mkF m 0 #[.val (.int i0), .val (.int i1), .val (.int i2), .unset, .unset, .unset, .unset, .unset, .unset, .unset, .unset, .unset] [])) (fun t k => castTop (ef_0 m i0 i1 i2) k) ?_
  refine Outs.of (U' := s₁.setTop (mkF m 8 #[.val (.int i0), .val (.int i1), .val (.int i2), .val (.int ((i0 &&& (2147483647 : Int32)) % (5 : Int32))), .unset, .unset, .unset, .unset, .unset, .unset, .unset, .unset] [(.int (4 : Int32))])) (fun t k => ?_) ?_
  · refine XS.iloadN X0.here hx rfl (hb hby at_0) rfl ?_
    refine X0.ldcInt hx hown (mvT hZ (hw _ (List.mem_of_getElem? (i := 0) rfl))) (g := (mkF m 1 #[.val (.int i0), .val (.int i1), .val (.int i2), .unset, .unset, .unset, .unset, .unset, .unset, .unset, .unset, .unset] [(.int i0)])) rfl (hb hby at_1) _ ?_
    refine XS.iand X0.here hx rfl (hb hby at_3) rfl ?_
    refine XS.iconst X0.here hx rfl (hb hby at_4) ?_
    refine iremM X0 hx rfl (hb hby at_5) rfl (by decide) ?_
    refine XS.istoreN X0.here hx rfl (hb hby at_6) rfl (l' := #[.val (.int i0), .val (.int i1), .val (.int i2), .val (.int ((i0 &&& (2147483647 : Int32)) % (5 : Int32))), .unset, .unset, .unset, .unset, .unset, .unset, .unset, .unset]) rfl ?_
    refine XS.iconst X0.here hx rfl (hb hby at_7) ?_
    exact k
  obtain ⟨T1, h1, X1, e1, E1, A1, st1⟩ := newAF X0 hx hZ (aty := .int) (hw _ (List.mem_of_getElem? (i := 1) rfl)) e0 (f := (mkF m 8 #[.val (.int i0), .val (.int i1), .val (.int i2), .val (.int ((i0 &&& (2147483647 : Int32)) % (5 : Int32))), .unset, .unset, .unset, .unset, .unset, .unset, .unset, .unset] [(.int (4 : Int32))])) rfl (hb hby at_8) rfl (k := 4) rfl (cap := 4) (by decide) (by decide) (by decide) (by decide)
  obtain ⟨b1, g1⟩ : ∃ z, z = h0.size := ⟨_, rfl⟩
  rw [← g1] at A1 st1
  have g_b1 : n0 ≤ b1 := Nat.le_trans Z0 (Nat.le_of_eq g1.symm)
  have V1 : AI Z h1 b1 .int 4 (fun _ => (0 : Int32)) := A1
  refine Outs.of st1 ?_
  show Outs p e below s _ _ _ (T1.setTop (mkF m 10 #[.val (.int i0), .val (.int i1), .val (.int i2), .val (.int ((i0 &&& (2147483647 : Int32)) % (5 : Int32))), .unset, .unset, .unset, .unset, .unset, .unset, .unset, .unset] [(.ref b1)]))
  refine Outs.of (U' := T1.setTop (mkF m 13 #[.val (.int i0), .val (.int i1), .val (.int i2), .val (.int ((i0 &&& (2147483647 : Int32)) % (5 : Int32))), .val (.ref b1), .unset, .unset, .unset, .unset, .unset, .unset, .unset] [(.int (4 : Int32))])) (fun t k => ?_) ?_
  · refine XS.astore X1.here hx rfl (hb hby at_10) rfl rfl (l' := #[.val (.int i0), .val (.int i1), .val (.int i2), .val (.int ((i0 &&& (2147483647 : Int32)) % (5 : Int32))), .val (.ref b1), .unset, .unset, .unset, .unset, .unset, .unset, .unset]) rfl ?_
    refine XS.iconst X1.here hx rfl (hb hby at_12) ?_
    exact k
  obtain ⟨T2, h2, X2, e2, E2, A2, st2⟩ := newAF X1 hx hZ (aty := .int) (hw _ (List.mem_of_getElem? (i := 1) rfl)) e1 (f := (mkF m 13 #[.val (.int i0), .val (.int i1), .val (.int i2), .val (.int ((i0 &&& (2147483647 : Int32)) % (5 : Int32))), .val (.ref b1), .unset, .unset, .unset, .unset, .unset, .unset, .unset] [(.int (4 : Int32))])) rfl (hb hby at_13) rfl (k := 4) rfl (cap := 4) (by decide) (by decide) (by decide) (by decide)
  obtain ⟨b2, g2⟩ : ∃ z, z = h1.size := ⟨_, rfl⟩
  rw [← g2] at A2 st2
  have g_b2 : n0 ≤ b2 := Nat.le_trans (Nat.le_trans Z0 E1.1) (Nat.le_of_eq g2.symm)
  have ne_b1_b2 : b1 ≠ b2 := Nat.ne_of_lt (Nat.lt_of_lt_of_eq V1.lt g2.symm)
  have V2 : AI Z h2 b2 .int 4 (fun _ => (0 : Int32)) := A2
  refine Outs.of st2 ?_
  show Outs p e below s _ _ _ (T2.setTop (mkF m 15 #[.val (.int i0), .val (.int i1), .val (.int i2), .val (.int ((i0 &&& (2147483647 : Int32)) % (5 : Int32))), .val (.ref b1), .unset, .unset, .unset, .unset, .unset, .unset, .unset] [(.ref b2)]))
  refine Outs.of (U' := T2.setTop (mkF m 26 #[.val (.int i0), .val (.int i1), .val (.int i2), .val (.int ((i0 &&& (2147483647 : Int32)) % (5 : Int32))), .val (.ref b1), .val (.ref b2), .unset, .unset, .unset, .unset, .unset, .unset] [(.int ((i1 &&& (15 : Int32)) + (1 : Int32))), (.int (0 : Int32)), (.ref b1)])) (fun t k => ?_) ?_
  · refine XS.astore X2.here hx rfl (hb hby at_15) rfl rfl (l' := #[.val (.int i0), .val (.int i1), .val (.int i2), .val (.int ((i0 &&& (2147483647 : Int32)) % (5 : Int32))), .val (.ref b1), .val (.ref b2), .unset, .unset, .unset, .unset, .unset, .unset]) rfl ?_
    refine XS.aload X2.here hx rfl (hb hby at_17) rfl rfl ?_
    refine XS.iconst X2.here hx rfl (hb hby at_19) ?_
    refine XS.iloadN X2.here hx rfl (hb hby at_20) rfl ?_
    refine XS.bipush X2.here hx rfl (hb hby at_21) ?_
    refine XS.iand X2.here hx rfl (hb hby at_23) rfl ?_
    refine XS.iconst X2.here hx rfl (hb hby at_24) ?_
    refine XS.iadd X2.here hx rfl (hb hby at_25) rfl ?_
    exact k
  have f3 : AI Z h2 b1 .int 4 (fun _ => (0 : Int32)) := (V1.ext E2)
  obtain ⟨T4, h4, X4, e4, W4, V4, st4⟩ := puI X2 hx hZ e2 f3 (j := (0 : Int32)) (x := ((i1 &&& (15 : Int32)) + (1 : Int32))) (k := 0) rfl (by decide) (f := (mkF m 26 #[.val (.int i0), .val (.int i1), .val (.int i2), .val (.int ((i0 &&& (2147483647 : Int32)) % (5 : Int32))), .val (.ref b1), .val (.ref b2), .unset, .unset, .unset, .unset, .unset, .unset] [(.int ((i1 &&& (15 : Int32)) + (1 : Int32))), (.int (0 : Int32)), (.ref b1)])) rfl rfl (hb hby at_26)
  replace V4 : AI Z h4 b1 .int 4 (f0_g26 i0 i1 i2) := V4
  have N4 := Fr.snoc X4 N0 g_b1
  obtain ⟨Lh4, X4, N4⟩ := hide X4 N4 (C := 2) (S := 8) (by decide) (by decide)
  refine Outs.of st4 ?_
  show Outs p e below s _ _ _ (T4.setTop (mkF m 27 #[.val (.int i0), .val (.int i1), .val (.int i2), .val (.int ((i0 &&& (2147483647 : Int32)) % (5 : Int32))), .val (.ref b1), .val (.ref b2), .unset, .unset, .unset, .unset, .unset, .unset] []))
  refine Outs.of (U' := T4.setTop (mkF m 38 #[.val (.int i0), .val (.int i1), .val (.int i2), .val (.int ((i0 &&& (2147483647 : Int32)) % (5 : Int32))), .val (.ref b1), .val (.ref b2), .unset, .unset, .unset, .unset, .unset, .unset] [(.int ((((i1.toUInt32 >>> ((4 : Int32) &&& 31).toUInt32).toInt32) &&& (15 : Int32)) + (1 : Int32))), (.int (1 : Int32)), (.ref b1)])) (fun t k => ?_) ?_
  · refine XS.aload X4.here hx rfl (hb hby at_27) rfl rfl ?_
    refine XS.iconst X4.here hx rfl (hb hby at_29) ?_
    refine XS.iloadN X4.here hx rfl (hb hby at_30) rfl ?_
    refine XS.iconst X4.here hx rfl (hb hby at_31) ?_
    refine XS.iushr X4.here hx rfl (hb hby at_32) rfl ?_
    refine XS.bipush X4.here hx rfl (hb hby at_33) ?_
    refine XS.iand X4.here hx rfl (hb hby at_35) rfl ?_
    refine XS.iconst X4.here hx rfl (hb hby at_36) ?_
    refine XS.iadd X4.here hx rfl (hb hby at_37) rfl ?_
    exact k
  obtain ⟨T5, h5, X5, e5, W5, V5, st5⟩ := puI X4 hx hZ e4 V4 (j := (1 : Int32)) (x := ((((i1.toUInt32 >>> ((4 : Int32) &&& 31).toUInt32).toInt32) &&& (15 : Int32)) + (1 : Int32))) (k := 1) rfl (by decide) (f := (mkF m 38 #[.val (.int i0), .val (.int i1), .val (.int i2), .val (.int ((i0 &&& (2147483647 : Int32)) % (5 : Int32))), .val (.ref b1), .val (.ref b2), .unset, .unset, .unset, .unset, .unset, .unset] [(.int ((((i1.toUInt32 >>> ((4 : Int32) &&& 31).toUInt32).toInt32) &&& (15 : Int32)) + (1 : Int32))), (.int (1 : Int32)), (.ref b1)])) rfl rfl (hb hby at_38)
  replace V5 : AI Z h5 b1 .int 4 (f0_g38 i0 i1 i2) := V5
  have N5 := Fr.snoc X5 N4 g_b1
  obtain ⟨Lh5, X5, N5⟩ := hide X5 N5 (C := 2) (S := 8) (by decide) (by decide)
  refine Outs.of st5 ?_
  show Outs p e below s _ _ _ (T5.setTop (mkF m 39 #[.val (.int i0), .val (.int i1), .val (.int i2), .val (.int ((i0 &&& (2147483647 : Int32)) % (5 : Int32))), .val (.ref b1), .val (.ref b2), .unset, .unset, .unset, .unset, .unset, .unset] []))
  refine Outs.of (U' := T5.setTop (mkF m 51 #[.val (.int i0), .val (.int i1), .val (.int i2), .val (.int ((i0 &&& (2147483647 : Int32)) % (5 : Int32))), .val (.ref b1), .val (.ref b2), .unset, .unset, .unset, .unset, .unset, .unset] [(.int ((((i1.toUInt32 >>> ((8 : Int32) &&& 31).toUInt32).toInt32) &&& (15 : Int32)) + (1 : Int32))), (.int (2 : Int32)), (.ref b1)])) (fun t k => ?_) ?_
  · refine XS.aload X5.here hx rfl (hb hby at_39) rfl rfl ?_
    refine XS.iconst X5.here hx rfl (hb hby at_41) ?_
    refine XS.iloadN X5.here hx rfl (hb hby at_42) rfl ?_
    refine XS.bipush X5.here hx rfl (hb hby at_43) ?_
    refine XS.iushr X5.here hx rfl (hb hby at_45) rfl ?_
    refine XS.bipush X5.here hx rfl (hb hby at_46) ?_
    refine XS.iand X5.here hx rfl (hb hby at_48) rfl ?_
    refine XS.iconst X5.here hx rfl (hb hby at_49) ?_
    refine XS.iadd X5.here hx rfl (hb hby at_50) rfl ?_
    exact k
  obtain ⟨T6, h6, X6, e6, W6, V6, st6⟩ := puI X5 hx hZ e5 V5 (j := (2 : Int32)) (x := ((((i1.toUInt32 >>> ((8 : Int32) &&& 31).toUInt32).toInt32) &&& (15 : Int32)) + (1 : Int32))) (k := 2) rfl (by decide) (f := (mkF m 51 #[.val (.int i0), .val (.int i1), .val (.int i2), .val (.int ((i0 &&& (2147483647 : Int32)) % (5 : Int32))), .val (.ref b1), .val (.ref b2), .unset, .unset, .unset, .unset, .unset, .unset] [(.int ((((i1.toUInt32 >>> ((8 : Int32) &&& 31).toUInt32).toInt32) &&& (15 : Int32)) + (1 : Int32))), (.int (2 : Int32)), (.ref b1)])) rfl rfl (hb hby at_51)
  replace V6 : AI Z h6 b1 .int 4 (f0_g51 i0 i1 i2) := V6
  have N6 := Fr.snoc X6 N5 g_b1
  obtain ⟨Lh6, X6, N6⟩ := hide X6 N6 (C := 2) (S := 8) (by decide) (by decide)
  refine Outs.of st6 ?_
  show Outs p e below s _ _ _ (T6.setTop (mkF m 52 #[.val (.int i0), .val (.int i1), .val (.int i2), .val (.int ((i0 &&& (2147483647 : Int32)) % (5 : Int32))), .val (.ref b1), .val (.ref b2), .unset, .unset, .unset, .unset, .unset, .unset] []))
  refine Outs.of (U' := T6.setTop (mkF m 64 #[.val (.int i0), .val (.int i1), .val (.int i2), .val (.int ((i0 &&& (2147483647 : Int32)) % (5 : Int32))), .val (.ref b1), .val (.ref b2), .unset, .unset, .unset, .unset, .unset, .unset] [(.int ((((i1.toUInt32 >>> ((12 : Int32) &&& 31).toUInt32).toInt32) &&& (15 : Int32)) + (1 : Int32))), (.int (3 : Int32)), (.ref b1)])) (fun t k => ?_) ?_
  · refine XS.aload X6.here hx rfl (hb hby at_52) rfl rfl ?_
    refine XS.iconst X6.here hx rfl (hb hby at_54) ?_
    refine XS.iloadN X6.here hx rfl (hb hby at_55) rfl ?_
    refine XS.bipush X6.here hx rfl (hb hby at_56) ?_
    refine XS.iushr X6.here hx rfl (hb hby at_58) rfl ?_
    refine XS.bipush X6.here hx rfl (hb hby at_59) ?_
    refine XS.iand X6.here hx rfl (hb hby at_61) rfl ?_
    refine XS.iconst X6.here hx rfl (hb hby at_62) ?_
    refine XS.iadd X6.here hx rfl (hb hby at_63) rfl ?_
    exact k
  obtain ⟨T7, h7, X7, e7, W7, V7, st7⟩ := puI X6 hx hZ e6 V6 (j := (3 : Int32)) (x := ((((i1.toUInt32 >>> ((12 : Int32) &&& 31).toUInt32).toInt32) &&& (15 : Int32)) + (1 : Int32))) (k := 3) rfl (by decide) (f := (mkF m 64 #[.val (.int i0), .val (.int i1), .val (.int i2), .val (.int ((i0 &&& (2147483647 : Int32)) % (5 : Int32))), .val (.ref b1), .val (.ref b2), .unset, .unset, .unset, .unset, .unset, .unset] [(.int ((((i1.toUInt32 >>> ((12 : Int32) &&& 31).toUInt32).toInt32) &&& (15 : Int32)) + (1 : Int32))), (.int (3 : Int32)), (.ref b1)])) rfl rfl (hb hby at_64)
  replace V7 : AI Z h7 b1 .int 4 (f0_g64 i0 i1 i2) := V7
  have N7 := Fr.snoc X7 N6 g_b1
  obtain ⟨Lh7, X7, N7⟩ := hide X7 N7 (C := 2) (S := 8) (by decide) (by decide)
  refine Outs.of st7 ?_
  show Outs p e below s _ _ _ (T7.setTop (mkF m 65 #[.val (.int i0), .val (.int i1), .val (.int i2), .val (.int ((i0 &&& (2147483647 : Int32)) % (5 : Int32))), .val (.ref b1), .val (.ref b2), .unset, .unset, .unset, .unset, .unset, .unset] []))
  refine Outs.of (U' := T7.setTop (mkF m 76 #[.val (.int i0), .val (.int i1), .val (.int i2), .val (.int ((i0 &&& (2147483647 : Int32)) % (5 : Int32))), .val (.ref b1), .val (.ref b2), .unset, .unset, .unset, .unset, .unset, .unset] [(.int (0 : Int32)), (.ref b1), (.int (i2 &&& (255 : Int32))), (.int (0 : Int32)), (.ref b2)])) (fun t k => ?_) ?_
  · refine XS.aload X7.here hx rfl (hb hby at_65) rfl rfl ?_
    refine XS.iconst X7.here hx rfl (hb hby at_67) ?_
    refine XS.iloadN X7.here hx rfl (hb hby at_68) rfl ?_
    refine XS.sipush X7.here hx rfl (hb hby at_69) ?_
    refine XS.iand X7.here hx rfl (hb hby at_72) rfl ?_
    refine XS.aload X7.here hx rfl (hb hby at_73) rfl rfl ?_
    refine XS.iconst X7.here hx rfl (hb hby at_75) ?_
    exact k
  refine Outs.of (ldI X7 hx hZ e7 V7 (j := (0 : Int32)) (k := 0) rfl (by decide) (f := (mkF m 76 #[.val (.int i0), .val (.int i1), .val (.int i2), .val (.int ((i0 &&& (2147483647 : Int32)) % (5 : Int32))), .val (.ref b1), .val (.ref b2), .unset, .unset, .unset, .unset, .unset, .unset] [(.int (0 : Int32)), (.ref b1), (.int (i2 &&& (255 : Int32))), (.int (0 : Int32)), (.ref b2)])) rfl rfl (hb hby at_76)) ?_
  show Outs p e below s _ _ _ (T7.setTop (mkF m 77 #[.val (.int i0), .val (.int i1), .val (.int i2), .val (.int ((i0 &&& (2147483647 : Int32)) % (5 : Int32))), .val (.ref b1), .val (.ref b2), .unset, .unset, .unset, .unset, .unset, .unset] [(.int ((f0_g64 i0 i1 i2) 0)), (.int (i2 &&& (255 : Int32))), (.int (0 : Int32)), (.ref b2)]))
  refine Outs.of (U' := T7.setTop (mkF m 78 #[.val (.int i0), .val (.int i1), .val (.int i2), .val (.int ((i0 &&& (2147483647 : Int32)) % (5 : Int32))), .val (.ref b1), .val (.ref b2), .unset, .unset, .unset, .unset, .unset, .unset] [(.int ((i2 &&& (255 : Int32)) % ((f0_g64 i0 i1 i2) 0))), (.int (0 : Int32)), (.ref b2)])) (fun t k => ?_) ?_
  · refine iremM X7 hx rfl (hb hby at_77) rfl (own_cnz0 i0 i1 i2) ?_
    exact k
  have f8 : AI Z h7 b2 .int 4 (fun _ => (0 : Int32)) := ((((V2.other W4 ne_b1_b2.symm).other W5 ne_b1_b2.symm).other W6 ne_b1_b2.symm).other W7 ne_b1_b2.symm)
  obtain ⟨T9, h9, X9, e9, W9, V9, st9⟩ := puI X7 hx hZ e7 f8 (j := (0 : Int32)) (x := ((i2 &&& (255 : Int32)) % ((f0_g64 i0 i1 i2) 0))) (k := 0) rfl (by decide) (f := (mkF m 78 #[.val (.int i0), .val (.int i1), .val (.int i2), .val (.int ((i0 &&& (2147483647 : Int32)) % (5 : Int32))), .val (.ref b1), .val (.ref b2), .unset, .unset, .unset, .unset, .unset, .unset] [(.int ((i2 &&& (255 : Int32)) % ((f0_g64 i0 i1 i2) 0))), (.int (0 : Int32)), (.ref b2)])) rfl rfl (hb hby at_78)
  replace V9 : AI Z h9 b2 .int 4 (f0_g78 i0 i1 i2) := V9
  have N9 := Fr.snoc X9 N7 g_b2
  obtain ⟨Lh9, X9, N9⟩ := hide X9 N9 (C := 2) (S := 8) (by decide) (by decide)
  refine Outs.of st9 ?_
  show Outs p e below s _ _ _ (T9.setTop (mkF m 79 #[.val (.int i0), .val (.int i1), .val (.int i2), .val (.int ((i0 &&& (2147483647 : Int32)) % (5 : Int32))), .val (.ref b1), .val (.ref b2), .unset, .unset, .unset, .unset, .unset, .unset] []))
  refine Outs.of (U' := T9.setTop (mkF m 93 #[.val (.int i0), .val (.int i1), .val (.int i2), .val (.int ((i0 &&& (2147483647 : Int32)) % (5 : Int32))), .val (.ref b1), .val (.ref b2), .unset, .unset, .unset, .unset, .unset, .unset] [(.int (1 : Int32)), (.ref b1), (.int (((i2.toUInt32 >>> ((8 : Int32) &&& 31).toUInt32).toInt32) &&& (255 : Int32))), (.int (1 : Int32)), (.ref b2)])) (fun t k => ?_) ?_
  · refine XS.aload X9.here hx rfl (hb hby at_79) rfl rfl ?_
    refine XS.iconst X9.here hx rfl (hb hby at_81) ?_
    refine XS.iloadN X9.here hx rfl (hb hby at_82) rfl ?_
    refine XS.bipush X9.here hx rfl (hb hby at_83) ?_
    refine XS.iushr X9.here hx rfl (hb hby at_85) rfl ?_
    refine XS.sipush X9.here hx rfl (hb hby at_86) ?_
    refine XS.iand X9.here hx rfl (hb hby at_89) rfl ?_
    refine XS.aload X9.here hx rfl (hb hby at_90) rfl rfl ?_
    refine XS.iconst X9.here hx rfl (hb hby at_92) ?_
    exact k
  have f10 : AI Z h9 b1 .int 4 (f0_g64 i0 i1 i2) := (V7.other W9 ne_b1_b2)
  refine Outs.of (ldI X9 hx hZ e9 f10 (j := (1 : Int32)) (k := 1) rfl (by decide) (f := (mkF m 93 #[.val (.int i0), .val (.int i1), .val (.int i2), .val (.int ((i0 &&& (2147483647 : Int32)) % (5 : Int32))), .val (.ref b1), .val (.ref b2), .unset, .unset, .unset, .unset, .unset, .unset] [(.int (1 : Int32)), (.ref b1), (.int (((i2.toUInt32 >>> ((8 : Int32) &&& 31).toUInt32).toInt32) &&& (255 : Int32))), (.int (1 : Int32)), (.ref b2)])) rfl rfl (hb hby at_93)) ?_
  show Outs p e below s _ _ _ (T9.setTop (mkF m 94 #[.val (.int i0), .val (.int i1), .val (.int i2), .val (.int ((i0 &&& (2147483647 : Int32)) % (5 : Int32))), .val (.ref b1), .val (.ref b2), .unset, .unset, .unset, .unset, .unset, .unset] [(.int ((f0_g64 i0 i1 i2) 1)), (.int (((i2.toUInt32 >>> ((8 : Int32) &&& 31).toUInt32).toInt32) &&& (255 : Int32))), (.int (1 : Int32)), (.ref b2)]))
  refine Outs.of (U' := T9.setTop (mkF m 95 #[.val (.int i0), .val (.int i1), .val (.int i2), .val (.int ((i0 &&& (2147483647 : Int32)) % (5 : Int32))), .val (.ref b1), .val (.ref b2), .unset, .unset, .unset, .unset, .unset, .unset] [(.int ((((i2.toUInt32 >>> ((8 : Int32) &&& 31).toUInt32).toInt32) &&& (255 : Int32)) % ((f0_g64 i0 i1 i2) 1))), (.int (1 : Int32)), (.ref b2)])) (fun t k => ?_) ?_
  · refine iremM X9 hx rfl (hb hby at_94) rfl (own_cnz1 i0 i1 i2) ?_
    exact k
  obtain ⟨T11, h11, X11, e11, W11, V11, st11⟩ := puI X9 hx hZ e9 V9 (j := (1 : Int32)) (x := ((((i2.toUInt32 >>> ((8 : Int32) &&& 31).toUInt32).toInt32) &&& (255 : Int32)) % ((f0_g64 i0 i1 i2) 1))) (k := 1) rfl (by decide) (f := (mkF m 95 #[.val (.int i0), .val (.int i1), .val (.int i2), .val (.int ((i0 &&& (2147483647 : Int32)) % (5 : Int32))), .val (.ref b1), .val (.ref b2), .unset, .unset, .unset, .unset, .unset, .unset] [(.int ((((i2.toUInt32 >>> ((8 : Int32) &&& 31).toUInt32).toInt32) &&& (255 : Int32)) % ((f0_g64 i0 i1 i2) 1))), (.int (1 : Int32)), (.ref b2)])) rfl rfl (hb hby at_95)
  replace V11 : AI Z h11 b2 .int 4 (f0_g95 i0 i1 i2) := V11
  have N11 := Fr.snoc X11 N9 g_b2
  obtain ⟨Lh11, X11, N11⟩ := hide X11 N11 (C := 2) (S := 8) (by decide) (by decide)
  refine Outs.of st11 ?_
  show Outs p e below s _ _ _ (T11.setTop (mkF m 96 #[.val (.int i0), .val (.int i1), .val (.int i2), .val (.int ((i0 &&& (2147483647 : Int32)) % (5 : Int32))), .val (.ref b1), .val (.ref b2), .unset, .unset, .unset, .unset, .unset, .unset] []))
  refine Outs.of (U' := T11.setTop (mkF m 110 #[.val (.int i0), .val (.int i1), .val (.int i2), .val (.int ((i0 &&& (2147483647 : Int32)) % (5 : Int32))), .val (.ref b1), .val (.ref b2), .unset, .unset, .unset, .unset, .unset, .unset] [(.int (2 : Int32)), (.ref b1), (.int (((i2.toUInt32 >>> ((16 : Int32) &&& 31).toUInt32).toInt32) &&& (255 : Int32))), (.int (2 : Int32)), (.ref b2)])) (fun t k => ?_) ?_
  · refine XS.aload X11.here hx rfl (hb hby at_96) rfl rfl ?_
    refine XS.iconst X11.here hx rfl (hb hby at_98) ?_
    refine XS.iloadN X11.here hx rfl (hb hby at_99) rfl ?_
    refine XS.bipush X11.here hx rfl (hb hby at_100) ?_
    refine XS.iushr X11.here hx rfl (hb hby at_102) rfl ?_
    refine XS.sipush X11.here hx rfl (hb hby at_103) ?_
    refine XS.iand X11.here hx rfl (hb hby at_106) rfl ?_
    refine XS.aload X11.here hx rfl (hb hby at_107) rfl rfl ?_
    refine XS.iconst X11.here hx rfl (hb hby at_109) ?_
    exact k
  have f12 : AI Z h11 b1 .int 4 (f0_g64 i0 i1 i2) := (f10.other W11 ne_b1_b2)
  refine Outs.of (ldI X11 hx hZ e11 f12 (j := (2 : Int32)) (k := 2) rfl (by decide) (f := (mkF m 110 #[.val (.int i0), .val (.int i1), .val (.int i2), .val (.int ((i0 &&& (2147483647 : Int32)) % (5 : Int32))), .val (.ref b1), .val (.ref b2), .unset, .unset, .unset, .unset, .unset, .unset] [(.int (2 : Int32)), (.ref b1), (.int (((i2.toUInt32 >>> ((16 : Int32) &&& 31).toUInt32).toInt32) &&& (255 : Int32))), (.int (2 : Int32)), (.ref b2)])) rfl rfl (hb hby at_110)) ?_
  show Outs p e below s _ _ _ (T11.setTop (mkF m 111 #[.val (.int i0), .val (.int i1), .val (.int i2), .val (.int ((i0 &&& (2147483647 : Int32)) % (5 : Int32))), .val (.ref b1), .val (.ref b2), .unset, .unset, .unset, .unset, .unset, .unset] [(.int ((f0_g64 i0 i1 i2) 2)), (.int (((i2.toUInt32 >>> ((16 : Int32) &&& 31).toUInt32).toInt32) &&& (255 : Int32))), (.int (2 : Int32)), (.ref b2)]))
  refine Outs.of (U' := T11.setTop (mkF m 112 #[.val (.int i0), .val (.int i1), .val (.int i2), .val (.int ((i0 &&& (2147483647 : Int32)) % (5 : Int32))), .val (.ref b1), .val (.ref b2), .unset, .unset, .unset, .unset, .unset, .unset] [(.int ((((i2.toUInt32 >>> ((16 : Int32) &&& 31).toUInt32).toInt32) &&& (255 : Int32)) % ((f0_g64 i0 i1 i2) 2))), (.int (2 : Int32)), (.ref b2)])) (fun t k => ?_) ?_
  · refine iremM X11 hx rfl (hb hby at_111) rfl (own_cnz2 i0 i1 i2) ?_
    exact k
  obtain ⟨T13, h13, X13, e13, W13, V13, st13⟩ := puI X11 hx hZ e11 V11 (j := (2 : Int32)) (x := ((((i2.toUInt32 >>> ((16 : Int32) &&& 31).toUInt32).toInt32) &&& (255 : Int32)) % ((f0_g64 i0 i1 i2) 2))) (k := 2) rfl (by decide) (f := (mkF m 112 #[.val (.int i0), .val (.int i1), .val (.int i2), .val (.int ((i0 &&& (2147483647 : Int32)) % (5 : Int32))), .val (.ref b1), .val (.ref b2), .unset, .unset, .unset, .unset, .unset, .unset] [(.int ((((i2.toUInt32 >>> ((16 : Int32) &&& 31).toUInt32).toInt32) &&& (255 : Int32)) % ((f0_g64 i0 i1 i2) 2))), (.int (2 : Int32)), (.ref b2)])) rfl rfl (hb hby at_112)
  replace V13 : AI Z h13 b2 .int 4 (f0_g112 i0 i1 i2) := V13
  have N13 := Fr.snoc X13 N11 g_b2
  obtain ⟨Lh13, X13, N13⟩ := hide X13 N13 (C := 2) (S := 8) (by decide) (by decide)
  refine Outs.of st13 ?_
  show Outs p e below s _ _ _ (T13.setTop (mkF m 113 #[.val (.int i0), .val (.int i1), .val (.int i2), .val (.int ((i0 &&& (2147483647 : Int32)) % (5 : Int32))), .val (.ref b1), .val (.ref b2), .unset, .unset, .unset, .unset, .unset, .unset] []))
  refine Outs.of (U' := T13.setTop (mkF m 127 #[.val (.int i0), .val (.int i1), .val (.int i2), .val (.int ((i0 &&& (2147483647 : Int32)) % (5 : Int32))), .val (.ref b1), .val (.ref b2), .unset, .unset, .unset, .unset, .unset, .unset] [(.int (3 : Int32)), (.ref b1), (.int (((i2.toUInt32 >>> ((24 : Int32) &&& 31).toUInt32).toInt32) &&& (255 : Int32))), (.int (3 : Int32)), (.ref b2)])) (fun t k => ?_) ?_
  · refine XS.aload X13.here hx rfl (hb hby at_113) rfl rfl ?_
    refine XS.iconst X13.here hx rfl (hb hby at_115) ?_
    refine XS.iloadN X13.here hx rfl (hb hby at_116) rfl ?_
    refine XS.bipush X13.here hx rfl (hb hby at_117) ?_
    refine XS.iushr X13.here hx rfl (hb hby at_119) rfl ?_
    refine XS.sipush X13.here hx rfl (hb hby at_120) ?_
    refine XS.iand X13.here hx rfl (hb hby at_123) rfl ?_
    refine XS.aload X13.here hx rfl (hb hby at_124) rfl rfl ?_
    refine XS.iconst X13.here hx rfl (hb hby at_126) ?_
    exact k
  have f14 : AI Z h13 b1 .int 4 (f0_g64 i0 i1 i2) := (f12.other W13 ne_b1_b2)
  refine Outs.of (ldI X13 hx hZ e13 f14 (j := (3 : Int32)) (k := 3) rfl (by decide) (f := (mkF m 127 #[.val (.int i0), .val (.int i1), .val (.int i2), .val (.int ((i0 &&& (2147483647 : Int32)) % (5 : Int32))), .val (.ref b1), .val (.ref b2), .unset, .unset, .unset, .unset, .unset, .unset] [(.int (3 : Int32)), (.ref b1), (.int (((i2.toUInt32 >>> ((24 : Int32) &&& 31).toUInt32).toInt32) &&& (255 : Int32))), (.int (3 : Int32)), (.ref b2)])) rfl rfl (hb hby at_127)) ?_
  show Outs p e below s _ _ _ (T13.setTop (mkF m 128 #[.val (.int i0), .val (.int i1), .val (.int i2), .val (.int ((i0 &&& (2147483647 : Int32)) % (5 : Int32))), .val (.ref b1), .val (.ref b2), .unset, .unset, .unset, .unset, .unset, .unset] [(.int ((f0_g64 i0 i1 i2) 3)), (.int (((i2.toUInt32 >>> ((24 : Int32) &&& 31).toUInt32).toInt32) &&& (255 : Int32))), (.int (3 : Int32)), (.ref b2)]))
  refine Outs.of (U' := T13.setTop (mkF m 129 #[.val (.int i0), .val (.int i1), .val (.int i2), .val (.int ((i0 &&& (2147483647 : Int32)) % (5 : Int32))), .val (.ref b1), .val (.ref b2), .unset, .unset, .unset, .unset, .unset, .unset] [(.int ((((i2.toUInt32 >>> ((24 : Int32) &&& 31).toUInt32).toInt32) &&& (255 : Int32)) % ((f0_g64 i0 i1 i2) 3))), (.int (3 : Int32)), (.ref b2)])) (fun t k => ?_) ?_
  · refine iremM X13 hx rfl (hb hby at_128) rfl (own_cnz3 i0 i1 i2) ?_
    exact k
  obtain ⟨T15, h15, X15, e15, W15, V15, st15⟩ := puI X13 hx hZ e13 V13 (j := (3 : Int32)) (x := ((((i2.toUInt32 >>> ((24 : Int32) &&& 31).toUInt32).toInt32) &&& (255 : Int32)) % ((f0_g64 i0 i1 i2) 3))) (k := 3) rfl (by decide) (f := (mkF m 129 #[.val (.int i0), .val (.int i1), .val (.int i2), .val (.int ((i0 &&& (2147483647 : Int32)) % (5 : Int32))), .val (.ref b1), .val (.ref b2), .unset, .unset, .unset, .unset, .unset, .unset] [(.int ((((i2.toUInt32 >>> ((24 : Int32) &&& 31).toUInt32).toInt32) &&& (255 : Int32)) % ((f0_g64 i0 i1 i2) 3))), (.int (3 : Int32)), (.ref b2)])) rfl rfl (hb hby at_129)
  replace V15 : AI Z h15 b2 .int 4 (f0_g129 i0 i1 i2) := V15
  have N15 := Fr.snoc X15 N13 g_b2
  obtain ⟨Lh15, X15, N15⟩ := hide X15 N15 (C := 2) (S := 8) (by decide) (by decide)
  refine Outs.of st15 ?_
  show Outs p e below s _ _ _ (T15.setTop (mkF m 130 #[.val (.int i0), .val (.int i1), .val (.int i2), .val (.int ((i0 &&& (2147483647 : Int32)) % (5 : Int32))), .val (.ref b1), .val (.ref b2), .unset, .unset, .unset, .unset, .unset, .unset] []))
  rcases own_n i0 with q | q | q | q | q
  · rw [q]
    show Outs p e below s _ _ _ (T15.setTop (mkF m 130 #[.val (.int i0), .val (.int i1), .val (.int i2), .val (.int (0 : Int32)), .val (.ref b1), .val (.ref b2), .unset, .unset, .unset, .unset, .unset, .unset] []))
    refine Outs.of (U' := T15.setTop (mkF m 131 #[.val (.int i0), .val (.int i1), .val (.int i2), .val (.int (0 : Int32)), .val (.ref b1), .val (.ref b2), .unset, .unset, .unset, .unset, .unset, .unset] [(.int (0 : Int32))])) (fun t k => ?_) ?_
    · refine XS.iloadN X15.here hx rfl (hb hby at_130) rfl ?_
      exact k
    have f17 : AI Z h15 b1 .int 4 (f0_g64 i0 i1 i2) := (f14.other W15 ne_b1_b2)
    obtain ⟨T16, h16, X16, e16, E16, A16, st16⟩ := newAF X15 hx hZ (aty := .int) (hw _ (List.mem_of_getElem? (i := 1) rfl)) e15 (f := (mkF m 131 #[.val (.int i0), .val (.int i1), .val (.int i2), .val (.int (0 : Int32)), .val (.ref b1), .val (.ref b2), .unset, .unset, .unset, .unset, .unset, .unset] [(.int (0 : Int32))])) rfl (hb hby at_131) rfl (k := 0) rfl (cap := 0) (by decide) (by decide) (by decide) (by decide)
    obtain ⟨b16, g16⟩ : ∃ z, z = h15.size := ⟨_, rfl⟩
    rw [← g16] at A16 st16
    have g_b16 : n0 ≤ b16 := Nat.le_trans (Nat.le_trans (Nat.le_trans (Nat.le_trans (Nat.le_trans (Nat.le_trans (Nat.le_trans (Nat.le_trans (Nat.le_trans (Nat.le_trans (Nat.le_trans Z0 E1.1) E2.1) (Keep.of_wr W4).1) (Keep.of_wr W5).1) (Keep.of_wr W6).1) (Keep.of_wr W7).1) (Keep.of_wr W9).1) (Keep.of_wr W11).1) (Keep.of_wr W13).1) (Keep.of_wr W15).1) (Nat.le_of_eq g16.symm)
    have ne_b1_b16 : b1 ≠ b16 := Nat.ne_of_lt (Nat.lt_of_lt_of_eq f17.lt g16.symm)
    have ne_b2_b16 : b2 ≠ b16 := Nat.ne_of_lt (Nat.lt_of_lt_of_eq V15.lt g16.symm)
    have V16 : AI Z h16 b16 .int 0 (fun _ => (0 : Int32)) := A16
    refine Outs.of st16 ?_
    show Outs p e below s _ _ _ (T16.setTop (mkF m 133 #[.val (.int i0), .val (.int i1), .val (.int i2), .val (.int (0 : Int32)), .val (.ref b1), .val (.ref b2), .unset, .unset, .unset, .unset, .unset, .unset] [(.ref b16)]))
    refine Outs.of (U' := T16.setTop (mkF m 136 #[.val (.int i0), .val (.int i1), .val (.int i2), .val (.int (0 : Int32)), .val (.ref b1), .val (.ref b2), .val (.ref b16), .unset, .unset, .unset, .unset, .unset] [(.int (0 : Int32))])) (fun t k => ?_) ?_
    · refine XS.astore X16.here hx rfl (hb hby at_133) rfl rfl (l' := #[.val (.int i0), .val (.int i1), .val (.int i2), .val (.int (0 : Int32)), .val (.ref b1), .val (.ref b2), .val (.ref b16), .unset, .unset, .unset, .unset, .unset]) rfl ?_
      refine XS.iloadN X16.here hx rfl (hb hby at_135) rfl ?_
      exact k
    have f19 : AI Z h16 b1 .int 4 (f0_g64 i0 i1 i2) := (f17.ext E16)
    have f20 : AI Z h16 b2 .int 4 (f0_g129 i0 i1 i2) := (V15.ext E16)
    obtain ⟨T18, h18, X18, e18, E18, A18, st18⟩ := newAF X16 hx hZ (aty := .int) (hw _ (List.mem_of_getElem? (i := 1) rfl)) e16 (f := (mkF m 136 #[.val (.int i0), .val (.int i1), .val (.int i2), .val (.int (0 : Int32)), .val (.ref b1), .val (.ref b2), .val (.ref b16), .unset, .unset, .unset, .unset, .unset] [(.int (0 : Int32))])) rfl (hb hby at_136) rfl (k := 0) rfl (cap := 0) (by decide) (by decide) (by decide) (by decide)
    obtain ⟨b18, g18⟩ : ∃ z, z = h16.size := ⟨_, rfl⟩
    rw [← g18] at A18 st18
    have g_b18 : n0 ≤ b18 := Nat.le_trans (Nat.le_trans (Nat.le_trans (Nat.le_trans (Nat.le_trans (Nat.le_trans (Nat.le_trans (Nat.le_trans (Nat.le_trans (Nat.le_trans (Nat.le_trans (Nat.le_trans Z0 E1.1) E2.1) (Keep.of_wr W4).1) (Keep.of_wr W5).1) (Keep.of_wr W6).1) (Keep.of_wr W7).1) (Keep.of_wr W9).1) (Keep.of_wr W11).1) (Keep.of_wr W13).1) (Keep.of_wr W15).1) E16.1) (Nat.le_of_eq g18.symm)
    have ne_b1_b18 : b1 ≠ b18 := Nat.ne_of_lt (Nat.lt_of_lt_of_eq f19.lt g18.symm)
    have ne_b2_b18 : b2 ≠ b18 := Nat.ne_of_lt (Nat.lt_of_lt_of_eq f20.lt g18.symm)
    have ne_b16_b18 : b16 ≠ b18 := Nat.ne_of_lt (Nat.lt_of_lt_of_eq V16.lt g18.symm)
    have V18 : AI Z h18 b18 .int 0 (fun _ => (0 : Int32)) := A18
    refine Outs.of st18 ?_
    show Outs p e below s _ _ _ (T18.setTop (mkF m 138 #[.val (.int i0), .val (.int i1), .val (.int i2), .val (.int (0 : Int32)), .val (.ref b1), .val (.ref b2), .val (.ref b16), .unset, .unset, .unset, .unset, .unset] [(.ref b18)]))
    refine Outs.of (U' := T18.setTop (mkF m 226 #[.val (.int i0), .val (.int i1), .val (.int i2), .val (.int (0 : Int32)), .val (.ref b1), .val (.ref b2), .val (.ref b16), .val (.ref b18), .unset, .unset, .unset, .unset] [(.int (0 : Int32)), (.ref b1)])) (fun t k => ?_) ?_
    · refine XS.astore X18.here hx rfl (hb hby at_138) rfl rfl (l' := #[.val (.int i0), .val (.int i1), .val (.int i2), .val (.int (0 : Int32)), .val (.ref b1), .val (.ref b2), .val (.ref b16), .val (.ref b18), .unset, .unset, .unset, .unset]) rfl ?_
      refine XS.iloadN X18.here hx rfl (hb hby at_140) rfl ?_
      refine XS.ifYes X18.here hx rfl (pc0 := 141) (pc' := 160) rfl (hb hby at_141) rfl ((if0 _ _).trans (flt (by decide)).2.2.2) (by decide) (by decide) ?_
      refine XS.iloadN X18.here hx rfl (hb hby at_160) rfl ?_
      refine XS.iconst X18.here hx rfl (hb hby at_161) ?_
      refine XS.icmpYes X18.here hx rfl (pc0 := 162) (pc' := 181) rfl (hb hby at_162) rfl (flt (by decide)).2.2.2 (by decide) (by decide) ?_
      refine XS.iloadN X18.here hx rfl (hb hby at_181) rfl ?_
      refine XS.iconst X18.here hx rfl (hb hby at_182) ?_
      refine XS.icmpYes X18.here hx rfl (pc0 := 183) (pc' := 202) rfl (hb hby at_183) rfl (flt (by decide)).2.2.2 (by decide) (by decide) ?_
      refine XS.iloadN X18.here hx rfl (hb hby at_202) rfl ?_
      refine XS.iconst X18.here hx rfl (hb hby at_203) ?_
      refine XS.icmpYes X18.here hx rfl (pc0 := 204) (pc' := 223) rfl (hb hby at_204) rfl (flt (by decide)).2.2.2 (by decide) (by decide) ?_
      refine XS.aload X18.here hx rfl (hb hby at_223) rfl rfl ?_
      refine XS.iloadN X18.here hx rfl (hb hby at_225) rfl ?_
      exact k
    have f21 : AI Z h18 b1 .int 4 (f0_g64 i0 i1 i2) := (f19.ext E18)
    obtain ⟨_, _, ⟨T22, L22, k22, n22⟩, -, X22, ⟨Lc22, hQ22, l22, y22, z22⟩, st22⟩ := Jvm.LawKit.callS X18 hx (y := (⟨"com/example/ratatoskr/ratatoskr/ChoicesAdvancePinLaw", "prod", "([II)I"⟩ : MethodName)) hown (mvT hZ (hw _ (List.mem_of_getElem? (i := 2) rfl))) (mvT hZ (hw _ (List.mem_of_getElem? (i := 3) rfl))) (mvT hZ (hw _ (List.mem_of_getElem? (i := 4) rfl))) (mvT hZ (hw _ (List.mem_of_getElem? (i := 5) rfl))) (by decide) (backOf (W := 0) (rmp0 l Z a0 hw [] b1 (f0_g64 i0 i1 i2) h18 n0 f21) hZ (hw _ (List.mem_of_getElem? (i := 5) rfl)) (hw _ (List.mem_of_getElem? (i := 4) rfl)) (by decide) (by decide)) (g := (mkF m 226 #[.val (.int i0), .val (.int i1), .val (.int i2), .val (.int (0 : Int32)), .val (.ref b1), .val (.ref b2), .val (.ref b16), .val (.ref b18), .unset, .unset, .unset, .unset] [(.int (0 : Int32)), (.ref b1)])) rfl (by rw [hml]; rfl) (argsL := [(.ref b1), (.int (0 : Int32))]) (rest := []) (lenOf pd_0 rfl) rfl (by show 2 * 0 + _ ≤ _; exact Nat.le_of_eq rfl) (hb hby at_226) (fun _ _ => ⟨rfl, e18, (by decide : 4 + 0 ≤ _), (by decide : 8 + 0 ≤ _)⟩)
    dsimp only [Pt.U, Pt.locs, Pt.cells, Pt.slots] at X22 l22 y22 z22 st22 hQ22
    subst l22 y22 z22
    obtain ⟨rfl, N22q, e22⟩ := hQ22
    have N22 := Fr.app N15 N22q
    obtain ⟨Lh22, X22, N22⟩ := hide X22 N22 (C := 4) (S := 8) (by decide) (by decide)
    refine Outs.of st22 ?_
    show Outs p e below s _ _ _ (T22.setTop (mkF m 229 #[.val (.int i0), .val (.int i1), .val (.int i2), .val (.int (0 : Int32)), .val (.ref b1), .val (.ref b2), .val (.ref b16), .val (.ref b18), .unset, .unset, .unset, .unset] [(.int (F_p0 (f0_g64 i0 i1 i2)))]))
    refine Outs.of (U' := T22.setTop (mkF m 236 #[.val (.int i0), .val (.int i1), .val (.int i2), .val (.int (0 : Int32)), .val (.ref b1), .val (.ref b2), .val (.ref b16), .val (.ref b18), .val (.int (F_p0 (f0_g64 i0 i1 i2))), .unset, .unset, .unset] [(.int (0 : Int32)), (.ref b1), (.ref b18)])) (fun t k => ?_) ?_
    · refine XS.istore X22.here hx rfl (hb hby at_229) rfl (l' := #[.val (.int i0), .val (.int i1), .val (.int i2), .val (.int (0 : Int32)), .val (.ref b1), .val (.ref b2), .val (.ref b16), .val (.ref b18), .val (.int (F_p0 (f0_g64 i0 i1 i2))), .unset, .unset, .unset]) rfl ?_
      refine XS.aload X22.here hx rfl (hb hby at_231) rfl rfl ?_
      refine XS.aload X22.here hx rfl (hb hby at_233) rfl rfl ?_
      refine XS.iloadN X22.here hx rfl (hb hby at_235) rfl ?_
      exact k
    obtain ⟨_, _, ⟨T23, L23, k23, n23⟩, -, X23, ⟨Lc23, hQ23, l23, y23, z23⟩, st23⟩ := Jvm.LawKit.callS X22 hx (y := (⟨"com/example/ratatoskr/ratatoskr/ChoicesAdvancePinLaw", "val", "([I[II)I"⟩ : MethodName)) hown (mvT hZ (hw _ (List.mem_of_getElem? (i := 6) rfl))) (mvT hZ (hw _ (List.mem_of_getElem? (i := 7) rfl))) (mvT hZ (hw _ (List.mem_of_getElem? (i := 4) rfl))) (mvT hZ (hw _ (List.mem_of_getElem? (i := 8) rfl))) (by decide) (backOf (W := 0) (rmv0 l Z a0 hw [] b18 b1 (fun _ => (0 : Int32)) (f0_g64 i0 i1 i2) h18 n0 V18 f21) hZ (hw _ (List.mem_of_getElem? (i := 8) rfl)) (hw _ (List.mem_of_getElem? (i := 4) rfl)) (by decide) (by decide)) (g := (mkF m 236 #[.val (.int i0), .val (.int i1), .val (.int i2), .val (.int (0 : Int32)), .val (.ref b1), .val (.ref b2), .val (.ref b16), .val (.ref b18), .val (.int (F_p0 (f0_g64 i0 i1 i2))), .unset, .unset, .unset] [(.int (0 : Int32)), (.ref b1), (.ref b18)])) rfl (by rw [hml]; rfl) (argsL := [(.ref b18), (.ref b1), (.int (0 : Int32))]) (rest := []) (lenOf pd_1 rfl) rfl (by show 2 * 0 + _ ≤ _; exact Nat.le_of_eq rfl) (hb hby at_236) (fun _ _ => ⟨rfl, e22, (by decide : 4 + 0 ≤ _), (by decide : 8 + 0 ≤ _)⟩)
    dsimp only [Pt.U, Pt.locs, Pt.cells, Pt.slots] at X23 l23 y23 z23 st23 hQ23
    subst l23 y23 z23
    obtain ⟨rfl, N23q, e23⟩ := hQ23
    have N23 := Fr.app N22 N23q
    obtain ⟨Lh23, X23, N23⟩ := hide X23 N23 (C := 4) (S := 8) (by decide) (by decide)
    refine Outs.of st23 ?_
    show Outs p e below s _ _ _ (T23.setTop (mkF m 239 #[.val (.int i0), .val (.int i1), .val (.int i2), .val (.int (0 : Int32)), .val (.ref b1), .val (.ref b2), .val (.ref b16), .val (.ref b18), .val (.int (F_p0 (f0_g64 i0 i1 i2))), .unset, .unset, .unset] [(.int (F_v0 (fun _ => (0 : Int32)) (f0_g64 i0 i1 i2)))]))
    refine Outs.of (U' := T23.setTop (mkF m 245 #[.val (.int i0), .val (.int i1), .val (.int i2), .val (.int (0 : Int32)), .val (.ref b1), .val (.ref b2), .val (.ref b16), .val (.ref b18), .val (.int (F_p0 (f0_g64 i0 i1 i2))), .val (.int (F_v0 (fun _ => (0 : Int32)) (f0_g64 i0 i1 i2))), .unset, .unset] [(.ref b16), (.ref b18)])) (fun t k => ?_) ?_
    · refine XS.istore X23.here hx rfl (hb hby at_239) rfl (l' := #[.val (.int i0), .val (.int i1), .val (.int i2), .val (.int (0 : Int32)), .val (.ref b1), .val (.ref b2), .val (.ref b16), .val (.ref b18), .val (.int (F_p0 (f0_g64 i0 i1 i2))), .val (.int (F_v0 (fun _ => (0 : Int32)) (f0_g64 i0 i1 i2))), .unset, .unset]) rfl ?_
      refine XS.aload X23.here hx rfl (hb hby at_241) rfl rfl ?_
      refine XS.aload X23.here hx rfl (hb hby at_243) rfl rfl ?_
      exact k
    have f24 : AI Z h18 b16 .int 0 (fun _ => (0 : Int32)) := (V16.ext E18)
    obtain ⟨_, _, ⟨T25, L25, k25, n25⟩, -, X25, ⟨Lc25, hQ25, l25, y25, z25⟩, st25⟩ := Jvm.LawKit.callS X23 hx (y := (⟨"com/example/ratatoskr/ratatoskr/Choices", "advance", "([I[I)Z"⟩ : MethodName)) hown (mvT hZ (hw _ (List.mem_of_getElem? (i := 9) rfl))) (mvT hZ (hw _ (List.mem_of_getElem? (i := 10) rfl))) (mvT hZ (hw _ (List.mem_of_getElem? (i := 11) rfl))) (mvT hZ (hw _ (List.mem_of_getElem? (i := 12) rfl))) (by decide) (backOf (W := 0) (rma0 l Z a0 hw [] b18 b16 (fun _ => (0 : Int32)) (fun _ => (0 : Int32)) h18 n0 V18 f24 g_b18 ne_b16_b18.symm) hZ (hw _ (List.mem_of_getElem? (i := 12) rfl)) (hw _ (List.mem_of_getElem? (i := 11) rfl)) (by decide) (by decide)) (g := (mkF m 245 #[.val (.int i0), .val (.int i1), .val (.int i2), .val (.int (0 : Int32)), .val (.ref b1), .val (.ref b2), .val (.ref b16), .val (.ref b18), .val (.int (F_p0 (f0_g64 i0 i1 i2))), .val (.int (F_v0 (fun _ => (0 : Int32)) (f0_g64 i0 i1 i2))), .unset, .unset] [(.ref b16), (.ref b18)])) rfl (by rw [hml]; rfl) (argsL := [(.ref b18), (.ref b16)]) (rest := []) (lenOf pd_2 rfl) rfl (by show 2 * 0 + _ ≤ _; exact Nat.le_of_eq rfl) (hb hby at_245) (fun _ _ => ⟨rfl, e23, (by decide : 4 + 0 ≤ _), (by decide : 8 + 0 ≤ _)⟩)
    dsimp only [Pt.U, Pt.locs, Pt.cells, Pt.slots] at X25 l25 y25 z25 st25 hQ25
    subst l25 y25 z25
    obtain ⟨rfl, N25q, K25, u25_0, u25_1⟩ := hQ25
    have N25 := Fr.app N23 N25q
    obtain ⟨Lh25, X25, N25⟩ := hide X25 N25 (C := 4) (S := 8) (by decide) (by decide)
    refine Outs.of st25 ?_
    show Outs p e below s _ _ _ (T25.setTop (mkF m 248 #[.val (.int i0), .val (.int i1), .val (.int i2), .val (.int (0 : Int32)), .val (.ref b1), .val (.ref b2), .val (.ref b16), .val (.ref b18), .val (.int (F_p0 (f0_g64 i0 i1 i2))), .val (.int (F_v0 (fun _ => (0 : Int32)) (f0_g64 i0 i1 i2))), .unset, .unset] [(.int (F_a0 (fun _ => (0 : Int32)) (fun _ => (0 : Int32))))]))
    refine Outs.of (U' := T25.setTop (mkF m 258 #[.val (.int i0), .val (.int i1), .val (.int i2), .val (.int (0 : Int32)), .val (.ref b1), .val (.ref b2), .val (.ref b16), .val (.ref b18), .val (.int (F_p0 (f0_g64 i0 i1 i2))), .val (.int (F_v0 (fun _ => (0 : Int32)) (f0_g64 i0 i1 i2))), .val (.int (F_a0 (fun _ => (0 : Int32)) (fun _ => (0 : Int32)))), .unset] [(.int (0 : Int32)), (.int (0 : Int32)), (.ref b1), (.ref b16), (.ref b18)])) (fun t k => ?_) ?_
    · refine XS.istore X25.here hx rfl (hb hby at_248) rfl (l' := #[.val (.int i0), .val (.int i1), .val (.int i2), .val (.int (0 : Int32)), .val (.ref b1), .val (.ref b2), .val (.ref b16), .val (.ref b18), .val (.int (F_p0 (f0_g64 i0 i1 i2))), .val (.int (F_v0 (fun _ => (0 : Int32)) (f0_g64 i0 i1 i2))), .val (.int (F_a0 (fun _ => (0 : Int32)) (fun _ => (0 : Int32)))), .unset]) rfl ?_
      refine XS.aload X25.here hx rfl (hb hby at_250) rfl rfl ?_
      refine XS.aload X25.here hx rfl (hb hby at_252) rfl rfl ?_
      refine XS.aload X25.here hx rfl (hb hby at_254) rfl rfl ?_
      refine XS.iloadN X25.here hx rfl (hb hby at_256) rfl ?_
      refine XS.iconst X25.here hx rfl (hb hby at_257) ?_
      exact k
    have f26 : AI Z T25.heap b1 .int 4 (f0_g64 i0 i1 i2) := (f21.keep K25 (ninS ne_b1_b18 nin0))
    obtain ⟨_, _, ⟨T27, L27, k27, n27⟩, -, X27, ⟨Lc27, hQ27, l27, y27, z27⟩, st27⟩ := Jvm.LawKit.callS X25 hx (y := (⟨"com/example/ratatoskr/ratatoskr/ChoicesAdvancePinLaw", "ok", "([I[I[III)Z"⟩ : MethodName)) hown (mvT hZ (hw _ (List.mem_of_getElem? (i := 13) rfl))) (mvT hZ (hw _ (List.mem_of_getElem? (i := 14) rfl))) (mvT hZ (hw _ (List.mem_of_getElem? (i := 4) rfl))) (mvT hZ (hw _ (List.mem_of_getElem? (i := 15) rfl))) (by decide) (backOf (W := 0) (rmk0_0 l Z a0 hw [] b18 b16 b1 (fun _ => (0 : Int32)) (fun _ => (0 : Int32)) (f0_g64 i0 i1 i2) T25.heap n0 u25_0 u25_1 f26) hZ (hw _ (List.mem_of_getElem? (i := 15) rfl)) (hw _ (List.mem_of_getElem? (i := 4) rfl)) (by decide) (by decide)) (g := (mkF m 258 #[.val (.int i0), .val (.int i1), .val (.int i2), .val (.int (0 : Int32)), .val (.ref b1), .val (.ref b2), .val (.ref b16), .val (.ref b18), .val (.int (F_p0 (f0_g64 i0 i1 i2))), .val (.int (F_v0 (fun _ => (0 : Int32)) (f0_g64 i0 i1 i2))), .val (.int (F_a0 (fun _ => (0 : Int32)) (fun _ => (0 : Int32)))), .unset] [(.int (0 : Int32)), (.int (0 : Int32)), (.ref b1), (.ref b16), (.ref b18)])) rfl (by rw [hml]; rfl) (argsL := [(.ref b18), (.ref b16), (.ref b1), (.int (0 : Int32)), (.int (0 : Int32))]) (rest := []) (lenOf pd_3 rfl) rfl (by show 2 * 0 + _ ≤ _; exact Nat.le_of_eq rfl) (hb hby at_258) (fun _ _ => ⟨rfl, rfl, (by decide : 4 + 0 ≤ _), (by decide : 8 + 0 ≤ _)⟩)
    dsimp only [Pt.U, Pt.locs, Pt.cells, Pt.slots] at X27 l27 y27 z27 st27 hQ27
    subst l27 y27 z27
    obtain ⟨rfl, N27q, e27⟩ := hQ27
    have N27 := Fr.app N25 N27q
    obtain ⟨Lh27, X27, N27⟩ := hide X27 N27 (C := 4) (S := 8) (by decide) (by decide)
    refine Outs.of st27 ?_
    show Outs p e below s _ _ _ (T27.setTop (mkF m 261 #[.val (.int i0), .val (.int i1), .val (.int i2), .val (.int (0 : Int32)), .val (.ref b1), .val (.ref b2), .val (.ref b16), .val (.ref b18), .val (.int (F_p0 (f0_g64 i0 i1 i2))), .val (.int (F_v0 (fun _ => (0 : Int32)) (f0_g64 i0 i1 i2))), .val (.int (F_a0 (fun _ => (0 : Int32)) (fun _ => (0 : Int32)))), .unset] [(.int (F_k0_0 (fun _ => (0 : Int32)) (fun _ => (0 : Int32)) (f0_g64 i0 i1 i2)))]))
    refine Outs.of (U' := T27.setTop (mkF m 272 #[.val (.int i0), .val (.int i1), .val (.int i2), .val (.int (0 : Int32)), .val (.ref b1), .val (.ref b2), .val (.ref b16), .val (.ref b18), .val (.int (F_p0 (f0_g64 i0 i1 i2))), .val (.int (F_v0 (fun _ => (0 : Int32)) (f0_g64 i0 i1 i2))), .val (.int (F_a0 (fun _ => (0 : Int32)) (fun _ => (0 : Int32)))), .unset] [(.int (1 : Int32)), (.int (0 : Int32)), (.ref b1), (.ref b16), (.ref b18)])) (fun t k => ?_) ?_
    · refine XS.ifNo X27.here hx rfl (hb hby at_261) rfl ((if0 _ _).trans (feq (law_ok0_0 i0 i1 i2)).1) ?_
      refine XS.aload X27.here hx rfl (hb hby at_264) rfl rfl ?_
      refine XS.aload X27.here hx rfl (hb hby at_266) rfl rfl ?_
      refine XS.aload X27.here hx rfl (hb hby at_268) rfl rfl ?_
      refine XS.iloadN X27.here hx rfl (hb hby at_270) rfl ?_
      refine XS.iconst X27.here hx rfl (hb hby at_271) ?_
      exact k
    obtain ⟨_, _, ⟨T28, L28, k28, n28⟩, -, X28, ⟨Lc28, hQ28, l28, y28, z28⟩, st28⟩ := Jvm.LawKit.callS X27 hx (y := (⟨"com/example/ratatoskr/ratatoskr/ChoicesAdvancePinLaw", "ok", "([I[I[III)Z"⟩ : MethodName)) hown (mvT hZ (hw _ (List.mem_of_getElem? (i := 13) rfl))) (mvT hZ (hw _ (List.mem_of_getElem? (i := 14) rfl))) (mvT hZ (hw _ (List.mem_of_getElem? (i := 4) rfl))) (mvT hZ (hw _ (List.mem_of_getElem? (i := 15) rfl))) (by decide) (backOf (W := 0) (rmk0_1 l Z a0 hw [] b18 b16 b1 (fun _ => (0 : Int32)) (fun _ => (0 : Int32)) (f0_g64 i0 i1 i2) T25.heap n0 u25_0 u25_1 f26) hZ (hw _ (List.mem_of_getElem? (i := 15) rfl)) (hw _ (List.mem_of_getElem? (i := 4) rfl)) (by decide) (by decide)) (g := (mkF m 272 #[.val (.int i0), .val (.int i1), .val (.int i2), .val (.int (0 : Int32)), .val (.ref b1), .val (.ref b2), .val (.ref b16), .val (.ref b18), .val (.int (F_p0 (f0_g64 i0 i1 i2))), .val (.int (F_v0 (fun _ => (0 : Int32)) (f0_g64 i0 i1 i2))), .val (.int (F_a0 (fun _ => (0 : Int32)) (fun _ => (0 : Int32)))), .unset] [(.int (1 : Int32)), (.int (0 : Int32)), (.ref b1), (.ref b16), (.ref b18)])) rfl (by rw [hml]; rfl) (argsL := [(.ref b18), (.ref b16), (.ref b1), (.int (0 : Int32)), (.int (1 : Int32))]) (rest := []) (lenOf pd_3 rfl) rfl (by show 2 * 0 + _ ≤ _; exact Nat.le_of_eq rfl) (hb hby at_272) (fun _ _ => ⟨rfl, e27, (by decide : 4 + 0 ≤ _), (by decide : 8 + 0 ≤ _)⟩)
    dsimp only [Pt.U, Pt.locs, Pt.cells, Pt.slots] at X28 l28 y28 z28 st28 hQ28
    subst l28 y28 z28
    obtain ⟨rfl, N28q, e28⟩ := hQ28
    have N28 := Fr.app N27 N28q
    obtain ⟨Lh28, X28, N28⟩ := hide X28 N28 (C := 4) (S := 8) (by decide) (by decide)
    refine Outs.of st28 ?_
    show Outs p e below s _ _ _ (T28.setTop (mkF m 275 #[.val (.int i0), .val (.int i1), .val (.int i2), .val (.int (0 : Int32)), .val (.ref b1), .val (.ref b2), .val (.ref b16), .val (.ref b18), .val (.int (F_p0 (f0_g64 i0 i1 i2))), .val (.int (F_v0 (fun _ => (0 : Int32)) (f0_g64 i0 i1 i2))), .val (.int (F_a0 (fun _ => (0 : Int32)) (fun _ => (0 : Int32)))), .unset] [(.int (F_k0_1 (fun _ => (0 : Int32)) (fun _ => (0 : Int32)) (f0_g64 i0 i1 i2)))]))
    refine Outs.of (U' := T28.setTop (mkF m 286 #[.val (.int i0), .val (.int i1), .val (.int i2), .val (.int (0 : Int32)), .val (.ref b1), .val (.ref b2), .val (.ref b16), .val (.ref b18), .val (.int (F_p0 (f0_g64 i0 i1 i2))), .val (.int (F_v0 (fun _ => (0 : Int32)) (f0_g64 i0 i1 i2))), .val (.int (F_a0 (fun _ => (0 : Int32)) (fun _ => (0 : Int32)))), .unset] [(.int (2 : Int32)), (.int (0 : Int32)), (.ref b1), (.ref b16), (.ref b18)])) (fun t k => ?_) ?_
    · refine XS.ifNo X28.here hx rfl (hb hby at_275) rfl ((if0 _ _).trans (feq (law_ok0_1 i0 i1 i2)).1) ?_
      refine XS.aload X28.here hx rfl (hb hby at_278) rfl rfl ?_
      refine XS.aload X28.here hx rfl (hb hby at_280) rfl rfl ?_
      refine XS.aload X28.here hx rfl (hb hby at_282) rfl rfl ?_
      refine XS.iloadN X28.here hx rfl (hb hby at_284) rfl ?_
      refine XS.iconst X28.here hx rfl (hb hby at_285) ?_
      exact k
    obtain ⟨_, _, ⟨T29, L29, k29, n29⟩, -, X29, ⟨Lc29, hQ29, l29, y29, z29⟩, st29⟩ := Jvm.LawKit.callS X28 hx (y := (⟨"com/example/ratatoskr/ratatoskr/ChoicesAdvancePinLaw", "ok", "([I[I[III)Z"⟩ : MethodName)) hown (mvT hZ (hw _ (List.mem_of_getElem? (i := 13) rfl))) (mvT hZ (hw _ (List.mem_of_getElem? (i := 14) rfl))) (mvT hZ (hw _ (List.mem_of_getElem? (i := 4) rfl))) (mvT hZ (hw _ (List.mem_of_getElem? (i := 15) rfl))) (by decide) (backOf (W := 0) (rmk0_2 l Z a0 hw [] b18 b16 b1 (fun _ => (0 : Int32)) (fun _ => (0 : Int32)) (f0_g64 i0 i1 i2) T25.heap n0 u25_0 u25_1 f26) hZ (hw _ (List.mem_of_getElem? (i := 15) rfl)) (hw _ (List.mem_of_getElem? (i := 4) rfl)) (by decide) (by decide)) (g := (mkF m 286 #[.val (.int i0), .val (.int i1), .val (.int i2), .val (.int (0 : Int32)), .val (.ref b1), .val (.ref b2), .val (.ref b16), .val (.ref b18), .val (.int (F_p0 (f0_g64 i0 i1 i2))), .val (.int (F_v0 (fun _ => (0 : Int32)) (f0_g64 i0 i1 i2))), .val (.int (F_a0 (fun _ => (0 : Int32)) (fun _ => (0 : Int32)))), .unset] [(.int (2 : Int32)), (.int (0 : Int32)), (.ref b1), (.ref b16), (.ref b18)])) rfl (by rw [hml]; rfl) (argsL := [(.ref b18), (.ref b16), (.ref b1), (.int (0 : Int32)), (.int (2 : Int32))]) (rest := []) (lenOf pd_3 rfl) rfl (by show 2 * 0 + _ ≤ _; exact Nat.le_of_eq rfl) (hb hby at_286) (fun _ _ => ⟨rfl, e28, (by decide : 4 + 0 ≤ _), (by decide : 8 + 0 ≤ _)⟩)
    dsimp only [Pt.U, Pt.locs, Pt.cells, Pt.slots] at X29 l29 y29 z29 st29 hQ29
    subst l29 y29 z29
    obtain ⟨rfl, N29q, e29⟩ := hQ29
    have N29 := Fr.app N28 N29q
    obtain ⟨Lh29, X29, N29⟩ := hide X29 N29 (C := 4) (S := 8) (by decide) (by decide)
    refine Outs.of st29 ?_
    show Outs p e below s _ _ _ (T29.setTop (mkF m 289 #[.val (.int i0), .val (.int i1), .val (.int i2), .val (.int (0 : Int32)), .val (.ref b1), .val (.ref b2), .val (.ref b16), .val (.ref b18), .val (.int (F_p0 (f0_g64 i0 i1 i2))), .val (.int (F_v0 (fun _ => (0 : Int32)) (f0_g64 i0 i1 i2))), .val (.int (F_a0 (fun _ => (0 : Int32)) (fun _ => (0 : Int32)))), .unset] [(.int (F_k0_2 (fun _ => (0 : Int32)) (fun _ => (0 : Int32)) (f0_g64 i0 i1 i2)))]))
    refine Outs.of (U' := T29.setTop (mkF m 300 #[.val (.int i0), .val (.int i1), .val (.int i2), .val (.int (0 : Int32)), .val (.ref b1), .val (.ref b2), .val (.ref b16), .val (.ref b18), .val (.int (F_p0 (f0_g64 i0 i1 i2))), .val (.int (F_v0 (fun _ => (0 : Int32)) (f0_g64 i0 i1 i2))), .val (.int (F_a0 (fun _ => (0 : Int32)) (fun _ => (0 : Int32)))), .unset] [(.int (3 : Int32)), (.int (0 : Int32)), (.ref b1), (.ref b16), (.ref b18)])) (fun t k => ?_) ?_
    · refine XS.ifNo X29.here hx rfl (hb hby at_289) rfl ((if0 _ _).trans (feq (law_ok0_2 i0 i1 i2)).1) ?_
      refine XS.aload X29.here hx rfl (hb hby at_292) rfl rfl ?_
      refine XS.aload X29.here hx rfl (hb hby at_294) rfl rfl ?_
      refine XS.aload X29.here hx rfl (hb hby at_296) rfl rfl ?_
      refine XS.iloadN X29.here hx rfl (hb hby at_298) rfl ?_
      refine XS.iconst X29.here hx rfl (hb hby at_299) ?_
      exact k
    obtain ⟨_, _, ⟨T30, L30, k30, n30⟩, -, X30, ⟨Lc30, hQ30, l30, y30, z30⟩, st30⟩ := Jvm.LawKit.callS X29 hx (y := (⟨"com/example/ratatoskr/ratatoskr/ChoicesAdvancePinLaw", "ok", "([I[I[III)Z"⟩ : MethodName)) hown (mvT hZ (hw _ (List.mem_of_getElem? (i := 13) rfl))) (mvT hZ (hw _ (List.mem_of_getElem? (i := 14) rfl))) (mvT hZ (hw _ (List.mem_of_getElem? (i := 4) rfl))) (mvT hZ (hw _ (List.mem_of_getElem? (i := 15) rfl))) (by decide) (backOf (W := 0) (rmk0_3 l Z a0 hw [] b18 b16 b1 (fun _ => (0 : Int32)) (fun _ => (0 : Int32)) (f0_g64 i0 i1 i2) T25.heap n0 u25_0 u25_1 f26) hZ (hw _ (List.mem_of_getElem? (i := 15) rfl)) (hw _ (List.mem_of_getElem? (i := 4) rfl)) (by decide) (by decide)) (g := (mkF m 300 #[.val (.int i0), .val (.int i1), .val (.int i2), .val (.int (0 : Int32)), .val (.ref b1), .val (.ref b2), .val (.ref b16), .val (.ref b18), .val (.int (F_p0 (f0_g64 i0 i1 i2))), .val (.int (F_v0 (fun _ => (0 : Int32)) (f0_g64 i0 i1 i2))), .val (.int (F_a0 (fun _ => (0 : Int32)) (fun _ => (0 : Int32)))), .unset] [(.int (3 : Int32)), (.int (0 : Int32)), (.ref b1), (.ref b16), (.ref b18)])) rfl (by rw [hml]; rfl) (argsL := [(.ref b18), (.ref b16), (.ref b1), (.int (0 : Int32)), (.int (3 : Int32))]) (rest := []) (lenOf pd_3 rfl) rfl (by show 2 * 0 + _ ≤ _; exact Nat.le_of_eq rfl) (hb hby at_300) (fun _ _ => ⟨rfl, e29, (by decide : 4 + 0 ≤ _), (by decide : 8 + 0 ≤ _)⟩)
    dsimp only [Pt.U, Pt.locs, Pt.cells, Pt.slots] at X30 l30 y30 z30 st30 hQ30
    subst l30 y30 z30
    obtain ⟨rfl, N30q, e30⟩ := hQ30
    have N30 := Fr.app N29 N30q
    obtain ⟨Lh30, X30, N30⟩ := hide X30 N30 (C := 4) (S := 8) (by decide) (by decide)
    refine Outs.of st30 ?_
    show Outs p e below s _ _ _ (T30.setTop (mkF m 303 #[.val (.int i0), .val (.int i1), .val (.int i2), .val (.int (0 : Int32)), .val (.ref b1), .val (.ref b2), .val (.ref b16), .val (.ref b18), .val (.int (F_p0 (f0_g64 i0 i1 i2))), .val (.int (F_v0 (fun _ => (0 : Int32)) (f0_g64 i0 i1 i2))), .val (.int (F_a0 (fun _ => (0 : Int32)) (fun _ => (0 : Int32)))), .unset] [(.int (F_k0_3 (fun _ => (0 : Int32)) (fun _ => (0 : Int32)) (f0_g64 i0 i1 i2)))]))
    refine Outs.of (U' := T30.setTop (mkF m 313 #[.val (.int i0), .val (.int i1), .val (.int i2), .val (.int (0 : Int32)), .val (.ref b1), .val (.ref b2), .val (.ref b16), .val (.ref b18), .val (.int (F_p0 (f0_g64 i0 i1 i2))), .val (.int (F_v0 (fun _ => (0 : Int32)) (f0_g64 i0 i1 i2))), .val (.int (F_a0 (fun _ => (0 : Int32)) (fun _ => (0 : Int32)))), .unset] [(.int (0 : Int32)), (.ref b1), (.ref b18)])) (fun t k => ?_) ?_
    · refine XS.ifYes X30.here hx rfl (pc0 := 303) (pc' := 308) rfl (hb hby at_303) rfl ((if0 _ _).trans (feq (law_ok0_3 i0 i1 i2)).2) (by decide) (by decide) ?_
      refine XS.aload X30.here hx rfl (hb hby at_308) rfl rfl ?_
      refine XS.aload X30.here hx rfl (hb hby at_310) rfl rfl ?_
      refine XS.iloadN X30.here hx rfl (hb hby at_312) rfl ?_
      exact k
    obtain ⟨_, _, ⟨T31, L31, k31, n31⟩, -, X31, ⟨Lc31, hQ31, l31, y31, z31⟩, st31⟩ := Jvm.LawKit.callS X30 hx (y := (⟨"com/example/ratatoskr/ratatoskr/ChoicesAdvancePinLaw", "val", "([I[II)I"⟩ : MethodName)) hown (mvT hZ (hw _ (List.mem_of_getElem? (i := 6) rfl))) (mvT hZ (hw _ (List.mem_of_getElem? (i := 7) rfl))) (mvT hZ (hw _ (List.mem_of_getElem? (i := 4) rfl))) (mvT hZ (hw _ (List.mem_of_getElem? (i := 8) rfl))) (by decide) (backOf (W := 0) (rmv0 l Z a0 hw [] b18 b1 (fun _ => (0 : Int32)) (f0_g64 i0 i1 i2) T25.heap n0 u25_0 f26) hZ (hw _ (List.mem_of_getElem? (i := 8) rfl)) (hw _ (List.mem_of_getElem? (i := 4) rfl)) (by decide) (by decide)) (g := (mkF m 313 #[.val (.int i0), .val (.int i1), .val (.int i2), .val (.int (0 : Int32)), .val (.ref b1), .val (.ref b2), .val (.ref b16), .val (.ref b18), .val (.int (F_p0 (f0_g64 i0 i1 i2))), .val (.int (F_v0 (fun _ => (0 : Int32)) (f0_g64 i0 i1 i2))), .val (.int (F_a0 (fun _ => (0 : Int32)) (fun _ => (0 : Int32)))), .unset] [(.int (0 : Int32)), (.ref b1), (.ref b18)])) rfl (by rw [hml]; rfl) (argsL := [(.ref b18), (.ref b1), (.int (0 : Int32))]) (rest := []) (lenOf pd_1 rfl) rfl (by show 2 * 0 + _ ≤ _; exact Nat.le_of_eq rfl) (hb hby at_313) (fun _ _ => ⟨rfl, e30, (by decide : 4 + 0 ≤ _), (by decide : 8 + 0 ≤ _)⟩)
    dsimp only [Pt.U, Pt.locs, Pt.cells, Pt.slots] at X31 l31 y31 z31 st31 hQ31
    subst l31 y31 z31
    obtain ⟨rfl, N31q, e31⟩ := hQ31
    have N31 := Fr.app N30 N31q
    obtain ⟨Lh31, X31, N31⟩ := hide X31 N31 (C := 4) (S := 8) (by decide) (by decide)
    refine Outs.of st31 ?_
    show Outs p e below s _ _ _ (T31.setTop (mkF m 316 #[.val (.int i0), .val (.int i1), .val (.int i2), .val (.int (0 : Int32)), .val (.ref b1), .val (.ref b2), .val (.ref b16), .val (.ref b18), .val (.int (F_p0 (f0_g64 i0 i1 i2))), .val (.int (F_v0 (fun _ => (0 : Int32)) (f0_g64 i0 i1 i2))), .val (.int (F_a0 (fun _ => (0 : Int32)) (fun _ => (0 : Int32)))), .unset] [(.int (F_v0 (fun _ => (0 : Int32)) (f0_g64 i0 i1 i2)))]))
    refine Outs.of (U' := T31.setTop (mkF m 324 #[.val (.int i0), .val (.int i1), .val (.int i2), .val (.int (0 : Int32)), .val (.ref b1), .val (.ref b2), .val (.ref b16), .val (.ref b18), .val (.int (F_p0 (f0_g64 i0 i1 i2))), .val (.int (F_v0 (fun _ => (0 : Int32)) (f0_g64 i0 i1 i2))), .val (.int (F_a0 (fun _ => (0 : Int32)) (fun _ => (0 : Int32)))), .val (.int (F_v0 (fun _ => (0 : Int32)) (f0_g64 i0 i1 i2)))] [(.int (F_p0 (f0_g64 i0 i1 i2))), (.int ((F_v0 (fun _ => (0 : Int32)) (f0_g64 i0 i1 i2)) + (1 : Int32)))])) (fun t k => ?_) ?_
    · refine XS.istore X31.here hx rfl (hb hby at_316) rfl (l' := #[.val (.int i0), .val (.int i1), .val (.int i2), .val (.int (0 : Int32)), .val (.ref b1), .val (.ref b2), .val (.ref b16), .val (.ref b18), .val (.int (F_p0 (f0_g64 i0 i1 i2))), .val (.int (F_v0 (fun _ => (0 : Int32)) (f0_g64 i0 i1 i2))), .val (.int (F_a0 (fun _ => (0 : Int32)) (fun _ => (0 : Int32)))), .val (.int (F_v0 (fun _ => (0 : Int32)) (f0_g64 i0 i1 i2)))]) rfl ?_
      refine XS.iload X31.here hx rfl (hb hby at_318) rfl ?_
      refine XS.iconst X31.here hx rfl (hb hby at_320) ?_
      refine XS.iadd X31.here hx rfl (hb hby at_321) rfl ?_
      refine XS.iload X31.here hx rfl (hb hby at_322) rfl ?_
      exact k
    by_cases hc324 : ((F_v0 (fun _ => (0 : Int32)) (f0_g64 i0 i1 i2)) + (1 : Int32)) < (F_p0 (f0_g64 i0 i1 i2))
    · refine Outs.of (U' := T31.setTop (mkF m 327 #[.val (.int i0), .val (.int i1), .val (.int i2), .val (.int (0 : Int32)), .val (.ref b1), .val (.ref b2), .val (.ref b16), .val (.ref b18), .val (.int (F_p0 (f0_g64 i0 i1 i2))), .val (.int (F_v0 (fun _ => (0 : Int32)) (f0_g64 i0 i1 i2))), .val (.int (F_a0 (fun _ => (0 : Int32)) (fun _ => (0 : Int32)))), .val (.int (F_v0 (fun _ => (0 : Int32)) (f0_g64 i0 i1 i2)))] [])) (fun t k => ?_) ?_
      · refine XS.icmpNo X31.here hx rfl (hb hby at_324) rfl (tlt hc324).2.1 ?_
        exact k
      refine Outs.of (U' := T31.setTop (mkF m 346 #[.val (.int i0), .val (.int i1), .val (.int i2), .val (.int (0 : Int32)), .val (.ref b1), .val (.ref b2), .val (.ref b16), .val (.ref b18), .val (.int (F_p0 (f0_g64 i0 i1 i2))), .val (.int (F_v0 (fun _ => (0 : Int32)) (f0_g64 i0 i1 i2))), .val (.int (F_a0 (fun _ => (0 : Int32)) (fun _ => (0 : Int32)))), .val (.int (F_v0 (fun _ => (0 : Int32)) (f0_g64 i0 i1 i2)))] [(.int (f0_329_s0 i0 i1 i2))])) (fun t k => ?_) ?_
      · refine XS.iload X31.here hx rfl (hb hby at_327) rfl ?_
        by_cases hc329 : (F_a0 (fun _ => (0 : Int32)) (fun _ => (0 : Int32))) = (0 : Int32)
        · refine XS.ifYes X31.here hx rfl (pc0 := 329) (pc' := 345) rfl (hb hby at_329) rfl ((if0 _ _).trans (teq hc329).1) (by decide) (by decide) ?_
          refine XS.iconst X31.here hx rfl (hb hby at_345) ?_
          rw [show (f0_329_s0 i0 i1 i2) = (0 : Int32) from (if_pos hc329)] at k
          exact k
        · refine XS.ifNo X31.here hx rfl (hb hby at_329) rfl ((if0 _ _).trans (feq hc329).1) ?_
          refine XS.iload X31.here hx rfl (hb hby at_332) rfl ?_
          refine XS.iload X31.here hx rfl (hb hby at_334) rfl ?_
          refine XS.iconst X31.here hx rfl (hb hby at_336) ?_
          refine XS.iadd X31.here hx rfl (hb hby at_337) rfl ?_
          by_cases hc338 : (F_v0 (fun _ => (0 : Int32)) (f0_g64 i0 i1 i2)) = ((F_v0 (fun _ => (0 : Int32)) (f0_g64 i0 i1 i2)) + (1 : Int32))
          · refine XS.icmpNo X31.here hx rfl (hb hby at_338) rfl (teq hc338).2 ?_
            refine XS.iconst X31.here hx rfl (hb hby at_341) ?_
            refine XS.goto X31.here hx rfl (pc0 := 342) (pc' := 346) rfl (hb hby at_342) (by decide) (by decide) ?_
            rw [show (f0_329_s0 i0 i1 i2) = (1 : Int32) from ((if_neg hc329).trans (if_pos hc338))] at k
            exact k
          · refine XS.icmpYes X31.here hx rfl (pc0 := 338) (pc' := 345) rfl (hb hby at_338) rfl (feq hc338).2 (by decide) (by decide) ?_
            refine XS.iconst X31.here hx rfl (hb hby at_345) ?_
            rw [show (f0_329_s0 i0 i1 i2) = (0 : Int32) from ((if_neg hc329).trans (if_neg hc338))] at k
            exact k
      exact Outs.retN (t := .boolean) (z := (f0_329_s0 i0 i1 i2)) X31 hx hret (by simp) (hb hby at_346) hlk (by decide) (by decide) e31 ⟨congrArg (fun z_ => some (Value.int z_)) (law_f0_329_s0 i0 i1 i2 hc324), N31⟩
    · refine Outs.of (U' := T31.setTop (mkF m 347 #[.val (.int i0), .val (.int i1), .val (.int i2), .val (.int (0 : Int32)), .val (.ref b1), .val (.ref b2), .val (.ref b16), .val (.ref b18), .val (.int (F_p0 (f0_g64 i0 i1 i2))), .val (.int (F_v0 (fun _ => (0 : Int32)) (f0_g64 i0 i1 i2))), .val (.int (F_a0 (fun _ => (0 : Int32)) (fun _ => (0 : Int32)))), .val (.int (F_v0 (fun _ => (0 : Int32)) (f0_g64 i0 i1 i2)))] [])) (fun t k => ?_) ?_
      · refine XS.icmpYes X31.here hx rfl (pc0 := 324) (pc' := 347) rfl (hb hby at_324) rfl (flt hc324).2.1 (by decide) (by decide) ?_
        exact k
      refine Outs.of (U' := T31.setTop (mkF m 362 #[.val (.int i0), .val (.int i1), .val (.int i2), .val (.int (0 : Int32)), .val (.ref b1), .val (.ref b2), .val (.ref b16), .val (.ref b18), .val (.int (F_p0 (f0_g64 i0 i1 i2))), .val (.int (F_v0 (fun _ => (0 : Int32)) (f0_g64 i0 i1 i2))), .val (.int (F_a0 (fun _ => (0 : Int32)) (fun _ => (0 : Int32)))), .val (.int (F_v0 (fun _ => (0 : Int32)) (f0_g64 i0 i1 i2)))] [(.int (f0_349_s0 i0 i1 i2))])) (fun t k => ?_) ?_
      · refine XS.iload X31.here hx rfl (hb hby at_347) rfl ?_
        by_cases hc349 : (F_a0 (fun _ => (0 : Int32)) (fun _ => (0 : Int32))) = (0 : Int32)
        · refine XS.ifNo X31.here hx rfl (hb hby at_349) rfl ((if0 _ _).trans (teq hc349).2) ?_
          refine XS.iload X31.here hx rfl (hb hby at_352) rfl ?_
          by_cases hc354 : (F_v0 (fun _ => (0 : Int32)) (f0_g64 i0 i1 i2)) = (0 : Int32)
          · refine XS.ifNo X31.here hx rfl (hb hby at_354) rfl ((if0 _ _).trans (teq hc354).2) ?_
            refine XS.iconst X31.here hx rfl (hb hby at_357) ?_
            refine XS.goto X31.here hx rfl (pc0 := 358) (pc' := 362) rfl (hb hby at_358) (by decide) (by decide) ?_
            rw [show (f0_349_s0 i0 i1 i2) = (1 : Int32) from ((if_pos hc349).trans (if_pos hc354))] at k
            exact k
          · refine XS.ifYes X31.here hx rfl (pc0 := 354) (pc' := 361) rfl (hb hby at_354) rfl ((if0 _ _).trans (feq hc354).2) (by decide) (by decide) ?_
            refine XS.iconst X31.here hx rfl (hb hby at_361) ?_
            rw [show (f0_349_s0 i0 i1 i2) = (0 : Int32) from ((if_pos hc349).trans (if_neg hc354))] at k
            exact k
        · refine XS.ifYes X31.here hx rfl (pc0 := 349) (pc' := 361) rfl (hb hby at_349) rfl ((if0 _ _).trans (feq hc349).2) (by decide) (by decide) ?_
          refine XS.iconst X31.here hx rfl (hb hby at_361) ?_
          rw [show (f0_349_s0 i0 i1 i2) = (0 : Int32) from (if_neg hc349)] at k
          exact k
      exact Outs.retN (t := .boolean) (z := (f0_349_s0 i0 i1 i2)) X31 hx hret (by simp) (hb hby at_362) hlk (by decide) (by decide) e31 ⟨congrArg (fun z_ => some (Value.int z_)) (law_f0_349_s0 i0 i1 i2 hc324), N31⟩
  · rw [q]
    show Outs p e below s _ _ _ (T15.setTop (mkF m 130 #[.val (.int i0), .val (.int i1), .val (.int i2), .val (.int (1 : Int32)), .val (.ref b1), .val (.ref b2), .unset, .unset, .unset, .unset, .unset, .unset] []))
    refine Outs.of (U' := T15.setTop (mkF m 131 #[.val (.int i0), .val (.int i1), .val (.int i2), .val (.int (1 : Int32)), .val (.ref b1), .val (.ref b2), .unset, .unset, .unset, .unset, .unset, .unset] [(.int (1 : Int32))])) (fun t k => ?_) ?_
    · refine XS.iloadN X15.here hx rfl (hb hby at_130) rfl ?_
      exact k
    have f33 : AI Z h15 b1 .int 4 (f0_g64 i0 i1 i2) := (f14.other W15 ne_b1_b2)
    obtain ⟨T32, h32, X32, e32, E32, A32, st32⟩ := newAF X15 hx hZ (aty := .int) (hw _ (List.mem_of_getElem? (i := 1) rfl)) e15 (f := (mkF m 131 #[.val (.int i0), .val (.int i1), .val (.int i2), .val (.int (1 : Int32)), .val (.ref b1), .val (.ref b2), .unset, .unset, .unset, .unset, .unset, .unset] [(.int (1 : Int32))])) rfl (hb hby at_131) rfl (k := 1) rfl (cap := 1) (by decide) (by decide) (by decide) (by decide)
    obtain ⟨b32, g32⟩ : ∃ z, z = h15.size := ⟨_, rfl⟩
    rw [← g32] at A32 st32
    have g_b32 : n0 ≤ b32 := Nat.le_trans (Nat.le_trans (Nat.le_trans (Nat.le_trans (Nat.le_trans (Nat.le_trans (Nat.le_trans (Nat.le_trans (Nat.le_trans (Nat.le_trans (Nat.le_trans Z0 E1.1) E2.1) (Keep.of_wr W4).1) (Keep.of_wr W5).1) (Keep.of_wr W6).1) (Keep.of_wr W7).1) (Keep.of_wr W9).1) (Keep.of_wr W11).1) (Keep.of_wr W13).1) (Keep.of_wr W15).1) (Nat.le_of_eq g32.symm)
    have ne_b1_b32 : b1 ≠ b32 := Nat.ne_of_lt (Nat.lt_of_lt_of_eq f33.lt g32.symm)
    have ne_b2_b32 : b2 ≠ b32 := Nat.ne_of_lt (Nat.lt_of_lt_of_eq V15.lt g32.symm)
    have V32 : AI Z h32 b32 .int 1 (fun _ => (0 : Int32)) := A32
    refine Outs.of st32 ?_
    show Outs p e below s _ _ _ (T32.setTop (mkF m 133 #[.val (.int i0), .val (.int i1), .val (.int i2), .val (.int (1 : Int32)), .val (.ref b1), .val (.ref b2), .unset, .unset, .unset, .unset, .unset, .unset] [(.ref b32)]))
    refine Outs.of (U' := T32.setTop (mkF m 136 #[.val (.int i0), .val (.int i1), .val (.int i2), .val (.int (1 : Int32)), .val (.ref b1), .val (.ref b2), .val (.ref b32), .unset, .unset, .unset, .unset, .unset] [(.int (1 : Int32))])) (fun t k => ?_) ?_
    · refine XS.astore X32.here hx rfl (hb hby at_133) rfl rfl (l' := #[.val (.int i0), .val (.int i1), .val (.int i2), .val (.int (1 : Int32)), .val (.ref b1), .val (.ref b2), .val (.ref b32), .unset, .unset, .unset, .unset, .unset]) rfl ?_
      refine XS.iloadN X32.here hx rfl (hb hby at_135) rfl ?_
      exact k
    have f35 : AI Z h32 b1 .int 4 (f0_g64 i0 i1 i2) := (f33.ext E32)
    have f36 : AI Z h32 b2 .int 4 (f0_g129 i0 i1 i2) := (V15.ext E32)
    obtain ⟨T34, h34, X34, e34, E34, A34, st34⟩ := newAF X32 hx hZ (aty := .int) (hw _ (List.mem_of_getElem? (i := 1) rfl)) e32 (f := (mkF m 136 #[.val (.int i0), .val (.int i1), .val (.int i2), .val (.int (1 : Int32)), .val (.ref b1), .val (.ref b2), .val (.ref b32), .unset, .unset, .unset, .unset, .unset] [(.int (1 : Int32))])) rfl (hb hby at_136) rfl (k := 1) rfl (cap := 1) (by decide) (by decide) (by decide) (by decide)
    obtain ⟨b34, g34⟩ : ∃ z, z = h32.size := ⟨_, rfl⟩
    rw [← g34] at A34 st34
    have g_b34 : n0 ≤ b34 := Nat.le_trans (Nat.le_trans (Nat.le_trans (Nat.le_trans (Nat.le_trans (Nat.le_trans (Nat.le_trans (Nat.le_trans (Nat.le_trans (Nat.le_trans (Nat.le_trans (Nat.le_trans Z0 E1.1) E2.1) (Keep.of_wr W4).1) (Keep.of_wr W5).1) (Keep.of_wr W6).1) (Keep.of_wr W7).1) (Keep.of_wr W9).1) (Keep.of_wr W11).1) (Keep.of_wr W13).1) (Keep.of_wr W15).1) E32.1) (Nat.le_of_eq g34.symm)
    have ne_b1_b34 : b1 ≠ b34 := Nat.ne_of_lt (Nat.lt_of_lt_of_eq f35.lt g34.symm)
    have ne_b2_b34 : b2 ≠ b34 := Nat.ne_of_lt (Nat.lt_of_lt_of_eq f36.lt g34.symm)
    have ne_b32_b34 : b32 ≠ b34 := Nat.ne_of_lt (Nat.lt_of_lt_of_eq V32.lt g34.symm)
    have V34 : AI Z h34 b34 .int 1 (fun _ => (0 : Int32)) := A34
    refine Outs.of st34 ?_
    show Outs p e below s _ _ _ (T34.setTop (mkF m 138 #[.val (.int i0), .val (.int i1), .val (.int i2), .val (.int (1 : Int32)), .val (.ref b1), .val (.ref b2), .val (.ref b32), .unset, .unset, .unset, .unset, .unset] [(.ref b34)]))
    refine Outs.of (U' := T34.setTop (mkF m 150 #[.val (.int i0), .val (.int i1), .val (.int i2), .val (.int (1 : Int32)), .val (.ref b1), .val (.ref b2), .val (.ref b32), .val (.ref b34), .unset, .unset, .unset, .unset] [(.int (0 : Int32)), (.ref b1), (.int (0 : Int32)), (.ref b32)])) (fun t k => ?_) ?_
    · refine XS.astore X34.here hx rfl (hb hby at_138) rfl rfl (l' := #[.val (.int i0), .val (.int i1), .val (.int i2), .val (.int (1 : Int32)), .val (.ref b1), .val (.ref b2), .val (.ref b32), .val (.ref b34), .unset, .unset, .unset, .unset]) rfl ?_
      refine XS.iloadN X34.here hx rfl (hb hby at_140) rfl ?_
      refine XS.ifNo X34.here hx rfl (hb hby at_141) rfl ((if0 _ _).trans (tlt (by decide)).2.2.2) ?_
      refine XS.aload X34.here hx rfl (hb hby at_144) rfl rfl ?_
      refine XS.iconst X34.here hx rfl (hb hby at_146) ?_
      refine XS.aload X34.here hx rfl (hb hby at_147) rfl rfl ?_
      refine XS.iconst X34.here hx rfl (hb hby at_149) ?_
      exact k
    have f37 : AI Z h34 b1 .int 4 (f0_g64 i0 i1 i2) := (f35.ext E34)
    refine Outs.of (ldI X34 hx hZ e34 f37 (j := (0 : Int32)) (k := 0) rfl (by decide) (f := (mkF m 150 #[.val (.int i0), .val (.int i1), .val (.int i2), .val (.int (1 : Int32)), .val (.ref b1), .val (.ref b2), .val (.ref b32), .val (.ref b34), .unset, .unset, .unset, .unset] [(.int (0 : Int32)), (.ref b1), (.int (0 : Int32)), (.ref b32)])) rfl rfl (hb hby at_150)) ?_
    show Outs p e below s _ _ _ (T34.setTop (mkF m 151 #[.val (.int i0), .val (.int i1), .val (.int i2), .val (.int (1 : Int32)), .val (.ref b1), .val (.ref b2), .val (.ref b32), .val (.ref b34), .unset, .unset, .unset, .unset] [(.int ((f0_g64 i0 i1 i2) 0)), (.int (0 : Int32)), (.ref b32)]))
    have f38 : AI Z h34 b32 .int 1 (fun _ => (0 : Int32)) := (V32.ext E34)
    obtain ⟨T39, h39, X39, e39, W39, V39, st39⟩ := puI X34 hx hZ e34 f38 (j := (0 : Int32)) (x := ((f0_g64 i0 i1 i2) 0)) (k := 0) rfl (by decide) (f := (mkF m 151 #[.val (.int i0), .val (.int i1), .val (.int i2), .val (.int (1 : Int32)), .val (.ref b1), .val (.ref b2), .val (.ref b32), .val (.ref b34), .unset, .unset, .unset, .unset] [(.int ((f0_g64 i0 i1 i2) 0)), (.int (0 : Int32)), (.ref b32)])) rfl rfl (hb hby at_151)
    replace V39 : AI Z h39 b32 .int 1 (f0_g151 i0 i1 i2) := V39
    have N39 := Fr.snoc X39 N15 g_b32
    obtain ⟨Lh39, X39, N39⟩ := hide X39 N39 (C := 4) (S := 10) (by decide) (by decide)
    refine Outs.of st39 ?_
    show Outs p e below s _ _ _ (T39.setTop (mkF m 152 #[.val (.int i0), .val (.int i1), .val (.int i2), .val (.int (1 : Int32)), .val (.ref b1), .val (.ref b2), .val (.ref b32), .val (.ref b34), .unset, .unset, .unset, .unset] []))
    refine Outs.of (U' := T39.setTop (mkF m 158 #[.val (.int i0), .val (.int i1), .val (.int i2), .val (.int (1 : Int32)), .val (.ref b1), .val (.ref b2), .val (.ref b32), .val (.ref b34), .unset, .unset, .unset, .unset] [(.int (0 : Int32)), (.ref b2), (.int (0 : Int32)), (.ref b34)])) (fun t k => ?_) ?_
    · refine XS.aload X39.here hx rfl (hb hby at_152) rfl rfl ?_
      refine XS.iconst X39.here hx rfl (hb hby at_154) ?_
      refine XS.aload X39.here hx rfl (hb hby at_155) rfl rfl ?_
      refine XS.iconst X39.here hx rfl (hb hby at_157) ?_
      exact k
    have f40 : AI Z h39 b2 .int 4 (f0_g129 i0 i1 i2) := ((f36.ext E34).other W39 ne_b2_b32)
    refine Outs.of (ldI X39 hx hZ e39 f40 (j := (0 : Int32)) (k := 0) rfl (by decide) (f := (mkF m 158 #[.val (.int i0), .val (.int i1), .val (.int i2), .val (.int (1 : Int32)), .val (.ref b1), .val (.ref b2), .val (.ref b32), .val (.ref b34), .unset, .unset, .unset, .unset] [(.int (0 : Int32)), (.ref b2), (.int (0 : Int32)), (.ref b34)])) rfl rfl (hb hby at_158)) ?_
    show Outs p e below s _ _ _ (T39.setTop (mkF m 159 #[.val (.int i0), .val (.int i1), .val (.int i2), .val (.int (1 : Int32)), .val (.ref b1), .val (.ref b2), .val (.ref b32), .val (.ref b34), .unset, .unset, .unset, .unset] [(.int ((f0_g129 i0 i1 i2) 0)), (.int (0 : Int32)), (.ref b34)]))
    have f41 : AI Z h39 b34 .int 1 (fun _ => (0 : Int32)) := (V34.other W39 ne_b32_b34.symm)
    obtain ⟨T42, h42, X42, e42, W42, V42, st42⟩ := puI X39 hx hZ e39 f41 (j := (0 : Int32)) (x := ((f0_g129 i0 i1 i2) 0)) (k := 0) rfl (by decide) (f := (mkF m 159 #[.val (.int i0), .val (.int i1), .val (.int i2), .val (.int (1 : Int32)), .val (.ref b1), .val (.ref b2), .val (.ref b32), .val (.ref b34), .unset, .unset, .unset, .unset] [(.int ((f0_g129 i0 i1 i2) 0)), (.int (0 : Int32)), (.ref b34)])) rfl rfl (hb hby at_159)
    replace V42 : AI Z h42 b34 .int 1 (f0_g159 i0 i1 i2) := V42
    have N42 := Fr.snoc X42 N39 g_b34
    obtain ⟨Lh42, X42, N42⟩ := hide X42 N42 (C := 4) (S := 10) (by decide) (by decide)
    refine Outs.of st42 ?_
    show Outs p e below s _ _ _ (T42.setTop (mkF m 160 #[.val (.int i0), .val (.int i1), .val (.int i2), .val (.int (1 : Int32)), .val (.ref b1), .val (.ref b2), .val (.ref b32), .val (.ref b34), .unset, .unset, .unset, .unset] []))
    refine Outs.of (U' := T42.setTop (mkF m 226 #[.val (.int i0), .val (.int i1), .val (.int i2), .val (.int (1 : Int32)), .val (.ref b1), .val (.ref b2), .val (.ref b32), .val (.ref b34), .unset, .unset, .unset, .unset] [(.int (1 : Int32)), (.ref b1)])) (fun t k => ?_) ?_
    · refine XS.iloadN X42.here hx rfl (hb hby at_160) rfl ?_
      refine XS.iconst X42.here hx rfl (hb hby at_161) ?_
      refine XS.icmpYes X42.here hx rfl (pc0 := 162) (pc' := 181) rfl (hb hby at_162) rfl (flt (by decide)).2.2.2 (by decide) (by decide) ?_
      refine XS.iloadN X42.here hx rfl (hb hby at_181) rfl ?_
      refine XS.iconst X42.here hx rfl (hb hby at_182) ?_
      refine XS.icmpYes X42.here hx rfl (pc0 := 183) (pc' := 202) rfl (hb hby at_183) rfl (flt (by decide)).2.2.2 (by decide) (by decide) ?_
      refine XS.iloadN X42.here hx rfl (hb hby at_202) rfl ?_
      refine XS.iconst X42.here hx rfl (hb hby at_203) ?_
      refine XS.icmpYes X42.here hx rfl (pc0 := 204) (pc' := 223) rfl (hb hby at_204) rfl (flt (by decide)).2.2.2 (by decide) (by decide) ?_
      refine XS.aload X42.here hx rfl (hb hby at_223) rfl rfl ?_
      refine XS.iloadN X42.here hx rfl (hb hby at_225) rfl ?_
      exact k
    have f43 : AI Z h42 b1 .int 4 (f0_g64 i0 i1 i2) := ((f37.other W39 ne_b1_b32).other W42 ne_b1_b34)
    obtain ⟨_, _, ⟨T44, L44, k44, n44⟩, -, X44, ⟨Lc44, hQ44, l44, y44, z44⟩, st44⟩ := Jvm.LawKit.callS X42 hx (y := (⟨"com/example/ratatoskr/ratatoskr/ChoicesAdvancePinLaw", "prod", "([II)I"⟩ : MethodName)) hown (mvT hZ (hw _ (List.mem_of_getElem? (i := 2) rfl))) (mvT hZ (hw _ (List.mem_of_getElem? (i := 3) rfl))) (mvT hZ (hw _ (List.mem_of_getElem? (i := 4) rfl))) (mvT hZ (hw _ (List.mem_of_getElem? (i := 5) rfl))) (by decide) (backOf (W := 0) (rmp1 l Z a0 hw [] b1 (f0_g64 i0 i1 i2) h42 n0 f43) hZ (hw _ (List.mem_of_getElem? (i := 5) rfl)) (hw _ (List.mem_of_getElem? (i := 4) rfl)) (by decide) (by decide)) (g := (mkF m 226 #[.val (.int i0), .val (.int i1), .val (.int i2), .val (.int (1 : Int32)), .val (.ref b1), .val (.ref b2), .val (.ref b32), .val (.ref b34), .unset, .unset, .unset, .unset] [(.int (1 : Int32)), (.ref b1)])) rfl (by rw [hml]; rfl) (argsL := [(.ref b1), (.int (1 : Int32))]) (rest := []) (lenOf pd_0 rfl) rfl (by show 2 * 0 + _ ≤ _; exact Nat.le_of_eq rfl) (hb hby at_226) (fun _ _ => ⟨rfl, e42, (by decide : 4 + 0 ≤ _), (by decide : 10 + 0 ≤ _)⟩)
    dsimp only [Pt.U, Pt.locs, Pt.cells, Pt.slots] at X44 l44 y44 z44 st44 hQ44
    subst l44 y44 z44
    obtain ⟨rfl, N44q, e44⟩ := hQ44
    have N44 := Fr.app N42 N44q
    obtain ⟨Lh44, X44, N44⟩ := hide X44 N44 (C := 4) (S := 10) (by decide) (by decide)
    refine Outs.of st44 ?_
    show Outs p e below s _ _ _ (T44.setTop (mkF m 229 #[.val (.int i0), .val (.int i1), .val (.int i2), .val (.int (1 : Int32)), .val (.ref b1), .val (.ref b2), .val (.ref b32), .val (.ref b34), .unset, .unset, .unset, .unset] [(.int (F_p1 (f0_g64 i0 i1 i2)))]))
    refine Outs.of (U' := T44.setTop (mkF m 236 #[.val (.int i0), .val (.int i1), .val (.int i2), .val (.int (1 : Int32)), .val (.ref b1), .val (.ref b2), .val (.ref b32), .val (.ref b34), .val (.int (F_p1 (f0_g64 i0 i1 i2))), .unset, .unset, .unset] [(.int (1 : Int32)), (.ref b1), (.ref b34)])) (fun t k => ?_) ?_
    · refine XS.istore X44.here hx rfl (hb hby at_229) rfl (l' := #[.val (.int i0), .val (.int i1), .val (.int i2), .val (.int (1 : Int32)), .val (.ref b1), .val (.ref b2), .val (.ref b32), .val (.ref b34), .val (.int (F_p1 (f0_g64 i0 i1 i2))), .unset, .unset, .unset]) rfl ?_
      refine XS.aload X44.here hx rfl (hb hby at_231) rfl rfl ?_
      refine XS.aload X44.here hx rfl (hb hby at_233) rfl rfl ?_
      refine XS.iloadN X44.here hx rfl (hb hby at_235) rfl ?_
      exact k
    obtain ⟨_, _, ⟨T45, L45, k45, n45⟩, -, X45, ⟨Lc45, hQ45, l45, y45, z45⟩, st45⟩ := Jvm.LawKit.callS X44 hx (y := (⟨"com/example/ratatoskr/ratatoskr/ChoicesAdvancePinLaw", "val", "([I[II)I"⟩ : MethodName)) hown (mvT hZ (hw _ (List.mem_of_getElem? (i := 6) rfl))) (mvT hZ (hw _ (List.mem_of_getElem? (i := 7) rfl))) (mvT hZ (hw _ (List.mem_of_getElem? (i := 4) rfl))) (mvT hZ (hw _ (List.mem_of_getElem? (i := 8) rfl))) (by decide) (backOf (W := 0) (rmv1 l Z a0 hw [] b34 b1 (f0_g159 i0 i1 i2) (f0_g64 i0 i1 i2) h42 n0 V42 f43) hZ (hw _ (List.mem_of_getElem? (i := 8) rfl)) (hw _ (List.mem_of_getElem? (i := 4) rfl)) (by decide) (by decide)) (g := (mkF m 236 #[.val (.int i0), .val (.int i1), .val (.int i2), .val (.int (1 : Int32)), .val (.ref b1), .val (.ref b2), .val (.ref b32), .val (.ref b34), .val (.int (F_p1 (f0_g64 i0 i1 i2))), .unset, .unset, .unset] [(.int (1 : Int32)), (.ref b1), (.ref b34)])) rfl (by rw [hml]; rfl) (argsL := [(.ref b34), (.ref b1), (.int (1 : Int32))]) (rest := []) (lenOf pd_1 rfl) rfl (by show 2 * 0 + _ ≤ _; exact Nat.le_of_eq rfl) (hb hby at_236) (fun _ _ => ⟨rfl, e44, (by decide : 4 + 0 ≤ _), (by decide : 10 + 0 ≤ _)⟩)
    dsimp only [Pt.U, Pt.locs, Pt.cells, Pt.slots] at X45 l45 y45 z45 st45 hQ45
    subst l45 y45 z45
    obtain ⟨rfl, N45q, e45⟩ := hQ45
    have N45 := Fr.app N44 N45q
    obtain ⟨Lh45, X45, N45⟩ := hide X45 N45 (C := 4) (S := 10) (by decide) (by decide)
    refine Outs.of st45 ?_
    show Outs p e below s _ _ _ (T45.setTop (mkF m 239 #[.val (.int i0), .val (.int i1), .val (.int i2), .val (.int (1 : Int32)), .val (.ref b1), .val (.ref b2), .val (.ref b32), .val (.ref b34), .val (.int (F_p1 (f0_g64 i0 i1 i2))), .unset, .unset, .unset] [(.int (F_v1 (f0_g159 i0 i1 i2) (f0_g64 i0 i1 i2)))]))
    refine Outs.of (U' := T45.setTop (mkF m 245 #[.val (.int i0), .val (.int i1), .val (.int i2), .val (.int (1 : Int32)), .val (.ref b1), .val (.ref b2), .val (.ref b32), .val (.ref b34), .val (.int (F_p1 (f0_g64 i0 i1 i2))), .val (.int (F_v1 (f0_g159 i0 i1 i2) (f0_g64 i0 i1 i2))), .unset, .unset] [(.ref b32), (.ref b34)])) (fun t k => ?_) ?_
    · refine XS.istore X45.here hx rfl (hb hby at_239) rfl (l' := #[.val (.int i0), .val (.int i1), .val (.int i2), .val (.int (1 : Int32)), .val (.ref b1), .val (.ref b2), .val (.ref b32), .val (.ref b34), .val (.int (F_p1 (f0_g64 i0 i1 i2))), .val (.int (F_v1 (f0_g159 i0 i1 i2) (f0_g64 i0 i1 i2))), .unset, .unset]) rfl ?_
      refine XS.aload X45.here hx rfl (hb hby at_241) rfl rfl ?_
      refine XS.aload X45.here hx rfl (hb hby at_243) rfl rfl ?_
      exact k
    have f46 : AI Z h42 b32 .int 1 (f0_g151 i0 i1 i2) := (V39.other W42 ne_b32_b34)
    obtain ⟨_, _, ⟨T47, L47, k47, n47⟩, -, X47, ⟨Lc47, hQ47, l47, y47, z47⟩, st47⟩ := Jvm.LawKit.callS X45 hx (y := (⟨"com/example/ratatoskr/ratatoskr/Choices", "advance", "([I[I)Z"⟩ : MethodName)) hown (mvT hZ (hw _ (List.mem_of_getElem? (i := 9) rfl))) (mvT hZ (hw _ (List.mem_of_getElem? (i := 10) rfl))) (mvT hZ (hw _ (List.mem_of_getElem? (i := 11) rfl))) (mvT hZ (hw _ (List.mem_of_getElem? (i := 12) rfl))) (by decide) (backOf (W := 0) (rma1 l Z a0 hw [] b34 b32 (f0_g159 i0 i1 i2) (f0_g151 i0 i1 i2) h42 n0 V42 f46 g_b34 ne_b32_b34.symm) hZ (hw _ (List.mem_of_getElem? (i := 12) rfl)) (hw _ (List.mem_of_getElem? (i := 11) rfl)) (by decide) (by decide)) (g := (mkF m 245 #[.val (.int i0), .val (.int i1), .val (.int i2), .val (.int (1 : Int32)), .val (.ref b1), .val (.ref b2), .val (.ref b32), .val (.ref b34), .val (.int (F_p1 (f0_g64 i0 i1 i2))), .val (.int (F_v1 (f0_g159 i0 i1 i2) (f0_g64 i0 i1 i2))), .unset, .unset] [(.ref b32), (.ref b34)])) rfl (by rw [hml]; rfl) (argsL := [(.ref b34), (.ref b32)]) (rest := []) (lenOf pd_2 rfl) rfl (by show 2 * 0 + _ ≤ _; exact Nat.le_of_eq rfl) (hb hby at_245) (fun _ _ => ⟨rfl, e45, (by decide : 4 + 0 ≤ _), (by decide : 10 + 0 ≤ _)⟩)
    dsimp only [Pt.U, Pt.locs, Pt.cells, Pt.slots] at X47 l47 y47 z47 st47 hQ47
    subst l47 y47 z47
    obtain ⟨rfl, N47q, K47, u47_0, u47_1⟩ := hQ47
    have N47 := Fr.app N45 N47q
    obtain ⟨Lh47, X47, N47⟩ := hide X47 N47 (C := 4) (S := 10) (by decide) (by decide)
    refine Outs.of st47 ?_
    show Outs p e below s _ _ _ (T47.setTop (mkF m 248 #[.val (.int i0), .val (.int i1), .val (.int i2), .val (.int (1 : Int32)), .val (.ref b1), .val (.ref b2), .val (.ref b32), .val (.ref b34), .val (.int (F_p1 (f0_g64 i0 i1 i2))), .val (.int (F_v1 (f0_g159 i0 i1 i2) (f0_g64 i0 i1 i2))), .unset, .unset] [(.int (F_a1 (f0_g159 i0 i1 i2) (f0_g151 i0 i1 i2)))]))
    refine Outs.of (U' := T47.setTop (mkF m 258 #[.val (.int i0), .val (.int i1), .val (.int i2), .val (.int (1 : Int32)), .val (.ref b1), .val (.ref b2), .val (.ref b32), .val (.ref b34), .val (.int (F_p1 (f0_g64 i0 i1 i2))), .val (.int (F_v1 (f0_g159 i0 i1 i2) (f0_g64 i0 i1 i2))), .val (.int (F_a1 (f0_g159 i0 i1 i2) (f0_g151 i0 i1 i2))), .unset] [(.int (0 : Int32)), (.int (1 : Int32)), (.ref b1), (.ref b32), (.ref b34)])) (fun t k => ?_) ?_
    · refine XS.istore X47.here hx rfl (hb hby at_248) rfl (l' := #[.val (.int i0), .val (.int i1), .val (.int i2), .val (.int (1 : Int32)), .val (.ref b1), .val (.ref b2), .val (.ref b32), .val (.ref b34), .val (.int (F_p1 (f0_g64 i0 i1 i2))), .val (.int (F_v1 (f0_g159 i0 i1 i2) (f0_g64 i0 i1 i2))), .val (.int (F_a1 (f0_g159 i0 i1 i2) (f0_g151 i0 i1 i2))), .unset]) rfl ?_
      refine XS.aload X47.here hx rfl (hb hby at_250) rfl rfl ?_
      refine XS.aload X47.here hx rfl (hb hby at_252) rfl rfl ?_
      refine XS.aload X47.here hx rfl (hb hby at_254) rfl rfl ?_
      refine XS.iloadN X47.here hx rfl (hb hby at_256) rfl ?_
      refine XS.iconst X47.here hx rfl (hb hby at_257) ?_
      exact k
    have f48 : AI Z T47.heap b1 .int 4 (f0_g64 i0 i1 i2) := (f43.keep K47 (ninS ne_b1_b34 nin0))
    obtain ⟨_, _, ⟨T49, L49, k49, n49⟩, -, X49, ⟨Lc49, hQ49, l49, y49, z49⟩, st49⟩ := Jvm.LawKit.callS X47 hx (y := (⟨"com/example/ratatoskr/ratatoskr/ChoicesAdvancePinLaw", "ok", "([I[I[III)Z"⟩ : MethodName)) hown (mvT hZ (hw _ (List.mem_of_getElem? (i := 13) rfl))) (mvT hZ (hw _ (List.mem_of_getElem? (i := 14) rfl))) (mvT hZ (hw _ (List.mem_of_getElem? (i := 4) rfl))) (mvT hZ (hw _ (List.mem_of_getElem? (i := 15) rfl))) (by decide) (backOf (W := 0) (rmk1_0 l Z a0 hw [] b34 b32 b1 (a1_out0 (f0_g159 i0 i1 i2) (f0_g151 i0 i1 i2)) (f0_g151 i0 i1 i2) (f0_g64 i0 i1 i2) T47.heap n0 u47_0 u47_1 f48) hZ (hw _ (List.mem_of_getElem? (i := 15) rfl)) (hw _ (List.mem_of_getElem? (i := 4) rfl)) (by decide) (by decide)) (g := (mkF m 258 #[.val (.int i0), .val (.int i1), .val (.int i2), .val (.int (1 : Int32)), .val (.ref b1), .val (.ref b2), .val (.ref b32), .val (.ref b34), .val (.int (F_p1 (f0_g64 i0 i1 i2))), .val (.int (F_v1 (f0_g159 i0 i1 i2) (f0_g64 i0 i1 i2))), .val (.int (F_a1 (f0_g159 i0 i1 i2) (f0_g151 i0 i1 i2))), .unset] [(.int (0 : Int32)), (.int (1 : Int32)), (.ref b1), (.ref b32), (.ref b34)])) rfl (by rw [hml]; rfl) (argsL := [(.ref b34), (.ref b32), (.ref b1), (.int (1 : Int32)), (.int (0 : Int32))]) (rest := []) (lenOf pd_3 rfl) rfl (by show 2 * 0 + _ ≤ _; exact Nat.le_of_eq rfl) (hb hby at_258) (fun _ _ => ⟨rfl, rfl, (by decide : 4 + 0 ≤ _), (by decide : 10 + 0 ≤ _)⟩)
    dsimp only [Pt.U, Pt.locs, Pt.cells, Pt.slots] at X49 l49 y49 z49 st49 hQ49
    subst l49 y49 z49
    obtain ⟨rfl, N49q, e49⟩ := hQ49
    have N49 := Fr.app N47 N49q
    obtain ⟨Lh49, X49, N49⟩ := hide X49 N49 (C := 4) (S := 10) (by decide) (by decide)
    refine Outs.of st49 ?_
    show Outs p e below s _ _ _ (T49.setTop (mkF m 261 #[.val (.int i0), .val (.int i1), .val (.int i2), .val (.int (1 : Int32)), .val (.ref b1), .val (.ref b2), .val (.ref b32), .val (.ref b34), .val (.int (F_p1 (f0_g64 i0 i1 i2))), .val (.int (F_v1 (f0_g159 i0 i1 i2) (f0_g64 i0 i1 i2))), .val (.int (F_a1 (f0_g159 i0 i1 i2) (f0_g151 i0 i1 i2))), .unset] [(.int (F_k1_0 (a1_out0 (f0_g159 i0 i1 i2) (f0_g151 i0 i1 i2)) (f0_g151 i0 i1 i2) (f0_g64 i0 i1 i2)))]))
    refine Outs.of (U' := T49.setTop (mkF m 272 #[.val (.int i0), .val (.int i1), .val (.int i2), .val (.int (1 : Int32)), .val (.ref b1), .val (.ref b2), .val (.ref b32), .val (.ref b34), .val (.int (F_p1 (f0_g64 i0 i1 i2))), .val (.int (F_v1 (f0_g159 i0 i1 i2) (f0_g64 i0 i1 i2))), .val (.int (F_a1 (f0_g159 i0 i1 i2) (f0_g151 i0 i1 i2))), .unset] [(.int (1 : Int32)), (.int (1 : Int32)), (.ref b1), (.ref b32), (.ref b34)])) (fun t k => ?_) ?_
    · refine XS.ifNo X49.here hx rfl (hb hby at_261) rfl ((if0 _ _).trans (feq (law_ok1_0 i0 i1 i2)).1) ?_
      refine XS.aload X49.here hx rfl (hb hby at_264) rfl rfl ?_
      refine XS.aload X49.here hx rfl (hb hby at_266) rfl rfl ?_
      refine XS.aload X49.here hx rfl (hb hby at_268) rfl rfl ?_
      refine XS.iloadN X49.here hx rfl (hb hby at_270) rfl ?_
      refine XS.iconst X49.here hx rfl (hb hby at_271) ?_
      exact k
    obtain ⟨_, _, ⟨T50, L50, k50, n50⟩, -, X50, ⟨Lc50, hQ50, l50, y50, z50⟩, st50⟩ := Jvm.LawKit.callS X49 hx (y := (⟨"com/example/ratatoskr/ratatoskr/ChoicesAdvancePinLaw", "ok", "([I[I[III)Z"⟩ : MethodName)) hown (mvT hZ (hw _ (List.mem_of_getElem? (i := 13) rfl))) (mvT hZ (hw _ (List.mem_of_getElem? (i := 14) rfl))) (mvT hZ (hw _ (List.mem_of_getElem? (i := 4) rfl))) (mvT hZ (hw _ (List.mem_of_getElem? (i := 15) rfl))) (by decide) (backOf (W := 0) (rmk1_1 l Z a0 hw [] b34 b32 b1 (a1_out0 (f0_g159 i0 i1 i2) (f0_g151 i0 i1 i2)) (f0_g151 i0 i1 i2) (f0_g64 i0 i1 i2) T47.heap n0 u47_0 u47_1 f48) hZ (hw _ (List.mem_of_getElem? (i := 15) rfl)) (hw _ (List.mem_of_getElem? (i := 4) rfl)) (by decide) (by decide)) (g := (mkF m 272 #[.val (.int i0), .val (.int i1), .val (.int i2), .val (.int (1 : Int32)), .val (.ref b1), .val (.ref b2), .val (.ref b32), .val (.ref b34), .val (.int (F_p1 (f0_g64 i0 i1 i2))), .val (.int (F_v1 (f0_g159 i0 i1 i2) (f0_g64 i0 i1 i2))), .val (.int (F_a1 (f0_g159 i0 i1 i2) (f0_g151 i0 i1 i2))), .unset] [(.int (1 : Int32)), (.int (1 : Int32)), (.ref b1), (.ref b32), (.ref b34)])) rfl (by rw [hml]; rfl) (argsL := [(.ref b34), (.ref b32), (.ref b1), (.int (1 : Int32)), (.int (1 : Int32))]) (rest := []) (lenOf pd_3 rfl) rfl (by show 2 * 0 + _ ≤ _; exact Nat.le_of_eq rfl) (hb hby at_272) (fun _ _ => ⟨rfl, e49, (by decide : 4 + 0 ≤ _), (by decide : 10 + 0 ≤ _)⟩)
    dsimp only [Pt.U, Pt.locs, Pt.cells, Pt.slots] at X50 l50 y50 z50 st50 hQ50
    subst l50 y50 z50
    obtain ⟨rfl, N50q, e50⟩ := hQ50
    have N50 := Fr.app N49 N50q
    obtain ⟨Lh50, X50, N50⟩ := hide X50 N50 (C := 4) (S := 10) (by decide) (by decide)
    refine Outs.of st50 ?_
    show Outs p e below s _ _ _ (T50.setTop (mkF m 275 #[.val (.int i0), .val (.int i1), .val (.int i2), .val (.int (1 : Int32)), .val (.ref b1), .val (.ref b2), .val (.ref b32), .val (.ref b34), .val (.int (F_p1 (f0_g64 i0 i1 i2))), .val (.int (F_v1 (f0_g159 i0 i1 i2) (f0_g64 i0 i1 i2))), .val (.int (F_a1 (f0_g159 i0 i1 i2) (f0_g151 i0 i1 i2))), .unset] [(.int (F_k1_1 (a1_out0 (f0_g159 i0 i1 i2) (f0_g151 i0 i1 i2)) (f0_g151 i0 i1 i2) (f0_g64 i0 i1 i2)))]))
    refine Outs.of (U' := T50.setTop (mkF m 286 #[.val (.int i0), .val (.int i1), .val (.int i2), .val (.int (1 : Int32)), .val (.ref b1), .val (.ref b2), .val (.ref b32), .val (.ref b34), .val (.int (F_p1 (f0_g64 i0 i1 i2))), .val (.int (F_v1 (f0_g159 i0 i1 i2) (f0_g64 i0 i1 i2))), .val (.int (F_a1 (f0_g159 i0 i1 i2) (f0_g151 i0 i1 i2))), .unset] [(.int (2 : Int32)), (.int (1 : Int32)), (.ref b1), (.ref b32), (.ref b34)])) (fun t k => ?_) ?_
    · refine XS.ifNo X50.here hx rfl (hb hby at_275) rfl ((if0 _ _).trans (feq (law_ok1_1 i0 i1 i2)).1) ?_
      refine XS.aload X50.here hx rfl (hb hby at_278) rfl rfl ?_
      refine XS.aload X50.here hx rfl (hb hby at_280) rfl rfl ?_
      refine XS.aload X50.here hx rfl (hb hby at_282) rfl rfl ?_
      refine XS.iloadN X50.here hx rfl (hb hby at_284) rfl ?_
      refine XS.iconst X50.here hx rfl (hb hby at_285) ?_
      exact k
    obtain ⟨_, _, ⟨T51, L51, k51, n51⟩, -, X51, ⟨Lc51, hQ51, l51, y51, z51⟩, st51⟩ := Jvm.LawKit.callS X50 hx (y := (⟨"com/example/ratatoskr/ratatoskr/ChoicesAdvancePinLaw", "ok", "([I[I[III)Z"⟩ : MethodName)) hown (mvT hZ (hw _ (List.mem_of_getElem? (i := 13) rfl))) (mvT hZ (hw _ (List.mem_of_getElem? (i := 14) rfl))) (mvT hZ (hw _ (List.mem_of_getElem? (i := 4) rfl))) (mvT hZ (hw _ (List.mem_of_getElem? (i := 15) rfl))) (by decide) (backOf (W := 0) (rmk1_2 l Z a0 hw [] b34 b32 b1 (a1_out0 (f0_g159 i0 i1 i2) (f0_g151 i0 i1 i2)) (f0_g151 i0 i1 i2) (f0_g64 i0 i1 i2) T47.heap n0 u47_0 u47_1 f48) hZ (hw _ (List.mem_of_getElem? (i := 15) rfl)) (hw _ (List.mem_of_getElem? (i := 4) rfl)) (by decide) (by decide)) (g := (mkF m 286 #[.val (.int i0), .val (.int i1), .val (.int i2), .val (.int (1 : Int32)), .val (.ref b1), .val (.ref b2), .val (.ref b32), .val (.ref b34), .val (.int (F_p1 (f0_g64 i0 i1 i2))), .val (.int (F_v1 (f0_g159 i0 i1 i2) (f0_g64 i0 i1 i2))), .val (.int (F_a1 (f0_g159 i0 i1 i2) (f0_g151 i0 i1 i2))), .unset] [(.int (2 : Int32)), (.int (1 : Int32)), (.ref b1), (.ref b32), (.ref b34)])) rfl (by rw [hml]; rfl) (argsL := [(.ref b34), (.ref b32), (.ref b1), (.int (1 : Int32)), (.int (2 : Int32))]) (rest := []) (lenOf pd_3 rfl) rfl (by show 2 * 0 + _ ≤ _; exact Nat.le_of_eq rfl) (hb hby at_286) (fun _ _ => ⟨rfl, e50, (by decide : 4 + 0 ≤ _), (by decide : 10 + 0 ≤ _)⟩)
    dsimp only [Pt.U, Pt.locs, Pt.cells, Pt.slots] at X51 l51 y51 z51 st51 hQ51
    subst l51 y51 z51
    obtain ⟨rfl, N51q, e51⟩ := hQ51
    have N51 := Fr.app N50 N51q
    obtain ⟨Lh51, X51, N51⟩ := hide X51 N51 (C := 4) (S := 10) (by decide) (by decide)
    refine Outs.of st51 ?_
    show Outs p e below s _ _ _ (T51.setTop (mkF m 289 #[.val (.int i0), .val (.int i1), .val (.int i2), .val (.int (1 : Int32)), .val (.ref b1), .val (.ref b2), .val (.ref b32), .val (.ref b34), .val (.int (F_p1 (f0_g64 i0 i1 i2))), .val (.int (F_v1 (f0_g159 i0 i1 i2) (f0_g64 i0 i1 i2))), .val (.int (F_a1 (f0_g159 i0 i1 i2) (f0_g151 i0 i1 i2))), .unset] [(.int (F_k1_2 (a1_out0 (f0_g159 i0 i1 i2) (f0_g151 i0 i1 i2)) (f0_g151 i0 i1 i2) (f0_g64 i0 i1 i2)))]))
    refine Outs.of (U' := T51.setTop (mkF m 300 #[.val (.int i0), .val (.int i1), .val (.int i2), .val (.int (1 : Int32)), .val (.ref b1), .val (.ref b2), .val (.ref b32), .val (.ref b34), .val (.int (F_p1 (f0_g64 i0 i1 i2))), .val (.int (F_v1 (f0_g159 i0 i1 i2) (f0_g64 i0 i1 i2))), .val (.int (F_a1 (f0_g159 i0 i1 i2) (f0_g151 i0 i1 i2))), .unset] [(.int (3 : Int32)), (.int (1 : Int32)), (.ref b1), (.ref b32), (.ref b34)])) (fun t k => ?_) ?_
    · refine XS.ifNo X51.here hx rfl (hb hby at_289) rfl ((if0 _ _).trans (feq (law_ok1_2 i0 i1 i2)).1) ?_
      refine XS.aload X51.here hx rfl (hb hby at_292) rfl rfl ?_
      refine XS.aload X51.here hx rfl (hb hby at_294) rfl rfl ?_
      refine XS.aload X51.here hx rfl (hb hby at_296) rfl rfl ?_
      refine XS.iloadN X51.here hx rfl (hb hby at_298) rfl ?_
      refine XS.iconst X51.here hx rfl (hb hby at_299) ?_
      exact k
    obtain ⟨_, _, ⟨T52, L52, k52, n52⟩, -, X52, ⟨Lc52, hQ52, l52, y52, z52⟩, st52⟩ := Jvm.LawKit.callS X51 hx (y := (⟨"com/example/ratatoskr/ratatoskr/ChoicesAdvancePinLaw", "ok", "([I[I[III)Z"⟩ : MethodName)) hown (mvT hZ (hw _ (List.mem_of_getElem? (i := 13) rfl))) (mvT hZ (hw _ (List.mem_of_getElem? (i := 14) rfl))) (mvT hZ (hw _ (List.mem_of_getElem? (i := 4) rfl))) (mvT hZ (hw _ (List.mem_of_getElem? (i := 15) rfl))) (by decide) (backOf (W := 0) (rmk1_3 l Z a0 hw [] b34 b32 b1 (a1_out0 (f0_g159 i0 i1 i2) (f0_g151 i0 i1 i2)) (f0_g151 i0 i1 i2) (f0_g64 i0 i1 i2) T47.heap n0 u47_0 u47_1 f48) hZ (hw _ (List.mem_of_getElem? (i := 15) rfl)) (hw _ (List.mem_of_getElem? (i := 4) rfl)) (by decide) (by decide)) (g := (mkF m 300 #[.val (.int i0), .val (.int i1), .val (.int i2), .val (.int (1 : Int32)), .val (.ref b1), .val (.ref b2), .val (.ref b32), .val (.ref b34), .val (.int (F_p1 (f0_g64 i0 i1 i2))), .val (.int (F_v1 (f0_g159 i0 i1 i2) (f0_g64 i0 i1 i2))), .val (.int (F_a1 (f0_g159 i0 i1 i2) (f0_g151 i0 i1 i2))), .unset] [(.int (3 : Int32)), (.int (1 : Int32)), (.ref b1), (.ref b32), (.ref b34)])) rfl (by rw [hml]; rfl) (argsL := [(.ref b34), (.ref b32), (.ref b1), (.int (1 : Int32)), (.int (3 : Int32))]) (rest := []) (lenOf pd_3 rfl) rfl (by show 2 * 0 + _ ≤ _; exact Nat.le_of_eq rfl) (hb hby at_300) (fun _ _ => ⟨rfl, e51, (by decide : 4 + 0 ≤ _), (by decide : 10 + 0 ≤ _)⟩)
    dsimp only [Pt.U, Pt.locs, Pt.cells, Pt.slots] at X52 l52 y52 z52 st52 hQ52
    subst l52 y52 z52
    obtain ⟨rfl, N52q, e52⟩ := hQ52
    have N52 := Fr.app N51 N52q
    obtain ⟨Lh52, X52, N52⟩ := hide X52 N52 (C := 4) (S := 10) (by decide) (by decide)
    refine Outs.of st52 ?_
    show Outs p e below s _ _ _ (T52.setTop (mkF m 303 #[.val (.int i0), .val (.int i1), .val (.int i2), .val (.int (1 : Int32)), .val (.ref b1), .val (.ref b2), .val (.ref b32), .val (.ref b34), .val (.int (F_p1 (f0_g64 i0 i1 i2))), .val (.int (F_v1 (f0_g159 i0 i1 i2) (f0_g64 i0 i1 i2))), .val (.int (F_a1 (f0_g159 i0 i1 i2) (f0_g151 i0 i1 i2))), .unset] [(.int (F_k1_3 (a1_out0 (f0_g159 i0 i1 i2) (f0_g151 i0 i1 i2)) (f0_g151 i0 i1 i2) (f0_g64 i0 i1 i2)))]))
    refine Outs.of (U' := T52.setTop (mkF m 313 #[.val (.int i0), .val (.int i1), .val (.int i2), .val (.int (1 : Int32)), .val (.ref b1), .val (.ref b2), .val (.ref b32), .val (.ref b34), .val (.int (F_p1 (f0_g64 i0 i1 i2))), .val (.int (F_v1 (f0_g159 i0 i1 i2) (f0_g64 i0 i1 i2))), .val (.int (F_a1 (f0_g159 i0 i1 i2) (f0_g151 i0 i1 i2))), .unset] [(.int (1 : Int32)), (.ref b1), (.ref b34)])) (fun t k => ?_) ?_
    · refine XS.ifYes X52.here hx rfl (pc0 := 303) (pc' := 308) rfl (hb hby at_303) rfl ((if0 _ _).trans (feq (law_ok1_3 i0 i1 i2)).2) (by decide) (by decide) ?_
      refine XS.aload X52.here hx rfl (hb hby at_308) rfl rfl ?_
      refine XS.aload X52.here hx rfl (hb hby at_310) rfl rfl ?_
      refine XS.iloadN X52.here hx rfl (hb hby at_312) rfl ?_
      exact k
    obtain ⟨_, _, ⟨T53, L53, k53, n53⟩, -, X53, ⟨Lc53, hQ53, l53, y53, z53⟩, st53⟩ := Jvm.LawKit.callS X52 hx (y := (⟨"com/example/ratatoskr/ratatoskr/ChoicesAdvancePinLaw", "val", "([I[II)I"⟩ : MethodName)) hown (mvT hZ (hw _ (List.mem_of_getElem? (i := 6) rfl))) (mvT hZ (hw _ (List.mem_of_getElem? (i := 7) rfl))) (mvT hZ (hw _ (List.mem_of_getElem? (i := 4) rfl))) (mvT hZ (hw _ (List.mem_of_getElem? (i := 8) rfl))) (by decide) (backOf (W := 0) (rmv1 l Z a0 hw [] b34 b1 (a1_out0 (f0_g159 i0 i1 i2) (f0_g151 i0 i1 i2)) (f0_g64 i0 i1 i2) T47.heap n0 u47_0 f48) hZ (hw _ (List.mem_of_getElem? (i := 8) rfl)) (hw _ (List.mem_of_getElem? (i := 4) rfl)) (by decide) (by decide)) (g := (mkF m 313 #[.val (.int i0), .val (.int i1), .val (.int i2), .val (.int (1 : Int32)), .val (.ref b1), .val (.ref b2), .val (.ref b32), .val (.ref b34), .val (.int (F_p1 (f0_g64 i0 i1 i2))), .val (.int (F_v1 (f0_g159 i0 i1 i2) (f0_g64 i0 i1 i2))), .val (.int (F_a1 (f0_g159 i0 i1 i2) (f0_g151 i0 i1 i2))), .unset] [(.int (1 : Int32)), (.ref b1), (.ref b34)])) rfl (by rw [hml]; rfl) (argsL := [(.ref b34), (.ref b1), (.int (1 : Int32))]) (rest := []) (lenOf pd_1 rfl) rfl (by show 2 * 0 + _ ≤ _; exact Nat.le_of_eq rfl) (hb hby at_313) (fun _ _ => ⟨rfl, e52, (by decide : 4 + 0 ≤ _), (by decide : 10 + 0 ≤ _)⟩)
    dsimp only [Pt.U, Pt.locs, Pt.cells, Pt.slots] at X53 l53 y53 z53 st53 hQ53
    subst l53 y53 z53
    obtain ⟨rfl, N53q, e53⟩ := hQ53
    have N53 := Fr.app N52 N53q
    obtain ⟨Lh53, X53, N53⟩ := hide X53 N53 (C := 4) (S := 10) (by decide) (by decide)
    refine Outs.of st53 ?_
    show Outs p e below s _ _ _ (T53.setTop (mkF m 316 #[.val (.int i0), .val (.int i1), .val (.int i2), .val (.int (1 : Int32)), .val (.ref b1), .val (.ref b2), .val (.ref b32), .val (.ref b34), .val (.int (F_p1 (f0_g64 i0 i1 i2))), .val (.int (F_v1 (f0_g159 i0 i1 i2) (f0_g64 i0 i1 i2))), .val (.int (F_a1 (f0_g159 i0 i1 i2) (f0_g151 i0 i1 i2))), .unset] [(.int (F_v1 (a1_out0 (f0_g159 i0 i1 i2) (f0_g151 i0 i1 i2)) (f0_g64 i0 i1 i2)))]))
    refine Outs.of (U' := T53.setTop (mkF m 324 #[.val (.int i0), .val (.int i1), .val (.int i2), .val (.int (1 : Int32)), .val (.ref b1), .val (.ref b2), .val (.ref b32), .val (.ref b34), .val (.int (F_p1 (f0_g64 i0 i1 i2))), .val (.int (F_v1 (f0_g159 i0 i1 i2) (f0_g64 i0 i1 i2))), .val (.int (F_a1 (f0_g159 i0 i1 i2) (f0_g151 i0 i1 i2))), .val (.int (f0_v316 i0 i1 i2))] [(.int (F_p1 (f0_g64 i0 i1 i2))), (.int ((F_v1 (f0_g159 i0 i1 i2) (f0_g64 i0 i1 i2)) + (1 : Int32)))])) (fun t k => ?_) ?_
    · refine XS.istore X53.here hx rfl (hb hby at_316) rfl (l' := #[.val (.int i0), .val (.int i1), .val (.int i2), .val (.int (1 : Int32)), .val (.ref b1), .val (.ref b2), .val (.ref b32), .val (.ref b34), .val (.int (F_p1 (f0_g64 i0 i1 i2))), .val (.int (F_v1 (f0_g159 i0 i1 i2) (f0_g64 i0 i1 i2))), .val (.int (F_a1 (f0_g159 i0 i1 i2) (f0_g151 i0 i1 i2))), .val (.int (f0_v316 i0 i1 i2))]) rfl ?_
      refine XS.iload X53.here hx rfl (hb hby at_318) rfl ?_
      refine XS.iconst X53.here hx rfl (hb hby at_320) ?_
      refine XS.iadd X53.here hx rfl (hb hby at_321) rfl ?_
      refine XS.iload X53.here hx rfl (hb hby at_322) rfl ?_
      exact k
    by_cases hc324 : ((F_v1 (f0_g159 i0 i1 i2) (f0_g64 i0 i1 i2)) + (1 : Int32)) < (F_p1 (f0_g64 i0 i1 i2))
    · refine Outs.of (U' := T53.setTop (mkF m 327 #[.val (.int i0), .val (.int i1), .val (.int i2), .val (.int (1 : Int32)), .val (.ref b1), .val (.ref b2), .val (.ref b32), .val (.ref b34), .val (.int (F_p1 (f0_g64 i0 i1 i2))), .val (.int (F_v1 (f0_g159 i0 i1 i2) (f0_g64 i0 i1 i2))), .val (.int (F_a1 (f0_g159 i0 i1 i2) (f0_g151 i0 i1 i2))), .val (.int (f0_v316 i0 i1 i2))] [])) (fun t k => ?_) ?_
      · refine XS.icmpNo X53.here hx rfl (hb hby at_324) rfl (tlt hc324).2.1 ?_
        exact k
      refine Outs.of (U' := T53.setTop (mkF m 346 #[.val (.int i0), .val (.int i1), .val (.int i2), .val (.int (1 : Int32)), .val (.ref b1), .val (.ref b2), .val (.ref b32), .val (.ref b34), .val (.int (F_p1 (f0_g64 i0 i1 i2))), .val (.int (F_v1 (f0_g159 i0 i1 i2) (f0_g64 i0 i1 i2))), .val (.int (F_a1 (f0_g159 i0 i1 i2) (f0_g151 i0 i1 i2))), .val (.int (f0_v316 i0 i1 i2))] [(.int (f0_329_s0a i0 i1 i2))])) (fun t k => ?_) ?_
      · refine XS.iload X53.here hx rfl (hb hby at_327) rfl ?_
        by_cases hc329 : (F_a1 (f0_g159 i0 i1 i2) (f0_g151 i0 i1 i2)) = (0 : Int32)
        · refine XS.ifYes X53.here hx rfl (pc0 := 329) (pc' := 345) rfl (hb hby at_329) rfl ((if0 _ _).trans (teq hc329).1) (by decide) (by decide) ?_
          refine XS.iconst X53.here hx rfl (hb hby at_345) ?_
          rw [show (f0_329_s0a i0 i1 i2) = (0 : Int32) from (if_pos hc329)] at k
          exact k
        · refine XS.ifNo X53.here hx rfl (hb hby at_329) rfl ((if0 _ _).trans (feq hc329).1) ?_
          refine XS.iload X53.here hx rfl (hb hby at_332) rfl ?_
          refine XS.iload X53.here hx rfl (hb hby at_334) rfl ?_
          refine XS.iconst X53.here hx rfl (hb hby at_336) ?_
          refine XS.iadd X53.here hx rfl (hb hby at_337) rfl ?_
          by_cases hc338 : (f0_v316 i0 i1 i2) = ((F_v1 (f0_g159 i0 i1 i2) (f0_g64 i0 i1 i2)) + (1 : Int32))
          · refine XS.icmpNo X53.here hx rfl (hb hby at_338) rfl (teq hc338).2 ?_
            refine XS.iconst X53.here hx rfl (hb hby at_341) ?_
            refine XS.goto X53.here hx rfl (pc0 := 342) (pc' := 346) rfl (hb hby at_342) (by decide) (by decide) ?_
            rw [show (f0_329_s0a i0 i1 i2) = (1 : Int32) from ((if_neg hc329).trans (if_pos hc338))] at k
            exact k
          · refine XS.icmpYes X53.here hx rfl (pc0 := 338) (pc' := 345) rfl (hb hby at_338) rfl (feq hc338).2 (by decide) (by decide) ?_
            refine XS.iconst X53.here hx rfl (hb hby at_345) ?_
            rw [show (f0_329_s0a i0 i1 i2) = (0 : Int32) from ((if_neg hc329).trans (if_neg hc338))] at k
            exact k
      exact Outs.retN (t := .boolean) (z := (f0_329_s0a i0 i1 i2)) X53 hx hret (by simp) (hb hby at_346) hlk (by decide) (by decide) e53 ⟨congrArg (fun z_ => some (Value.int z_)) (law_f0_329_s0a i0 i1 i2 hc324), N53⟩
    · refine Outs.of (U' := T53.setTop (mkF m 347 #[.val (.int i0), .val (.int i1), .val (.int i2), .val (.int (1 : Int32)), .val (.ref b1), .val (.ref b2), .val (.ref b32), .val (.ref b34), .val (.int (F_p1 (f0_g64 i0 i1 i2))), .val (.int (F_v1 (f0_g159 i0 i1 i2) (f0_g64 i0 i1 i2))), .val (.int (F_a1 (f0_g159 i0 i1 i2) (f0_g151 i0 i1 i2))), .val (.int (f0_v316 i0 i1 i2))] [])) (fun t k => ?_) ?_
      · refine XS.icmpYes X53.here hx rfl (pc0 := 324) (pc' := 347) rfl (hb hby at_324) rfl (flt hc324).2.1 (by decide) (by decide) ?_
        exact k
      refine Outs.of (U' := T53.setTop (mkF m 362 #[.val (.int i0), .val (.int i1), .val (.int i2), .val (.int (1 : Int32)), .val (.ref b1), .val (.ref b2), .val (.ref b32), .val (.ref b34), .val (.int (F_p1 (f0_g64 i0 i1 i2))), .val (.int (F_v1 (f0_g159 i0 i1 i2) (f0_g64 i0 i1 i2))), .val (.int (F_a1 (f0_g159 i0 i1 i2) (f0_g151 i0 i1 i2))), .val (.int (f0_v316 i0 i1 i2))] [(.int (f0_349_s0a i0 i1 i2))])) (fun t k => ?_) ?_
      · refine XS.iload X53.here hx rfl (hb hby at_347) rfl ?_
        by_cases hc349 : (F_a1 (f0_g159 i0 i1 i2) (f0_g151 i0 i1 i2)) = (0 : Int32)
        · refine XS.ifNo X53.here hx rfl (hb hby at_349) rfl ((if0 _ _).trans (teq hc349).2) ?_
          refine XS.iload X53.here hx rfl (hb hby at_352) rfl ?_
          by_cases hc354 : (f0_v316 i0 i1 i2) = (0 : Int32)
          · refine XS.ifNo X53.here hx rfl (hb hby at_354) rfl ((if0 _ _).trans (teq hc354).2) ?_
            refine XS.iconst X53.here hx rfl (hb hby at_357) ?_
            refine XS.goto X53.here hx rfl (pc0 := 358) (pc' := 362) rfl (hb hby at_358) (by decide) (by decide) ?_
            rw [show (f0_349_s0a i0 i1 i2) = (1 : Int32) from ((if_pos hc349).trans (if_pos hc354))] at k
            exact k
          · refine XS.ifYes X53.here hx rfl (pc0 := 354) (pc' := 361) rfl (hb hby at_354) rfl ((if0 _ _).trans (feq hc354).2) (by decide) (by decide) ?_
            refine XS.iconst X53.here hx rfl (hb hby at_361) ?_
            rw [show (f0_349_s0a i0 i1 i2) = (0 : Int32) from ((if_pos hc349).trans (if_neg hc354))] at k
            exact k
        · refine XS.ifYes X53.here hx rfl (pc0 := 349) (pc' := 361) rfl (hb hby at_349) rfl ((if0 _ _).trans (feq hc349).2) (by decide) (by decide) ?_
          refine XS.iconst X53.here hx rfl (hb hby at_361) ?_
          rw [show (f0_349_s0a i0 i1 i2) = (0 : Int32) from (if_neg hc349)] at k
          exact k
      exact Outs.retN (t := .boolean) (z := (f0_349_s0a i0 i1 i2)) X53 hx hret (by simp) (hb hby at_362) hlk (by decide) (by decide) e53 ⟨congrArg (fun z_ => some (Value.int z_)) (law_f0_349_s0a i0 i1 i2 hc324), N53⟩
  · rw [q]
    show Outs p e below s _ _ _ (T15.setTop (mkF m 130 #[.val (.int i0), .val (.int i1), .val (.int i2), .val (.int (2 : Int32)), .val (.ref b1), .val (.ref b2), .unset, .unset, .unset, .unset, .unset, .unset] []))
    refine Outs.of (U' := T15.setTop (mkF m 131 #[.val (.int i0), .val (.int i1), .val (.int i2), .val (.int (2 : Int32)), .val (.ref b1), .val (.ref b2), .unset, .unset, .unset, .unset, .unset, .unset] [(.int (2 : Int32))])) (fun t k => ?_) ?_
    · refine XS.iloadN X15.here hx rfl (hb hby at_130) rfl ?_
      exact k
    have f55 : AI Z h15 b1 .int 4 (f0_g64 i0 i1 i2) := (f14.other W15 ne_b1_b2)
    obtain ⟨T54, h54, X54, e54, E54, A54, st54⟩ := newAF X15 hx hZ (aty := .int) (hw _ (List.mem_of_getElem? (i := 1) rfl)) e15 (f := (mkF m 131 #[.val (.int i0), .val (.int i1), .val (.int i2), .val (.int (2 : Int32)), .val (.ref b1), .val (.ref b2), .unset, .unset, .unset, .unset, .unset, .unset] [(.int (2 : Int32))])) rfl (hb hby at_131) rfl (k := 2) rfl (cap := 2) (by decide) (by decide) (by decide) (by decide)
    obtain ⟨b54, g54⟩ : ∃ z, z = h15.size := ⟨_, rfl⟩
    rw [← g54] at A54 st54
    have g_b54 : n0 ≤ b54 := Nat.le_trans (Nat.le_trans (Nat.le_trans (Nat.le_trans (Nat.le_trans (Nat.le_trans (Nat.le_trans (Nat.le_trans (Nat.le_trans (Nat.le_trans (Nat.le_trans Z0 E1.1) E2.1) (Keep.of_wr W4).1) (Keep.of_wr W5).1) (Keep.of_wr W6).1) (Keep.of_wr W7).1) (Keep.of_wr W9).1) (Keep.of_wr W11).1) (Keep.of_wr W13).1) (Keep.of_wr W15).1) (Nat.le_of_eq g54.symm)
    have ne_b1_b54 : b1 ≠ b54 := Nat.ne_of_lt (Nat.lt_of_lt_of_eq f55.lt g54.symm)
    have ne_b2_b54 : b2 ≠ b54 := Nat.ne_of_lt (Nat.lt_of_lt_of_eq V15.lt g54.symm)
    have V54 : AI Z h54 b54 .int 2 (fun _ => (0 : Int32)) := A54
    refine Outs.of st54 ?_
    show Outs p e below s _ _ _ (T54.setTop (mkF m 133 #[.val (.int i0), .val (.int i1), .val (.int i2), .val (.int (2 : Int32)), .val (.ref b1), .val (.ref b2), .unset, .unset, .unset, .unset, .unset, .unset] [(.ref b54)]))
    refine Outs.of (U' := T54.setTop (mkF m 136 #[.val (.int i0), .val (.int i1), .val (.int i2), .val (.int (2 : Int32)), .val (.ref b1), .val (.ref b2), .val (.ref b54), .unset, .unset, .unset, .unset, .unset] [(.int (2 : Int32))])) (fun t k => ?_) ?_
    · refine XS.astore X54.here hx rfl (hb hby at_133) rfl rfl (l' := #[.val (.int i0), .val (.int i1), .val (.int i2), .val (.int (2 : Int32)), .val (.ref b1), .val (.ref b2), .val (.ref b54), .unset, .unset, .unset, .unset, .unset]) rfl ?_
      refine XS.iloadN X54.here hx rfl (hb hby at_135) rfl ?_
      exact k
    have f57 : AI Z h54 b1 .int 4 (f0_g64 i0 i1 i2) := (f55.ext E54)
    have f58 : AI Z h54 b2 .int 4 (f0_g129 i0 i1 i2) := (V15.ext E54)
    obtain ⟨T56, h56, X56, e56, E56, A56, st56⟩ := newAF X54 hx hZ (aty := .int) (hw _ (List.mem_of_getElem? (i := 1) rfl)) e54 (f := (mkF m 136 #[.val (.int i0), .val (.int i1), .val (.int i2), .val (.int (2 : Int32)), .val (.ref b1), .val (.ref b2), .val (.ref b54), .unset, .unset, .unset, .unset, .unset] [(.int (2 : Int32))])) rfl (hb hby at_136) rfl (k := 2) rfl (cap := 2) (by decide) (by decide) (by decide) (by decide)
    obtain ⟨b56, g56⟩ : ∃ z, z = h54.size := ⟨_, rfl⟩
    rw [← g56] at A56 st56
    have g_b56 : n0 ≤ b56 := Nat.le_trans (Nat.le_trans (Nat.le_trans (Nat.le_trans (Nat.le_trans (Nat.le_trans (Nat.le_trans (Nat.le_trans (Nat.le_trans (Nat.le_trans (Nat.le_trans (Nat.le_trans Z0 E1.1) E2.1) (Keep.of_wr W4).1) (Keep.of_wr W5).1) (Keep.of_wr W6).1) (Keep.of_wr W7).1) (Keep.of_wr W9).1) (Keep.of_wr W11).1) (Keep.of_wr W13).1) (Keep.of_wr W15).1) E54.1) (Nat.le_of_eq g56.symm)
    have ne_b1_b56 : b1 ≠ b56 := Nat.ne_of_lt (Nat.lt_of_lt_of_eq f57.lt g56.symm)
    have ne_b2_b56 : b2 ≠ b56 := Nat.ne_of_lt (Nat.lt_of_lt_of_eq f58.lt g56.symm)
    have ne_b54_b56 : b54 ≠ b56 := Nat.ne_of_lt (Nat.lt_of_lt_of_eq V54.lt g56.symm)
    have V56 : AI Z h56 b56 .int 2 (fun _ => (0 : Int32)) := A56
    refine Outs.of st56 ?_
    show Outs p e below s _ _ _ (T56.setTop (mkF m 138 #[.val (.int i0), .val (.int i1), .val (.int i2), .val (.int (2 : Int32)), .val (.ref b1), .val (.ref b2), .val (.ref b54), .unset, .unset, .unset, .unset, .unset] [(.ref b56)]))
    refine Outs.of (U' := T56.setTop (mkF m 150 #[.val (.int i0), .val (.int i1), .val (.int i2), .val (.int (2 : Int32)), .val (.ref b1), .val (.ref b2), .val (.ref b54), .val (.ref b56), .unset, .unset, .unset, .unset] [(.int (0 : Int32)), (.ref b1), (.int (0 : Int32)), (.ref b54)])) (fun t k => ?_) ?_
    · refine XS.astore X56.here hx rfl (hb hby at_138) rfl rfl (l' := #[.val (.int i0), .val (.int i1), .val (.int i2), .val (.int (2 : Int32)), .val (.ref b1), .val (.ref b2), .val (.ref b54), .val (.ref b56), .unset, .unset, .unset, .unset]) rfl ?_
      refine XS.iloadN X56.here hx rfl (hb hby at_140) rfl ?_
      refine XS.ifNo X56.here hx rfl (hb hby at_141) rfl ((if0 _ _).trans (tlt (by decide)).2.2.2) ?_
      refine XS.aload X56.here hx rfl (hb hby at_144) rfl rfl ?_
      refine XS.iconst X56.here hx rfl (hb hby at_146) ?_
      refine XS.aload X56.here hx rfl (hb hby at_147) rfl rfl ?_
      refine XS.iconst X56.here hx rfl (hb hby at_149) ?_
      exact k
    have f59 : AI Z h56 b1 .int 4 (f0_g64 i0 i1 i2) := (f57.ext E56)
    refine Outs.of (ldI X56 hx hZ e56 f59 (j := (0 : Int32)) (k := 0) rfl (by decide) (f := (mkF m 150 #[.val (.int i0), .val (.int i1), .val (.int i2), .val (.int (2 : Int32)), .val (.ref b1), .val (.ref b2), .val (.ref b54), .val (.ref b56), .unset, .unset, .unset, .unset] [(.int (0 : Int32)), (.ref b1), (.int (0 : Int32)), (.ref b54)])) rfl rfl (hb hby at_150)) ?_
    show Outs p e below s _ _ _ (T56.setTop (mkF m 151 #[.val (.int i0), .val (.int i1), .val (.int i2), .val (.int (2 : Int32)), .val (.ref b1), .val (.ref b2), .val (.ref b54), .val (.ref b56), .unset, .unset, .unset, .unset] [(.int ((f0_g64 i0 i1 i2) 0)), (.int (0 : Int32)), (.ref b54)]))
    have f60 : AI Z h56 b54 .int 2 (fun _ => (0 : Int32)) := (V54.ext E56)
    obtain ⟨T61, h61, X61, e61, W61, V61, st61⟩ := puI X56 hx hZ e56 f60 (j := (0 : Int32)) (x := ((f0_g64 i0 i1 i2) 0)) (k := 0) rfl (by decide) (f := (mkF m 151 #[.val (.int i0), .val (.int i1), .val (.int i2), .val (.int (2 : Int32)), .val (.ref b1), .val (.ref b2), .val (.ref b54), .val (.ref b56), .unset, .unset, .unset, .unset] [(.int ((f0_g64 i0 i1 i2) 0)), (.int (0 : Int32)), (.ref b54)])) rfl rfl (hb hby at_151)
    replace V61 : AI Z h61 b54 .int 2 (f0_g151 i0 i1 i2) := V61
    have N61 := Fr.snoc X61 N15 g_b54
    obtain ⟨Lh61, X61, N61⟩ := hide X61 N61 (C := 4) (S := 12) (by decide) (by decide)
    refine Outs.of st61 ?_
    show Outs p e below s _ _ _ (T61.setTop (mkF m 152 #[.val (.int i0), .val (.int i1), .val (.int i2), .val (.int (2 : Int32)), .val (.ref b1), .val (.ref b2), .val (.ref b54), .val (.ref b56), .unset, .unset, .unset, .unset] []))
    refine Outs.of (U' := T61.setTop (mkF m 158 #[.val (.int i0), .val (.int i1), .val (.int i2), .val (.int (2 : Int32)), .val (.ref b1), .val (.ref b2), .val (.ref b54), .val (.ref b56), .unset, .unset, .unset, .unset] [(.int (0 : Int32)), (.ref b2), (.int (0 : Int32)), (.ref b56)])) (fun t k => ?_) ?_
    · refine XS.aload X61.here hx rfl (hb hby at_152) rfl rfl ?_
      refine XS.iconst X61.here hx rfl (hb hby at_154) ?_
      refine XS.aload X61.here hx rfl (hb hby at_155) rfl rfl ?_
      refine XS.iconst X61.here hx rfl (hb hby at_157) ?_
      exact k
    have f62 : AI Z h61 b2 .int 4 (f0_g129 i0 i1 i2) := ((f58.ext E56).other W61 ne_b2_b54)
    refine Outs.of (ldI X61 hx hZ e61 f62 (j := (0 : Int32)) (k := 0) rfl (by decide) (f := (mkF m 158 #[.val (.int i0), .val (.int i1), .val (.int i2), .val (.int (2 : Int32)), .val (.ref b1), .val (.ref b2), .val (.ref b54), .val (.ref b56), .unset, .unset, .unset, .unset] [(.int (0 : Int32)), (.ref b2), (.int (0 : Int32)), (.ref b56)])) rfl rfl (hb hby at_158)) ?_
    show Outs p e below s _ _ _ (T61.setTop (mkF m 159 #[.val (.int i0), .val (.int i1), .val (.int i2), .val (.int (2 : Int32)), .val (.ref b1), .val (.ref b2), .val (.ref b54), .val (.ref b56), .unset, .unset, .unset, .unset] [(.int ((f0_g129 i0 i1 i2) 0)), (.int (0 : Int32)), (.ref b56)]))
    have f63 : AI Z h61 b56 .int 2 (fun _ => (0 : Int32)) := (V56.other W61 ne_b54_b56.symm)
    obtain ⟨T64, h64, X64, e64, W64, V64, st64⟩ := puI X61 hx hZ e61 f63 (j := (0 : Int32)) (x := ((f0_g129 i0 i1 i2) 0)) (k := 0) rfl (by decide) (f := (mkF m 159 #[.val (.int i0), .val (.int i1), .val (.int i2), .val (.int (2 : Int32)), .val (.ref b1), .val (.ref b2), .val (.ref b54), .val (.ref b56), .unset, .unset, .unset, .unset] [(.int ((f0_g129 i0 i1 i2) 0)), (.int (0 : Int32)), (.ref b56)])) rfl rfl (hb hby at_159)
    replace V64 : AI Z h64 b56 .int 2 (f0_g159 i0 i1 i2) := V64
    have N64 := Fr.snoc X64 N61 g_b56
    obtain ⟨Lh64, X64, N64⟩ := hide X64 N64 (C := 4) (S := 12) (by decide) (by decide)
    refine Outs.of st64 ?_
    show Outs p e below s _ _ _ (T64.setTop (mkF m 160 #[.val (.int i0), .val (.int i1), .val (.int i2), .val (.int (2 : Int32)), .val (.ref b1), .val (.ref b2), .val (.ref b54), .val (.ref b56), .unset, .unset, .unset, .unset] []))
    refine Outs.of (U' := T64.setTop (mkF m 171 #[.val (.int i0), .val (.int i1), .val (.int i2), .val (.int (2 : Int32)), .val (.ref b1), .val (.ref b2), .val (.ref b54), .val (.ref b56), .unset, .unset, .unset, .unset] [(.int (1 : Int32)), (.ref b1), (.int (1 : Int32)), (.ref b54)])) (fun t k => ?_) ?_
    · refine XS.iloadN X64.here hx rfl (hb hby at_160) rfl ?_
      refine XS.iconst X64.here hx rfl (hb hby at_161) ?_
      refine XS.icmpNo X64.here hx rfl (hb hby at_162) rfl (tlt (by decide)).2.2.2 ?_
      refine XS.aload X64.here hx rfl (hb hby at_165) rfl rfl ?_
      refine XS.iconst X64.here hx rfl (hb hby at_167) ?_
      refine XS.aload X64.here hx rfl (hb hby at_168) rfl rfl ?_
      refine XS.iconst X64.here hx rfl (hb hby at_170) ?_
      exact k
    have f65 : AI Z h64 b1 .int 4 (f0_g64 i0 i1 i2) := ((f59.other W61 ne_b1_b54).other W64 ne_b1_b56)
    refine Outs.of (ldI X64 hx hZ e64 f65 (j := (1 : Int32)) (k := 1) rfl (by decide) (f := (mkF m 171 #[.val (.int i0), .val (.int i1), .val (.int i2), .val (.int (2 : Int32)), .val (.ref b1), .val (.ref b2), .val (.ref b54), .val (.ref b56), .unset, .unset, .unset, .unset] [(.int (1 : Int32)), (.ref b1), (.int (1 : Int32)), (.ref b54)])) rfl rfl (hb hby at_171)) ?_
    show Outs p e below s _ _ _ (T64.setTop (mkF m 172 #[.val (.int i0), .val (.int i1), .val (.int i2), .val (.int (2 : Int32)), .val (.ref b1), .val (.ref b2), .val (.ref b54), .val (.ref b56), .unset, .unset, .unset, .unset] [(.int ((f0_g64 i0 i1 i2) 1)), (.int (1 : Int32)), (.ref b54)]))
    have f66 : AI Z h64 b54 .int 2 (f0_g151 i0 i1 i2) := (V61.other W64 ne_b54_b56)
    obtain ⟨T67, h67, X67, e67, W67, V67, st67⟩ := puI X64 hx hZ e64 f66 (j := (1 : Int32)) (x := ((f0_g64 i0 i1 i2) 1)) (k := 1) rfl (by decide) (f := (mkF m 172 #[.val (.int i0), .val (.int i1), .val (.int i2), .val (.int (2 : Int32)), .val (.ref b1), .val (.ref b2), .val (.ref b54), .val (.ref b56), .unset, .unset, .unset, .unset] [(.int ((f0_g64 i0 i1 i2) 1)), (.int (1 : Int32)), (.ref b54)])) rfl rfl (hb hby at_172)
    replace V67 : AI Z h67 b54 .int 2 (f0_g172 i0 i1 i2) := V67
    have N67 := Fr.snoc X67 N64 g_b54
    obtain ⟨Lh67, X67, N67⟩ := hide X67 N67 (C := 4) (S := 12) (by decide) (by decide)
    refine Outs.of st67 ?_
    show Outs p e below s _ _ _ (T67.setTop (mkF m 173 #[.val (.int i0), .val (.int i1), .val (.int i2), .val (.int (2 : Int32)), .val (.ref b1), .val (.ref b2), .val (.ref b54), .val (.ref b56), .unset, .unset, .unset, .unset] []))
    refine Outs.of (U' := T67.setTop (mkF m 179 #[.val (.int i0), .val (.int i1), .val (.int i2), .val (.int (2 : Int32)), .val (.ref b1), .val (.ref b2), .val (.ref b54), .val (.ref b56), .unset, .unset, .unset, .unset] [(.int (1 : Int32)), (.ref b2), (.int (1 : Int32)), (.ref b56)])) (fun t k => ?_) ?_
    · refine XS.aload X67.here hx rfl (hb hby at_173) rfl rfl ?_
      refine XS.iconst X67.here hx rfl (hb hby at_175) ?_
      refine XS.aload X67.here hx rfl (hb hby at_176) rfl rfl ?_
      refine XS.iconst X67.here hx rfl (hb hby at_178) ?_
      exact k
    have f68 : AI Z h67 b2 .int 4 (f0_g129 i0 i1 i2) := ((f62.other W64 ne_b2_b56).other W67 ne_b2_b54)
    refine Outs.of (ldI X67 hx hZ e67 f68 (j := (1 : Int32)) (k := 1) rfl (by decide) (f := (mkF m 179 #[.val (.int i0), .val (.int i1), .val (.int i2), .val (.int (2 : Int32)), .val (.ref b1), .val (.ref b2), .val (.ref b54), .val (.ref b56), .unset, .unset, .unset, .unset] [(.int (1 : Int32)), (.ref b2), (.int (1 : Int32)), (.ref b56)])) rfl rfl (hb hby at_179)) ?_
    show Outs p e below s _ _ _ (T67.setTop (mkF m 180 #[.val (.int i0), .val (.int i1), .val (.int i2), .val (.int (2 : Int32)), .val (.ref b1), .val (.ref b2), .val (.ref b54), .val (.ref b56), .unset, .unset, .unset, .unset] [(.int ((f0_g129 i0 i1 i2) 1)), (.int (1 : Int32)), (.ref b56)]))
    have f69 : AI Z h67 b56 .int 2 (f0_g159 i0 i1 i2) := (V64.other W67 ne_b54_b56.symm)
    obtain ⟨T70, h70, X70, e70, W70, V70, st70⟩ := puI X67 hx hZ e67 f69 (j := (1 : Int32)) (x := ((f0_g129 i0 i1 i2) 1)) (k := 1) rfl (by decide) (f := (mkF m 180 #[.val (.int i0), .val (.int i1), .val (.int i2), .val (.int (2 : Int32)), .val (.ref b1), .val (.ref b2), .val (.ref b54), .val (.ref b56), .unset, .unset, .unset, .unset] [(.int ((f0_g129 i0 i1 i2) 1)), (.int (1 : Int32)), (.ref b56)])) rfl rfl (hb hby at_180)
    replace V70 : AI Z h70 b56 .int 2 (f0_g180 i0 i1 i2) := V70
    have N70 := Fr.snoc X70 N67 g_b56
    obtain ⟨Lh70, X70, N70⟩ := hide X70 N70 (C := 4) (S := 12) (by decide) (by decide)
    refine Outs.of st70 ?_
    show Outs p e below s _ _ _ (T70.setTop (mkF m 181 #[.val (.int i0), .val (.int i1), .val (.int i2), .val (.int (2 : Int32)), .val (.ref b1), .val (.ref b2), .val (.ref b54), .val (.ref b56), .unset, .unset, .unset, .unset] []))
    refine Outs.of (U' := T70.setTop (mkF m 226 #[.val (.int i0), .val (.int i1), .val (.int i2), .val (.int (2 : Int32)), .val (.ref b1), .val (.ref b2), .val (.ref b54), .val (.ref b56), .unset, .unset, .unset, .unset] [(.int (2 : Int32)), (.ref b1)])) (fun t k => ?_) ?_
    · refine XS.iloadN X70.here hx rfl (hb hby at_181) rfl ?_
      refine XS.iconst X70.here hx rfl (hb hby at_182) ?_
      refine XS.icmpYes X70.here hx rfl (pc0 := 183) (pc' := 202) rfl (hb hby at_183) rfl (flt (by decide)).2.2.2 (by decide) (by decide) ?_
      refine XS.iloadN X70.here hx rfl (hb hby at_202) rfl ?_
      refine XS.iconst X70.here hx rfl (hb hby at_203) ?_
      refine XS.icmpYes X70.here hx rfl (pc0 := 204) (pc' := 223) rfl (hb hby at_204) rfl (flt (by decide)).2.2.2 (by decide) (by decide) ?_
      refine XS.aload X70.here hx rfl (hb hby at_223) rfl rfl ?_
      refine XS.iloadN X70.here hx rfl (hb hby at_225) rfl ?_
      exact k
    have f71 : AI Z h70 b1 .int 4 (f0_g64 i0 i1 i2) := ((f65.other W67 ne_b1_b54).other W70 ne_b1_b56)
    obtain ⟨_, _, ⟨T72, L72, k72, n72⟩, -, X72, ⟨Lc72, hQ72, l72, y72, z72⟩, st72⟩ := Jvm.LawKit.callS X70 hx (y := (⟨"com/example/ratatoskr/ratatoskr/ChoicesAdvancePinLaw", "prod", "([II)I"⟩ : MethodName)) hown (mvT hZ (hw _ (List.mem_of_getElem? (i := 2) rfl))) (mvT hZ (hw _ (List.mem_of_getElem? (i := 3) rfl))) (mvT hZ (hw _ (List.mem_of_getElem? (i := 4) rfl))) (mvT hZ (hw _ (List.mem_of_getElem? (i := 5) rfl))) (by decide) (backOf (W := 0) (rmp2 l Z a0 hw [] b1 (f0_g64 i0 i1 i2) h70 n0 f71) hZ (hw _ (List.mem_of_getElem? (i := 5) rfl)) (hw _ (List.mem_of_getElem? (i := 4) rfl)) (by decide) (by decide)) (g := (mkF m 226 #[.val (.int i0), .val (.int i1), .val (.int i2), .val (.int (2 : Int32)), .val (.ref b1), .val (.ref b2), .val (.ref b54), .val (.ref b56), .unset, .unset, .unset, .unset] [(.int (2 : Int32)), (.ref b1)])) rfl (by rw [hml]; rfl) (argsL := [(.ref b1), (.int (2 : Int32))]) (rest := []) (lenOf pd_0 rfl) rfl (by show 2 * 0 + _ ≤ _; exact Nat.le_of_eq rfl) (hb hby at_226) (fun _ _ => ⟨rfl, e70, (by decide : 4 + 0 ≤ _), (by decide : 12 + 0 ≤ _)⟩)
    dsimp only [Pt.U, Pt.locs, Pt.cells, Pt.slots] at X72 l72 y72 z72 st72 hQ72
    subst l72 y72 z72
    obtain ⟨rfl, N72q, e72⟩ := hQ72
    have N72 := Fr.app N70 N72q
    obtain ⟨Lh72, X72, N72⟩ := hide X72 N72 (C := 4) (S := 12) (by decide) (by decide)
    refine Outs.of st72 ?_
    show Outs p e below s _ _ _ (T72.setTop (mkF m 229 #[.val (.int i0), .val (.int i1), .val (.int i2), .val (.int (2 : Int32)), .val (.ref b1), .val (.ref b2), .val (.ref b54), .val (.ref b56), .unset, .unset, .unset, .unset] [(.int (F_p2 (f0_g64 i0 i1 i2)))]))
    refine Outs.of (U' := T72.setTop (mkF m 236 #[.val (.int i0), .val (.int i1), .val (.int i2), .val (.int (2 : Int32)), .val (.ref b1), .val (.ref b2), .val (.ref b54), .val (.ref b56), .val (.int (F_p2 (f0_g64 i0 i1 i2))), .unset, .unset, .unset] [(.int (2 : Int32)), (.ref b1), (.ref b56)])) (fun t k => ?_) ?_
    · refine XS.istore X72.here hx rfl (hb hby at_229) rfl (l' := #[.val (.int i0), .val (.int i1), .val (.int i2), .val (.int (2 : Int32)), .val (.ref b1), .val (.ref b2), .val (.ref b54), .val (.ref b56), .val (.int (F_p2 (f0_g64 i0 i1 i2))), .unset, .unset, .unset]) rfl ?_
      refine XS.aload X72.here hx rfl (hb hby at_231) rfl rfl ?_
      refine XS.aload X72.here hx rfl (hb hby at_233) rfl rfl ?_
      refine XS.iloadN X72.here hx rfl (hb hby at_235) rfl ?_
      exact k
    obtain ⟨_, _, ⟨T73, L73, k73, n73⟩, -, X73, ⟨Lc73, hQ73, l73, y73, z73⟩, st73⟩ := Jvm.LawKit.callS X72 hx (y := (⟨"com/example/ratatoskr/ratatoskr/ChoicesAdvancePinLaw", "val", "([I[II)I"⟩ : MethodName)) hown (mvT hZ (hw _ (List.mem_of_getElem? (i := 6) rfl))) (mvT hZ (hw _ (List.mem_of_getElem? (i := 7) rfl))) (mvT hZ (hw _ (List.mem_of_getElem? (i := 4) rfl))) (mvT hZ (hw _ (List.mem_of_getElem? (i := 8) rfl))) (by decide) (backOf (W := 0) (rmv2 l Z a0 hw [] b56 b1 (f0_g180 i0 i1 i2) (f0_g64 i0 i1 i2) h70 n0 V70 f71) hZ (hw _ (List.mem_of_getElem? (i := 8) rfl)) (hw _ (List.mem_of_getElem? (i := 4) rfl)) (by decide) (by decide)) (g := (mkF m 236 #[.val (.int i0), .val (.int i1), .val (.int i2), .val (.int (2 : Int32)), .val (.ref b1), .val (.ref b2), .val (.ref b54), .val (.ref b56), .val (.int (F_p2 (f0_g64 i0 i1 i2))), .unset, .unset, .unset] [(.int (2 : Int32)), (.ref b1), (.ref b56)])) rfl (by rw [hml]; rfl) (argsL := [(.ref b56), (.ref b1), (.int (2 : Int32))]) (rest := []) (lenOf pd_1 rfl) rfl (by show 2 * 0 + _ ≤ _; exact Nat.le_of_eq rfl) (hb hby at_236) (fun _ _ => ⟨rfl, e72, (by decide : 4 + 0 ≤ _), (by decide : 12 + 0 ≤ _)⟩)
    dsimp only [Pt.U, Pt.locs, Pt.cells, Pt.slots] at X73 l73 y73 z73 st73 hQ73
    subst l73 y73 z73
    obtain ⟨rfl, N73q, e73⟩ := hQ73
    have N73 := Fr.app N72 N73q
    obtain ⟨Lh73, X73, N73⟩ := hide X73 N73 (C := 4) (S := 12) (by decide) (by decide)
    refine Outs.of st73 ?_
    show Outs p e below s _ _ _ (T73.setTop (mkF m 239 #[.val (.int i0), .val (.int i1), .val (.int i2), .val (.int (2 : Int32)), .val (.ref b1), .val (.ref b2), .val (.ref b54), .val (.ref b56), .val (.int (F_p2 (f0_g64 i0 i1 i2))), .unset, .unset, .unset] [(.int (F_v2 (f0_g180 i0 i1 i2) (f0_g64 i0 i1 i2)))]))
    refine Outs.of (U' := T73.setTop (mkF m 245 #[.val (.int i0), .val (.int i1), .val (.int i2), .val (.int (2 : Int32)), .val (.ref b1), .val (.ref b2), .val (.ref b54), .val (.ref b56), .val (.int (F_p2 (f0_g64 i0 i1 i2))), .val (.int (F_v2 (f0_g180 i0 i1 i2) (f0_g64 i0 i1 i2))), .unset, .unset] [(.ref b54), (.ref b56)])) (fun t k => ?_) ?_
    · refine XS.istore X73.here hx rfl (hb hby at_239) rfl (l' := #[.val (.int i0), .val (.int i1), .val (.int i2), .val (.int (2 : Int32)), .val (.ref b1), .val (.ref b2), .val (.ref b54), .val (.ref b56), .val (.int (F_p2 (f0_g64 i0 i1 i2))), .val (.int (F_v2 (f0_g180 i0 i1 i2) (f0_g64 i0 i1 i2))), .unset, .unset]) rfl ?_
      refine XS.aload X73.here hx rfl (hb hby at_241) rfl rfl ?_
      refine XS.aload X73.here hx rfl (hb hby at_243) rfl rfl ?_
      exact k
    have f74 : AI Z h70 b54 .int 2 (f0_g172 i0 i1 i2) := (V67.other W70 ne_b54_b56)
    obtain ⟨_, _, ⟨T75, L75, k75, n75⟩, -, X75, ⟨Lc75, hQ75, l75, y75, z75⟩, st75⟩ := Jvm.LawKit.callS X73 hx (y := (⟨"com/example/ratatoskr/ratatoskr/Choices", "advance", "([I[I)Z"⟩ : MethodName)) hown (mvT hZ (hw _ (List.mem_of_getElem? (i := 9) rfl))) (mvT hZ (hw _ (List.mem_of_getElem? (i := 10) rfl))) (mvT hZ (hw _ (List.mem_of_getElem? (i := 11) rfl))) (mvT hZ (hw _ (List.mem_of_getElem? (i := 12) rfl))) (by decide) (backOf (W := 0) (rma2 l Z a0 hw [] b56 b54 (f0_g180 i0 i1 i2) (f0_g172 i0 i1 i2) h70 n0 V70 f74 g_b56 ne_b54_b56.symm) hZ (hw _ (List.mem_of_getElem? (i := 12) rfl)) (hw _ (List.mem_of_getElem? (i := 11) rfl)) (by decide) (by decide)) (g := (mkF m 245 #[.val (.int i0), .val (.int i1), .val (.int i2), .val (.int (2 : Int32)), .val (.ref b1), .val (.ref b2), .val (.ref b54), .val (.ref b56), .val (.int (F_p2 (f0_g64 i0 i1 i2))), .val (.int (F_v2 (f0_g180 i0 i1 i2) (f0_g64 i0 i1 i2))), .unset, .unset] [(.ref b54), (.ref b56)])) rfl (by rw [hml]; rfl) (argsL := [(.ref b56), (.ref b54)]) (rest := []) (lenOf pd_2 rfl) rfl (by show 2 * 0 + _ ≤ _; exact Nat.le_of_eq rfl) (hb hby at_245) (fun _ _ => ⟨rfl, e73, (by decide : 4 + 0 ≤ _), (by decide : 12 + 0 ≤ _)⟩)
    dsimp only [Pt.U, Pt.locs, Pt.cells, Pt.slots] at X75 l75 y75 z75 st75 hQ75
    subst l75 y75 z75
    obtain ⟨rfl, N75q, K75, u75_0, u75_1⟩ := hQ75
    have N75 := Fr.app N73 N75q
    obtain ⟨Lh75, X75, N75⟩ := hide X75 N75 (C := 4) (S := 12) (by decide) (by decide)
    refine Outs.of st75 ?_
    show Outs p e below s _ _ _ (T75.setTop (mkF m 248 #[.val (.int i0), .val (.int i1), .val (.int i2), .val (.int (2 : Int32)), .val (.ref b1), .val (.ref b2), .val (.ref b54), .val (.ref b56), .val (.int (F_p2 (f0_g64 i0 i1 i2))), .val (.int (F_v2 (f0_g180 i0 i1 i2) (f0_g64 i0 i1 i2))), .unset, .unset] [(.int (F_a2 (f0_g180 i0 i1 i2) (f0_g172 i0 i1 i2)))]))
    refine Outs.of (U' := T75.setTop (mkF m 258 #[.val (.int i0), .val (.int i1), .val (.int i2), .val (.int (2 : Int32)), .val (.ref b1), .val (.ref b2), .val (.ref b54), .val (.ref b56), .val (.int (F_p2 (f0_g64 i0 i1 i2))), .val (.int (F_v2 (f0_g180 i0 i1 i2) (f0_g64 i0 i1 i2))), .val (.int (F_a2 (f0_g180 i0 i1 i2) (f0_g172 i0 i1 i2))), .unset] [(.int (0 : Int32)), (.int (2 : Int32)), (.ref b1), (.ref b54), (.ref b56)])) (fun t k => ?_) ?_
    · refine XS.istore X75.here hx rfl (hb hby at_248) rfl (l' := #[.val (.int i0), .val (.int i1), .val (.int i2), .val (.int (2 : Int32)), .val (.ref b1), .val (.ref b2), .val (.ref b54), .val (.ref b56), .val (.int (F_p2 (f0_g64 i0 i1 i2))), .val (.int (F_v2 (f0_g180 i0 i1 i2) (f0_g64 i0 i1 i2))), .val (.int (F_a2 (f0_g180 i0 i1 i2) (f0_g172 i0 i1 i2))), .unset]) rfl ?_
      refine XS.aload X75.here hx rfl (hb hby at_250) rfl rfl ?_
      refine XS.aload X75.here hx rfl (hb hby at_252) rfl rfl ?_
      refine XS.aload X75.here hx rfl (hb hby at_254) rfl rfl ?_
      refine XS.iloadN X75.here hx rfl (hb hby at_256) rfl ?_
      refine XS.iconst X75.here hx rfl (hb hby at_257) ?_
      exact k
    have f76 : AI Z T75.heap b1 .int 4 (f0_g64 i0 i1 i2) := (f71.keep K75 (ninS ne_b1_b56 nin0))
    obtain ⟨_, _, ⟨T77, L77, k77, n77⟩, -, X77, ⟨Lc77, hQ77, l77, y77, z77⟩, st77⟩ := Jvm.LawKit.callS X75 hx (y := (⟨"com/example/ratatoskr/ratatoskr/ChoicesAdvancePinLaw", "ok", "([I[I[III)Z"⟩ : MethodName)) hown (mvT hZ (hw _ (List.mem_of_getElem? (i := 13) rfl))) (mvT hZ (hw _ (List.mem_of_getElem? (i := 14) rfl))) (mvT hZ (hw _ (List.mem_of_getElem? (i := 4) rfl))) (mvT hZ (hw _ (List.mem_of_getElem? (i := 15) rfl))) (by decide) (backOf (W := 0) (rmk2_0 l Z a0 hw [] b56 b54 b1 (a2_out0 (f0_g180 i0 i1 i2) (f0_g172 i0 i1 i2)) (f0_g172 i0 i1 i2) (f0_g64 i0 i1 i2) T75.heap n0 u75_0 u75_1 f76) hZ (hw _ (List.mem_of_getElem? (i := 15) rfl)) (hw _ (List.mem_of_getElem? (i := 4) rfl)) (by decide) (by decide)) (g := (mkF m 258 #[.val (.int i0), .val (.int i1), .val (.int i2), .val (.int (2 : Int32)), .val (.ref b1), .val (.ref b2), .val (.ref b54), .val (.ref b56), .val (.int (F_p2 (f0_g64 i0 i1 i2))), .val (.int (F_v2 (f0_g180 i0 i1 i2) (f0_g64 i0 i1 i2))), .val (.int (F_a2 (f0_g180 i0 i1 i2) (f0_g172 i0 i1 i2))), .unset] [(.int (0 : Int32)), (.int (2 : Int32)), (.ref b1), (.ref b54), (.ref b56)])) rfl (by rw [hml]; rfl) (argsL := [(.ref b56), (.ref b54), (.ref b1), (.int (2 : Int32)), (.int (0 : Int32))]) (rest := []) (lenOf pd_3 rfl) rfl (by show 2 * 0 + _ ≤ _; exact Nat.le_of_eq rfl) (hb hby at_258) (fun _ _ => ⟨rfl, rfl, (by decide : 4 + 0 ≤ _), (by decide : 12 + 0 ≤ _)⟩)
    dsimp only [Pt.U, Pt.locs, Pt.cells, Pt.slots] at X77 l77 y77 z77 st77 hQ77
    subst l77 y77 z77
    obtain ⟨rfl, N77q, e77⟩ := hQ77
    have N77 := Fr.app N75 N77q
    obtain ⟨Lh77, X77, N77⟩ := hide X77 N77 (C := 4) (S := 12) (by decide) (by decide)
    refine Outs.of st77 ?_
    show Outs p e below s _ _ _ (T77.setTop (mkF m 261 #[.val (.int i0), .val (.int i1), .val (.int i2), .val (.int (2 : Int32)), .val (.ref b1), .val (.ref b2), .val (.ref b54), .val (.ref b56), .val (.int (F_p2 (f0_g64 i0 i1 i2))), .val (.int (F_v2 (f0_g180 i0 i1 i2) (f0_g64 i0 i1 i2))), .val (.int (F_a2 (f0_g180 i0 i1 i2) (f0_g172 i0 i1 i2))), .unset] [(.int (F_k2_0 (a2_out0 (f0_g180 i0 i1 i2) (f0_g172 i0 i1 i2)) (f0_g172 i0 i1 i2) (f0_g64 i0 i1 i2)))]))
    refine Outs.of (U' := T77.setTop (mkF m 272 #[.val (.int i0), .val (.int i1), .val (.int i2), .val (.int (2 : Int32)), .val (.ref b1), .val (.ref b2), .val (.ref b54), .val (.ref b56), .val (.int (F_p2 (f0_g64 i0 i1 i2))), .val (.int (F_v2 (f0_g180 i0 i1 i2) (f0_g64 i0 i1 i2))), .val (.int (F_a2 (f0_g180 i0 i1 i2) (f0_g172 i0 i1 i2))), .unset] [(.int (1 : Int32)), (.int (2 : Int32)), (.ref b1), (.ref b54), (.ref b56)])) (fun t k => ?_) ?_
    · refine XS.ifNo X77.here hx rfl (hb hby at_261) rfl ((if0 _ _).trans (feq (law_ok2_0 i0 i1 i2)).1) ?_
      refine XS.aload X77.here hx rfl (hb hby at_264) rfl rfl ?_
      refine XS.aload X77.here hx rfl (hb hby at_266) rfl rfl ?_
      refine XS.aload X77.here hx rfl (hb hby at_268) rfl rfl ?_
      refine XS.iloadN X77.here hx rfl (hb hby at_270) rfl ?_
      refine XS.iconst X77.here hx rfl (hb hby at_271) ?_
      exact k
    obtain ⟨_, _, ⟨T78, L78, k78, n78⟩, -, X78, ⟨Lc78, hQ78, l78, y78, z78⟩, st78⟩ := Jvm.LawKit.callS X77 hx (y := (⟨"com/example/ratatoskr/ratatoskr/ChoicesAdvancePinLaw", "ok", "([I[I[III)Z"⟩ : MethodName)) hown (mvT hZ (hw _ (List.mem_of_getElem? (i := 13) rfl))) (mvT hZ (hw _ (List.mem_of_getElem? (i := 14) rfl))) (mvT hZ (hw _ (List.mem_of_getElem? (i := 4) rfl))) (mvT hZ (hw _ (List.mem_of_getElem? (i := 15) rfl))) (by decide) (backOf (W := 0) (rmk2_1 l Z a0 hw [] b56 b54 b1 (a2_out0 (f0_g180 i0 i1 i2) (f0_g172 i0 i1 i2)) (f0_g172 i0 i1 i2) (f0_g64 i0 i1 i2) T75.heap n0 u75_0 u75_1 f76) hZ (hw _ (List.mem_of_getElem? (i := 15) rfl)) (hw _ (List.mem_of_getElem? (i := 4) rfl)) (by decide) (by decide)) (g := (mkF m 272 #[.val (.int i0), .val (.int i1), .val (.int i2), .val (.int (2 : Int32)), .val (.ref b1), .val (.ref b2), .val (.ref b54), .val (.ref b56), .val (.int (F_p2 (f0_g64 i0 i1 i2))), .val (.int (F_v2 (f0_g180 i0 i1 i2) (f0_g64 i0 i1 i2))), .val (.int (F_a2 (f0_g180 i0 i1 i2) (f0_g172 i0 i1 i2))), .unset] [(.int (1 : Int32)), (.int (2 : Int32)), (.ref b1), (.ref b54), (.ref b56)])) rfl (by rw [hml]; rfl) (argsL := [(.ref b56), (.ref b54), (.ref b1), (.int (2 : Int32)), (.int (1 : Int32))]) (rest := []) (lenOf pd_3 rfl) rfl (by show 2 * 0 + _ ≤ _; exact Nat.le_of_eq rfl) (hb hby at_272) (fun _ _ => ⟨rfl, e77, (by decide : 4 + 0 ≤ _), (by decide : 12 + 0 ≤ _)⟩)
    dsimp only [Pt.U, Pt.locs, Pt.cells, Pt.slots] at X78 l78 y78 z78 st78 hQ78
    subst l78 y78 z78
    obtain ⟨rfl, N78q, e78⟩ := hQ78
    have N78 := Fr.app N77 N78q
    obtain ⟨Lh78, X78, N78⟩ := hide X78 N78 (C := 4) (S := 12) (by decide) (by decide)
    refine Outs.of st78 ?_
    show Outs p e below s _ _ _ (T78.setTop (mkF m 275 #[.val (.int i0), .val (.int i1), .val (.int i2), .val (.int (2 : Int32)), .val (.ref b1), .val (.ref b2), .val (.ref b54), .val (.ref b56), .val (.int (F_p2 (f0_g64 i0 i1 i2))), .val (.int (F_v2 (f0_g180 i0 i1 i2) (f0_g64 i0 i1 i2))), .val (.int (F_a2 (f0_g180 i0 i1 i2) (f0_g172 i0 i1 i2))), .unset] [(.int (F_k2_1 (a2_out0 (f0_g180 i0 i1 i2) (f0_g172 i0 i1 i2)) (f0_g172 i0 i1 i2) (f0_g64 i0 i1 i2)))]))
    refine Outs.of (U' := T78.setTop (mkF m 286 #[.val (.int i0), .val (.int i1), .val (.int i2), .val (.int (2 : Int32)), .val (.ref b1), .val (.ref b2), .val (.ref b54), .val (.ref b56), .val (.int (F_p2 (f0_g64 i0 i1 i2))), .val (.int (F_v2 (f0_g180 i0 i1 i2) (f0_g64 i0 i1 i2))), .val (.int (F_a2 (f0_g180 i0 i1 i2) (f0_g172 i0 i1 i2))), .unset] [(.int (2 : Int32)), (.int (2 : Int32)), (.ref b1), (.ref b54), (.ref b56)])) (fun t k => ?_) ?_
    · refine XS.ifNo X78.here hx rfl (hb hby at_275) rfl ((if0 _ _).trans (feq (law_ok2_1 i0 i1 i2)).1) ?_
      refine XS.aload X78.here hx rfl (hb hby at_278) rfl rfl ?_
      refine XS.aload X78.here hx rfl (hb hby at_280) rfl rfl ?_
      refine XS.aload X78.here hx rfl (hb hby at_282) rfl rfl ?_
      refine XS.iloadN X78.here hx rfl (hb hby at_284) rfl ?_
      refine XS.iconst X78.here hx rfl (hb hby at_285) ?_
      exact k
    obtain ⟨_, _, ⟨T79, L79, k79, n79⟩, -, X79, ⟨Lc79, hQ79, l79, y79, z79⟩, st79⟩ := Jvm.LawKit.callS X78 hx (y := (⟨"com/example/ratatoskr/ratatoskr/ChoicesAdvancePinLaw", "ok", "([I[I[III)Z"⟩ : MethodName)) hown (mvT hZ (hw _ (List.mem_of_getElem? (i := 13) rfl))) (mvT hZ (hw _ (List.mem_of_getElem? (i := 14) rfl))) (mvT hZ (hw _ (List.mem_of_getElem? (i := 4) rfl))) (mvT hZ (hw _ (List.mem_of_getElem? (i := 15) rfl))) (by decide) (backOf (W := 0) (rmk2_2 l Z a0 hw [] b56 b54 b1 (a2_out0 (f0_g180 i0 i1 i2) (f0_g172 i0 i1 i2)) (f0_g172 i0 i1 i2) (f0_g64 i0 i1 i2) T75.heap n0 u75_0 u75_1 f76) hZ (hw _ (List.mem_of_getElem? (i := 15) rfl)) (hw _ (List.mem_of_getElem? (i := 4) rfl)) (by decide) (by decide)) (g := (mkF m 286 #[.val (.int i0), .val (.int i1), .val (.int i2), .val (.int (2 : Int32)), .val (.ref b1), .val (.ref b2), .val (.ref b54), .val (.ref b56), .val (.int (F_p2 (f0_g64 i0 i1 i2))), .val (.int (F_v2 (f0_g180 i0 i1 i2) (f0_g64 i0 i1 i2))), .val (.int (F_a2 (f0_g180 i0 i1 i2) (f0_g172 i0 i1 i2))), .unset] [(.int (2 : Int32)), (.int (2 : Int32)), (.ref b1), (.ref b54), (.ref b56)])) rfl (by rw [hml]; rfl) (argsL := [(.ref b56), (.ref b54), (.ref b1), (.int (2 : Int32)), (.int (2 : Int32))]) (rest := []) (lenOf pd_3 rfl) rfl (by show 2 * 0 + _ ≤ _; exact Nat.le_of_eq rfl) (hb hby at_286) (fun _ _ => ⟨rfl, e78, (by decide : 4 + 0 ≤ _), (by decide : 12 + 0 ≤ _)⟩)
    dsimp only [Pt.U, Pt.locs, Pt.cells, Pt.slots] at X79 l79 y79 z79 st79 hQ79
    subst l79 y79 z79
    obtain ⟨rfl, N79q, e79⟩ := hQ79
    have N79 := Fr.app N78 N79q
    obtain ⟨Lh79, X79, N79⟩ := hide X79 N79 (C := 4) (S := 12) (by decide) (by decide)
    refine Outs.of st79 ?_
    show Outs p e below s _ _ _ (T79.setTop (mkF m 289 #[.val (.int i0), .val (.int i1), .val (.int i2), .val (.int (2 : Int32)), .val (.ref b1), .val (.ref b2), .val (.ref b54), .val (.ref b56), .val (.int (F_p2 (f0_g64 i0 i1 i2))), .val (.int (F_v2 (f0_g180 i0 i1 i2) (f0_g64 i0 i1 i2))), .val (.int (F_a2 (f0_g180 i0 i1 i2) (f0_g172 i0 i1 i2))), .unset] [(.int (F_k2_2 (a2_out0 (f0_g180 i0 i1 i2) (f0_g172 i0 i1 i2)) (f0_g172 i0 i1 i2) (f0_g64 i0 i1 i2)))]))
    refine Outs.of (U' := T79.setTop (mkF m 300 #[.val (.int i0), .val (.int i1), .val (.int i2), .val (.int (2 : Int32)), .val (.ref b1), .val (.ref b2), .val (.ref b54), .val (.ref b56), .val (.int (F_p2 (f0_g64 i0 i1 i2))), .val (.int (F_v2 (f0_g180 i0 i1 i2) (f0_g64 i0 i1 i2))), .val (.int (F_a2 (f0_g180 i0 i1 i2) (f0_g172 i0 i1 i2))), .unset] [(.int (3 : Int32)), (.int (2 : Int32)), (.ref b1), (.ref b54), (.ref b56)])) (fun t k => ?_) ?_
    · refine XS.ifNo X79.here hx rfl (hb hby at_289) rfl ((if0 _ _).trans (feq (law_ok2_2 i0 i1 i2)).1) ?_
      refine XS.aload X79.here hx rfl (hb hby at_292) rfl rfl ?_
      refine XS.aload X79.here hx rfl (hb hby at_294) rfl rfl ?_
      refine XS.aload X79.here hx rfl (hb hby at_296) rfl rfl ?_
      refine XS.iloadN X79.here hx rfl (hb hby at_298) rfl ?_
      refine XS.iconst X79.here hx rfl (hb hby at_299) ?_
      exact k
    obtain ⟨_, _, ⟨T80, L80, k80, n80⟩, -, X80, ⟨Lc80, hQ80, l80, y80, z80⟩, st80⟩ := Jvm.LawKit.callS X79 hx (y := (⟨"com/example/ratatoskr/ratatoskr/ChoicesAdvancePinLaw", "ok", "([I[I[III)Z"⟩ : MethodName)) hown (mvT hZ (hw _ (List.mem_of_getElem? (i := 13) rfl))) (mvT hZ (hw _ (List.mem_of_getElem? (i := 14) rfl))) (mvT hZ (hw _ (List.mem_of_getElem? (i := 4) rfl))) (mvT hZ (hw _ (List.mem_of_getElem? (i := 15) rfl))) (by decide) (backOf (W := 0) (rmk2_3 l Z a0 hw [] b56 b54 b1 (a2_out0 (f0_g180 i0 i1 i2) (f0_g172 i0 i1 i2)) (f0_g172 i0 i1 i2) (f0_g64 i0 i1 i2) T75.heap n0 u75_0 u75_1 f76) hZ (hw _ (List.mem_of_getElem? (i := 15) rfl)) (hw _ (List.mem_of_getElem? (i := 4) rfl)) (by decide) (by decide)) (g := (mkF m 300 #[.val (.int i0), .val (.int i1), .val (.int i2), .val (.int (2 : Int32)), .val (.ref b1), .val (.ref b2), .val (.ref b54), .val (.ref b56), .val (.int (F_p2 (f0_g64 i0 i1 i2))), .val (.int (F_v2 (f0_g180 i0 i1 i2) (f0_g64 i0 i1 i2))), .val (.int (F_a2 (f0_g180 i0 i1 i2) (f0_g172 i0 i1 i2))), .unset] [(.int (3 : Int32)), (.int (2 : Int32)), (.ref b1), (.ref b54), (.ref b56)])) rfl (by rw [hml]; rfl) (argsL := [(.ref b56), (.ref b54), (.ref b1), (.int (2 : Int32)), (.int (3 : Int32))]) (rest := []) (lenOf pd_3 rfl) rfl (by show 2 * 0 + _ ≤ _; exact Nat.le_of_eq rfl) (hb hby at_300) (fun _ _ => ⟨rfl, e79, (by decide : 4 + 0 ≤ _), (by decide : 12 + 0 ≤ _)⟩)
    dsimp only [Pt.U, Pt.locs, Pt.cells, Pt.slots] at X80 l80 y80 z80 st80 hQ80
    subst l80 y80 z80
    obtain ⟨rfl, N80q, e80⟩ := hQ80
    have N80 := Fr.app N79 N80q
    obtain ⟨Lh80, X80, N80⟩ := hide X80 N80 (C := 4) (S := 12) (by decide) (by decide)
    refine Outs.of st80 ?_
    show Outs p e below s _ _ _ (T80.setTop (mkF m 303 #[.val (.int i0), .val (.int i1), .val (.int i2), .val (.int (2 : Int32)), .val (.ref b1), .val (.ref b2), .val (.ref b54), .val (.ref b56), .val (.int (F_p2 (f0_g64 i0 i1 i2))), .val (.int (F_v2 (f0_g180 i0 i1 i2) (f0_g64 i0 i1 i2))), .val (.int (F_a2 (f0_g180 i0 i1 i2) (f0_g172 i0 i1 i2))), .unset] [(.int (F_k2_3 (a2_out0 (f0_g180 i0 i1 i2) (f0_g172 i0 i1 i2)) (f0_g172 i0 i1 i2) (f0_g64 i0 i1 i2)))]))
    refine Outs.of (U' := T80.setTop (mkF m 313 #[.val (.int i0), .val (.int i1), .val (.int i2), .val (.int (2 : Int32)), .val (.ref b1), .val (.ref b2), .val (.ref b54), .val (.ref b56), .val (.int (F_p2 (f0_g64 i0 i1 i2))), .val (.int (F_v2 (f0_g180 i0 i1 i2) (f0_g64 i0 i1 i2))), .val (.int (F_a2 (f0_g180 i0 i1 i2) (f0_g172 i0 i1 i2))), .unset] [(.int (2 : Int32)), (.ref b1), (.ref b56)])) (fun t k => ?_) ?_
    · refine XS.ifYes X80.here hx rfl (pc0 := 303) (pc' := 308) rfl (hb hby at_303) rfl ((if0 _ _).trans (feq (law_ok2_3 i0 i1 i2)).2) (by decide) (by decide) ?_
      refine XS.aload X80.here hx rfl (hb hby at_308) rfl rfl ?_
      refine XS.aload X80.here hx rfl (hb hby at_310) rfl rfl ?_
      refine XS.iloadN X80.here hx rfl (hb hby at_312) rfl ?_
      exact k
    obtain ⟨_, _, ⟨T81, L81, k81, n81⟩, -, X81, ⟨Lc81, hQ81, l81, y81, z81⟩, st81⟩ := Jvm.LawKit.callS X80 hx (y := (⟨"com/example/ratatoskr/ratatoskr/ChoicesAdvancePinLaw", "val", "([I[II)I"⟩ : MethodName)) hown (mvT hZ (hw _ (List.mem_of_getElem? (i := 6) rfl))) (mvT hZ (hw _ (List.mem_of_getElem? (i := 7) rfl))) (mvT hZ (hw _ (List.mem_of_getElem? (i := 4) rfl))) (mvT hZ (hw _ (List.mem_of_getElem? (i := 8) rfl))) (by decide) (backOf (W := 0) (rmv2 l Z a0 hw [] b56 b1 (a2_out0 (f0_g180 i0 i1 i2) (f0_g172 i0 i1 i2)) (f0_g64 i0 i1 i2) T75.heap n0 u75_0 f76) hZ (hw _ (List.mem_of_getElem? (i := 8) rfl)) (hw _ (List.mem_of_getElem? (i := 4) rfl)) (by decide) (by decide)) (g := (mkF m 313 #[.val (.int i0), .val (.int i1), .val (.int i2), .val (.int (2 : Int32)), .val (.ref b1), .val (.ref b2), .val (.ref b54), .val (.ref b56), .val (.int (F_p2 (f0_g64 i0 i1 i2))), .val (.int (F_v2 (f0_g180 i0 i1 i2) (f0_g64 i0 i1 i2))), .val (.int (F_a2 (f0_g180 i0 i1 i2) (f0_g172 i0 i1 i2))), .unset] [(.int (2 : Int32)), (.ref b1), (.ref b56)])) rfl (by rw [hml]; rfl) (argsL := [(.ref b56), (.ref b1), (.int (2 : Int32))]) (rest := []) (lenOf pd_1 rfl) rfl (by show 2 * 0 + _ ≤ _; exact Nat.le_of_eq rfl) (hb hby at_313) (fun _ _ => ⟨rfl, e80, (by decide : 4 + 0 ≤ _), (by decide : 12 + 0 ≤ _)⟩)
    dsimp only [Pt.U, Pt.locs, Pt.cells, Pt.slots] at X81 l81 y81 z81 st81 hQ81
    subst l81 y81 z81
    obtain ⟨rfl, N81q, e81⟩ := hQ81
    have N81 := Fr.app N80 N81q
    obtain ⟨Lh81, X81, N81⟩ := hide X81 N81 (C := 4) (S := 12) (by decide) (by decide)
    refine Outs.of st81 ?_
    show Outs p e below s _ _ _ (T81.setTop (mkF m 316 #[.val (.int i0), .val (.int i1), .val (.int i2), .val (.int (2 : Int32)), .val (.ref b1), .val (.ref b2), .val (.ref b54), .val (.ref b56), .val (.int (F_p2 (f0_g64 i0 i1 i2))), .val (.int (F_v2 (f0_g180 i0 i1 i2) (f0_g64 i0 i1 i2))), .val (.int (F_a2 (f0_g180 i0 i1 i2) (f0_g172 i0 i1 i2))), .unset] [(.int (F_v2 (a2_out0 (f0_g180 i0 i1 i2) (f0_g172 i0 i1 i2)) (f0_g64 i0 i1 i2)))]))
    refine Outs.of (U' := T81.setTop (mkF m 324 #[.val (.int i0), .val (.int i1), .val (.int i2), .val (.int (2 : Int32)), .val (.ref b1), .val (.ref b2), .val (.ref b54), .val (.ref b56), .val (.int (F_p2 (f0_g64 i0 i1 i2))), .val (.int (F_v2 (f0_g180 i0 i1 i2) (f0_g64 i0 i1 i2))), .val (.int (F_a2 (f0_g180 i0 i1 i2) (f0_g172 i0 i1 i2))), .val (.int (f0_v316a i0 i1 i2))] [(.int (F_p2 (f0_g64 i0 i1 i2))), (.int ((F_v2 (f0_g180 i0 i1 i2) (f0_g64 i0 i1 i2)) + (1 : Int32)))])) (fun t k => ?_) ?_
    · refine XS.istore X81.here hx rfl (hb hby at_316) rfl (l' := #[.val (.int i0), .val (.int i1), .val (.int i2), .val (.int (2 : Int32)), .val (.ref b1), .val (.ref b2), .val (.ref b54), .val (.ref b56), .val (.int (F_p2 (f0_g64 i0 i1 i2))), .val (.int (F_v2 (f0_g180 i0 i1 i2) (f0_g64 i0 i1 i2))), .val (.int (F_a2 (f0_g180 i0 i1 i2) (f0_g172 i0 i1 i2))), .val (.int (f0_v316a i0 i1 i2))]) rfl ?_
      refine XS.iload X81.here hx rfl (hb hby at_318) rfl ?_
      refine XS.iconst X81.here hx rfl (hb hby at_320) ?_
      refine XS.iadd X81.here hx rfl (hb hby at_321) rfl ?_
      refine XS.iload X81.here hx rfl (hb hby at_322) rfl ?_
      exact k
    by_cases hc324 : ((F_v2 (f0_g180 i0 i1 i2) (f0_g64 i0 i1 i2)) + (1 : Int32)) < (F_p2 (f0_g64 i0 i1 i2))
    · refine Outs.of (U' := T81.setTop (mkF m 327 #[.val (.int i0), .val (.int i1), .val (.int i2), .val (.int (2 : Int32)), .val (.ref b1), .val (.ref b2), .val (.ref b54), .val (.ref b56), .val (.int (F_p2 (f0_g64 i0 i1 i2))), .val (.int (F_v2 (f0_g180 i0 i1 i2) (f0_g64 i0 i1 i2))), .val (.int (F_a2 (f0_g180 i0 i1 i2) (f0_g172 i0 i1 i2))), .val (.int (f0_v316a i0 i1 i2))] [])) (fun t k => ?_) ?_
      · refine XS.icmpNo X81.here hx rfl (hb hby at_324) rfl (tlt hc324).2.1 ?_
        exact k
      refine Outs.of (U' := T81.setTop (mkF m 346 #[.val (.int i0), .val (.int i1), .val (.int i2), .val (.int (2 : Int32)), .val (.ref b1), .val (.ref b2), .val (.ref b54), .val (.ref b56), .val (.int (F_p2 (f0_g64 i0 i1 i2))), .val (.int (F_v2 (f0_g180 i0 i1 i2) (f0_g64 i0 i1 i2))), .val (.int (F_a2 (f0_g180 i0 i1 i2) (f0_g172 i0 i1 i2))), .val (.int (f0_v316a i0 i1 i2))] [(.int (f0_329_s0b i0 i1 i2))])) (fun t k => ?_) ?_
      · refine XS.iload X81.here hx rfl (hb hby at_327) rfl ?_
        by_cases hc329 : (F_a2 (f0_g180 i0 i1 i2) (f0_g172 i0 i1 i2)) = (0 : Int32)
        · refine XS.ifYes X81.here hx rfl (pc0 := 329) (pc' := 345) rfl (hb hby at_329) rfl ((if0 _ _).trans (teq hc329).1) (by decide) (by decide) ?_
          refine XS.iconst X81.here hx rfl (hb hby at_345) ?_
          rw [show (f0_329_s0b i0 i1 i2) = (0 : Int32) from (if_pos hc329)] at k
          exact k
        · refine XS.ifNo X81.here hx rfl (hb hby at_329) rfl ((if0 _ _).trans (feq hc329).1) ?_
          refine XS.iload X81.here hx rfl (hb hby at_332) rfl ?_
          refine XS.iload X81.here hx rfl (hb hby at_334) rfl ?_
          refine XS.iconst X81.here hx rfl (hb hby at_336) ?_
          refine XS.iadd X81.here hx rfl (hb hby at_337) rfl ?_
          by_cases hc338 : (f0_v316a i0 i1 i2) = ((F_v2 (f0_g180 i0 i1 i2) (f0_g64 i0 i1 i2)) + (1 : Int32))
          · refine XS.icmpNo X81.here hx rfl (hb hby at_338) rfl (teq hc338).2 ?_
            refine XS.iconst X81.here hx rfl (hb hby at_341) ?_
            refine XS.goto X81.here hx rfl (pc0 := 342) (pc' := 346) rfl (hb hby at_342) (by decide) (by decide) ?_
            rw [show (f0_329_s0b i0 i1 i2) = (1 : Int32) from ((if_neg hc329).trans (if_pos hc338))] at k
            exact k
          · refine XS.icmpYes X81.here hx rfl (pc0 := 338) (pc' := 345) rfl (hb hby at_338) rfl (feq hc338).2 (by decide) (by decide) ?_
            refine XS.iconst X81.here hx rfl (hb hby at_345) ?_
            rw [show (f0_329_s0b i0 i1 i2) = (0 : Int32) from ((if_neg hc329).trans (if_neg hc338))] at k
            exact k
      exact Outs.retN (t := .boolean) (z := (f0_329_s0b i0 i1 i2)) X81 hx hret (by simp) (hb hby at_346) hlk (by decide) (by decide) e81 ⟨congrArg (fun z_ => some (Value.int z_)) (law_f0_329_s0b i0 i1 i2 hc324), N81⟩
    · refine Outs.of (U' := T81.setTop (mkF m 347 #[.val (.int i0), .val (.int i1), .val (.int i2), .val (.int (2 : Int32)), .val (.ref b1), .val (.ref b2), .val (.ref b54), .val (.ref b56), .val (.int (F_p2 (f0_g64 i0 i1 i2))), .val (.int (F_v2 (f0_g180 i0 i1 i2) (f0_g64 i0 i1 i2))), .val (.int (F_a2 (f0_g180 i0 i1 i2) (f0_g172 i0 i1 i2))), .val (.int (f0_v316a i0 i1 i2))] [])) (fun t k => ?_) ?_
      · refine XS.icmpYes X81.here hx rfl (pc0 := 324) (pc' := 347) rfl (hb hby at_324) rfl (flt hc324).2.1 (by decide) (by decide) ?_
        exact k
      refine Outs.of (U' := T81.setTop (mkF m 362 #[.val (.int i0), .val (.int i1), .val (.int i2), .val (.int (2 : Int32)), .val (.ref b1), .val (.ref b2), .val (.ref b54), .val (.ref b56), .val (.int (F_p2 (f0_g64 i0 i1 i2))), .val (.int (F_v2 (f0_g180 i0 i1 i2) (f0_g64 i0 i1 i2))), .val (.int (F_a2 (f0_g180 i0 i1 i2) (f0_g172 i0 i1 i2))), .val (.int (f0_v316a i0 i1 i2))] [(.int (f0_349_s0b i0 i1 i2))])) (fun t k => ?_) ?_
      · refine XS.iload X81.here hx rfl (hb hby at_347) rfl ?_
        by_cases hc349 : (F_a2 (f0_g180 i0 i1 i2) (f0_g172 i0 i1 i2)) = (0 : Int32)
        · refine XS.ifNo X81.here hx rfl (hb hby at_349) rfl ((if0 _ _).trans (teq hc349).2) ?_
          refine XS.iload X81.here hx rfl (hb hby at_352) rfl ?_
          by_cases hc354 : (f0_v316a i0 i1 i2) = (0 : Int32)
          · refine XS.ifNo X81.here hx rfl (hb hby at_354) rfl ((if0 _ _).trans (teq hc354).2) ?_
            refine XS.iconst X81.here hx rfl (hb hby at_357) ?_
            refine XS.goto X81.here hx rfl (pc0 := 358) (pc' := 362) rfl (hb hby at_358) (by decide) (by decide) ?_
            rw [show (f0_349_s0b i0 i1 i2) = (1 : Int32) from ((if_pos hc349).trans (if_pos hc354))] at k
            exact k
          · refine XS.ifYes X81.here hx rfl (pc0 := 354) (pc' := 361) rfl (hb hby at_354) rfl ((if0 _ _).trans (feq hc354).2) (by decide) (by decide) ?_
            refine XS.iconst X81.here hx rfl (hb hby at_361) ?_
            rw [show (f0_349_s0b i0 i1 i2) = (0 : Int32) from ((if_pos hc349).trans (if_neg hc354))] at k
            exact k
        · refine XS.ifYes X81.here hx rfl (pc0 := 349) (pc' := 361) rfl (hb hby at_349) rfl ((if0 _ _).trans (feq hc349).2) (by decide) (by decide) ?_
          refine XS.iconst X81.here hx rfl (hb hby at_361) ?_
          rw [show (f0_349_s0b i0 i1 i2) = (0 : Int32) from (if_neg hc349)] at k
          exact k
      exact Outs.retN (t := .boolean) (z := (f0_349_s0b i0 i1 i2)) X81 hx hret (by simp) (hb hby at_362) hlk (by decide) (by decide) e81 ⟨congrArg (fun z_ => some (Value.int z_)) (law_f0_349_s0b i0 i1 i2 hc324), N81⟩
  · rw [q]
    show Outs p e below s _ _ _ (T15.setTop (mkF m 130 #[.val (.int i0), .val (.int i1), .val (.int i2), .val (.int (3 : Int32)), .val (.ref b1), .val (.ref b2), .unset, .unset, .unset, .unset, .unset, .unset] []))
    refine Outs.of (U' := T15.setTop (mkF m 131 #[.val (.int i0), .val (.int i1), .val (.int i2), .val (.int (3 : Int32)), .val (.ref b1), .val (.ref b2), .unset, .unset, .unset, .unset, .unset, .unset] [(.int (3 : Int32))])) (fun t k => ?_) ?_
    · refine XS.iloadN X15.here hx rfl (hb hby at_130) rfl ?_
      exact k
    have f83 : AI Z h15 b1 .int 4 (f0_g64 i0 i1 i2) := (f14.other W15 ne_b1_b2)
    obtain ⟨T82, h82, X82, e82, E82, A82, st82⟩ := newAF X15 hx hZ (aty := .int) (hw _ (List.mem_of_getElem? (i := 1) rfl)) e15 (f := (mkF m 131 #[.val (.int i0), .val (.int i1), .val (.int i2), .val (.int (3 : Int32)), .val (.ref b1), .val (.ref b2), .unset, .unset, .unset, .unset, .unset, .unset] [(.int (3 : Int32))])) rfl (hb hby at_131) rfl (k := 3) rfl (cap := 3) (by decide) (by decide) (by decide) (by decide)
    obtain ⟨b82, g82⟩ : ∃ z, z = h15.size := ⟨_, rfl⟩
    rw [← g82] at A82 st82
    have g_b82 : n0 ≤ b82 := Nat.le_trans (Nat.le_trans (Nat.le_trans (Nat.le_trans (Nat.le_trans (Nat.le_trans (Nat.le_trans (Nat.le_trans (Nat.le_trans (Nat.le_trans (Nat.le_trans Z0 E1.1) E2.1) (Keep.of_wr W4).1) (Keep.of_wr W5).1) (Keep.of_wr W6).1) (Keep.of_wr W7).1) (Keep.of_wr W9).1) (Keep.of_wr W11).1) (Keep.of_wr W13).1) (Keep.of_wr W15).1) (Nat.le_of_eq g82.symm)
    have ne_b1_b82 : b1 ≠ b82 := Nat.ne_of_lt (Nat.lt_of_lt_of_eq f83.lt g82.symm)
    have ne_b2_b82 : b2 ≠ b82 := Nat.ne_of_lt (Nat.lt_of_lt_of_eq V15.lt g82.symm)
    have V82 : AI Z h82 b82 .int 3 (fun _ => (0 : Int32)) := A82
    refine Outs.of st82 ?_
    show Outs p e below s _ _ _ (T82.setTop (mkF m 133 #[.val (.int i0), .val (.int i1), .val (.int i2), .val (.int (3 : Int32)), .val (.ref b1), .val (.ref b2), .unset, .unset, .unset, .unset, .unset, .unset] [(.ref b82)]))
    refine Outs.of (U' := T82.setTop (mkF m 136 #[.val (.int i0), .val (.int i1), .val (.int i2), .val (.int (3 : Int32)), .val (.ref b1), .val (.ref b2), .val (.ref b82), .unset, .unset, .unset, .unset, .unset] [(.int (3 : Int32))])) (fun t k => ?_) ?_
    · refine XS.astore X82.here hx rfl (hb hby at_133) rfl rfl (l' := #[.val (.int i0), .val (.int i1), .val (.int i2), .val (.int (3 : Int32)), .val (.ref b1), .val (.ref b2), .val (.ref b82), .unset, .unset, .unset, .unset, .unset]) rfl ?_
      refine XS.iloadN X82.here hx rfl (hb hby at_135) rfl ?_
      exact k
    have f85 : AI Z h82 b1 .int 4 (f0_g64 i0 i1 i2) := (f83.ext E82)
    have f86 : AI Z h82 b2 .int 4 (f0_g129 i0 i1 i2) := (V15.ext E82)
    obtain ⟨T84, h84, X84, e84, E84, A84, st84⟩ := newAF X82 hx hZ (aty := .int) (hw _ (List.mem_of_getElem? (i := 1) rfl)) e82 (f := (mkF m 136 #[.val (.int i0), .val (.int i1), .val (.int i2), .val (.int (3 : Int32)), .val (.ref b1), .val (.ref b2), .val (.ref b82), .unset, .unset, .unset, .unset, .unset] [(.int (3 : Int32))])) rfl (hb hby at_136) rfl (k := 3) rfl (cap := 3) (by decide) (by decide) (by decide) (by decide)
    obtain ⟨b84, g84⟩ : ∃ z, z = h82.size := ⟨_, rfl⟩
    rw [← g84] at A84 st84
    have g_b84 : n0 ≤ b84 := Nat.le_trans (Nat.le_trans (Nat.le_trans (Nat.le_trans (Nat.le_trans (Nat.le_trans (Nat.le_trans (Nat.le_trans (Nat.le_trans (Nat.le_trans (Nat.le_trans (Nat.le_trans Z0 E1.1) E2.1) (Keep.of_wr W4).1) (Keep.of_wr W5).1) (Keep.of_wr W6).1) (Keep.of_wr W7).1) (Keep.of_wr W9).1) (Keep.of_wr W11).1) (Keep.of_wr W13).1) (Keep.of_wr W15).1) E82.1) (Nat.le_of_eq g84.symm)
    have ne_b1_b84 : b1 ≠ b84 := Nat.ne_of_lt (Nat.lt_of_lt_of_eq f85.lt g84.symm)
    have ne_b2_b84 : b2 ≠ b84 := Nat.ne_of_lt (Nat.lt_of_lt_of_eq f86.lt g84.symm)
    have ne_b82_b84 : b82 ≠ b84 := Nat.ne_of_lt (Nat.lt_of_lt_of_eq V82.lt g84.symm)
    have V84 : AI Z h84 b84 .int 3 (fun _ => (0 : Int32)) := A84
    refine Outs.of st84 ?_
    show Outs p e below s _ _ _ (T84.setTop (mkF m 138 #[.val (.int i0), .val (.int i1), .val (.int i2), .val (.int (3 : Int32)), .val (.ref b1), .val (.ref b2), .val (.ref b82), .unset, .unset, .unset, .unset, .unset] [(.ref b84)]))
    refine Outs.of (U' := T84.setTop (mkF m 150 #[.val (.int i0), .val (.int i1), .val (.int i2), .val (.int (3 : Int32)), .val (.ref b1), .val (.ref b2), .val (.ref b82), .val (.ref b84), .unset, .unset, .unset, .unset] [(.int (0 : Int32)), (.ref b1), (.int (0 : Int32)), (.ref b82)])) (fun t k => ?_) ?_
    · refine XS.astore X84.here hx rfl (hb hby at_138) rfl rfl (l' := #[.val (.int i0), .val (.int i1), .val (.int i2), .val (.int (3 : Int32)), .val (.ref b1), .val (.ref b2), .val (.ref b82), .val (.ref b84), .unset, .unset, .unset, .unset]) rfl ?_
      refine XS.iloadN X84.here hx rfl (hb hby at_140) rfl ?_
      refine XS.ifNo X84.here hx rfl (hb hby at_141) rfl ((if0 _ _).trans (tlt (by decide)).2.2.2) ?_
      refine XS.aload X84.here hx rfl (hb hby at_144) rfl rfl ?_
      refine XS.iconst X84.here hx rfl (hb hby at_146) ?_
      refine XS.aload X84.here hx rfl (hb hby at_147) rfl rfl ?_
      refine XS.iconst X84.here hx rfl (hb hby at_149) ?_
      exact k
    have f87 : AI Z h84 b1 .int 4 (f0_g64 i0 i1 i2) := (f85.ext E84)
    refine Outs.of (ldI X84 hx hZ e84 f87 (j := (0 : Int32)) (k := 0) rfl (by decide) (f := (mkF m 150 #[.val (.int i0), .val (.int i1), .val (.int i2), .val (.int (3 : Int32)), .val (.ref b1), .val (.ref b2), .val (.ref b82), .val (.ref b84), .unset, .unset, .unset, .unset] [(.int (0 : Int32)), (.ref b1), (.int (0 : Int32)), (.ref b82)])) rfl rfl (hb hby at_150)) ?_
    show Outs p e below s _ _ _ (T84.setTop (mkF m 151 #[.val (.int i0), .val (.int i1), .val (.int i2), .val (.int (3 : Int32)), .val (.ref b1), .val (.ref b2), .val (.ref b82), .val (.ref b84), .unset, .unset, .unset, .unset] [(.int ((f0_g64 i0 i1 i2) 0)), (.int (0 : Int32)), (.ref b82)]))
    have f88 : AI Z h84 b82 .int 3 (fun _ => (0 : Int32)) := (V82.ext E84)
    obtain ⟨T89, h89, X89, e89, W89, V89, st89⟩ := puI X84 hx hZ e84 f88 (j := (0 : Int32)) (x := ((f0_g64 i0 i1 i2) 0)) (k := 0) rfl (by decide) (f := (mkF m 151 #[.val (.int i0), .val (.int i1), .val (.int i2), .val (.int (3 : Int32)), .val (.ref b1), .val (.ref b2), .val (.ref b82), .val (.ref b84), .unset, .unset, .unset, .unset] [(.int ((f0_g64 i0 i1 i2) 0)), (.int (0 : Int32)), (.ref b82)])) rfl rfl (hb hby at_151)
    replace V89 : AI Z h89 b82 .int 3 (f0_g151 i0 i1 i2) := V89
    have N89 := Fr.snoc X89 N15 g_b82
    obtain ⟨Lh89, X89, N89⟩ := hide X89 N89 (C := 4) (S := 14) (by decide) (by decide)
    refine Outs.of st89 ?_
    show Outs p e below s _ _ _ (T89.setTop (mkF m 152 #[.val (.int i0), .val (.int i1), .val (.int i2), .val (.int (3 : Int32)), .val (.ref b1), .val (.ref b2), .val (.ref b82), .val (.ref b84), .unset, .unset, .unset, .unset] []))
    refine Outs.of (U' := T89.setTop (mkF m 158 #[.val (.int i0), .val (.int i1), .val (.int i2), .val (.int (3 : Int32)), .val (.ref b1), .val (.ref b2), .val (.ref b82), .val (.ref b84), .unset, .unset, .unset, .unset] [(.int (0 : Int32)), (.ref b2), (.int (0 : Int32)), (.ref b84)])) (fun t k => ?_) ?_
    · refine XS.aload X89.here hx rfl (hb hby at_152) rfl rfl ?_
      refine XS.iconst X89.here hx rfl (hb hby at_154) ?_
      refine XS.aload X89.here hx rfl (hb hby at_155) rfl rfl ?_
      refine XS.iconst X89.here hx rfl (hb hby at_157) ?_
      exact k
    have f90 : AI Z h89 b2 .int 4 (f0_g129 i0 i1 i2) := ((f86.ext E84).other W89 ne_b2_b82)
    refine Outs.of (ldI X89 hx hZ e89 f90 (j := (0 : Int32)) (k := 0) rfl (by decide) (f := (mkF m 158 #[.val (.int i0), .val (.int i1), .val (.int i2), .val (.int (3 : Int32)), .val (.ref b1), .val (.ref b2), .val (.ref b82), .val (.ref b84), .unset, .unset, .unset, .unset] [(.int (0 : Int32)), (.ref b2), (.int (0 : Int32)), (.ref b84)])) rfl rfl (hb hby at_158)) ?_
    show Outs p e below s _ _ _ (T89.setTop (mkF m 159 #[.val (.int i0), .val (.int i1), .val (.int i2), .val (.int (3 : Int32)), .val (.ref b1), .val (.ref b2), .val (.ref b82), .val (.ref b84), .unset, .unset, .unset, .unset] [(.int ((f0_g129 i0 i1 i2) 0)), (.int (0 : Int32)), (.ref b84)]))
    have f91 : AI Z h89 b84 .int 3 (fun _ => (0 : Int32)) := (V84.other W89 ne_b82_b84.symm)
    obtain ⟨T92, h92, X92, e92, W92, V92, st92⟩ := puI X89 hx hZ e89 f91 (j := (0 : Int32)) (x := ((f0_g129 i0 i1 i2) 0)) (k := 0) rfl (by decide) (f := (mkF m 159 #[.val (.int i0), .val (.int i1), .val (.int i2), .val (.int (3 : Int32)), .val (.ref b1), .val (.ref b2), .val (.ref b82), .val (.ref b84), .unset, .unset, .unset, .unset] [(.int ((f0_g129 i0 i1 i2) 0)), (.int (0 : Int32)), (.ref b84)])) rfl rfl (hb hby at_159)
    replace V92 : AI Z h92 b84 .int 3 (f0_g159 i0 i1 i2) := V92
    have N92 := Fr.snoc X92 N89 g_b84
    obtain ⟨Lh92, X92, N92⟩ := hide X92 N92 (C := 4) (S := 14) (by decide) (by decide)
    refine Outs.of st92 ?_
    show Outs p e below s _ _ _ (T92.setTop (mkF m 160 #[.val (.int i0), .val (.int i1), .val (.int i2), .val (.int (3 : Int32)), .val (.ref b1), .val (.ref b2), .val (.ref b82), .val (.ref b84), .unset, .unset, .unset, .unset] []))
    refine Outs.of (U' := T92.setTop (mkF m 171 #[.val (.int i0), .val (.int i1), .val (.int i2), .val (.int (3 : Int32)), .val (.ref b1), .val (.ref b2), .val (.ref b82), .val (.ref b84), .unset, .unset, .unset, .unset] [(.int (1 : Int32)), (.ref b1), (.int (1 : Int32)), (.ref b82)])) (fun t k => ?_) ?_
    · refine XS.iloadN X92.here hx rfl (hb hby at_160) rfl ?_
      refine XS.iconst X92.here hx rfl (hb hby at_161) ?_
      refine XS.icmpNo X92.here hx rfl (hb hby at_162) rfl (tlt (by decide)).2.2.2 ?_
      refine XS.aload X92.here hx rfl (hb hby at_165) rfl rfl ?_
      refine XS.iconst X92.here hx rfl (hb hby at_167) ?_
      refine XS.aload X92.here hx rfl (hb hby at_168) rfl rfl ?_
      refine XS.iconst X92.here hx rfl (hb hby at_170) ?_
      exact k
    have f93 : AI Z h92 b1 .int 4 (f0_g64 i0 i1 i2) := ((f87.other W89 ne_b1_b82).other W92 ne_b1_b84)
    refine Outs.of (ldI X92 hx hZ e92 f93 (j := (1 : Int32)) (k := 1) rfl (by decide) (f := (mkF m 171 #[.val (.int i0), .val (.int i1), .val (.int i2), .val (.int (3 : Int32)), .val (.ref b1), .val (.ref b2), .val (.ref b82), .val (.ref b84), .unset, .unset, .unset, .unset] [(.int (1 : Int32)), (.ref b1), (.int (1 : Int32)), (.ref b82)])) rfl rfl (hb hby at_171)) ?_
    show Outs p e below s _ _ _ (T92.setTop (mkF m 172 #[.val (.int i0), .val (.int i1), .val (.int i2), .val (.int (3 : Int32)), .val (.ref b1), .val (.ref b2), .val (.ref b82), .val (.ref b84), .unset, .unset, .unset, .unset] [(.int ((f0_g64 i0 i1 i2) 1)), (.int (1 : Int32)), (.ref b82)]))
    have f94 : AI Z h92 b82 .int 3 (f0_g151 i0 i1 i2) := (V89.other W92 ne_b82_b84)
    obtain ⟨T95, h95, X95, e95, W95, V95, st95⟩ := puI X92 hx hZ e92 f94 (j := (1 : Int32)) (x := ((f0_g64 i0 i1 i2) 1)) (k := 1) rfl (by decide) (f := (mkF m 172 #[.val (.int i0), .val (.int i1), .val (.int i2), .val (.int (3 : Int32)), .val (.ref b1), .val (.ref b2), .val (.ref b82), .val (.ref b84), .unset, .unset, .unset, .unset] [(.int ((f0_g64 i0 i1 i2) 1)), (.int (1 : Int32)), (.ref b82)])) rfl rfl (hb hby at_172)
    replace V95 : AI Z h95 b82 .int 3 (f0_g172 i0 i1 i2) := V95
    have N95 := Fr.snoc X95 N92 g_b82
    obtain ⟨Lh95, X95, N95⟩ := hide X95 N95 (C := 4) (S := 14) (by decide) (by decide)
    refine Outs.of st95 ?_
    show Outs p e below s _ _ _ (T95.setTop (mkF m 173 #[.val (.int i0), .val (.int i1), .val (.int i2), .val (.int (3 : Int32)), .val (.ref b1), .val (.ref b2), .val (.ref b82), .val (.ref b84), .unset, .unset, .unset, .unset] []))
    refine Outs.of (U' := T95.setTop (mkF m 179 #[.val (.int i0), .val (.int i1), .val (.int i2), .val (.int (3 : Int32)), .val (.ref b1), .val (.ref b2), .val (.ref b82), .val (.ref b84), .unset, .unset, .unset, .unset] [(.int (1 : Int32)), (.ref b2), (.int (1 : Int32)), (.ref b84)])) (fun t k => ?_) ?_
    · refine XS.aload X95.here hx rfl (hb hby at_173) rfl rfl ?_
      refine XS.iconst X95.here hx rfl (hb hby at_175) ?_
      refine XS.aload X95.here hx rfl (hb hby at_176) rfl rfl ?_
      refine XS.iconst X95.here hx rfl (hb hby at_178) ?_
      exact k
    have f96 : AI Z h95 b2 .int 4 (f0_g129 i0 i1 i2) := ((f90.other W92 ne_b2_b84).other W95 ne_b2_b82)
    refine Outs.of (ldI X95 hx hZ e95 f96 (j := (1 : Int32)) (k := 1) rfl (by decide) (f := (mkF m 179 #[.val (.int i0), .val (.int i1), .val (.int i2), .val (.int (3 : Int32)), .val (.ref b1), .val (.ref b2), .val (.ref b82), .val (.ref b84), .unset, .unset, .unset, .unset] [(.int (1 : Int32)), (.ref b2), (.int (1 : Int32)), (.ref b84)])) rfl rfl (hb hby at_179)) ?_
    show Outs p e below s _ _ _ (T95.setTop (mkF m 180 #[.val (.int i0), .val (.int i1), .val (.int i2), .val (.int (3 : Int32)), .val (.ref b1), .val (.ref b2), .val (.ref b82), .val (.ref b84), .unset, .unset, .unset, .unset] [(.int ((f0_g129 i0 i1 i2) 1)), (.int (1 : Int32)), (.ref b84)]))
    have f97 : AI Z h95 b84 .int 3 (f0_g159 i0 i1 i2) := (V92.other W95 ne_b82_b84.symm)
    obtain ⟨T98, h98, X98, e98, W98, V98, st98⟩ := puI X95 hx hZ e95 f97 (j := (1 : Int32)) (x := ((f0_g129 i0 i1 i2) 1)) (k := 1) rfl (by decide) (f := (mkF m 180 #[.val (.int i0), .val (.int i1), .val (.int i2), .val (.int (3 : Int32)), .val (.ref b1), .val (.ref b2), .val (.ref b82), .val (.ref b84), .unset, .unset, .unset, .unset] [(.int ((f0_g129 i0 i1 i2) 1)), (.int (1 : Int32)), (.ref b84)])) rfl rfl (hb hby at_180)
    replace V98 : AI Z h98 b84 .int 3 (f0_g180 i0 i1 i2) := V98
    have N98 := Fr.snoc X98 N95 g_b84
    obtain ⟨Lh98, X98, N98⟩ := hide X98 N98 (C := 4) (S := 14) (by decide) (by decide)
    refine Outs.of st98 ?_
    show Outs p e below s _ _ _ (T98.setTop (mkF m 181 #[.val (.int i0), .val (.int i1), .val (.int i2), .val (.int (3 : Int32)), .val (.ref b1), .val (.ref b2), .val (.ref b82), .val (.ref b84), .unset, .unset, .unset, .unset] []))
    refine Outs.of (U' := T98.setTop (mkF m 192 #[.val (.int i0), .val (.int i1), .val (.int i2), .val (.int (3 : Int32)), .val (.ref b1), .val (.ref b2), .val (.ref b82), .val (.ref b84), .unset, .unset, .unset, .unset] [(.int (2 : Int32)), (.ref b1), (.int (2 : Int32)), (.ref b82)])) (fun t k => ?_) ?_
    · refine XS.iloadN X98.here hx rfl (hb hby at_181) rfl ?_
      refine XS.iconst X98.here hx rfl (hb hby at_182) ?_
      refine XS.icmpNo X98.here hx rfl (hb hby at_183) rfl (tlt (by decide)).2.2.2 ?_
      refine XS.aload X98.here hx rfl (hb hby at_186) rfl rfl ?_
      refine XS.iconst X98.here hx rfl (hb hby at_188) ?_
      refine XS.aload X98.here hx rfl (hb hby at_189) rfl rfl ?_
      refine XS.iconst X98.here hx rfl (hb hby at_191) ?_
      exact k
    have f99 : AI Z h98 b1 .int 4 (f0_g64 i0 i1 i2) := ((f93.other W95 ne_b1_b82).other W98 ne_b1_b84)
    refine Outs.of (ldI X98 hx hZ e98 f99 (j := (2 : Int32)) (k := 2) rfl (by decide) (f := (mkF m 192 #[.val (.int i0), .val (.int i1), .val (.int i2), .val (.int (3 : Int32)), .val (.ref b1), .val (.ref b2), .val (.ref b82), .val (.ref b84), .unset, .unset, .unset, .unset] [(.int (2 : Int32)), (.ref b1), (.int (2 : Int32)), (.ref b82)])) rfl rfl (hb hby at_192)) ?_
    show Outs p e below s _ _ _ (T98.setTop (mkF m 193 #[.val (.int i0), .val (.int i1), .val (.int i2), .val (.int (3 : Int32)), .val (.ref b1), .val (.ref b2), .val (.ref b82), .val (.ref b84), .unset, .unset, .unset, .unset] [(.int ((f0_g64 i0 i1 i2) 2)), (.int (2 : Int32)), (.ref b82)]))
    have f100 : AI Z h98 b82 .int 3 (f0_g172 i0 i1 i2) := (V95.other W98 ne_b82_b84)
    obtain ⟨T101, h101, X101, e101, W101, V101, st101⟩ := puI X98 hx hZ e98 f100 (j := (2 : Int32)) (x := ((f0_g64 i0 i1 i2) 2)) (k := 2) rfl (by decide) (f := (mkF m 193 #[.val (.int i0), .val (.int i1), .val (.int i2), .val (.int (3 : Int32)), .val (.ref b1), .val (.ref b2), .val (.ref b82), .val (.ref b84), .unset, .unset, .unset, .unset] [(.int ((f0_g64 i0 i1 i2) 2)), (.int (2 : Int32)), (.ref b82)])) rfl rfl (hb hby at_193)
    replace V101 : AI Z h101 b82 .int 3 (f0_g193 i0 i1 i2) := V101
    have N101 := Fr.snoc X101 N98 g_b82
    obtain ⟨Lh101, X101, N101⟩ := hide X101 N101 (C := 4) (S := 14) (by decide) (by decide)
    refine Outs.of st101 ?_
    show Outs p e below s _ _ _ (T101.setTop (mkF m 194 #[.val (.int i0), .val (.int i1), .val (.int i2), .val (.int (3 : Int32)), .val (.ref b1), .val (.ref b2), .val (.ref b82), .val (.ref b84), .unset, .unset, .unset, .unset] []))
    refine Outs.of (U' := T101.setTop (mkF m 200 #[.val (.int i0), .val (.int i1), .val (.int i2), .val (.int (3 : Int32)), .val (.ref b1), .val (.ref b2), .val (.ref b82), .val (.ref b84), .unset, .unset, .unset, .unset] [(.int (2 : Int32)), (.ref b2), (.int (2 : Int32)), (.ref b84)])) (fun t k => ?_) ?_
    · refine XS.aload X101.here hx rfl (hb hby at_194) rfl rfl ?_
      refine XS.iconst X101.here hx rfl (hb hby at_196) ?_
      refine XS.aload X101.here hx rfl (hb hby at_197) rfl rfl ?_
      refine XS.iconst X101.here hx rfl (hb hby at_199) ?_
      exact k
    have f102 : AI Z h101 b2 .int 4 (f0_g129 i0 i1 i2) := ((f96.other W98 ne_b2_b84).other W101 ne_b2_b82)
    refine Outs.of (ldI X101 hx hZ e101 f102 (j := (2 : Int32)) (k := 2) rfl (by decide) (f := (mkF m 200 #[.val (.int i0), .val (.int i1), .val (.int i2), .val (.int (3 : Int32)), .val (.ref b1), .val (.ref b2), .val (.ref b82), .val (.ref b84), .unset, .unset, .unset, .unset] [(.int (2 : Int32)), (.ref b2), (.int (2 : Int32)), (.ref b84)])) rfl rfl (hb hby at_200)) ?_
    show Outs p e below s _ _ _ (T101.setTop (mkF m 201 #[.val (.int i0), .val (.int i1), .val (.int i2), .val (.int (3 : Int32)), .val (.ref b1), .val (.ref b2), .val (.ref b82), .val (.ref b84), .unset, .unset, .unset, .unset] [(.int ((f0_g129 i0 i1 i2) 2)), (.int (2 : Int32)), (.ref b84)]))
    have f103 : AI Z h101 b84 .int 3 (f0_g180 i0 i1 i2) := (V98.other W101 ne_b82_b84.symm)
    obtain ⟨T104, h104, X104, e104, W104, V104, st104⟩ := puI X101 hx hZ e101 f103 (j := (2 : Int32)) (x := ((f0_g129 i0 i1 i2) 2)) (k := 2) rfl (by decide) (f := (mkF m 201 #[.val (.int i0), .val (.int i1), .val (.int i2), .val (.int (3 : Int32)), .val (.ref b1), .val (.ref b2), .val (.ref b82), .val (.ref b84), .unset, .unset, .unset, .unset] [(.int ((f0_g129 i0 i1 i2) 2)), (.int (2 : Int32)), (.ref b84)])) rfl rfl (hb hby at_201)
    replace V104 : AI Z h104 b84 .int 3 (f0_g201 i0 i1 i2) := V104
    have N104 := Fr.snoc X104 N101 g_b84
    obtain ⟨Lh104, X104, N104⟩ := hide X104 N104 (C := 4) (S := 14) (by decide) (by decide)
    refine Outs.of st104 ?_
    show Outs p e below s _ _ _ (T104.setTop (mkF m 202 #[.val (.int i0), .val (.int i1), .val (.int i2), .val (.int (3 : Int32)), .val (.ref b1), .val (.ref b2), .val (.ref b82), .val (.ref b84), .unset, .unset, .unset, .unset] []))
    refine Outs.of (U' := T104.setTop (mkF m 226 #[.val (.int i0), .val (.int i1), .val (.int i2), .val (.int (3 : Int32)), .val (.ref b1), .val (.ref b2), .val (.ref b82), .val (.ref b84), .unset, .unset, .unset, .unset] [(.int (3 : Int32)), (.ref b1)])) (fun t k => ?_) ?_
    · refine XS.iloadN X104.here hx rfl (hb hby at_202) rfl ?_
      refine XS.iconst X104.here hx rfl (hb hby at_203) ?_
      refine XS.icmpYes X104.here hx rfl (pc0 := 204) (pc' := 223) rfl (hb hby at_204) rfl (flt (by decide)).2.2.2 (by decide) (by decide) ?_
      refine XS.aload X104.here hx rfl (hb hby at_223) rfl rfl ?_
      refine XS.iloadN X104.here hx rfl (hb hby at_225) rfl ?_
      exact k
    have f105 : AI Z h104 b1 .int 4 (f0_g64 i0 i1 i2) := ((f99.other W101 ne_b1_b82).other W104 ne_b1_b84)
    obtain ⟨_, _, ⟨T106, L106, k106, n106⟩, -, X106, ⟨Lc106, hQ106, l106, y106, z106⟩, st106⟩ := Jvm.LawKit.callS X104 hx (y := (⟨"com/example/ratatoskr/ratatoskr/ChoicesAdvancePinLaw", "prod", "([II)I"⟩ : MethodName)) hown (mvT hZ (hw _ (List.mem_of_getElem? (i := 2) rfl))) (mvT hZ (hw _ (List.mem_of_getElem? (i := 3) rfl))) (mvT hZ (hw _ (List.mem_of_getElem? (i := 4) rfl))) (mvT hZ (hw _ (List.mem_of_getElem? (i := 5) rfl))) (by decide) (backOf (W := 0) (rmp3 l Z a0 hw [] b1 (f0_g64 i0 i1 i2) h104 n0 f105) hZ (hw _ (List.mem_of_getElem? (i := 5) rfl)) (hw _ (List.mem_of_getElem? (i := 4) rfl)) (by decide) (by decide)) (g := (mkF m 226 #[.val (.int i0), .val (.int i1), .val (.int i2), .val (.int (3 : Int32)), .val (.ref b1), .val (.ref b2), .val (.ref b82), .val (.ref b84), .unset, .unset, .unset, .unset] [(.int (3 : Int32)), (.ref b1)])) rfl (by rw [hml]; rfl) (argsL := [(.ref b1), (.int (3 : Int32))]) (rest := []) (lenOf pd_0 rfl) rfl (by show 2 * 0 + _ ≤ _; exact Nat.le_of_eq rfl) (hb hby at_226) (fun _ _ => ⟨rfl, e104, (by decide : 4 + 0 ≤ _), (by decide : 14 + 0 ≤ _)⟩)
    dsimp only [Pt.U, Pt.locs, Pt.cells, Pt.slots] at X106 l106 y106 z106 st106 hQ106
    subst l106 y106 z106
    obtain ⟨rfl, N106q, e106⟩ := hQ106
    have N106 := Fr.app N104 N106q
    obtain ⟨Lh106, X106, N106⟩ := hide X106 N106 (C := 4) (S := 14) (by decide) (by decide)
    refine Outs.of st106 ?_
    show Outs p e below s _ _ _ (T106.setTop (mkF m 229 #[.val (.int i0), .val (.int i1), .val (.int i2), .val (.int (3 : Int32)), .val (.ref b1), .val (.ref b2), .val (.ref b82), .val (.ref b84), .unset, .unset, .unset, .unset] [(.int (F_p3 (f0_g64 i0 i1 i2)))]))
    refine Outs.of (U' := T106.setTop (mkF m 236 #[.val (.int i0), .val (.int i1), .val (.int i2), .val (.int (3 : Int32)), .val (.ref b1), .val (.ref b2), .val (.ref b82), .val (.ref b84), .val (.int (F_p3 (f0_g64 i0 i1 i2))), .unset, .unset, .unset] [(.int (3 : Int32)), (.ref b1), (.ref b84)])) (fun t k => ?_) ?_
    · refine XS.istore X106.here hx rfl (hb hby at_229) rfl (l' := #[.val (.int i0), .val (.int i1), .val (.int i2), .val (.int (3 : Int32)), .val (.ref b1), .val (.ref b2), .val (.ref b82), .val (.ref b84), .val (.int (F_p3 (f0_g64 i0 i1 i2))), .unset, .unset, .unset]) rfl ?_
      refine XS.aload X106.here hx rfl (hb hby at_231) rfl rfl ?_
      refine XS.aload X106.here hx rfl (hb hby at_233) rfl rfl ?_
      refine XS.iloadN X106.here hx rfl (hb hby at_235) rfl ?_
      exact k
    obtain ⟨_, _, ⟨T107, L107, k107, n107⟩, -, X107, ⟨Lc107, hQ107, l107, y107, z107⟩, st107⟩ := Jvm.LawKit.callS X106 hx (y := (⟨"com/example/ratatoskr/ratatoskr/ChoicesAdvancePinLaw", "val", "([I[II)I"⟩ : MethodName)) hown (mvT hZ (hw _ (List.mem_of_getElem? (i := 6) rfl))) (mvT hZ (hw _ (List.mem_of_getElem? (i := 7) rfl))) (mvT hZ (hw _ (List.mem_of_getElem? (i := 4) rfl))) (mvT hZ (hw _ (List.mem_of_getElem? (i := 8) rfl))) (by decide) (backOf (W := 0) (rmv3 l Z a0 hw [] b84 b1 (f0_g201 i0 i1 i2) (f0_g64 i0 i1 i2) h104 n0 V104 f105) hZ (hw _ (List.mem_of_getElem? (i := 8) rfl)) (hw _ (List.mem_of_getElem? (i := 4) rfl)) (by decide) (by decide)) (g := (mkF m 236 #[.val (.int i0), .val (.int i1), .val (.int i2), .val (.int (3 : Int32)), .val (.ref b1), .val (.ref b2), .val (.ref b82), .val (.ref b84), .val (.int (F_p3 (f0_g64 i0 i1 i2))), .unset, .unset, .unset] [(.int (3 : Int32)), (.ref b1), (.ref b84)])) rfl (by rw [hml]; rfl) (argsL := [(.ref b84), (.ref b1), (.int (3 : Int32))]) (rest := []) (lenOf pd_1 rfl) rfl (by show 2 * 0 + _ ≤ _; exact Nat.le_of_eq rfl) (hb hby at_236) (fun _ _ => ⟨rfl, e106, (by decide : 4 + 0 ≤ _), (by decide : 14 + 0 ≤ _)⟩)
    dsimp only [Pt.U, Pt.locs, Pt.cells, Pt.slots] at X107 l107 y107 z107 st107 hQ107
    subst l107 y107 z107
    obtain ⟨rfl, N107q, e107⟩ := hQ107
    have N107 := Fr.app N106 N107q
    obtain ⟨Lh107, X107, N107⟩ := hide X107 N107 (C := 4) (S := 14) (by decide) (by decide)
    refine Outs.of st107 ?_
    show Outs p e below s _ _ _ (T107.setTop (mkF m 239 #[.val (.int i0), .val (.int i1), .val (.int i2), .val (.int (3 : Int32)), .val (.ref b1), .val (.ref b2), .val (.ref b82), .val (.ref b84), .val (.int (F_p3 (f0_g64 i0 i1 i2))), .unset, .unset, .unset] [(.int (F_v3 (f0_g201 i0 i1 i2) (f0_g64 i0 i1 i2)))]))
    refine Outs.of (U' := T107.setTop (mkF m 245 #[.val (.int i0), .val (.int i1), .val (.int i2), .val (.int (3 : Int32)), .val (.ref b1), .val (.ref b2), .val (.ref b82), .val (.ref b84), .val (.int (F_p3 (f0_g64 i0 i1 i2))), .val (.int (F_v3 (f0_g201 i0 i1 i2) (f0_g64 i0 i1 i2))), .unset, .unset] [(.ref b82), (.ref b84)])) (fun t k => ?_) ?_
    · refine XS.istore X107.here hx rfl (hb hby at_239) rfl (l' := #[.val (.int i0), .val (.int i1), .val (.int i2), .val (.int (3 : Int32)), .val (.ref b1), .val (.ref b2), .val (.ref b82), .val (.ref b84), .val (.int (F_p3 (f0_g64 i0 i1 i2))), .val (.int (F_v3 (f0_g201 i0 i1 i2) (f0_g64 i0 i1 i2))), .unset, .unset]) rfl ?_
      refine XS.aload X107.here hx rfl (hb hby at_241) rfl rfl ?_
      refine XS.aload X107.here hx rfl (hb hby at_243) rfl rfl ?_
      exact k
    have f108 : AI Z h104 b82 .int 3 (f0_g193 i0 i1 i2) := (V101.other W104 ne_b82_b84)
    obtain ⟨_, _, ⟨T109, L109, k109, n109⟩, -, X109, ⟨Lc109, hQ109, l109, y109, z109⟩, st109⟩ := Jvm.LawKit.callS X107 hx (y := (⟨"com/example/ratatoskr/ratatoskr/Choices", "advance", "([I[I)Z"⟩ : MethodName)) hown (mvT hZ (hw _ (List.mem_of_getElem? (i := 9) rfl))) (mvT hZ (hw _ (List.mem_of_getElem? (i := 10) rfl))) (mvT hZ (hw _ (List.mem_of_getElem? (i := 11) rfl))) (mvT hZ (hw _ (List.mem_of_getElem? (i := 12) rfl))) (by decide) (backOf (W := 0) (rma3 l Z a0 hw [] b84 b82 (f0_g201 i0 i1 i2) (f0_g193 i0 i1 i2) h104 n0 V104 f108 g_b84 ne_b82_b84.symm) hZ (hw _ (List.mem_of_getElem? (i := 12) rfl)) (hw _ (List.mem_of_getElem? (i := 11) rfl)) (by decide) (by decide)) (g := (mkF m 245 #[.val (.int i0), .val (.int i1), .val (.int i2), .val (.int (3 : Int32)), .val (.ref b1), .val (.ref b2), .val (.ref b82), .val (.ref b84), .val (.int (F_p3 (f0_g64 i0 i1 i2))), .val (.int (F_v3 (f0_g201 i0 i1 i2) (f0_g64 i0 i1 i2))), .unset, .unset] [(.ref b82), (.ref b84)])) rfl (by rw [hml]; rfl) (argsL := [(.ref b84), (.ref b82)]) (rest := []) (lenOf pd_2 rfl) rfl (by show 2 * 0 + _ ≤ _; exact Nat.le_of_eq rfl) (hb hby at_245) (fun _ _ => ⟨rfl, e107, (by decide : 4 + 0 ≤ _), (by decide : 14 + 0 ≤ _)⟩)
    dsimp only [Pt.U, Pt.locs, Pt.cells, Pt.slots] at X109 l109 y109 z109 st109 hQ109
    subst l109 y109 z109
    obtain ⟨rfl, N109q, K109, u109_0, u109_1⟩ := hQ109
    have N109 := Fr.app N107 N109q
    obtain ⟨Lh109, X109, N109⟩ := hide X109 N109 (C := 4) (S := 14) (by decide) (by decide)
    refine Outs.of st109 ?_
    show Outs p e below s _ _ _ (T109.setTop (mkF m 248 #[.val (.int i0), .val (.int i1), .val (.int i2), .val (.int (3 : Int32)), .val (.ref b1), .val (.ref b2), .val (.ref b82), .val (.ref b84), .val (.int (F_p3 (f0_g64 i0 i1 i2))), .val (.int (F_v3 (f0_g201 i0 i1 i2) (f0_g64 i0 i1 i2))), .unset, .unset] [(.int (F_a3 (f0_g201 i0 i1 i2) (f0_g193 i0 i1 i2)))]))
    refine Outs.of (U' := T109.setTop (mkF m 258 #[.val (.int i0), .val (.int i1), .val (.int i2), .val (.int (3 : Int32)), .val (.ref b1), .val (.ref b2), .val (.ref b82), .val (.ref b84), .val (.int (F_p3 (f0_g64 i0 i1 i2))), .val (.int (F_v3 (f0_g201 i0 i1 i2) (f0_g64 i0 i1 i2))), .val (.int (F_a3 (f0_g201 i0 i1 i2) (f0_g193 i0 i1 i2))), .unset] [(.int (0 : Int32)), (.int (3 : Int32)), (.ref b1), (.ref b82), (.ref b84)])) (fun t k => ?_) ?_
    · refine XS.istore X109.here hx rfl (hb hby at_248) rfl (l' := #[.val (.int i0), .val (.int i1), .val (.int i2), .val (.int (3 : Int32)), .val (.ref b1), .val (.ref b2), .val (.ref b82), .val (.ref b84), .val (.int (F_p3 (f0_g64 i0 i1 i2))), .val (.int (F_v3 (f0_g201 i0 i1 i2) (f0_g64 i0 i1 i2))), .val (.int (F_a3 (f0_g201 i0 i1 i2) (f0_g193 i0 i1 i2))), .unset]) rfl ?_
      refine XS.aload X109.here hx rfl (hb hby at_250) rfl rfl ?_
      refine XS.aload X109.here hx rfl (hb hby at_252) rfl rfl ?_
      refine XS.aload X109.here hx rfl (hb hby at_254) rfl rfl ?_
      refine XS.iloadN X109.here hx rfl (hb hby at_256) rfl ?_
      refine XS.iconst X109.here hx rfl (hb hby at_257) ?_
      exact k
    have f110 : AI Z T109.heap b1 .int 4 (f0_g64 i0 i1 i2) := (f105.keep K109 (ninS ne_b1_b84 nin0))
    obtain ⟨_, _, ⟨T111, L111, k111, n111⟩, -, X111, ⟨Lc111, hQ111, l111, y111, z111⟩, st111⟩ := Jvm.LawKit.callS X109 hx (y := (⟨"com/example/ratatoskr/ratatoskr/ChoicesAdvancePinLaw", "ok", "([I[I[III)Z"⟩ : MethodName)) hown (mvT hZ (hw _ (List.mem_of_getElem? (i := 13) rfl))) (mvT hZ (hw _ (List.mem_of_getElem? (i := 14) rfl))) (mvT hZ (hw _ (List.mem_of_getElem? (i := 4) rfl))) (mvT hZ (hw _ (List.mem_of_getElem? (i := 15) rfl))) (by decide) (backOf (W := 0) (rmk3_0 l Z a0 hw [] b84 b82 b1 (a3_out0 (f0_g201 i0 i1 i2) (f0_g193 i0 i1 i2)) (f0_g193 i0 i1 i2) (f0_g64 i0 i1 i2) T109.heap n0 u109_0 u109_1 f110) hZ (hw _ (List.mem_of_getElem? (i := 15) rfl)) (hw _ (List.mem_of_getElem? (i := 4) rfl)) (by decide) (by decide)) (g := (mkF m 258 #[.val (.int i0), .val (.int i1), .val (.int i2), .val (.int (3 : Int32)), .val (.ref b1), .val (.ref b2), .val (.ref b82), .val (.ref b84), .val (.int (F_p3 (f0_g64 i0 i1 i2))), .val (.int (F_v3 (f0_g201 i0 i1 i2) (f0_g64 i0 i1 i2))), .val (.int (F_a3 (f0_g201 i0 i1 i2) (f0_g193 i0 i1 i2))), .unset] [(.int (0 : Int32)), (.int (3 : Int32)), (.ref b1), (.ref b82), (.ref b84)])) rfl (by rw [hml]; rfl) (argsL := [(.ref b84), (.ref b82), (.ref b1), (.int (3 : Int32)), (.int (0 : Int32))]) (rest := []) (lenOf pd_3 rfl) rfl (by show 2 * 0 + _ ≤ _; exact Nat.le_of_eq rfl) (hb hby at_258) (fun _ _ => ⟨rfl, rfl, (by decide : 4 + 0 ≤ _), (by decide : 14 + 0 ≤ _)⟩)
    dsimp only [Pt.U, Pt.locs, Pt.cells, Pt.slots] at X111 l111 y111 z111 st111 hQ111
    subst l111 y111 z111
    obtain ⟨rfl, N111q, e111⟩ := hQ111
    have N111 := Fr.app N109 N111q
    obtain ⟨Lh111, X111, N111⟩ := hide X111 N111 (C := 4) (S := 14) (by decide) (by decide)
    refine Outs.of st111 ?_
    show Outs p e below s _ _ _ (T111.setTop (mkF m 261 #[.val (.int i0), .val (.int i1), .val (.int i2), .val (.int (3 : Int32)), .val (.ref b1), .val (.ref b2), .val (.ref b82), .val (.ref b84), .val (.int (F_p3 (f0_g64 i0 i1 i2))), .val (.int (F_v3 (f0_g201 i0 i1 i2) (f0_g64 i0 i1 i2))), .val (.int (F_a3 (f0_g201 i0 i1 i2) (f0_g193 i0 i1 i2))), .unset] [(.int (F_k3_0 (a3_out0 (f0_g201 i0 i1 i2) (f0_g193 i0 i1 i2)) (f0_g193 i0 i1 i2) (f0_g64 i0 i1 i2)))]))
    refine Outs.of (U' := T111.setTop (mkF m 272 #[.val (.int i0), .val (.int i1), .val (.int i2), .val (.int (3 : Int32)), .val (.ref b1), .val (.ref b2), .val (.ref b82), .val (.ref b84), .val (.int (F_p3 (f0_g64 i0 i1 i2))), .val (.int (F_v3 (f0_g201 i0 i1 i2) (f0_g64 i0 i1 i2))), .val (.int (F_a3 (f0_g201 i0 i1 i2) (f0_g193 i0 i1 i2))), .unset] [(.int (1 : Int32)), (.int (3 : Int32)), (.ref b1), (.ref b82), (.ref b84)])) (fun t k => ?_) ?_
    · refine XS.ifNo X111.here hx rfl (hb hby at_261) rfl ((if0 _ _).trans (feq (law_ok3_0 i0 i1 i2)).1) ?_
      refine XS.aload X111.here hx rfl (hb hby at_264) rfl rfl ?_
      refine XS.aload X111.here hx rfl (hb hby at_266) rfl rfl ?_
      refine XS.aload X111.here hx rfl (hb hby at_268) rfl rfl ?_
      refine XS.iloadN X111.here hx rfl (hb hby at_270) rfl ?_
      refine XS.iconst X111.here hx rfl (hb hby at_271) ?_
      exact k
    obtain ⟨_, _, ⟨T112, L112, k112, n112⟩, -, X112, ⟨Lc112, hQ112, l112, y112, z112⟩, st112⟩ := Jvm.LawKit.callS X111 hx (y := (⟨"com/example/ratatoskr/ratatoskr/ChoicesAdvancePinLaw", "ok", "([I[I[III)Z"⟩ : MethodName)) hown (mvT hZ (hw _ (List.mem_of_getElem? (i := 13) rfl))) (mvT hZ (hw _ (List.mem_of_getElem? (i := 14) rfl))) (mvT hZ (hw _ (List.mem_of_getElem? (i := 4) rfl))) (mvT hZ (hw _ (List.mem_of_getElem? (i := 15) rfl))) (by decide) (backOf (W := 0) (rmk3_1 l Z a0 hw [] b84 b82 b1 (a3_out0 (f0_g201 i0 i1 i2) (f0_g193 i0 i1 i2)) (f0_g193 i0 i1 i2) (f0_g64 i0 i1 i2) T109.heap n0 u109_0 u109_1 f110) hZ (hw _ (List.mem_of_getElem? (i := 15) rfl)) (hw _ (List.mem_of_getElem? (i := 4) rfl)) (by decide) (by decide)) (g := (mkF m 272 #[.val (.int i0), .val (.int i1), .val (.int i2), .val (.int (3 : Int32)), .val (.ref b1), .val (.ref b2), .val (.ref b82), .val (.ref b84), .val (.int (F_p3 (f0_g64 i0 i1 i2))), .val (.int (F_v3 (f0_g201 i0 i1 i2) (f0_g64 i0 i1 i2))), .val (.int (F_a3 (f0_g201 i0 i1 i2) (f0_g193 i0 i1 i2))), .unset] [(.int (1 : Int32)), (.int (3 : Int32)), (.ref b1), (.ref b82), (.ref b84)])) rfl (by rw [hml]; rfl) (argsL := [(.ref b84), (.ref b82), (.ref b1), (.int (3 : Int32)), (.int (1 : Int32))]) (rest := []) (lenOf pd_3 rfl) rfl (by show 2 * 0 + _ ≤ _; exact Nat.le_of_eq rfl) (hb hby at_272) (fun _ _ => ⟨rfl, e111, (by decide : 4 + 0 ≤ _), (by decide : 14 + 0 ≤ _)⟩)
    dsimp only [Pt.U, Pt.locs, Pt.cells, Pt.slots] at X112 l112 y112 z112 st112 hQ112
    subst l112 y112 z112
    obtain ⟨rfl, N112q, e112⟩ := hQ112
    have N112 := Fr.app N111 N112q
    obtain ⟨Lh112, X112, N112⟩ := hide X112 N112 (C := 4) (S := 14) (by decide) (by decide)
    refine Outs.of st112 ?_
    show Outs p e below s _ _ _ (T112.setTop (mkF m 275 #[.val (.int i0), .val (.int i1), .val (.int i2), .val (.int (3 : Int32)), .val (.ref b1), .val (.ref b2), .val (.ref b82), .val (.ref b84), .val (.int (F_p3 (f0_g64 i0 i1 i2))), .val (.int (F_v3 (f0_g201 i0 i1 i2) (f0_g64 i0 i1 i2))), .val (.int (F_a3 (f0_g201 i0 i1 i2) (f0_g193 i0 i1 i2))), .unset] [(.int (F_k3_1 (a3_out0 (f0_g201 i0 i1 i2) (f0_g193 i0 i1 i2)) (f0_g193 i0 i1 i2) (f0_g64 i0 i1 i2)))]))
    refine Outs.of (U' := T112.setTop (mkF m 286 #[.val (.int i0), .val (.int i1), .val (.int i2), .val (.int (3 : Int32)), .val (.ref b1), .val (.ref b2), .val (.ref b82), .val (.ref b84), .val (.int (F_p3 (f0_g64 i0 i1 i2))), .val (.int (F_v3 (f0_g201 i0 i1 i2) (f0_g64 i0 i1 i2))), .val (.int (F_a3 (f0_g201 i0 i1 i2) (f0_g193 i0 i1 i2))), .unset] [(.int (2 : Int32)), (.int (3 : Int32)), (.ref b1), (.ref b82), (.ref b84)])) (fun t k => ?_) ?_
    · refine XS.ifNo X112.here hx rfl (hb hby at_275) rfl ((if0 _ _).trans (feq (law_ok3_1 i0 i1 i2)).1) ?_
      refine XS.aload X112.here hx rfl (hb hby at_278) rfl rfl ?_
      refine XS.aload X112.here hx rfl (hb hby at_280) rfl rfl ?_
      refine XS.aload X112.here hx rfl (hb hby at_282) rfl rfl ?_
      refine XS.iloadN X112.here hx rfl (hb hby at_284) rfl ?_
      refine XS.iconst X112.here hx rfl (hb hby at_285) ?_
      exact k
    obtain ⟨_, _, ⟨T113, L113, k113, n113⟩, -, X113, ⟨Lc113, hQ113, l113, y113, z113⟩, st113⟩ := Jvm.LawKit.callS X112 hx (y := (⟨"com/example/ratatoskr/ratatoskr/ChoicesAdvancePinLaw", "ok", "([I[I[III)Z"⟩ : MethodName)) hown (mvT hZ (hw _ (List.mem_of_getElem? (i := 13) rfl))) (mvT hZ (hw _ (List.mem_of_getElem? (i := 14) rfl))) (mvT hZ (hw _ (List.mem_of_getElem? (i := 4) rfl))) (mvT hZ (hw _ (List.mem_of_getElem? (i := 15) rfl))) (by decide) (backOf (W := 0) (rmk3_2 l Z a0 hw [] b84 b82 b1 (a3_out0 (f0_g201 i0 i1 i2) (f0_g193 i0 i1 i2)) (f0_g193 i0 i1 i2) (f0_g64 i0 i1 i2) T109.heap n0 u109_0 u109_1 f110) hZ (hw _ (List.mem_of_getElem? (i := 15) rfl)) (hw _ (List.mem_of_getElem? (i := 4) rfl)) (by decide) (by decide)) (g := (mkF m 286 #[.val (.int i0), .val (.int i1), .val (.int i2), .val (.int (3 : Int32)), .val (.ref b1), .val (.ref b2), .val (.ref b82), .val (.ref b84), .val (.int (F_p3 (f0_g64 i0 i1 i2))), .val (.int (F_v3 (f0_g201 i0 i1 i2) (f0_g64 i0 i1 i2))), .val (.int (F_a3 (f0_g201 i0 i1 i2) (f0_g193 i0 i1 i2))), .unset] [(.int (2 : Int32)), (.int (3 : Int32)), (.ref b1), (.ref b82), (.ref b84)])) rfl (by rw [hml]; rfl) (argsL := [(.ref b84), (.ref b82), (.ref b1), (.int (3 : Int32)), (.int (2 : Int32))]) (rest := []) (lenOf pd_3 rfl) rfl (by show 2 * 0 + _ ≤ _; exact Nat.le_of_eq rfl) (hb hby at_286) (fun _ _ => ⟨rfl, e112, (by decide : 4 + 0 ≤ _), (by decide : 14 + 0 ≤ _)⟩)
    dsimp only [Pt.U, Pt.locs, Pt.cells, Pt.slots] at X113 l113 y113 z113 st113 hQ113
    subst l113 y113 z113
    obtain ⟨rfl, N113q, e113⟩ := hQ113
    have N113 := Fr.app N112 N113q
    obtain ⟨Lh113, X113, N113⟩ := hide X113 N113 (C := 4) (S := 14) (by decide) (by decide)
    refine Outs.of st113 ?_
    show Outs p e below s _ _ _ (T113.setTop (mkF m 289 #[.val (.int i0), .val (.int i1), .val (.int i2), .val (.int (3 : Int32)), .val (.ref b1), .val (.ref b2), .val (.ref b82), .val (.ref b84), .val (.int (F_p3 (f0_g64 i0 i1 i2))), .val (.int (F_v3 (f0_g201 i0 i1 i2) (f0_g64 i0 i1 i2))), .val (.int (F_a3 (f0_g201 i0 i1 i2) (f0_g193 i0 i1 i2))), .unset] [(.int (F_k3_2 (a3_out0 (f0_g201 i0 i1 i2) (f0_g193 i0 i1 i2)) (f0_g193 i0 i1 i2) (f0_g64 i0 i1 i2)))]))
    refine Outs.of (U' := T113.setTop (mkF m 300 #[.val (.int i0), .val (.int i1), .val (.int i2), .val (.int (3 : Int32)), .val (.ref b1), .val (.ref b2), .val (.ref b82), .val (.ref b84), .val (.int (F_p3 (f0_g64 i0 i1 i2))), .val (.int (F_v3 (f0_g201 i0 i1 i2) (f0_g64 i0 i1 i2))), .val (.int (F_a3 (f0_g201 i0 i1 i2) (f0_g193 i0 i1 i2))), .unset] [(.int (3 : Int32)), (.int (3 : Int32)), (.ref b1), (.ref b82), (.ref b84)])) (fun t k => ?_) ?_
    · refine XS.ifNo X113.here hx rfl (hb hby at_289) rfl ((if0 _ _).trans (feq (law_ok3_2 i0 i1 i2)).1) ?_
      refine XS.aload X113.here hx rfl (hb hby at_292) rfl rfl ?_
      refine XS.aload X113.here hx rfl (hb hby at_294) rfl rfl ?_
      refine XS.aload X113.here hx rfl (hb hby at_296) rfl rfl ?_
      refine XS.iloadN X113.here hx rfl (hb hby at_298) rfl ?_
      refine XS.iconst X113.here hx rfl (hb hby at_299) ?_
      exact k
    obtain ⟨_, _, ⟨T114, L114, k114, n114⟩, -, X114, ⟨Lc114, hQ114, l114, y114, z114⟩, st114⟩ := Jvm.LawKit.callS X113 hx (y := (⟨"com/example/ratatoskr/ratatoskr/ChoicesAdvancePinLaw", "ok", "([I[I[III)Z"⟩ : MethodName)) hown (mvT hZ (hw _ (List.mem_of_getElem? (i := 13) rfl))) (mvT hZ (hw _ (List.mem_of_getElem? (i := 14) rfl))) (mvT hZ (hw _ (List.mem_of_getElem? (i := 4) rfl))) (mvT hZ (hw _ (List.mem_of_getElem? (i := 15) rfl))) (by decide) (backOf (W := 0) (rmk3_3 l Z a0 hw [] b84 b82 b1 (a3_out0 (f0_g201 i0 i1 i2) (f0_g193 i0 i1 i2)) (f0_g193 i0 i1 i2) (f0_g64 i0 i1 i2) T109.heap n0 u109_0 u109_1 f110) hZ (hw _ (List.mem_of_getElem? (i := 15) rfl)) (hw _ (List.mem_of_getElem? (i := 4) rfl)) (by decide) (by decide)) (g := (mkF m 300 #[.val (.int i0), .val (.int i1), .val (.int i2), .val (.int (3 : Int32)), .val (.ref b1), .val (.ref b2), .val (.ref b82), .val (.ref b84), .val (.int (F_p3 (f0_g64 i0 i1 i2))), .val (.int (F_v3 (f0_g201 i0 i1 i2) (f0_g64 i0 i1 i2))), .val (.int (F_a3 (f0_g201 i0 i1 i2) (f0_g193 i0 i1 i2))), .unset] [(.int (3 : Int32)), (.int (3 : Int32)), (.ref b1), (.ref b82), (.ref b84)])) rfl (by rw [hml]; rfl) (argsL := [(.ref b84), (.ref b82), (.ref b1), (.int (3 : Int32)), (.int (3 : Int32))]) (rest := []) (lenOf pd_3 rfl) rfl (by show 2 * 0 + _ ≤ _; exact Nat.le_of_eq rfl) (hb hby at_300) (fun _ _ => ⟨rfl, e113, (by decide : 4 + 0 ≤ _), (by decide : 14 + 0 ≤ _)⟩)
    dsimp only [Pt.U, Pt.locs, Pt.cells, Pt.slots] at X114 l114 y114 z114 st114 hQ114
    subst l114 y114 z114
    obtain ⟨rfl, N114q, e114⟩ := hQ114
    have N114 := Fr.app N113 N114q
    obtain ⟨Lh114, X114, N114⟩ := hide X114 N114 (C := 4) (S := 14) (by decide) (by decide)
    refine Outs.of st114 ?_
    show Outs p e below s _ _ _ (T114.setTop (mkF m 303 #[.val (.int i0), .val (.int i1), .val (.int i2), .val (.int (3 : Int32)), .val (.ref b1), .val (.ref b2), .val (.ref b82), .val (.ref b84), .val (.int (F_p3 (f0_g64 i0 i1 i2))), .val (.int (F_v3 (f0_g201 i0 i1 i2) (f0_g64 i0 i1 i2))), .val (.int (F_a3 (f0_g201 i0 i1 i2) (f0_g193 i0 i1 i2))), .unset] [(.int (F_k3_3 (a3_out0 (f0_g201 i0 i1 i2) (f0_g193 i0 i1 i2)) (f0_g193 i0 i1 i2) (f0_g64 i0 i1 i2)))]))
    refine Outs.of (U' := T114.setTop (mkF m 313 #[.val (.int i0), .val (.int i1), .val (.int i2), .val (.int (3 : Int32)), .val (.ref b1), .val (.ref b2), .val (.ref b82), .val (.ref b84), .val (.int (F_p3 (f0_g64 i0 i1 i2))), .val (.int (F_v3 (f0_g201 i0 i1 i2) (f0_g64 i0 i1 i2))), .val (.int (F_a3 (f0_g201 i0 i1 i2) (f0_g193 i0 i1 i2))), .unset] [(.int (3 : Int32)), (.ref b1), (.ref b84)])) (fun t k => ?_) ?_
    · refine XS.ifYes X114.here hx rfl (pc0 := 303) (pc' := 308) rfl (hb hby at_303) rfl ((if0 _ _).trans (feq (law_ok3_3 i0 i1 i2)).2) (by decide) (by decide) ?_
      refine XS.aload X114.here hx rfl (hb hby at_308) rfl rfl ?_
      refine XS.aload X114.here hx rfl (hb hby at_310) rfl rfl ?_
      refine XS.iloadN X114.here hx rfl (hb hby at_312) rfl ?_
      exact k
    obtain ⟨_, _, ⟨T115, L115, k115, n115⟩, -, X115, ⟨Lc115, hQ115, l115, y115, z115⟩, st115⟩ := Jvm.LawKit.callS X114 hx (y := (⟨"com/example/ratatoskr/ratatoskr/ChoicesAdvancePinLaw", "val", "([I[II)I"⟩ : MethodName)) hown (mvT hZ (hw _ (List.mem_of_getElem? (i := 6) rfl))) (mvT hZ (hw _ (List.mem_of_getElem? (i := 7) rfl))) (mvT hZ (hw _ (List.mem_of_getElem? (i := 4) rfl))) (mvT hZ (hw _ (List.mem_of_getElem? (i := 8) rfl))) (by decide) (backOf (W := 0) (rmv3 l Z a0 hw [] b84 b1 (a3_out0 (f0_g201 i0 i1 i2) (f0_g193 i0 i1 i2)) (f0_g64 i0 i1 i2) T109.heap n0 u109_0 f110) hZ (hw _ (List.mem_of_getElem? (i := 8) rfl)) (hw _ (List.mem_of_getElem? (i := 4) rfl)) (by decide) (by decide)) (g := (mkF m 313 #[.val (.int i0), .val (.int i1), .val (.int i2), .val (.int (3 : Int32)), .val (.ref b1), .val (.ref b2), .val (.ref b82), .val (.ref b84), .val (.int (F_p3 (f0_g64 i0 i1 i2))), .val (.int (F_v3 (f0_g201 i0 i1 i2) (f0_g64 i0 i1 i2))), .val (.int (F_a3 (f0_g201 i0 i1 i2) (f0_g193 i0 i1 i2))), .unset] [(.int (3 : Int32)), (.ref b1), (.ref b84)])) rfl (by rw [hml]; rfl) (argsL := [(.ref b84), (.ref b1), (.int (3 : Int32))]) (rest := []) (lenOf pd_1 rfl) rfl (by show 2 * 0 + _ ≤ _; exact Nat.le_of_eq rfl) (hb hby at_313) (fun _ _ => ⟨rfl, e114, (by decide : 4 + 0 ≤ _), (by decide : 14 + 0 ≤ _)⟩)
    dsimp only [Pt.U, Pt.locs, Pt.cells, Pt.slots] at X115 l115 y115 z115 st115 hQ115
    subst l115 y115 z115
    obtain ⟨rfl, N115q, e115⟩ := hQ115
    have N115 := Fr.app N114 N115q
    obtain ⟨Lh115, X115, N115⟩ := hide X115 N115 (C := 4) (S := 14) (by decide) (by decide)
    refine Outs.of st115 ?_
    show Outs p e below s _ _ _ (T115.setTop (mkF m 316 #[.val (.int i0), .val (.int i1), .val (.int i2), .val (.int (3 : Int32)), .val (.ref b1), .val (.ref b2), .val (.ref b82), .val (.ref b84), .val (.int (F_p3 (f0_g64 i0 i1 i2))), .val (.int (F_v3 (f0_g201 i0 i1 i2) (f0_g64 i0 i1 i2))), .val (.int (F_a3 (f0_g201 i0 i1 i2) (f0_g193 i0 i1 i2))), .unset] [(.int (F_v3 (a3_out0 (f0_g201 i0 i1 i2) (f0_g193 i0 i1 i2)) (f0_g64 i0 i1 i2)))]))
    refine Outs.of (U' := T115.setTop (mkF m 324 #[.val (.int i0), .val (.int i1), .val (.int i2), .val (.int (3 : Int32)), .val (.ref b1), .val (.ref b2), .val (.ref b82), .val (.ref b84), .val (.int (F_p3 (f0_g64 i0 i1 i2))), .val (.int (F_v3 (f0_g201 i0 i1 i2) (f0_g64 i0 i1 i2))), .val (.int (F_a3 (f0_g201 i0 i1 i2) (f0_g193 i0 i1 i2))), .val (.int (f0_v316b i0 i1 i2))] [(.int (F_p3 (f0_g64 i0 i1 i2))), (.int ((F_v3 (f0_g201 i0 i1 i2) (f0_g64 i0 i1 i2)) + (1 : Int32)))])) (fun t k => ?_) ?_
    · refine XS.istore X115.here hx rfl (hb hby at_316) rfl (l' := #[.val (.int i0), .val (.int i1), .val (.int i2), .val (.int (3 : Int32)), .val (.ref b1), .val (.ref b2), .val (.ref b82), .val (.ref b84), .val (.int (F_p3 (f0_g64 i0 i1 i2))), .val (.int (F_v3 (f0_g201 i0 i1 i2) (f0_g64 i0 i1 i2))), .val (.int (F_a3 (f0_g201 i0 i1 i2) (f0_g193 i0 i1 i2))), .val (.int (f0_v316b i0 i1 i2))]) rfl ?_
      refine XS.iload X115.here hx rfl (hb hby at_318) rfl ?_
      refine XS.iconst X115.here hx rfl (hb hby at_320) ?_
      refine XS.iadd X115.here hx rfl (hb hby at_321) rfl ?_
      refine XS.iload X115.here hx rfl (hb hby at_322) rfl ?_
      exact k
    by_cases hc324 : ((F_v3 (f0_g201 i0 i1 i2) (f0_g64 i0 i1 i2)) + (1 : Int32)) < (F_p3 (f0_g64 i0 i1 i2))
    · refine Outs.of (U' := T115.setTop (mkF m 327 #[.val (.int i0), .val (.int i1), .val (.int i2), .val (.int (3 : Int32)), .val (.ref b1), .val (.ref b2), .val (.ref b82), .val (.ref b84), .val (.int (F_p3 (f0_g64 i0 i1 i2))), .val (.int (F_v3 (f0_g201 i0 i1 i2) (f0_g64 i0 i1 i2))), .val (.int (F_a3 (f0_g201 i0 i1 i2) (f0_g193 i0 i1 i2))), .val (.int (f0_v316b i0 i1 i2))] [])) (fun t k => ?_) ?_
      · refine XS.icmpNo X115.here hx rfl (hb hby at_324) rfl (tlt hc324).2.1 ?_
        exact k
      refine Outs.of (U' := T115.setTop (mkF m 346 #[.val (.int i0), .val (.int i1), .val (.int i2), .val (.int (3 : Int32)), .val (.ref b1), .val (.ref b2), .val (.ref b82), .val (.ref b84), .val (.int (F_p3 (f0_g64 i0 i1 i2))), .val (.int (F_v3 (f0_g201 i0 i1 i2) (f0_g64 i0 i1 i2))), .val (.int (F_a3 (f0_g201 i0 i1 i2) (f0_g193 i0 i1 i2))), .val (.int (f0_v316b i0 i1 i2))] [(.int (f0_329_s0c i0 i1 i2))])) (fun t k => ?_) ?_
      · refine XS.iload X115.here hx rfl (hb hby at_327) rfl ?_
        by_cases hc329 : (F_a3 (f0_g201 i0 i1 i2) (f0_g193 i0 i1 i2)) = (0 : Int32)
        · refine XS.ifYes X115.here hx rfl (pc0 := 329) (pc' := 345) rfl (hb hby at_329) rfl ((if0 _ _).trans (teq hc329).1) (by decide) (by decide) ?_
          refine XS.iconst X115.here hx rfl (hb hby at_345) ?_
          rw [show (f0_329_s0c i0 i1 i2) = (0 : Int32) from (if_pos hc329)] at k
          exact k
        · refine XS.ifNo X115.here hx rfl (hb hby at_329) rfl ((if0 _ _).trans (feq hc329).1) ?_
          refine XS.iload X115.here hx rfl (hb hby at_332) rfl ?_
          refine XS.iload X115.here hx rfl (hb hby at_334) rfl ?_
          refine XS.iconst X115.here hx rfl (hb hby at_336) ?_
          refine XS.iadd X115.here hx rfl (hb hby at_337) rfl ?_
          by_cases hc338 : (f0_v316b i0 i1 i2) = ((F_v3 (f0_g201 i0 i1 i2) (f0_g64 i0 i1 i2)) + (1 : Int32))
          · refine XS.icmpNo X115.here hx rfl (hb hby at_338) rfl (teq hc338).2 ?_
            refine XS.iconst X115.here hx rfl (hb hby at_341) ?_
            refine XS.goto X115.here hx rfl (pc0 := 342) (pc' := 346) rfl (hb hby at_342) (by decide) (by decide) ?_
            rw [show (f0_329_s0c i0 i1 i2) = (1 : Int32) from ((if_neg hc329).trans (if_pos hc338))] at k
            exact k
          · refine XS.icmpYes X115.here hx rfl (pc0 := 338) (pc' := 345) rfl (hb hby at_338) rfl (feq hc338).2 (by decide) (by decide) ?_
            refine XS.iconst X115.here hx rfl (hb hby at_345) ?_
            rw [show (f0_329_s0c i0 i1 i2) = (0 : Int32) from ((if_neg hc329).trans (if_neg hc338))] at k
            exact k
      exact Outs.retN (t := .boolean) (z := (f0_329_s0c i0 i1 i2)) X115 hx hret (by simp) (hb hby at_346) hlk (by decide) (by decide) e115 ⟨congrArg (fun z_ => some (Value.int z_)) (law_f0_329_s0c i0 i1 i2 hc324), N115⟩
    · refine Outs.of (U' := T115.setTop (mkF m 347 #[.val (.int i0), .val (.int i1), .val (.int i2), .val (.int (3 : Int32)), .val (.ref b1), .val (.ref b2), .val (.ref b82), .val (.ref b84), .val (.int (F_p3 (f0_g64 i0 i1 i2))), .val (.int (F_v3 (f0_g201 i0 i1 i2) (f0_g64 i0 i1 i2))), .val (.int (F_a3 (f0_g201 i0 i1 i2) (f0_g193 i0 i1 i2))), .val (.int (f0_v316b i0 i1 i2))] [])) (fun t k => ?_) ?_
      · refine XS.icmpYes X115.here hx rfl (pc0 := 324) (pc' := 347) rfl (hb hby at_324) rfl (flt hc324).2.1 (by decide) (by decide) ?_
        exact k
      refine Outs.of (U' := T115.setTop (mkF m 362 #[.val (.int i0), .val (.int i1), .val (.int i2), .val (.int (3 : Int32)), .val (.ref b1), .val (.ref b2), .val (.ref b82), .val (.ref b84), .val (.int (F_p3 (f0_g64 i0 i1 i2))), .val (.int (F_v3 (f0_g201 i0 i1 i2) (f0_g64 i0 i1 i2))), .val (.int (F_a3 (f0_g201 i0 i1 i2) (f0_g193 i0 i1 i2))), .val (.int (f0_v316b i0 i1 i2))] [(.int (f0_349_s0c i0 i1 i2))])) (fun t k => ?_) ?_
      · refine XS.iload X115.here hx rfl (hb hby at_347) rfl ?_
        by_cases hc349 : (F_a3 (f0_g201 i0 i1 i2) (f0_g193 i0 i1 i2)) = (0 : Int32)
        · refine XS.ifNo X115.here hx rfl (hb hby at_349) rfl ((if0 _ _).trans (teq hc349).2) ?_
          refine XS.iload X115.here hx rfl (hb hby at_352) rfl ?_
          by_cases hc354 : (f0_v316b i0 i1 i2) = (0 : Int32)
          · refine XS.ifNo X115.here hx rfl (hb hby at_354) rfl ((if0 _ _).trans (teq hc354).2) ?_
            refine XS.iconst X115.here hx rfl (hb hby at_357) ?_
            refine XS.goto X115.here hx rfl (pc0 := 358) (pc' := 362) rfl (hb hby at_358) (by decide) (by decide) ?_
            rw [show (f0_349_s0c i0 i1 i2) = (1 : Int32) from ((if_pos hc349).trans (if_pos hc354))] at k
            exact k
          · refine XS.ifYes X115.here hx rfl (pc0 := 354) (pc' := 361) rfl (hb hby at_354) rfl ((if0 _ _).trans (feq hc354).2) (by decide) (by decide) ?_
            refine XS.iconst X115.here hx rfl (hb hby at_361) ?_
            rw [show (f0_349_s0c i0 i1 i2) = (0 : Int32) from ((if_pos hc349).trans (if_neg hc354))] at k
            exact k
        · refine XS.ifYes X115.here hx rfl (pc0 := 349) (pc' := 361) rfl (hb hby at_349) rfl ((if0 _ _).trans (feq hc349).2) (by decide) (by decide) ?_
          refine XS.iconst X115.here hx rfl (hb hby at_361) ?_
          rw [show (f0_349_s0c i0 i1 i2) = (0 : Int32) from (if_neg hc349)] at k
          exact k
      exact Outs.retN (t := .boolean) (z := (f0_349_s0c i0 i1 i2)) X115 hx hret (by simp) (hb hby at_362) hlk (by decide) (by decide) e115 ⟨congrArg (fun z_ => some (Value.int z_)) (law_f0_349_s0c i0 i1 i2 hc324), N115⟩
  · rw [q]
    show Outs p e below s _ _ _ (T15.setTop (mkF m 130 #[.val (.int i0), .val (.int i1), .val (.int i2), .val (.int (4 : Int32)), .val (.ref b1), .val (.ref b2), .unset, .unset, .unset, .unset, .unset, .unset] []))
    refine Outs.of (U' := T15.setTop (mkF m 131 #[.val (.int i0), .val (.int i1), .val (.int i2), .val (.int (4 : Int32)), .val (.ref b1), .val (.ref b2), .unset, .unset, .unset, .unset, .unset, .unset] [(.int (4 : Int32))])) (fun t k => ?_) ?_
    · refine XS.iloadN X15.here hx rfl (hb hby at_130) rfl ?_
      exact k
    have f117 : AI Z h15 b1 .int 4 (f0_g64 i0 i1 i2) := (f14.other W15 ne_b1_b2)
    obtain ⟨T116, h116, X116, e116, E116, A116, st116⟩ := newAF X15 hx hZ (aty := .int) (hw _ (List.mem_of_getElem? (i := 1) rfl)) e15 (f := (mkF m 131 #[.val (.int i0), .val (.int i1), .val (.int i2), .val (.int (4 : Int32)), .val (.ref b1), .val (.ref b2), .unset, .unset, .unset, .unset, .unset, .unset] [(.int (4 : Int32))])) rfl (hb hby at_131) rfl (k := 4) rfl (cap := 4) (by decide) (by decide) (by decide) (by decide)
    obtain ⟨b116, g116⟩ : ∃ z, z = h15.size := ⟨_, rfl⟩
    rw [← g116] at A116 st116
    have g_b116 : n0 ≤ b116 := Nat.le_trans (Nat.le_trans (Nat.le_trans (Nat.le_trans (Nat.le_trans (Nat.le_trans (Nat.le_trans (Nat.le_trans (Nat.le_trans (Nat.le_trans (Nat.le_trans Z0 E1.1) E2.1) (Keep.of_wr W4).1) (Keep.of_wr W5).1) (Keep.of_wr W6).1) (Keep.of_wr W7).1) (Keep.of_wr W9).1) (Keep.of_wr W11).1) (Keep.of_wr W13).1) (Keep.of_wr W15).1) (Nat.le_of_eq g116.symm)
    have ne_b1_b116 : b1 ≠ b116 := Nat.ne_of_lt (Nat.lt_of_lt_of_eq f117.lt g116.symm)
    have ne_b2_b116 : b2 ≠ b116 := Nat.ne_of_lt (Nat.lt_of_lt_of_eq V15.lt g116.symm)
    have V116 : AI Z h116 b116 .int 4 (fun _ => (0 : Int32)) := A116
    refine Outs.of st116 ?_
    show Outs p e below s _ _ _ (T116.setTop (mkF m 133 #[.val (.int i0), .val (.int i1), .val (.int i2), .val (.int (4 : Int32)), .val (.ref b1), .val (.ref b2), .unset, .unset, .unset, .unset, .unset, .unset] [(.ref b116)]))
    refine Outs.of (U' := T116.setTop (mkF m 136 #[.val (.int i0), .val (.int i1), .val (.int i2), .val (.int (4 : Int32)), .val (.ref b1), .val (.ref b2), .val (.ref b116), .unset, .unset, .unset, .unset, .unset] [(.int (4 : Int32))])) (fun t k => ?_) ?_
    · refine XS.astore X116.here hx rfl (hb hby at_133) rfl rfl (l' := #[.val (.int i0), .val (.int i1), .val (.int i2), .val (.int (4 : Int32)), .val (.ref b1), .val (.ref b2), .val (.ref b116), .unset, .unset, .unset, .unset, .unset]) rfl ?_
      refine XS.iloadN X116.here hx rfl (hb hby at_135) rfl ?_
      exact k
    have f119 : AI Z h116 b1 .int 4 (f0_g64 i0 i1 i2) := (f117.ext E116)
    have f120 : AI Z h116 b2 .int 4 (f0_g129 i0 i1 i2) := (V15.ext E116)
    obtain ⟨T118, h118, X118, e118, E118, A118, st118⟩ := newAF X116 hx hZ (aty := .int) (hw _ (List.mem_of_getElem? (i := 1) rfl)) e116 (f := (mkF m 136 #[.val (.int i0), .val (.int i1), .val (.int i2), .val (.int (4 : Int32)), .val (.ref b1), .val (.ref b2), .val (.ref b116), .unset, .unset, .unset, .unset, .unset] [(.int (4 : Int32))])) rfl (hb hby at_136) rfl (k := 4) rfl (cap := 4) (by decide) (by decide) (by decide) (by decide)
    obtain ⟨b118, g118⟩ : ∃ z, z = h116.size := ⟨_, rfl⟩
    rw [← g118] at A118 st118
    have g_b118 : n0 ≤ b118 := Nat.le_trans (Nat.le_trans (Nat.le_trans (Nat.le_trans (Nat.le_trans (Nat.le_trans (Nat.le_trans (Nat.le_trans (Nat.le_trans (Nat.le_trans (Nat.le_trans (Nat.le_trans Z0 E1.1) E2.1) (Keep.of_wr W4).1) (Keep.of_wr W5).1) (Keep.of_wr W6).1) (Keep.of_wr W7).1) (Keep.of_wr W9).1) (Keep.of_wr W11).1) (Keep.of_wr W13).1) (Keep.of_wr W15).1) E116.1) (Nat.le_of_eq g118.symm)
    have ne_b1_b118 : b1 ≠ b118 := Nat.ne_of_lt (Nat.lt_of_lt_of_eq f119.lt g118.symm)
    have ne_b2_b118 : b2 ≠ b118 := Nat.ne_of_lt (Nat.lt_of_lt_of_eq f120.lt g118.symm)
    have ne_b116_b118 : b116 ≠ b118 := Nat.ne_of_lt (Nat.lt_of_lt_of_eq V116.lt g118.symm)
    have V118 : AI Z h118 b118 .int 4 (fun _ => (0 : Int32)) := A118
    refine Outs.of st118 ?_
    show Outs p e below s _ _ _ (T118.setTop (mkF m 138 #[.val (.int i0), .val (.int i1), .val (.int i2), .val (.int (4 : Int32)), .val (.ref b1), .val (.ref b2), .val (.ref b116), .unset, .unset, .unset, .unset, .unset] [(.ref b118)]))
    refine Outs.of (U' := T118.setTop (mkF m 150 #[.val (.int i0), .val (.int i1), .val (.int i2), .val (.int (4 : Int32)), .val (.ref b1), .val (.ref b2), .val (.ref b116), .val (.ref b118), .unset, .unset, .unset, .unset] [(.int (0 : Int32)), (.ref b1), (.int (0 : Int32)), (.ref b116)])) (fun t k => ?_) ?_
    · refine XS.astore X118.here hx rfl (hb hby at_138) rfl rfl (l' := #[.val (.int i0), .val (.int i1), .val (.int i2), .val (.int (4 : Int32)), .val (.ref b1), .val (.ref b2), .val (.ref b116), .val (.ref b118), .unset, .unset, .unset, .unset]) rfl ?_
      refine XS.iloadN X118.here hx rfl (hb hby at_140) rfl ?_
      refine XS.ifNo X118.here hx rfl (hb hby at_141) rfl ((if0 _ _).trans (tlt (by decide)).2.2.2) ?_
      refine XS.aload X118.here hx rfl (hb hby at_144) rfl rfl ?_
      refine XS.iconst X118.here hx rfl (hb hby at_146) ?_
      refine XS.aload X118.here hx rfl (hb hby at_147) rfl rfl ?_
      refine XS.iconst X118.here hx rfl (hb hby at_149) ?_
      exact k
    have f121 : AI Z h118 b1 .int 4 (f0_g64 i0 i1 i2) := (f119.ext E118)
    refine Outs.of (ldI X118 hx hZ e118 f121 (j := (0 : Int32)) (k := 0) rfl (by decide) (f := (mkF m 150 #[.val (.int i0), .val (.int i1), .val (.int i2), .val (.int (4 : Int32)), .val (.ref b1), .val (.ref b2), .val (.ref b116), .val (.ref b118), .unset, .unset, .unset, .unset] [(.int (0 : Int32)), (.ref b1), (.int (0 : Int32)), (.ref b116)])) rfl rfl (hb hby at_150)) ?_
    show Outs p e below s _ _ _ (T118.setTop (mkF m 151 #[.val (.int i0), .val (.int i1), .val (.int i2), .val (.int (4 : Int32)), .val (.ref b1), .val (.ref b2), .val (.ref b116), .val (.ref b118), .unset, .unset, .unset, .unset] [(.int ((f0_g64 i0 i1 i2) 0)), (.int (0 : Int32)), (.ref b116)]))
    have f122 : AI Z h118 b116 .int 4 (fun _ => (0 : Int32)) := (V116.ext E118)
    obtain ⟨T123, h123, X123, e123, W123, V123, st123⟩ := puI X118 hx hZ e118 f122 (j := (0 : Int32)) (x := ((f0_g64 i0 i1 i2) 0)) (k := 0) rfl (by decide) (f := (mkF m 151 #[.val (.int i0), .val (.int i1), .val (.int i2), .val (.int (4 : Int32)), .val (.ref b1), .val (.ref b2), .val (.ref b116), .val (.ref b118), .unset, .unset, .unset, .unset] [(.int ((f0_g64 i0 i1 i2) 0)), (.int (0 : Int32)), (.ref b116)])) rfl rfl (hb hby at_151)
    replace V123 : AI Z h123 b116 .int 4 (f0_g151 i0 i1 i2) := V123
    have N123 := Fr.snoc X123 N15 g_b116
    obtain ⟨Lh123, X123, N123⟩ := hide X123 N123 (C := 4) (S := 16) (by decide) (by decide)
    refine Outs.of st123 ?_
    show Outs p e below s _ _ _ (T123.setTop (mkF m 152 #[.val (.int i0), .val (.int i1), .val (.int i2), .val (.int (4 : Int32)), .val (.ref b1), .val (.ref b2), .val (.ref b116), .val (.ref b118), .unset, .unset, .unset, .unset] []))
    refine Outs.of (U' := T123.setTop (mkF m 158 #[.val (.int i0), .val (.int i1), .val (.int i2), .val (.int (4 : Int32)), .val (.ref b1), .val (.ref b2), .val (.ref b116), .val (.ref b118), .unset, .unset, .unset, .unset] [(.int (0 : Int32)), (.ref b2), (.int (0 : Int32)), (.ref b118)])) (fun t k => ?_) ?_
    · refine XS.aload X123.here hx rfl (hb hby at_152) rfl rfl ?_
      refine XS.iconst X123.here hx rfl (hb hby at_154) ?_
      refine XS.aload X123.here hx rfl (hb hby at_155) rfl rfl ?_
      refine XS.iconst X123.here hx rfl (hb hby at_157) ?_
      exact k
    have f124 : AI Z h123 b2 .int 4 (f0_g129 i0 i1 i2) := ((f120.ext E118).other W123 ne_b2_b116)
    refine Outs.of (ldI X123 hx hZ e123 f124 (j := (0 : Int32)) (k := 0) rfl (by decide) (f := (mkF m 158 #[.val (.int i0), .val (.int i1), .val (.int i2), .val (.int (4 : Int32)), .val (.ref b1), .val (.ref b2), .val (.ref b116), .val (.ref b118), .unset, .unset, .unset, .unset] [(.int (0 : Int32)), (.ref b2), (.int (0 : Int32)), (.ref b118)])) rfl rfl (hb hby at_158)) ?_
    show Outs p e below s _ _ _ (T123.setTop (mkF m 159 #[.val (.int i0), .val (.int i1), .val (.int i2), .val (.int (4 : Int32)), .val (.ref b1), .val (.ref b2), .val (.ref b116), .val (.ref b118), .unset, .unset, .unset, .unset] [(.int ((f0_g129 i0 i1 i2) 0)), (.int (0 : Int32)), (.ref b118)]))
    have f125 : AI Z h123 b118 .int 4 (fun _ => (0 : Int32)) := (V118.other W123 ne_b116_b118.symm)
    obtain ⟨T126, h126, X126, e126, W126, V126, st126⟩ := puI X123 hx hZ e123 f125 (j := (0 : Int32)) (x := ((f0_g129 i0 i1 i2) 0)) (k := 0) rfl (by decide) (f := (mkF m 159 #[.val (.int i0), .val (.int i1), .val (.int i2), .val (.int (4 : Int32)), .val (.ref b1), .val (.ref b2), .val (.ref b116), .val (.ref b118), .unset, .unset, .unset, .unset] [(.int ((f0_g129 i0 i1 i2) 0)), (.int (0 : Int32)), (.ref b118)])) rfl rfl (hb hby at_159)
    replace V126 : AI Z h126 b118 .int 4 (f0_g159 i0 i1 i2) := V126
    have N126 := Fr.snoc X126 N123 g_b118
    obtain ⟨Lh126, X126, N126⟩ := hide X126 N126 (C := 4) (S := 16) (by decide) (by decide)
    refine Outs.of st126 ?_
    show Outs p e below s _ _ _ (T126.setTop (mkF m 160 #[.val (.int i0), .val (.int i1), .val (.int i2), .val (.int (4 : Int32)), .val (.ref b1), .val (.ref b2), .val (.ref b116), .val (.ref b118), .unset, .unset, .unset, .unset] []))
    refine Outs.of (U' := T126.setTop (mkF m 171 #[.val (.int i0), .val (.int i1), .val (.int i2), .val (.int (4 : Int32)), .val (.ref b1), .val (.ref b2), .val (.ref b116), .val (.ref b118), .unset, .unset, .unset, .unset] [(.int (1 : Int32)), (.ref b1), (.int (1 : Int32)), (.ref b116)])) (fun t k => ?_) ?_
    · refine XS.iloadN X126.here hx rfl (hb hby at_160) rfl ?_
      refine XS.iconst X126.here hx rfl (hb hby at_161) ?_
      refine XS.icmpNo X126.here hx rfl (hb hby at_162) rfl (tlt (by decide)).2.2.2 ?_
      refine XS.aload X126.here hx rfl (hb hby at_165) rfl rfl ?_
      refine XS.iconst X126.here hx rfl (hb hby at_167) ?_
      refine XS.aload X126.here hx rfl (hb hby at_168) rfl rfl ?_
      refine XS.iconst X126.here hx rfl (hb hby at_170) ?_
      exact k
    have f127 : AI Z h126 b1 .int 4 (f0_g64 i0 i1 i2) := ((f121.other W123 ne_b1_b116).other W126 ne_b1_b118)
    refine Outs.of (ldI X126 hx hZ e126 f127 (j := (1 : Int32)) (k := 1) rfl (by decide) (f := (mkF m 171 #[.val (.int i0), .val (.int i1), .val (.int i2), .val (.int (4 : Int32)), .val (.ref b1), .val (.ref b2), .val (.ref b116), .val (.ref b118), .unset, .unset, .unset, .unset] [(.int (1 : Int32)), (.ref b1), (.int (1 : Int32)), (.ref b116)])) rfl rfl (hb hby at_171)) ?_
    show Outs p e below s _ _ _ (T126.setTop (mkF m 172 #[.val (.int i0), .val (.int i1), .val (.int i2), .val (.int (4 : Int32)), .val (.ref b1), .val (.ref b2), .val (.ref b116), .val (.ref b118), .unset, .unset, .unset, .unset] [(.int ((f0_g64 i0 i1 i2) 1)), (.int (1 : Int32)), (.ref b116)]))
    have f128 : AI Z h126 b116 .int 4 (f0_g151 i0 i1 i2) := (V123.other W126 ne_b116_b118)
    obtain ⟨T129, h129, X129, e129, W129, V129, st129⟩ := puI X126 hx hZ e126 f128 (j := (1 : Int32)) (x := ((f0_g64 i0 i1 i2) 1)) (k := 1) rfl (by decide) (f := (mkF m 172 #[.val (.int i0), .val (.int i1), .val (.int i2), .val (.int (4 : Int32)), .val (.ref b1), .val (.ref b2), .val (.ref b116), .val (.ref b118), .unset, .unset, .unset, .unset] [(.int ((f0_g64 i0 i1 i2) 1)), (.int (1 : Int32)), (.ref b116)])) rfl rfl (hb hby at_172)
    replace V129 : AI Z h129 b116 .int 4 (f0_g172 i0 i1 i2) := V129
    have N129 := Fr.snoc X129 N126 g_b116
    obtain ⟨Lh129, X129, N129⟩ := hide X129 N129 (C := 4) (S := 16) (by decide) (by decide)
    refine Outs.of st129 ?_
    show Outs p e below s _ _ _ (T129.setTop (mkF m 173 #[.val (.int i0), .val (.int i1), .val (.int i2), .val (.int (4 : Int32)), .val (.ref b1), .val (.ref b2), .val (.ref b116), .val (.ref b118), .unset, .unset, .unset, .unset] []))
    refine Outs.of (U' := T129.setTop (mkF m 179 #[.val (.int i0), .val (.int i1), .val (.int i2), .val (.int (4 : Int32)), .val (.ref b1), .val (.ref b2), .val (.ref b116), .val (.ref b118), .unset, .unset, .unset, .unset] [(.int (1 : Int32)), (.ref b2), (.int (1 : Int32)), (.ref b118)])) (fun t k => ?_) ?_
    · refine XS.aload X129.here hx rfl (hb hby at_173) rfl rfl ?_
      refine XS.iconst X129.here hx rfl (hb hby at_175) ?_
      refine XS.aload X129.here hx rfl (hb hby at_176) rfl rfl ?_
      refine XS.iconst X129.here hx rfl (hb hby at_178) ?_
      exact k
    have f130 : AI Z h129 b2 .int 4 (f0_g129 i0 i1 i2) := ((f124.other W126 ne_b2_b118).other W129 ne_b2_b116)
    refine Outs.of (ldI X129 hx hZ e129 f130 (j := (1 : Int32)) (k := 1) rfl (by decide) (f := (mkF m 179 #[.val (.int i0), .val (.int i1), .val (.int i2), .val (.int (4 : Int32)), .val (.ref b1), .val (.ref b2), .val (.ref b116), .val (.ref b118), .unset, .unset, .unset, .unset] [(.int (1 : Int32)), (.ref b2), (.int (1 : Int32)), (.ref b118)])) rfl rfl (hb hby at_179)) ?_
    show Outs p e below s _ _ _ (T129.setTop (mkF m 180 #[.val (.int i0), .val (.int i1), .val (.int i2), .val (.int (4 : Int32)), .val (.ref b1), .val (.ref b2), .val (.ref b116), .val (.ref b118), .unset, .unset, .unset, .unset] [(.int ((f0_g129 i0 i1 i2) 1)), (.int (1 : Int32)), (.ref b118)]))
    have f131 : AI Z h129 b118 .int 4 (f0_g159 i0 i1 i2) := (V126.other W129 ne_b116_b118.symm)
    obtain ⟨T132, h132, X132, e132, W132, V132, st132⟩ := puI X129 hx hZ e129 f131 (j := (1 : Int32)) (x := ((f0_g129 i0 i1 i2) 1)) (k := 1) rfl (by decide) (f := (mkF m 180 #[.val (.int i0), .val (.int i1), .val (.int i2), .val (.int (4 : Int32)), .val (.ref b1), .val (.ref b2), .val (.ref b116), .val (.ref b118), .unset, .unset, .unset, .unset] [(.int ((f0_g129 i0 i1 i2) 1)), (.int (1 : Int32)), (.ref b118)])) rfl rfl (hb hby at_180)
    replace V132 : AI Z h132 b118 .int 4 (f0_g180 i0 i1 i2) := V132
    have N132 := Fr.snoc X132 N129 g_b118
    obtain ⟨Lh132, X132, N132⟩ := hide X132 N132 (C := 4) (S := 16) (by decide) (by decide)
    refine Outs.of st132 ?_
    show Outs p e below s _ _ _ (T132.setTop (mkF m 181 #[.val (.int i0), .val (.int i1), .val (.int i2), .val (.int (4 : Int32)), .val (.ref b1), .val (.ref b2), .val (.ref b116), .val (.ref b118), .unset, .unset, .unset, .unset] []))
    refine Outs.of (U' := T132.setTop (mkF m 192 #[.val (.int i0), .val (.int i1), .val (.int i2), .val (.int (4 : Int32)), .val (.ref b1), .val (.ref b2), .val (.ref b116), .val (.ref b118), .unset, .unset, .unset, .unset] [(.int (2 : Int32)), (.ref b1), (.int (2 : Int32)), (.ref b116)])) (fun t k => ?_) ?_
    · refine XS.iloadN X132.here hx rfl (hb hby at_181) rfl ?_
      refine XS.iconst X132.here hx rfl (hb hby at_182) ?_
      refine XS.icmpNo X132.here hx rfl (hb hby at_183) rfl (tlt (by decide)).2.2.2 ?_
      refine XS.aload X132.here hx rfl (hb hby at_186) rfl rfl ?_
      refine XS.iconst X132.here hx rfl (hb hby at_188) ?_
      refine XS.aload X132.here hx rfl (hb hby at_189) rfl rfl ?_
      refine XS.iconst X132.here hx rfl (hb hby at_191) ?_
      exact k
    have f133 : AI Z h132 b1 .int 4 (f0_g64 i0 i1 i2) := ((f127.other W129 ne_b1_b116).other W132 ne_b1_b118)
    refine Outs.of (ldI X132 hx hZ e132 f133 (j := (2 : Int32)) (k := 2) rfl (by decide) (f := (mkF m 192 #[.val (.int i0), .val (.int i1), .val (.int i2), .val (.int (4 : Int32)), .val (.ref b1), .val (.ref b2), .val (.ref b116), .val (.ref b118), .unset, .unset, .unset, .unset] [(.int (2 : Int32)), (.ref b1), (.int (2 : Int32)), (.ref b116)])) rfl rfl (hb hby at_192)) ?_
    show Outs p e below s _ _ _ (T132.setTop (mkF m 193 #[.val (.int i0), .val (.int i1), .val (.int i2), .val (.int (4 : Int32)), .val (.ref b1), .val (.ref b2), .val (.ref b116), .val (.ref b118), .unset, .unset, .unset, .unset] [(.int ((f0_g64 i0 i1 i2) 2)), (.int (2 : Int32)), (.ref b116)]))
    have f134 : AI Z h132 b116 .int 4 (f0_g172 i0 i1 i2) := (V129.other W132 ne_b116_b118)
    obtain ⟨T135, h135, X135, e135, W135, V135, st135⟩ := puI X132 hx hZ e132 f134 (j := (2 : Int32)) (x := ((f0_g64 i0 i1 i2) 2)) (k := 2) rfl (by decide) (f := (mkF m 193 #[.val (.int i0), .val (.int i1), .val (.int i2), .val (.int (4 : Int32)), .val (.ref b1), .val (.ref b2), .val (.ref b116), .val (.ref b118), .unset, .unset, .unset, .unset] [(.int ((f0_g64 i0 i1 i2) 2)), (.int (2 : Int32)), (.ref b116)])) rfl rfl (hb hby at_193)
    replace V135 : AI Z h135 b116 .int 4 (f0_g193 i0 i1 i2) := V135
    have N135 := Fr.snoc X135 N132 g_b116
    obtain ⟨Lh135, X135, N135⟩ := hide X135 N135 (C := 4) (S := 16) (by decide) (by decide)
    refine Outs.of st135 ?_
    show Outs p e below s _ _ _ (T135.setTop (mkF m 194 #[.val (.int i0), .val (.int i1), .val (.int i2), .val (.int (4 : Int32)), .val (.ref b1), .val (.ref b2), .val (.ref b116), .val (.ref b118), .unset, .unset, .unset, .unset] []))
    refine Outs.of (U' := T135.setTop (mkF m 200 #[.val (.int i0), .val (.int i1), .val (.int i2), .val (.int (4 : Int32)), .val (.ref b1), .val (.ref b2), .val (.ref b116), .val (.ref b118), .unset, .unset, .unset, .unset] [(.int (2 : Int32)), (.ref b2), (.int (2 : Int32)), (.ref b118)])) (fun t k => ?_) ?_
    · refine XS.aload X135.here hx rfl (hb hby at_194) rfl rfl ?_
      refine XS.iconst X135.here hx rfl (hb hby at_196) ?_
      refine XS.aload X135.here hx rfl (hb hby at_197) rfl rfl ?_
      refine XS.iconst X135.here hx rfl (hb hby at_199) ?_
      exact k
    have f136 : AI Z h135 b2 .int 4 (f0_g129 i0 i1 i2) := ((f130.other W132 ne_b2_b118).other W135 ne_b2_b116)
    refine Outs.of (ldI X135 hx hZ e135 f136 (j := (2 : Int32)) (k := 2) rfl (by decide) (f := (mkF m 200 #[.val (.int i0), .val (.int i1), .val (.int i2), .val (.int (4 : Int32)), .val (.ref b1), .val (.ref b2), .val (.ref b116), .val (.ref b118), .unset, .unset, .unset, .unset] [(.int (2 : Int32)), (.ref b2), (.int (2 : Int32)), (.ref b118)])) rfl rfl (hb hby at_200)) ?_
    show Outs p e below s _ _ _ (T135.setTop (mkF m 201 #[.val (.int i0), .val (.int i1), .val (.int i2), .val (.int (4 : Int32)), .val (.ref b1), .val (.ref b2), .val (.ref b116), .val (.ref b118), .unset, .unset, .unset, .unset] [(.int ((f0_g129 i0 i1 i2) 2)), (.int (2 : Int32)), (.ref b118)]))
    have f137 : AI Z h135 b118 .int 4 (f0_g180 i0 i1 i2) := (V132.other W135 ne_b116_b118.symm)
    obtain ⟨T138, h138, X138, e138, W138, V138, st138⟩ := puI X135 hx hZ e135 f137 (j := (2 : Int32)) (x := ((f0_g129 i0 i1 i2) 2)) (k := 2) rfl (by decide) (f := (mkF m 201 #[.val (.int i0), .val (.int i1), .val (.int i2), .val (.int (4 : Int32)), .val (.ref b1), .val (.ref b2), .val (.ref b116), .val (.ref b118), .unset, .unset, .unset, .unset] [(.int ((f0_g129 i0 i1 i2) 2)), (.int (2 : Int32)), (.ref b118)])) rfl rfl (hb hby at_201)
    replace V138 : AI Z h138 b118 .int 4 (f0_g201 i0 i1 i2) := V138
    have N138 := Fr.snoc X138 N135 g_b118
    obtain ⟨Lh138, X138, N138⟩ := hide X138 N138 (C := 4) (S := 16) (by decide) (by decide)
    refine Outs.of st138 ?_
    show Outs p e below s _ _ _ (T138.setTop (mkF m 202 #[.val (.int i0), .val (.int i1), .val (.int i2), .val (.int (4 : Int32)), .val (.ref b1), .val (.ref b2), .val (.ref b116), .val (.ref b118), .unset, .unset, .unset, .unset] []))
    refine Outs.of (U' := T138.setTop (mkF m 213 #[.val (.int i0), .val (.int i1), .val (.int i2), .val (.int (4 : Int32)), .val (.ref b1), .val (.ref b2), .val (.ref b116), .val (.ref b118), .unset, .unset, .unset, .unset] [(.int (3 : Int32)), (.ref b1), (.int (3 : Int32)), (.ref b116)])) (fun t k => ?_) ?_
    · refine XS.iloadN X138.here hx rfl (hb hby at_202) rfl ?_
      refine XS.iconst X138.here hx rfl (hb hby at_203) ?_
      refine XS.icmpNo X138.here hx rfl (hb hby at_204) rfl (tlt (by decide)).2.2.2 ?_
      refine XS.aload X138.here hx rfl (hb hby at_207) rfl rfl ?_
      refine XS.iconst X138.here hx rfl (hb hby at_209) ?_
      refine XS.aload X138.here hx rfl (hb hby at_210) rfl rfl ?_
      refine XS.iconst X138.here hx rfl (hb hby at_212) ?_
      exact k
    have f139 : AI Z h138 b1 .int 4 (f0_g64 i0 i1 i2) := ((f133.other W135 ne_b1_b116).other W138 ne_b1_b118)
    refine Outs.of (ldI X138 hx hZ e138 f139 (j := (3 : Int32)) (k := 3) rfl (by decide) (f := (mkF m 213 #[.val (.int i0), .val (.int i1), .val (.int i2), .val (.int (4 : Int32)), .val (.ref b1), .val (.ref b2), .val (.ref b116), .val (.ref b118), .unset, .unset, .unset, .unset] [(.int (3 : Int32)), (.ref b1), (.int (3 : Int32)), (.ref b116)])) rfl rfl (hb hby at_213)) ?_
    show Outs p e below s _ _ _ (T138.setTop (mkF m 214 #[.val (.int i0), .val (.int i1), .val (.int i2), .val (.int (4 : Int32)), .val (.ref b1), .val (.ref b2), .val (.ref b116), .val (.ref b118), .unset, .unset, .unset, .unset] [(.int ((f0_g64 i0 i1 i2) 3)), (.int (3 : Int32)), (.ref b116)]))
    have f140 : AI Z h138 b116 .int 4 (f0_g193 i0 i1 i2) := (V135.other W138 ne_b116_b118)
    obtain ⟨T141, h141, X141, e141, W141, V141, st141⟩ := puI X138 hx hZ e138 f140 (j := (3 : Int32)) (x := ((f0_g64 i0 i1 i2) 3)) (k := 3) rfl (by decide) (f := (mkF m 214 #[.val (.int i0), .val (.int i1), .val (.int i2), .val (.int (4 : Int32)), .val (.ref b1), .val (.ref b2), .val (.ref b116), .val (.ref b118), .unset, .unset, .unset, .unset] [(.int ((f0_g64 i0 i1 i2) 3)), (.int (3 : Int32)), (.ref b116)])) rfl rfl (hb hby at_214)
    replace V141 : AI Z h141 b116 .int 4 (f0_g214 i0 i1 i2) := V141
    have N141 := Fr.snoc X141 N138 g_b116
    obtain ⟨Lh141, X141, N141⟩ := hide X141 N141 (C := 4) (S := 16) (by decide) (by decide)
    refine Outs.of st141 ?_
    show Outs p e below s _ _ _ (T141.setTop (mkF m 215 #[.val (.int i0), .val (.int i1), .val (.int i2), .val (.int (4 : Int32)), .val (.ref b1), .val (.ref b2), .val (.ref b116), .val (.ref b118), .unset, .unset, .unset, .unset] []))
    refine Outs.of (U' := T141.setTop (mkF m 221 #[.val (.int i0), .val (.int i1), .val (.int i2), .val (.int (4 : Int32)), .val (.ref b1), .val (.ref b2), .val (.ref b116), .val (.ref b118), .unset, .unset, .unset, .unset] [(.int (3 : Int32)), (.ref b2), (.int (3 : Int32)), (.ref b118)])) (fun t k => ?_) ?_
    · refine XS.aload X141.here hx rfl (hb hby at_215) rfl rfl ?_
      refine XS.iconst X141.here hx rfl (hb hby at_217) ?_
      refine XS.aload X141.here hx rfl (hb hby at_218) rfl rfl ?_
      refine XS.iconst X141.here hx rfl (hb hby at_220) ?_
      exact k
    have f142 : AI Z h141 b2 .int 4 (f0_g129 i0 i1 i2) := ((f136.other W138 ne_b2_b118).other W141 ne_b2_b116)
    refine Outs.of (ldI X141 hx hZ e141 f142 (j := (3 : Int32)) (k := 3) rfl (by decide) (f := (mkF m 221 #[.val (.int i0), .val (.int i1), .val (.int i2), .val (.int (4 : Int32)), .val (.ref b1), .val (.ref b2), .val (.ref b116), .val (.ref b118), .unset, .unset, .unset, .unset] [(.int (3 : Int32)), (.ref b2), (.int (3 : Int32)), (.ref b118)])) rfl rfl (hb hby at_221)) ?_
    show Outs p e below s _ _ _ (T141.setTop (mkF m 222 #[.val (.int i0), .val (.int i1), .val (.int i2), .val (.int (4 : Int32)), .val (.ref b1), .val (.ref b2), .val (.ref b116), .val (.ref b118), .unset, .unset, .unset, .unset] [(.int ((f0_g129 i0 i1 i2) 3)), (.int (3 : Int32)), (.ref b118)]))
    have f143 : AI Z h141 b118 .int 4 (f0_g201 i0 i1 i2) := (V138.other W141 ne_b116_b118.symm)
    obtain ⟨T144, h144, X144, e144, W144, V144, st144⟩ := puI X141 hx hZ e141 f143 (j := (3 : Int32)) (x := ((f0_g129 i0 i1 i2) 3)) (k := 3) rfl (by decide) (f := (mkF m 222 #[.val (.int i0), .val (.int i1), .val (.int i2), .val (.int (4 : Int32)), .val (.ref b1), .val (.ref b2), .val (.ref b116), .val (.ref b118), .unset, .unset, .unset, .unset] [(.int ((f0_g129 i0 i1 i2) 3)), (.int (3 : Int32)), (.ref b118)])) rfl rfl (hb hby at_222)
    replace V144 : AI Z h144 b118 .int 4 (f0_g222 i0 i1 i2) := V144
    have N144 := Fr.snoc X144 N141 g_b118
    obtain ⟨Lh144, X144, N144⟩ := hide X144 N144 (C := 4) (S := 16) (by decide) (by decide)
    refine Outs.of st144 ?_
    show Outs p e below s _ _ _ (T144.setTop (mkF m 223 #[.val (.int i0), .val (.int i1), .val (.int i2), .val (.int (4 : Int32)), .val (.ref b1), .val (.ref b2), .val (.ref b116), .val (.ref b118), .unset, .unset, .unset, .unset] []))
    refine Outs.of (U' := T144.setTop (mkF m 226 #[.val (.int i0), .val (.int i1), .val (.int i2), .val (.int (4 : Int32)), .val (.ref b1), .val (.ref b2), .val (.ref b116), .val (.ref b118), .unset, .unset, .unset, .unset] [(.int (4 : Int32)), (.ref b1)])) (fun t k => ?_) ?_
    · refine XS.aload X144.here hx rfl (hb hby at_223) rfl rfl ?_
      refine XS.iloadN X144.here hx rfl (hb hby at_225) rfl ?_
      exact k
    have f145 : AI Z h144 b1 .int 4 (f0_g64 i0 i1 i2) := ((f139.other W141 ne_b1_b116).other W144 ne_b1_b118)
    obtain ⟨_, _, ⟨T146, L146, k146, n146⟩, -, X146, ⟨Lc146, hQ146, l146, y146, z146⟩, st146⟩ := Jvm.LawKit.callS X144 hx (y := (⟨"com/example/ratatoskr/ratatoskr/ChoicesAdvancePinLaw", "prod", "([II)I"⟩ : MethodName)) hown (mvT hZ (hw _ (List.mem_of_getElem? (i := 2) rfl))) (mvT hZ (hw _ (List.mem_of_getElem? (i := 3) rfl))) (mvT hZ (hw _ (List.mem_of_getElem? (i := 4) rfl))) (mvT hZ (hw _ (List.mem_of_getElem? (i := 5) rfl))) (by decide) (backOf (W := 0) (rmp4 l Z a0 hw [] b1 (f0_g64 i0 i1 i2) h144 n0 f145) hZ (hw _ (List.mem_of_getElem? (i := 5) rfl)) (hw _ (List.mem_of_getElem? (i := 4) rfl)) (by decide) (by decide)) (g := (mkF m 226 #[.val (.int i0), .val (.int i1), .val (.int i2), .val (.int (4 : Int32)), .val (.ref b1), .val (.ref b2), .val (.ref b116), .val (.ref b118), .unset, .unset, .unset, .unset] [(.int (4 : Int32)), (.ref b1)])) rfl (by rw [hml]; rfl) (argsL := [(.ref b1), (.int (4 : Int32))]) (rest := []) (lenOf pd_0 rfl) rfl (by show 2 * 0 + _ ≤ _; exact Nat.le_of_eq rfl) (hb hby at_226) (fun _ _ => ⟨rfl, e144, (by decide : 4 + 0 ≤ _), (by decide : 16 + 0 ≤ _)⟩)
    dsimp only [Pt.U, Pt.locs, Pt.cells, Pt.slots] at X146 l146 y146 z146 st146 hQ146
    subst l146 y146 z146
    obtain ⟨rfl, N146q, e146⟩ := hQ146
    have N146 := Fr.app N144 N146q
    obtain ⟨Lh146, X146, N146⟩ := hide X146 N146 (C := 4) (S := 16) (by decide) (by decide)
    refine Outs.of st146 ?_
    show Outs p e below s _ _ _ (T146.setTop (mkF m 229 #[.val (.int i0), .val (.int i1), .val (.int i2), .val (.int (4 : Int32)), .val (.ref b1), .val (.ref b2), .val (.ref b116), .val (.ref b118), .unset, .unset, .unset, .unset] [(.int (F_p4 (f0_g64 i0 i1 i2)))]))
    refine Outs.of (U' := T146.setTop (mkF m 236 #[.val (.int i0), .val (.int i1), .val (.int i2), .val (.int (4 : Int32)), .val (.ref b1), .val (.ref b2), .val (.ref b116), .val (.ref b118), .val (.int (F_p4 (f0_g64 i0 i1 i2))), .unset, .unset, .unset] [(.int (4 : Int32)), (.ref b1), (.ref b118)])) (fun t k => ?_) ?_
    · refine XS.istore X146.here hx rfl (hb hby at_229) rfl (l' := #[.val (.int i0), .val (.int i1), .val (.int i2), .val (.int (4 : Int32)), .val (.ref b1), .val (.ref b2), .val (.ref b116), .val (.ref b118), .val (.int (F_p4 (f0_g64 i0 i1 i2))), .unset, .unset, .unset]) rfl ?_
      refine XS.aload X146.here hx rfl (hb hby at_231) rfl rfl ?_
      refine XS.aload X146.here hx rfl (hb hby at_233) rfl rfl ?_
      refine XS.iloadN X146.here hx rfl (hb hby at_235) rfl ?_
      exact k
    obtain ⟨_, _, ⟨T147, L147, k147, n147⟩, -, X147, ⟨Lc147, hQ147, l147, y147, z147⟩, st147⟩ := Jvm.LawKit.callS X146 hx (y := (⟨"com/example/ratatoskr/ratatoskr/ChoicesAdvancePinLaw", "val", "([I[II)I"⟩ : MethodName)) hown (mvT hZ (hw _ (List.mem_of_getElem? (i := 6) rfl))) (mvT hZ (hw _ (List.mem_of_getElem? (i := 7) rfl))) (mvT hZ (hw _ (List.mem_of_getElem? (i := 4) rfl))) (mvT hZ (hw _ (List.mem_of_getElem? (i := 8) rfl))) (by decide) (backOf (W := 0) (rmv4 l Z a0 hw [] b118 b1 (f0_g222 i0 i1 i2) (f0_g64 i0 i1 i2) h144 n0 V144 f145) hZ (hw _ (List.mem_of_getElem? (i := 8) rfl)) (hw _ (List.mem_of_getElem? (i := 4) rfl)) (by decide) (by decide)) (g := (mkF m 236 #[.val (.int i0), .val (.int i1), .val (.int i2), .val (.int (4 : Int32)), .val (.ref b1), .val (.ref b2), .val (.ref b116), .val (.ref b118), .val (.int (F_p4 (f0_g64 i0 i1 i2))), .unset, .unset, .unset] [(.int (4 : Int32)), (.ref b1), (.ref b118)])) rfl (by rw [hml]; rfl) (argsL := [(.ref b118), (.ref b1), (.int (4 : Int32))]) (rest := []) (lenOf pd_1 rfl) rfl (by show 2 * 0 + _ ≤ _; exact Nat.le_of_eq rfl) (hb hby at_236) (fun _ _ => ⟨rfl, e146, (by decide : 4 + 0 ≤ _), (by decide : 16 + 0 ≤ _)⟩)
    dsimp only [Pt.U, Pt.locs, Pt.cells, Pt.slots] at X147 l147 y147 z147 st147 hQ147
    subst l147 y147 z147
    obtain ⟨rfl, N147q, e147⟩ := hQ147
    have N147 := Fr.app N146 N147q
    obtain ⟨Lh147, X147, N147⟩ := hide X147 N147 (C := 4) (S := 16) (by decide) (by decide)
    refine Outs.of st147 ?_
    show Outs p e below s _ _ _ (T147.setTop (mkF m 239 #[.val (.int i0), .val (.int i1), .val (.int i2), .val (.int (4 : Int32)), .val (.ref b1), .val (.ref b2), .val (.ref b116), .val (.ref b118), .val (.int (F_p4 (f0_g64 i0 i1 i2))), .unset, .unset, .unset] [(.int (F_v4 (f0_g222 i0 i1 i2) (f0_g64 i0 i1 i2)))]))
    refine Outs.of (U' := T147.setTop (mkF m 245 #[.val (.int i0), .val (.int i1), .val (.int i2), .val (.int (4 : Int32)), .val (.ref b1), .val (.ref b2), .val (.ref b116), .val (.ref b118), .val (.int (F_p4 (f0_g64 i0 i1 i2))), .val (.int (F_v4 (f0_g222 i0 i1 i2) (f0_g64 i0 i1 i2))), .unset, .unset] [(.ref b116), (.ref b118)])) (fun t k => ?_) ?_
    · refine XS.istore X147.here hx rfl (hb hby at_239) rfl (l' := #[.val (.int i0), .val (.int i1), .val (.int i2), .val (.int (4 : Int32)), .val (.ref b1), .val (.ref b2), .val (.ref b116), .val (.ref b118), .val (.int (F_p4 (f0_g64 i0 i1 i2))), .val (.int (F_v4 (f0_g222 i0 i1 i2) (f0_g64 i0 i1 i2))), .unset, .unset]) rfl ?_
      refine XS.aload X147.here hx rfl (hb hby at_241) rfl rfl ?_
      refine XS.aload X147.here hx rfl (hb hby at_243) rfl rfl ?_
      exact k
    have f148 : AI Z h144 b116 .int 4 (f0_g214 i0 i1 i2) := (V141.other W144 ne_b116_b118)
    obtain ⟨_, _, ⟨T149, L149, k149, n149⟩, -, X149, ⟨Lc149, hQ149, l149, y149, z149⟩, st149⟩ := Jvm.LawKit.callS X147 hx (y := (⟨"com/example/ratatoskr/ratatoskr/Choices", "advance", "([I[I)Z"⟩ : MethodName)) hown (mvT hZ (hw _ (List.mem_of_getElem? (i := 9) rfl))) (mvT hZ (hw _ (List.mem_of_getElem? (i := 10) rfl))) (mvT hZ (hw _ (List.mem_of_getElem? (i := 11) rfl))) (mvT hZ (hw _ (List.mem_of_getElem? (i := 12) rfl))) (by decide) (backOf (W := 0) (rma4 l Z a0 hw [] b118 b116 (f0_g222 i0 i1 i2) (f0_g214 i0 i1 i2) h144 n0 V144 f148 g_b118 ne_b116_b118.symm) hZ (hw _ (List.mem_of_getElem? (i := 12) rfl)) (hw _ (List.mem_of_getElem? (i := 11) rfl)) (by decide) (by decide)) (g := (mkF m 245 #[.val (.int i0), .val (.int i1), .val (.int i2), .val (.int (4 : Int32)), .val (.ref b1), .val (.ref b2), .val (.ref b116), .val (.ref b118), .val (.int (F_p4 (f0_g64 i0 i1 i2))), .val (.int (F_v4 (f0_g222 i0 i1 i2) (f0_g64 i0 i1 i2))), .unset, .unset] [(.ref b116), (.ref b118)])) rfl (by rw [hml]; rfl) (argsL := [(.ref b118), (.ref b116)]) (rest := []) (lenOf pd_2 rfl) rfl (by show 2 * 0 + _ ≤ _; exact Nat.le_of_eq rfl) (hb hby at_245) (fun _ _ => ⟨rfl, e147, (by decide : 4 + 0 ≤ _), (by decide : 16 + 0 ≤ _)⟩)
    dsimp only [Pt.U, Pt.locs, Pt.cells, Pt.slots] at X149 l149 y149 z149 st149 hQ149
    subst l149 y149 z149
    obtain ⟨rfl, N149q, K149, u149_0, u149_1⟩ := hQ149
    have N149 := Fr.app N147 N149q
    obtain ⟨Lh149, X149, N149⟩ := hide X149 N149 (C := 4) (S := 16) (by decide) (by decide)
    refine Outs.of st149 ?_
    show Outs p e below s _ _ _ (T149.setTop (mkF m 248 #[.val (.int i0), .val (.int i1), .val (.int i2), .val (.int (4 : Int32)), .val (.ref b1), .val (.ref b2), .val (.ref b116), .val (.ref b118), .val (.int (F_p4 (f0_g64 i0 i1 i2))), .val (.int (F_v4 (f0_g222 i0 i1 i2) (f0_g64 i0 i1 i2))), .unset, .unset] [(.int (F_a4 (f0_g222 i0 i1 i2) (f0_g214 i0 i1 i2)))]))
    refine Outs.of (U' := T149.setTop (mkF m 258 #[.val (.int i0), .val (.int i1), .val (.int i2), .val (.int (4 : Int32)), .val (.ref b1), .val (.ref b2), .val (.ref b116), .val (.ref b118), .val (.int (F_p4 (f0_g64 i0 i1 i2))), .val (.int (F_v4 (f0_g222 i0 i1 i2) (f0_g64 i0 i1 i2))), .val (.int (F_a4 (f0_g222 i0 i1 i2) (f0_g214 i0 i1 i2))), .unset] [(.int (0 : Int32)), (.int (4 : Int32)), (.ref b1), (.ref b116), (.ref b118)])) (fun t k => ?_) ?_
    · refine XS.istore X149.here hx rfl (hb hby at_248) rfl (l' := #[.val (.int i0), .val (.int i1), .val (.int i2), .val (.int (4 : Int32)), .val (.ref b1), .val (.ref b2), .val (.ref b116), .val (.ref b118), .val (.int (F_p4 (f0_g64 i0 i1 i2))), .val (.int (F_v4 (f0_g222 i0 i1 i2) (f0_g64 i0 i1 i2))), .val (.int (F_a4 (f0_g222 i0 i1 i2) (f0_g214 i0 i1 i2))), .unset]) rfl ?_
      refine XS.aload X149.here hx rfl (hb hby at_250) rfl rfl ?_
      refine XS.aload X149.here hx rfl (hb hby at_252) rfl rfl ?_
      refine XS.aload X149.here hx rfl (hb hby at_254) rfl rfl ?_
      refine XS.iloadN X149.here hx rfl (hb hby at_256) rfl ?_
      refine XS.iconst X149.here hx rfl (hb hby at_257) ?_
      exact k
    have f150 : AI Z T149.heap b1 .int 4 (f0_g64 i0 i1 i2) := (f145.keep K149 (ninS ne_b1_b118 nin0))
    obtain ⟨_, _, ⟨T151, L151, k151, n151⟩, -, X151, ⟨Lc151, hQ151, l151, y151, z151⟩, st151⟩ := Jvm.LawKit.callS X149 hx (y := (⟨"com/example/ratatoskr/ratatoskr/ChoicesAdvancePinLaw", "ok", "([I[I[III)Z"⟩ : MethodName)) hown (mvT hZ (hw _ (List.mem_of_getElem? (i := 13) rfl))) (mvT hZ (hw _ (List.mem_of_getElem? (i := 14) rfl))) (mvT hZ (hw _ (List.mem_of_getElem? (i := 4) rfl))) (mvT hZ (hw _ (List.mem_of_getElem? (i := 15) rfl))) (by decide) (backOf (W := 0) (rmk4_0 l Z a0 hw [] b118 b116 b1 (a4_out0 (f0_g222 i0 i1 i2) (f0_g214 i0 i1 i2)) (f0_g214 i0 i1 i2) (f0_g64 i0 i1 i2) T149.heap n0 u149_0 u149_1 f150) hZ (hw _ (List.mem_of_getElem? (i := 15) rfl)) (hw _ (List.mem_of_getElem? (i := 4) rfl)) (by decide) (by decide)) (g := (mkF m 258 #[.val (.int i0), .val (.int i1), .val (.int i2), .val (.int (4 : Int32)), .val (.ref b1), .val (.ref b2), .val (.ref b116), .val (.ref b118), .val (.int (F_p4 (f0_g64 i0 i1 i2))), .val (.int (F_v4 (f0_g222 i0 i1 i2) (f0_g64 i0 i1 i2))), .val (.int (F_a4 (f0_g222 i0 i1 i2) (f0_g214 i0 i1 i2))), .unset] [(.int (0 : Int32)), (.int (4 : Int32)), (.ref b1), (.ref b116), (.ref b118)])) rfl (by rw [hml]; rfl) (argsL := [(.ref b118), (.ref b116), (.ref b1), (.int (4 : Int32)), (.int (0 : Int32))]) (rest := []) (lenOf pd_3 rfl) rfl (by show 2 * 0 + _ ≤ _; exact Nat.le_of_eq rfl) (hb hby at_258) (fun _ _ => ⟨rfl, rfl, (by decide : 4 + 0 ≤ _), (by decide : 16 + 0 ≤ _)⟩)
    dsimp only [Pt.U, Pt.locs, Pt.cells, Pt.slots] at X151 l151 y151 z151 st151 hQ151
    subst l151 y151 z151
    obtain ⟨rfl, N151q, e151⟩ := hQ151
    have N151 := Fr.app N149 N151q
    obtain ⟨Lh151, X151, N151⟩ := hide X151 N151 (C := 4) (S := 16) (by decide) (by decide)
    refine Outs.of st151 ?_
    show Outs p e below s _ _ _ (T151.setTop (mkF m 261 #[.val (.int i0), .val (.int i1), .val (.int i2), .val (.int (4 : Int32)), .val (.ref b1), .val (.ref b2), .val (.ref b116), .val (.ref b118), .val (.int (F_p4 (f0_g64 i0 i1 i2))), .val (.int (F_v4 (f0_g222 i0 i1 i2) (f0_g64 i0 i1 i2))), .val (.int (F_a4 (f0_g222 i0 i1 i2) (f0_g214 i0 i1 i2))), .unset] [(.int (F_k4_0 (a4_out0 (f0_g222 i0 i1 i2) (f0_g214 i0 i1 i2)) (f0_g214 i0 i1 i2) (f0_g64 i0 i1 i2)))]))
    refine Outs.of (U' := T151.setTop (mkF m 272 #[.val (.int i0), .val (.int i1), .val (.int i2), .val (.int (4 : Int32)), .val (.ref b1), .val (.ref b2), .val (.ref b116), .val (.ref b118), .val (.int (F_p4 (f0_g64 i0 i1 i2))), .val (.int (F_v4 (f0_g222 i0 i1 i2) (f0_g64 i0 i1 i2))), .val (.int (F_a4 (f0_g222 i0 i1 i2) (f0_g214 i0 i1 i2))), .unset] [(.int (1 : Int32)), (.int (4 : Int32)), (.ref b1), (.ref b116), (.ref b118)])) (fun t k => ?_) ?_
    · refine XS.ifNo X151.here hx rfl (hb hby at_261) rfl ((if0 _ _).trans (feq (law_ok4_0 i0 i1 i2)).1) ?_
      refine XS.aload X151.here hx rfl (hb hby at_264) rfl rfl ?_
      refine XS.aload X151.here hx rfl (hb hby at_266) rfl rfl ?_
      refine XS.aload X151.here hx rfl (hb hby at_268) rfl rfl ?_
      refine XS.iloadN X151.here hx rfl (hb hby at_270) rfl ?_
      refine XS.iconst X151.here hx rfl (hb hby at_271) ?_
      exact k
    obtain ⟨_, _, ⟨T152, L152, k152, n152⟩, -, X152, ⟨Lc152, hQ152, l152, y152, z152⟩, st152⟩ := Jvm.LawKit.callS X151 hx (y := (⟨"com/example/ratatoskr/ratatoskr/ChoicesAdvancePinLaw", "ok", "([I[I[III)Z"⟩ : MethodName)) hown (mvT hZ (hw _ (List.mem_of_getElem? (i := 13) rfl))) (mvT hZ (hw _ (List.mem_of_getElem? (i := 14) rfl))) (mvT hZ (hw _ (List.mem_of_getElem? (i := 4) rfl))) (mvT hZ (hw _ (List.mem_of_getElem? (i := 15) rfl))) (by decide) (backOf (W := 0) (rmk4_1 l Z a0 hw [] b118 b116 b1 (a4_out0 (f0_g222 i0 i1 i2) (f0_g214 i0 i1 i2)) (f0_g214 i0 i1 i2) (f0_g64 i0 i1 i2) T149.heap n0 u149_0 u149_1 f150) hZ (hw _ (List.mem_of_getElem? (i := 15) rfl)) (hw _ (List.mem_of_getElem? (i := 4) rfl)) (by decide) (by decide)) (g := (mkF m 272 #[.val (.int i0), .val (.int i1), .val (.int i2), .val (.int (4 : Int32)), .val (.ref b1), .val (.ref b2), .val (.ref b116), .val (.ref b118), .val (.int (F_p4 (f0_g64 i0 i1 i2))), .val (.int (F_v4 (f0_g222 i0 i1 i2) (f0_g64 i0 i1 i2))), .val (.int (F_a4 (f0_g222 i0 i1 i2) (f0_g214 i0 i1 i2))), .unset] [(.int (1 : Int32)), (.int (4 : Int32)), (.ref b1), (.ref b116), (.ref b118)])) rfl (by rw [hml]; rfl) (argsL := [(.ref b118), (.ref b116), (.ref b1), (.int (4 : Int32)), (.int (1 : Int32))]) (rest := []) (lenOf pd_3 rfl) rfl (by show 2 * 0 + _ ≤ _; exact Nat.le_of_eq rfl) (hb hby at_272) (fun _ _ => ⟨rfl, e151, (by decide : 4 + 0 ≤ _), (by decide : 16 + 0 ≤ _)⟩)
    dsimp only [Pt.U, Pt.locs, Pt.cells, Pt.slots] at X152 l152 y152 z152 st152 hQ152
    subst l152 y152 z152
    obtain ⟨rfl, N152q, e152⟩ := hQ152
    have N152 := Fr.app N151 N152q
    obtain ⟨Lh152, X152, N152⟩ := hide X152 N152 (C := 4) (S := 16) (by decide) (by decide)
    refine Outs.of st152 ?_
    show Outs p e below s _ _ _ (T152.setTop (mkF m 275 #[.val (.int i0), .val (.int i1), .val (.int i2), .val (.int (4 : Int32)), .val (.ref b1), .val (.ref b2), .val (.ref b116), .val (.ref b118), .val (.int (F_p4 (f0_g64 i0 i1 i2))), .val (.int (F_v4 (f0_g222 i0 i1 i2) (f0_g64 i0 i1 i2))), .val (.int (F_a4 (f0_g222 i0 i1 i2) (f0_g214 i0 i1 i2))), .unset] [(.int (F_k4_1 (a4_out0 (f0_g222 i0 i1 i2) (f0_g214 i0 i1 i2)) (f0_g214 i0 i1 i2) (f0_g64 i0 i1 i2)))]))
    refine Outs.of (U' := T152.setTop (mkF m 286 #[.val (.int i0), .val (.int i1), .val (.int i2), .val (.int (4 : Int32)), .val (.ref b1), .val (.ref b2), .val (.ref b116), .val (.ref b118), .val (.int (F_p4 (f0_g64 i0 i1 i2))), .val (.int (F_v4 (f0_g222 i0 i1 i2) (f0_g64 i0 i1 i2))), .val (.int (F_a4 (f0_g222 i0 i1 i2) (f0_g214 i0 i1 i2))), .unset] [(.int (2 : Int32)), (.int (4 : Int32)), (.ref b1), (.ref b116), (.ref b118)])) (fun t k => ?_) ?_
    · refine XS.ifNo X152.here hx rfl (hb hby at_275) rfl ((if0 _ _).trans (feq (law_ok4_1 i0 i1 i2)).1) ?_
      refine XS.aload X152.here hx rfl (hb hby at_278) rfl rfl ?_
      refine XS.aload X152.here hx rfl (hb hby at_280) rfl rfl ?_
      refine XS.aload X152.here hx rfl (hb hby at_282) rfl rfl ?_
      refine XS.iloadN X152.here hx rfl (hb hby at_284) rfl ?_
      refine XS.iconst X152.here hx rfl (hb hby at_285) ?_
      exact k
    obtain ⟨_, _, ⟨T153, L153, k153, n153⟩, -, X153, ⟨Lc153, hQ153, l153, y153, z153⟩, st153⟩ := Jvm.LawKit.callS X152 hx (y := (⟨"com/example/ratatoskr/ratatoskr/ChoicesAdvancePinLaw", "ok", "([I[I[III)Z"⟩ : MethodName)) hown (mvT hZ (hw _ (List.mem_of_getElem? (i := 13) rfl))) (mvT hZ (hw _ (List.mem_of_getElem? (i := 14) rfl))) (mvT hZ (hw _ (List.mem_of_getElem? (i := 4) rfl))) (mvT hZ (hw _ (List.mem_of_getElem? (i := 15) rfl))) (by decide) (backOf (W := 0) (rmk4_2 l Z a0 hw [] b118 b116 b1 (a4_out0 (f0_g222 i0 i1 i2) (f0_g214 i0 i1 i2)) (f0_g214 i0 i1 i2) (f0_g64 i0 i1 i2) T149.heap n0 u149_0 u149_1 f150) hZ (hw _ (List.mem_of_getElem? (i := 15) rfl)) (hw _ (List.mem_of_getElem? (i := 4) rfl)) (by decide) (by decide)) (g := (mkF m 286 #[.val (.int i0), .val (.int i1), .val (.int i2), .val (.int (4 : Int32)), .val (.ref b1), .val (.ref b2), .val (.ref b116), .val (.ref b118), .val (.int (F_p4 (f0_g64 i0 i1 i2))), .val (.int (F_v4 (f0_g222 i0 i1 i2) (f0_g64 i0 i1 i2))), .val (.int (F_a4 (f0_g222 i0 i1 i2) (f0_g214 i0 i1 i2))), .unset] [(.int (2 : Int32)), (.int (4 : Int32)), (.ref b1), (.ref b116), (.ref b118)])) rfl (by rw [hml]; rfl) (argsL := [(.ref b118), (.ref b116), (.ref b1), (.int (4 : Int32)), (.int (2 : Int32))]) (rest := []) (lenOf pd_3 rfl) rfl (by show 2 * 0 + _ ≤ _; exact Nat.le_of_eq rfl) (hb hby at_286) (fun _ _ => ⟨rfl, e152, (by decide : 4 + 0 ≤ _), (by decide : 16 + 0 ≤ _)⟩)
    dsimp only [Pt.U, Pt.locs, Pt.cells, Pt.slots] at X153 l153 y153 z153 st153 hQ153
    subst l153 y153 z153
    obtain ⟨rfl, N153q, e153⟩ := hQ153
    have N153 := Fr.app N152 N153q
    obtain ⟨Lh153, X153, N153⟩ := hide X153 N153 (C := 4) (S := 16) (by decide) (by decide)
    refine Outs.of st153 ?_
    show Outs p e below s _ _ _ (T153.setTop (mkF m 289 #[.val (.int i0), .val (.int i1), .val (.int i2), .val (.int (4 : Int32)), .val (.ref b1), .val (.ref b2), .val (.ref b116), .val (.ref b118), .val (.int (F_p4 (f0_g64 i0 i1 i2))), .val (.int (F_v4 (f0_g222 i0 i1 i2) (f0_g64 i0 i1 i2))), .val (.int (F_a4 (f0_g222 i0 i1 i2) (f0_g214 i0 i1 i2))), .unset] [(.int (F_k4_2 (a4_out0 (f0_g222 i0 i1 i2) (f0_g214 i0 i1 i2)) (f0_g214 i0 i1 i2) (f0_g64 i0 i1 i2)))]))
    refine Outs.of (U' := T153.setTop (mkF m 300 #[.val (.int i0), .val (.int i1), .val (.int i2), .val (.int (4 : Int32)), .val (.ref b1), .val (.ref b2), .val (.ref b116), .val (.ref b118), .val (.int (F_p4 (f0_g64 i0 i1 i2))), .val (.int (F_v4 (f0_g222 i0 i1 i2) (f0_g64 i0 i1 i2))), .val (.int (F_a4 (f0_g222 i0 i1 i2) (f0_g214 i0 i1 i2))), .unset] [(.int (3 : Int32)), (.int (4 : Int32)), (.ref b1), (.ref b116), (.ref b118)])) (fun t k => ?_) ?_
    · refine XS.ifNo X153.here hx rfl (hb hby at_289) rfl ((if0 _ _).trans (feq (law_ok4_2 i0 i1 i2)).1) ?_
      refine XS.aload X153.here hx rfl (hb hby at_292) rfl rfl ?_
      refine XS.aload X153.here hx rfl (hb hby at_294) rfl rfl ?_
      refine XS.aload X153.here hx rfl (hb hby at_296) rfl rfl ?_
      refine XS.iloadN X153.here hx rfl (hb hby at_298) rfl ?_
      refine XS.iconst X153.here hx rfl (hb hby at_299) ?_
      exact k
    obtain ⟨_, _, ⟨T154, L154, k154, n154⟩, -, X154, ⟨Lc154, hQ154, l154, y154, z154⟩, st154⟩ := Jvm.LawKit.callS X153 hx (y := (⟨"com/example/ratatoskr/ratatoskr/ChoicesAdvancePinLaw", "ok", "([I[I[III)Z"⟩ : MethodName)) hown (mvT hZ (hw _ (List.mem_of_getElem? (i := 13) rfl))) (mvT hZ (hw _ (List.mem_of_getElem? (i := 14) rfl))) (mvT hZ (hw _ (List.mem_of_getElem? (i := 4) rfl))) (mvT hZ (hw _ (List.mem_of_getElem? (i := 15) rfl))) (by decide) (backOf (W := 0) (rmk4_3 l Z a0 hw [] b118 b116 b1 (a4_out0 (f0_g222 i0 i1 i2) (f0_g214 i0 i1 i2)) (f0_g214 i0 i1 i2) (f0_g64 i0 i1 i2) T149.heap n0 u149_0 u149_1 f150) hZ (hw _ (List.mem_of_getElem? (i := 15) rfl)) (hw _ (List.mem_of_getElem? (i := 4) rfl)) (by decide) (by decide)) (g := (mkF m 300 #[.val (.int i0), .val (.int i1), .val (.int i2), .val (.int (4 : Int32)), .val (.ref b1), .val (.ref b2), .val (.ref b116), .val (.ref b118), .val (.int (F_p4 (f0_g64 i0 i1 i2))), .val (.int (F_v4 (f0_g222 i0 i1 i2) (f0_g64 i0 i1 i2))), .val (.int (F_a4 (f0_g222 i0 i1 i2) (f0_g214 i0 i1 i2))), .unset] [(.int (3 : Int32)), (.int (4 : Int32)), (.ref b1), (.ref b116), (.ref b118)])) rfl (by rw [hml]; rfl) (argsL := [(.ref b118), (.ref b116), (.ref b1), (.int (4 : Int32)), (.int (3 : Int32))]) (rest := []) (lenOf pd_3 rfl) rfl (by show 2 * 0 + _ ≤ _; exact Nat.le_of_eq rfl) (hb hby at_300) (fun _ _ => ⟨rfl, e153, (by decide : 4 + 0 ≤ _), (by decide : 16 + 0 ≤ _)⟩)
    dsimp only [Pt.U, Pt.locs, Pt.cells, Pt.slots] at X154 l154 y154 z154 st154 hQ154
    subst l154 y154 z154
    obtain ⟨rfl, N154q, e154⟩ := hQ154
    have N154 := Fr.app N153 N154q
    obtain ⟨Lh154, X154, N154⟩ := hide X154 N154 (C := 4) (S := 16) (by decide) (by decide)
    refine Outs.of st154 ?_
    show Outs p e below s _ _ _ (T154.setTop (mkF m 303 #[.val (.int i0), .val (.int i1), .val (.int i2), .val (.int (4 : Int32)), .val (.ref b1), .val (.ref b2), .val (.ref b116), .val (.ref b118), .val (.int (F_p4 (f0_g64 i0 i1 i2))), .val (.int (F_v4 (f0_g222 i0 i1 i2) (f0_g64 i0 i1 i2))), .val (.int (F_a4 (f0_g222 i0 i1 i2) (f0_g214 i0 i1 i2))), .unset] [(.int (F_k4_3 (a4_out0 (f0_g222 i0 i1 i2) (f0_g214 i0 i1 i2)) (f0_g214 i0 i1 i2) (f0_g64 i0 i1 i2)))]))
    refine Outs.of (U' := T154.setTop (mkF m 313 #[.val (.int i0), .val (.int i1), .val (.int i2), .val (.int (4 : Int32)), .val (.ref b1), .val (.ref b2), .val (.ref b116), .val (.ref b118), .val (.int (F_p4 (f0_g64 i0 i1 i2))), .val (.int (F_v4 (f0_g222 i0 i1 i2) (f0_g64 i0 i1 i2))), .val (.int (F_a4 (f0_g222 i0 i1 i2) (f0_g214 i0 i1 i2))), .unset] [(.int (4 : Int32)), (.ref b1), (.ref b118)])) (fun t k => ?_) ?_
    · refine XS.ifYes X154.here hx rfl (pc0 := 303) (pc' := 308) rfl (hb hby at_303) rfl ((if0 _ _).trans (feq (law_ok4_3 i0 i1 i2)).2) (by decide) (by decide) ?_
      refine XS.aload X154.here hx rfl (hb hby at_308) rfl rfl ?_
      refine XS.aload X154.here hx rfl (hb hby at_310) rfl rfl ?_
      refine XS.iloadN X154.here hx rfl (hb hby at_312) rfl ?_
      exact k
    obtain ⟨_, _, ⟨T155, L155, k155, n155⟩, -, X155, ⟨Lc155, hQ155, l155, y155, z155⟩, st155⟩ := Jvm.LawKit.callS X154 hx (y := (⟨"com/example/ratatoskr/ratatoskr/ChoicesAdvancePinLaw", "val", "([I[II)I"⟩ : MethodName)) hown (mvT hZ (hw _ (List.mem_of_getElem? (i := 6) rfl))) (mvT hZ (hw _ (List.mem_of_getElem? (i := 7) rfl))) (mvT hZ (hw _ (List.mem_of_getElem? (i := 4) rfl))) (mvT hZ (hw _ (List.mem_of_getElem? (i := 8) rfl))) (by decide) (backOf (W := 0) (rmv4 l Z a0 hw [] b118 b1 (a4_out0 (f0_g222 i0 i1 i2) (f0_g214 i0 i1 i2)) (f0_g64 i0 i1 i2) T149.heap n0 u149_0 f150) hZ (hw _ (List.mem_of_getElem? (i := 8) rfl)) (hw _ (List.mem_of_getElem? (i := 4) rfl)) (by decide) (by decide)) (g := (mkF m 313 #[.val (.int i0), .val (.int i1), .val (.int i2), .val (.int (4 : Int32)), .val (.ref b1), .val (.ref b2), .val (.ref b116), .val (.ref b118), .val (.int (F_p4 (f0_g64 i0 i1 i2))), .val (.int (F_v4 (f0_g222 i0 i1 i2) (f0_g64 i0 i1 i2))), .val (.int (F_a4 (f0_g222 i0 i1 i2) (f0_g214 i0 i1 i2))), .unset] [(.int (4 : Int32)), (.ref b1), (.ref b118)])) rfl (by rw [hml]; rfl) (argsL := [(.ref b118), (.ref b1), (.int (4 : Int32))]) (rest := []) (lenOf pd_1 rfl) rfl (by show 2 * 0 + _ ≤ _; exact Nat.le_of_eq rfl) (hb hby at_313) (fun _ _ => ⟨rfl, e154, (by decide : 4 + 0 ≤ _), (by decide : 16 + 0 ≤ _)⟩)
    dsimp only [Pt.U, Pt.locs, Pt.cells, Pt.slots] at X155 l155 y155 z155 st155 hQ155
    subst l155 y155 z155
    obtain ⟨rfl, N155q, e155⟩ := hQ155
    have N155 := Fr.app N154 N155q
    obtain ⟨Lh155, X155, N155⟩ := hide X155 N155 (C := 4) (S := 16) (by decide) (by decide)
    refine Outs.of st155 ?_
    show Outs p e below s _ _ _ (T155.setTop (mkF m 316 #[.val (.int i0), .val (.int i1), .val (.int i2), .val (.int (4 : Int32)), .val (.ref b1), .val (.ref b2), .val (.ref b116), .val (.ref b118), .val (.int (F_p4 (f0_g64 i0 i1 i2))), .val (.int (F_v4 (f0_g222 i0 i1 i2) (f0_g64 i0 i1 i2))), .val (.int (F_a4 (f0_g222 i0 i1 i2) (f0_g214 i0 i1 i2))), .unset] [(.int (F_v4 (a4_out0 (f0_g222 i0 i1 i2) (f0_g214 i0 i1 i2)) (f0_g64 i0 i1 i2)))]))
    refine Outs.of (U' := T155.setTop (mkF m 324 #[.val (.int i0), .val (.int i1), .val (.int i2), .val (.int (4 : Int32)), .val (.ref b1), .val (.ref b2), .val (.ref b116), .val (.ref b118), .val (.int (F_p4 (f0_g64 i0 i1 i2))), .val (.int (F_v4 (f0_g222 i0 i1 i2) (f0_g64 i0 i1 i2))), .val (.int (F_a4 (f0_g222 i0 i1 i2) (f0_g214 i0 i1 i2))), .val (.int (f0_v316c i0 i1 i2))] [(.int (F_p4 (f0_g64 i0 i1 i2))), (.int ((F_v4 (f0_g222 i0 i1 i2) (f0_g64 i0 i1 i2)) + (1 : Int32)))])) (fun t k => ?_) ?_
    · refine XS.istore X155.here hx rfl (hb hby at_316) rfl (l' := #[.val (.int i0), .val (.int i1), .val (.int i2), .val (.int (4 : Int32)), .val (.ref b1), .val (.ref b2), .val (.ref b116), .val (.ref b118), .val (.int (F_p4 (f0_g64 i0 i1 i2))), .val (.int (F_v4 (f0_g222 i0 i1 i2) (f0_g64 i0 i1 i2))), .val (.int (F_a4 (f0_g222 i0 i1 i2) (f0_g214 i0 i1 i2))), .val (.int (f0_v316c i0 i1 i2))]) rfl ?_
      refine XS.iload X155.here hx rfl (hb hby at_318) rfl ?_
      refine XS.iconst X155.here hx rfl (hb hby at_320) ?_
      refine XS.iadd X155.here hx rfl (hb hby at_321) rfl ?_
      refine XS.iload X155.here hx rfl (hb hby at_322) rfl ?_
      exact k
    by_cases hc324 : ((F_v4 (f0_g222 i0 i1 i2) (f0_g64 i0 i1 i2)) + (1 : Int32)) < (F_p4 (f0_g64 i0 i1 i2))
    · refine Outs.of (U' := T155.setTop (mkF m 327 #[.val (.int i0), .val (.int i1), .val (.int i2), .val (.int (4 : Int32)), .val (.ref b1), .val (.ref b2), .val (.ref b116), .val (.ref b118), .val (.int (F_p4 (f0_g64 i0 i1 i2))), .val (.int (F_v4 (f0_g222 i0 i1 i2) (f0_g64 i0 i1 i2))), .val (.int (F_a4 (f0_g222 i0 i1 i2) (f0_g214 i0 i1 i2))), .val (.int (f0_v316c i0 i1 i2))] [])) (fun t k => ?_) ?_
      · refine XS.icmpNo X155.here hx rfl (hb hby at_324) rfl (tlt hc324).2.1 ?_
        exact k
      refine Outs.of (U' := T155.setTop (mkF m 346 #[.val (.int i0), .val (.int i1), .val (.int i2), .val (.int (4 : Int32)), .val (.ref b1), .val (.ref b2), .val (.ref b116), .val (.ref b118), .val (.int (F_p4 (f0_g64 i0 i1 i2))), .val (.int (F_v4 (f0_g222 i0 i1 i2) (f0_g64 i0 i1 i2))), .val (.int (F_a4 (f0_g222 i0 i1 i2) (f0_g214 i0 i1 i2))), .val (.int (f0_v316c i0 i1 i2))] [(.int (f0_329_s0d i0 i1 i2))])) (fun t k => ?_) ?_
      · refine XS.iload X155.here hx rfl (hb hby at_327) rfl ?_
        by_cases hc329 : (F_a4 (f0_g222 i0 i1 i2) (f0_g214 i0 i1 i2)) = (0 : Int32)
        · refine XS.ifYes X155.here hx rfl (pc0 := 329) (pc' := 345) rfl (hb hby at_329) rfl ((if0 _ _).trans (teq hc329).1) (by decide) (by decide) ?_
          refine XS.iconst X155.here hx rfl (hb hby at_345) ?_
          rw [show (f0_329_s0d i0 i1 i2) = (0 : Int32) from (if_pos hc329)] at k
          exact k
        · refine XS.ifNo X155.here hx rfl (hb hby at_329) rfl ((if0 _ _).trans (feq hc329).1) ?_
          refine XS.iload X155.here hx rfl (hb hby at_332) rfl ?_
          refine XS.iload X155.here hx rfl (hb hby at_334) rfl ?_
          refine XS.iconst X155.here hx rfl (hb hby at_336) ?_
          refine XS.iadd X155.here hx rfl (hb hby at_337) rfl ?_
          by_cases hc338 : (f0_v316c i0 i1 i2) = ((F_v4 (f0_g222 i0 i1 i2) (f0_g64 i0 i1 i2)) + (1 : Int32))
          · refine XS.icmpNo X155.here hx rfl (hb hby at_338) rfl (teq hc338).2 ?_
            refine XS.iconst X155.here hx rfl (hb hby at_341) ?_
            refine XS.goto X155.here hx rfl (pc0 := 342) (pc' := 346) rfl (hb hby at_342) (by decide) (by decide) ?_
            rw [show (f0_329_s0d i0 i1 i2) = (1 : Int32) from ((if_neg hc329).trans (if_pos hc338))] at k
            exact k
          · refine XS.icmpYes X155.here hx rfl (pc0 := 338) (pc' := 345) rfl (hb hby at_338) rfl (feq hc338).2 (by decide) (by decide) ?_
            refine XS.iconst X155.here hx rfl (hb hby at_345) ?_
            rw [show (f0_329_s0d i0 i1 i2) = (0 : Int32) from ((if_neg hc329).trans (if_neg hc338))] at k
            exact k
      exact Outs.retN (t := .boolean) (z := (f0_329_s0d i0 i1 i2)) X155 hx hret (by simp) (hb hby at_346) hlk (by decide) (by decide) e155 ⟨congrArg (fun z_ => some (Value.int z_)) (law_f0_329_s0d i0 i1 i2 hc324), N155⟩
    · refine Outs.of (U' := T155.setTop (mkF m 347 #[.val (.int i0), .val (.int i1), .val (.int i2), .val (.int (4 : Int32)), .val (.ref b1), .val (.ref b2), .val (.ref b116), .val (.ref b118), .val (.int (F_p4 (f0_g64 i0 i1 i2))), .val (.int (F_v4 (f0_g222 i0 i1 i2) (f0_g64 i0 i1 i2))), .val (.int (F_a4 (f0_g222 i0 i1 i2) (f0_g214 i0 i1 i2))), .val (.int (f0_v316c i0 i1 i2))] [])) (fun t k => ?_) ?_
      · refine XS.icmpYes X155.here hx rfl (pc0 := 324) (pc' := 347) rfl (hb hby at_324) rfl (flt hc324).2.1 (by decide) (by decide) ?_
        exact k
      refine Outs.of (U' := T155.setTop (mkF m 362 #[.val (.int i0), .val (.int i1), .val (.int i2), .val (.int (4 : Int32)), .val (.ref b1), .val (.ref b2), .val (.ref b116), .val (.ref b118), .val (.int (F_p4 (f0_g64 i0 i1 i2))), .val (.int (F_v4 (f0_g222 i0 i1 i2) (f0_g64 i0 i1 i2))), .val (.int (F_a4 (f0_g222 i0 i1 i2) (f0_g214 i0 i1 i2))), .val (.int (f0_v316c i0 i1 i2))] [(.int (f0_349_s0d i0 i1 i2))])) (fun t k => ?_) ?_
      · refine XS.iload X155.here hx rfl (hb hby at_347) rfl ?_
        by_cases hc349 : (F_a4 (f0_g222 i0 i1 i2) (f0_g214 i0 i1 i2)) = (0 : Int32)
        · refine XS.ifNo X155.here hx rfl (hb hby at_349) rfl ((if0 _ _).trans (teq hc349).2) ?_
          refine XS.iload X155.here hx rfl (hb hby at_352) rfl ?_
          by_cases hc354 : (f0_v316c i0 i1 i2) = (0 : Int32)
          · refine XS.ifNo X155.here hx rfl (hb hby at_354) rfl ((if0 _ _).trans (teq hc354).2) ?_
            refine XS.iconst X155.here hx rfl (hb hby at_357) ?_
            refine XS.goto X155.here hx rfl (pc0 := 358) (pc' := 362) rfl (hb hby at_358) (by decide) (by decide) ?_
            rw [show (f0_349_s0d i0 i1 i2) = (1 : Int32) from ((if_pos hc349).trans (if_pos hc354))] at k
            exact k
          · refine XS.ifYes X155.here hx rfl (pc0 := 354) (pc' := 361) rfl (hb hby at_354) rfl ((if0 _ _).trans (feq hc354).2) (by decide) (by decide) ?_
            refine XS.iconst X155.here hx rfl (hb hby at_361) ?_
            rw [show (f0_349_s0d i0 i1 i2) = (0 : Int32) from ((if_pos hc349).trans (if_neg hc354))] at k
            exact k
        · refine XS.ifYes X155.here hx rfl (pc0 := 349) (pc' := 361) rfl (hb hby at_349) rfl ((if0 _ _).trans (feq hc349).2) (by decide) (by decide) ?_
          refine XS.iconst X155.here hx rfl (hb hby at_361) ?_
          rw [show (f0_349_s0d i0 i1 i2) = (0 : Int32) from (if_neg hc349)] at k
          exact k
      exact Outs.retN (t := .boolean) (z := (f0_349_s0d i0 i1 i2)) X155 hx hret (by simp) (hb hby at_362) hlk (by decide) (by decide) e155 ⟨congrArg (fun z_ => some (Value.int z_)) (law_f0_349_s0d i0 i1 i2 hc324), N155⟩
set_option maxRecDepth 65536 in
set_option maxHeartbeats 40000000 in
theorem comes_1 {Post : Tables → Env → Array Value → State → Outcome → State → Prop} (hpost : ∀ tb e args s v u, (limb_1_1.after args s (.returned v) u = true ∧ limb_1_2.after args s (.returned v) u = true ∧ True) → FrameEnd s (.returned v) u (Jvm.fieldLocs frame_1_writes args s ++ Jvm.arrayLocs frame_1_arrays args s ++ Jvm.staticLocs frame_1_statics s) 16 128 → Post tb e args s (.returned v) u) :
    ArmFor flags0 classFile x code maxLocals ret World_1 tables_1 room_1 Calls_1 rest_1 Pre_1 Post := by
  intro l hfl _ _ p e ha hc hk s m args below hf hA hF happ hP
  obtain ⟨hcalls, hrest, hpre⟩ := hP
  obtain ⟨-, -, -, hnamed, -, -, -, hat⟩ := (Spec.applies_iff hf).mp happ
  obtain ⟨hg, hn⟩ := and_e (Cond.before_iff.mp (show (Jvm.Cond.and given_1 narrow_1).before args s = true from hpre))
  obtain ⟨g1, g2⟩ := and_e hg
  obtain ⟨g3, g4⟩ := and_e g2
  obtain ⟨g5, g6⟩ := and_e g4
  obtain ⟨w0, w1, w2, rfl⟩ : ∃ w0 w1 w2 : Value, args = #[w0, w1, w2] := by
    have hs : args.size = 3 := by simpa [Cond.value, given_1] using g1
    obtain ⟨L⟩ := args
    match L, hs with
    | [w0, w1, w2], _ => exact ⟨w0, w1, w2, rfl⟩
  have hw := fun d (hd : d ∈ tables_1) => atoms_spec (ws := Jvm.Cond.code x code maxLocals ret :: tables_1) hat d (List.mem_cons_of_mem _ hd)
  obtain ⟨i0, ei0⟩ := is_v g3
  obtain rfl : w0 = (.int i0) := Option.some.inj ei0
  obtain ⟨i1, ei1⟩ := is_v g5
  obtain rfl : w1 = (.int i1) := Option.some.inj ei1
  obtain ⟨i2, ei2⟩ := is_v g6
  obtain rfl : w2 = (.int i2) := Option.some.inj ei2
  obtain ⟨n, o, h1, h2, h3, v, L, rfl, hQ0, hq⟩ := rm0 l s _ hw tables_1 i0 i1 i2 s.heap s.heap.size (Nat.le_refl _) p e ha hc hk s m _ below hf ((Spec.applies_iff_loose hf).mp happ).1 ⟨rfl, State.Warmed39.refl s, rfl⟩ trivial
  obtain ⟨rfl, N⟩ : v = some (.int 1) ∧ Fr s.heap.size L := hQ0
  refine ⟨n, _, h1, h2, h3, hpost _ _ _ _ _ _ ⟨Cond.after_iff.mpr rfl, Cond.after_iff.mpr (eq_i res_at (Term.int_eval (1)) rfl), trivial⟩ ⟨hq.1, hq.2.1, (hq.2.2.sift fun y hy => Or.inr (N y hy)).mono (by decide) (by decide)⟩⟩
theorem main_1_1 : Claimed_1_1 := comes_1 fun _ _ _ _ _ _ h hF => ⟨h.1, hF⟩
theorem main_1_2 : Claimed_1_2 := comes_1 fun _ _ _ _ _ _ h hF => ⟨h.2.1, hF⟩
end Jvm.Pilot.@@N@@
namespace Jvm.Pilot.@@N@@
open Jvm Jvm.ClassFile Sem Op Lib Jvm.Free Jvm.Stand Jvm.Pilot.@@N@@.Jvm.D
/-! MADE BY PROGRAM (witnessworld.py) out of the Statement's table words and the real class files: 9 classes; the members and pool entries that the words name. The judged class is class 1, her method 4. -/
namespace start1
open Jvm.ClassFile
def u (s : String) : CpInfo := .utf8 (stringToUtf16 s)
/-- a pool by its gaps: so many unusable entries, then the entry; so many at the end -/
def gap : Nat → List CpInfo → List CpInfo
  | 0, r => r
  | n + 1, r => .unusable :: gap n r
def poolList (es : List (Nat × CpInfo)) (last : Nat) : List CpInfo := es.foldr (fun e r => gap e.1 (e.2 :: r)) (gap last [])
def pool (es : List (Nat × CpInfo)) (last : Nat) : Array CpInfo := ⟨poolList es last⟩
def fileOf (pool : Array CpInfo) (this : Nat) (attrs : Array Attribute := #[]) (ms : Array MethodInfo := #[]) (fl : Nat := 33) (sup : Nat := 0) (ifs : Array Nat := #[]) (fds : Array FieldInfo := #[]) : ClassFile where
  minorVersion := 0
  majorVersion := 65
  constantPool := pool
  accessFlags := fl
  thisClass := this
  superClass := sup
  interfaces := ifs
  fields := fds
  methods := ms
  attributes := attrs
def plain (name : String) (sup : Option ClassId) : Class where
  name := name
  kind := .ordinary
  loader := none
  accessFlags := 33
  super := sup
  interfaces := #[]
  cf := none
  fields := #[]
  methods := #[]
  instanceTypes := #[]
  staticTypes := #[]
  resolved := #[]
  callSites := []
  init := .initialized
  statics := none
  mirror := none

def pool0 : Array CpInfo := pool [(5, u "<init>"), (0, u "()V"), (1, .class_ 10), (1, u "java/lang/Object")] 113

def k0m0 : Method := { name := "<init>", desc := "()V", sig := { parameters := [], returnType := none }, accessFlags := 1, code := none }
/-- java/lang/Object -/
def k0 : Class := { plain "java/lang/Object" none with
  accessFlags := 33
  interfaces := #[]
  cf := some (fileOf pool0 8 #[] #[{ accessFlags := 1, nameIndex := 5, descriptorIndex := 6, attributes := #[] }] 33 0 #[] #[])
  fields := #[]
  methods := #[k0m0]
  instanceTypes := #[]
  staticTypes := #[]
  resolved := Array.replicate 124 none
  statics := none }

def pool1 : Array CpInfo := pool [(2, .class_ 4), (1, u "java/lang/Object"), (0, u "<init>"), (0, u "()V"), (0, .integer 2147483647), (0, .methodref 9 10), (0, .class_ 11), (0, .nameAndType 12 13), (0, u "com/example/ratatoskr/ratatoskr/ChoicesAdvancePinLaw"), (0, u "prod"), (0, u "([II)I"), (0, .methodref 9 15), (0, .nameAndType 16 17), (0, u "val"), (0, u "([I[II)I"), (0, .methodref 19 20), (0, .class_ 21), (0, .nameAndType 22 23), (0, u "com/example/ratatoskr/ratatoskr/Choices"), (0, u "advance"), (0, u "([I[I)Z"), (0, .methodref 9 25), (0, .nameAndType 26 27), (0, u "ok"), (0, u "([I[I[III)Z"), (3, u "law"), (0, u "(III)Z")] 4

def k1m0 : Method := { name := "<init>", desc := "()V", sig := { parameters := [], returnType := none }, accessFlags := 1, code := none }
def k1c1 : Code := { maxStack := 3, maxLocals := 4, code := method_2_code, exceptionTable := #[], attributes := #[] }
def k1m1 : Method := { name := "val", desc := "([I[II)I", sig := { parameters := [(.array .int), (.array .int), .int], returnType := some .int }, accessFlags := 10, code := some k1c1 }
def k1c2 : Code := { maxStack := 3, maxLocals := 3, code := method_3_code, exceptionTable := #[], attributes := #[] }
def k1m2 : Method := { name := "prod", desc := "([II)I", sig := { parameters := [(.array .int), .int], returnType := some .int }, accessFlags := 10, code := some k1c2 }
def k1c3 : Code := { maxStack := 3, maxLocals := 5, code := method_4_code, exceptionTable := #[], attributes := #[] }
def k1m3 : Method := { name := "ok", desc := "([I[I[III)Z", sig := { parameters := [(.array .int), (.array .int), (.array .int), .int, .int], returnType := some .boolean }, accessFlags := 10, code := some k1c3 }
def k1c4 : Code := { maxStack := 5, maxLocals := 12, code := code, exceptionTable := #[], attributes := #[] }
def k1m4 : Method := { name := "law", desc := "(III)Z", sig := { parameters := [.int, .int, .int], returnType := some .boolean }, accessFlags := 9, code := some k1c4 }
/-- com/example/ratatoskr/ratatoskr/ChoicesAdvancePinLaw -/
def k1 : Class := { plain "com/example/ratatoskr/ratatoskr/ChoicesAdvancePinLaw" (some 0) with
  accessFlags := 49
  interfaces := #[]
  cf := some (fileOf pool1 9 #[] #[{ accessFlags := 1, nameIndex := 5, descriptorIndex := 6, attributes := #[] }, { accessFlags := 10, nameIndex := 16, descriptorIndex := 17, attributes := #[] }, { accessFlags := 10, nameIndex := 12, descriptorIndex := 13, attributes := #[] }, { accessFlags := 10, nameIndex := 26, descriptorIndex := 27, attributes := #[] }, { accessFlags := 9, nameIndex := 31, descriptorIndex := 32, attributes := #[] }] 49 2 #[] #[])
  fields := #[]
  methods := #[k1m0, k1m1, k1m2, k1m3, k1m4]
  instanceTypes := #[]
  staticTypes := #[]
  resolved := Array.replicate 37 none
  statics := none }

def pool2 : Array CpInfo := pool [(2, .class_ 4), (1, u "java/lang/Object"), (0, u "<init>"), (0, u "()V"), (0, .class_ 8), (0, u "com/example/ratatoskr/ratatoskr/Choices"), (5, u "advance"), (0, u "([I[I)Z")] 2

def k2m0 : Method := { name := "<init>", desc := "()V", sig := { parameters := [], returnType := none }, accessFlags := 2, code := none }
def k2c1 : Code := { maxStack := 4, maxLocals := 3, code := prog_5_method_3_code, exceptionTable := #[], attributes := #[] }
def k2m1 : Method := { name := "advance", desc := "([I[I)Z", sig := { parameters := [(.array .int), (.array .int)], returnType := some .boolean }, accessFlags := 9, code := some k2c1 }
/-- com/example/ratatoskr/ratatoskr/Choices -/
def k2 : Class := { plain "com/example/ratatoskr/ratatoskr/Choices" (some 0) with
  accessFlags := 49
  interfaces := #[]
  cf := some (fileOf pool2 7 #[] #[{ accessFlags := 2, nameIndex := 5, descriptorIndex := 6, attributes := #[] }, { accessFlags := 9, nameIndex := 14, descriptorIndex := 15, attributes := #[] }] 49 2 #[] #[])
  fields := #[]
  methods := #[k2m0, k2m1]
  instanceTypes := #[]
  staticTypes := #[]
  resolved := Array.replicate 18 none
  statics := none }

def pool3 : Array CpInfo := pool [(1, u "java/lang/Cloneable"), (0, .class_ 1), (0, u "java/lang/Object"), (0, .class_ 3)] 3

/-- java/lang/Cloneable -/
def k3 : Class := { plain "java/lang/Cloneable" (some 0) with
  accessFlags := 1537
  interfaces := #[]
  cf := some (fileOf pool3 2 #[] #[] 1537 4 #[] #[])
  fields := #[]
  methods := #[]
  instanceTypes := #[]
  staticTypes := #[]
  resolved := Array.replicate 8 none
  statics := none }

def pool4 : Array CpInfo := pool [(1, u "java/io/Serializable"), (0, .class_ 1), (0, u "java/lang/Object"), (0, .class_ 3)] 3

/-- java/io/Serializable -/
def k4 : Class := { plain "java/io/Serializable" (some 0) with
  accessFlags := 1537
  interfaces := #[]
  cf := some (fileOf pool4 2 #[] #[] 1537 4 #[] #[])
  fields := #[]
  methods := #[]
  instanceTypes := #[]
  staticTypes := #[]
  resolved := Array.replicate 8 none
  statics := none }

/-- the primitive byte -/
def k5 : Class := { plain "byte" none with kind := .primitive 'B', accessFlags := 0x411 }
/-- [B -/
def k6 : Class := { plain "[B" (some 0) with kind := .array 5 .byte, interfaces := #[3, 4], accessFlags := 1041 }

/-- the primitive int -/
def k7 : Class := { plain "int" none with kind := .primitive 'I', accessFlags := 0x411 }
/-- [I -/
def k8 : Class := { plain "[I" (some 0) with kind := .array 7 .int, interfaces := #[3, 4], accessFlags := 1041 }

def heap : Heap := #[]
def classes : Array Class := #[k0, k1, k2, k3, k4, k5, k6, k7, k8]
def interned : List (Array UInt16 × Addr) := []
def slotsUsed : Nat := 0
def theMethod : MethodId := ⟨1, 4⟩
def args0 : Array Value := #[.int 3, .int 7000, .int 9]
def aboutOver (below : List Frame) : State where
  vm := { classes := classes, interned := interned.toArray }
  heap := heap
  slotsUsed := slotsUsed
  threads := #[{ frames := .invoking theMethod args0 :: below }]
def below0 : List Frame := [.native { method := ⟨0, 0⟩, args := #[] }]
def about1 : State := aboutOver below0
def p0 : Program := .bare "" "" ""
def e0 : Env := launch0.env 0 0 0
theorem w_frames : about1.frames = Frame.invoking theMethod args0 :: below0 := rfl
set_option maxRecDepth 65536 in
theorem w_args : argsFit about1.vm theMethod args0 = true := by decide +kernel
set_option maxRecDepth 65536 in
theorem w_heap : heapFits about1 = true := by decide +kernel
set_option maxRecDepth 65536 in
theorem w_runnable : about1.curStatus? = some .runnable := by decide +kernel
set_option maxRecDepth 65536 in
theorem w_alone : about1.alone = true := by decide +kernel
set_option maxRecDepth 65536 in
theorem w_named : about1.methodNamed? x = some theMethod := by decide +kernel
set_option maxRecDepth 65536 in
theorem w_hears : about1.hears theMethod below0 = true := by decide +kernel
set_option maxRecDepth 65536 in
theorem w_ripe : about1.ripe theMethod args0 below0 = true := by decide +kernel
theorem w_running : about1.status = .running := rfl
set_option maxRecDepth 65536 in
theorem w_room : about1.hasRoom e0.platform room_1 = true :=
  launch0.hasRoom_least _ room_1 (by decide +kernel) (by decide +kernel) (by decide +kernel) (by decide +kernel) (by decide +kernel) (by decide +kernel)
theorem allAtoms_all (ts : List Jvm.Cond) (a : Array Jvm.Value) (st : Jvm.State) : (allAtoms ts).before a st = ts.all (fun c => c.before a st) := by
  induction ts with
  | nil => rfl
  | cons c t ih =>
    show (Jvm.Cond.and c (allAtoms t)).before a st = _
    rw [Jvm.Cond.before_and, ih, List.all_cons]
def words1 : List Jvm.Cond := Jvm.Cond.code x code maxLocals ret :: tables_1
/-- a 'code' word, met by the world's own term for the bytes: nothing is compared byte by byte -/
theorem code_word {y : MethodName} {bytes : ByteArray} {mx : Nat} {rt : Option FieldType} {a : Array Value} {s : State} {m : MethodId} {meth : Method} {c : Code} (h1 : s.methodNamed? y = some m) (h2 : s.vm.method? m = some meth) (h3 : meth.code = some c) (h4 : c.code = bytes)
    (h5 : (c.maxLocals == mx && c.exceptionTable.isEmpty && decide (c.maxStack ≤ mostOperands) && decide (meth.sig.returnType = rt) && !meth.locks && decide (parseMethodDescriptor y.desc = some meth.sig)) = true) : (Jvm.Cond.code y bytes mx rt).before a s = true := by
  simp only [Bool.and_eq_true, beq_iff_eq, Bool.not_eq_true', decide_eq_true_eq] at h5
  obtain ⟨⟨⟨⟨⟨g1, g2⟩, g3⟩, g4⟩, g5⟩, g6⟩ := h5
  simp [Cond.before, Cond.holds, Cond.value, h1, h2, h3, h4, g1, g2, g3, g4, g5, g6]
def isCode : Jvm.Cond → Bool
  | .code _ _ _ _ => true
  | _ => false
theorem all_split {L : List Jvm.Cond} {P : Jvm.Cond → Bool} (h1 : L.all (fun c => isCode c || P c) = true) (h2 : ∀ c ∈ L.filter isCode, P c = true) : L.all P = true := by
  refine List.all_eq_true.mpr fun c hc => ?_
  have h := List.all_eq_true.mp h1 c hc
  rcases Bool.eq_false_or_eq_true (isCode c) with hi | hi
  · exact h2 c (List.mem_filter.mpr ⟨hc, hi⟩)
  · simpa [hi] using h
set_option maxRecDepth 65536 in
theorem w_c0 : (Jvm.Cond.code x code maxLocals ret).before args0 about1 = true := code_word (m := ⟨1, 4⟩) (meth := k1m4) (c := k1c4) (by decide +kernel) rfl rfl rfl (by decide +kernel)
set_option maxRecDepth 65536 in
theorem w_c1 : (Jvm.Cond.code ({ cls := "com/example/ratatoskr/ratatoskr/ChoicesAdvancePinLaw", name := "prod", desc := "([II)I" } : Jvm.MethodName) method_3_code (3 : Nat) (Option.some Jvm.ClassFile.FieldType.int)).before args0 about1 = true := code_word (m := ⟨1, 2⟩) (meth := k1m2) (c := k1c2) (by decide +kernel) rfl rfl rfl (by decide +kernel)
set_option maxRecDepth 65536 in
theorem w_c2 : (Jvm.Cond.code ({ cls := "com/example/ratatoskr/ratatoskr/ChoicesAdvancePinLaw", name := "val", desc := "([I[II)I" } : Jvm.MethodName) method_2_code (4 : Nat) (Option.some Jvm.ClassFile.FieldType.int)).before args0 about1 = true := code_word (m := ⟨1, 1⟩) (meth := k1m1) (c := k1c1) (by decide +kernel) rfl rfl rfl (by decide +kernel)
set_option maxRecDepth 65536 in
theorem w_c3 : (Jvm.Cond.code ({ cls := "com/example/ratatoskr/ratatoskr/Choices", name := "advance", desc := "([I[I)Z" } : Jvm.MethodName) prog_5_method_3_code (3 : Nat) (Option.some Jvm.ClassFile.FieldType.boolean)).before args0 about1 = true := code_word (m := ⟨2, 1⟩) (meth := k2m1) (c := k2c1) (by decide +kernel) rfl rfl rfl (by decide +kernel)
set_option maxRecDepth 65536 in
theorem w_c4 : (Jvm.Cond.code ({ cls := "com/example/ratatoskr/ratatoskr/ChoicesAdvancePinLaw", name := "ok", desc := "([I[I[III)Z" } : Jvm.MethodName) method_4_code (5 : Nat) (Option.some Jvm.ClassFile.FieldType.boolean)).before args0 about1 = true := code_word (m := ⟨1, 3⟩) (meth := k1m3) (c := k1c3) (by decide +kernel) rfl rfl rfl (by decide +kernel)
def codes1 : List Jvm.Cond := [Jvm.Cond.code x code maxLocals ret, Jvm.Cond.code ({ cls := "com/example/ratatoskr/ratatoskr/ChoicesAdvancePinLaw", name := "prod", desc := "([II)I" } : Jvm.MethodName) method_3_code (3 : Nat) (Option.some Jvm.ClassFile.FieldType.int), Jvm.Cond.code ({ cls := "com/example/ratatoskr/ratatoskr/ChoicesAdvancePinLaw", name := "val", desc := "([I[II)I" } : Jvm.MethodName) method_2_code (4 : Nat) (Option.some Jvm.ClassFile.FieldType.int), Jvm.Cond.code ({ cls := "com/example/ratatoskr/ratatoskr/Choices", name := "advance", desc := "([I[I)Z" } : Jvm.MethodName) prog_5_method_3_code (3 : Nat) (Option.some Jvm.ClassFile.FieldType.boolean), Jvm.Cond.code ({ cls := "com/example/ratatoskr/ratatoskr/ChoicesAdvancePinLaw", name := "ok", desc := "([I[I[III)Z" } : Jvm.MethodName) method_4_code (5 : Nat) (Option.some Jvm.ClassFile.FieldType.boolean)]
set_option maxRecDepth 65536 in
theorem codes_eq : words1.filter isCode = codes1 := rfl
theorem w_codes : ∀ c ∈ words1.filter isCode, c.before args0 about1 = true := by
  rw [codes_eq]
  intro c hc
  simp only [codes1, List.mem_cons, List.not_mem_nil, or_false] at hc
  rcases hc with rfl | rfl | rfl | rfl | rfl
  · exact w_c0
  · exact w_c1
  · exact w_c2
  · exact w_c3
  · exact w_c4
set_option maxRecDepth 65536 in
theorem w_t1 : words1.all (fun c => isCode c || c.before args0 about1) = true := by decide +kernel
theorem w_tables : (allAtoms (Jvm.Cond.code x code maxLocals ret :: tables_1)).before args0 about1 = true := by
  rw [allAtoms_all]
  show words1.all (fun c => c.before args0 about1) = true
  refine all_split ?_ w_codes
  rw [w_t1]
set_option maxRecDepth 65536 in
theorem w_case : (Jvm.Cond.and given_1 narrow_1).before args0 about1 = true := by decide +kernel
theorem w_applies : (headSpec (Jvm.Cond.code x code maxLocals ret :: tables_1) room_1).applies x e0.platform about1 = true :=
  (Spec.applies_iff w_frames).mpr ⟨w_running, w_runnable, w_alone, w_named, w_hears, w_ripe, w_room, w_tables⟩
theorem atStart : AtStart classFile x code maxLocals ret World_1 tables_1 room_1 Calls_1 rest_1 Pre_1 launch0 p0 e0 about1 theMethod args0 below0 :=
  ⟨lists_1, trivial, launch0.admits_env _ _ _, launch0.least_env, fairChoices_fair.cas, fairChoices_fair.clock, w_frames, w_args, w_heap, w_applies, trivial, trivial, w_case⟩
end start1
theorem witness_1 : WitnessClaimed_1 := ⟨start1.p0, start1.e0, start1.about1, start1.theMethod, start1.args0, start1.below0, start1.atStart⟩
end Jvm.Pilot.@@N@@
