import JvmDerived
import JvmDerived.Pilot.@@N@@Statement
import JvmDerived.Pilot.@@N@@Code
set_option linter.unusedVariables false
set_option linter.unusedSimpArgs false
namespace Jvm.RoadKit
open Sem ClassFile Op Lib Jvm.Stand Jvm.Free Jvm.LawKit
section Own
variable {p : Program} {l : Launch} {e : Env} {R : Room} {s : State} {m : MethodId} {args : Array Value} {below : List Frame} {meth : Method} {c : Code} {T : State} {locs : List Loc} {cells slots : Nat}
/-- from U the run ends, and Q holds of what it returns -/
def Outs (p : Program) (e : Env) (below : List Frame) (s : State) (Q : Option Value → Heap → List Loc → Prop) (C S : Nat) (U : State) : Prop :=
  ∃ s₂ o, Steps p.tables e below U s₂ ∧ s₂.status = .running ∧ Ended s₂ below o ∧ ∃ v L, o = .returned v ∧ Q v s₂.heap L ∧ FrameEnd s o s₂ L C S
variable {Q : Option Value → Heap → List Loc → Prop} {C S : Nat}
theorem Outs.of {U U' : State} (h : ∀ t, Steps p.tables e below U' t → Steps p.tables e below U t) (k : Outs p e below s Q C S U') : Outs p e below s Q C S U := by
  obtain ⟨t, o, st, r⟩ := k
  exact ⟨t, o, h t st, r⟩
theorem Outs.to {U U' : State} (h : Steps p.tables e below U U') (k : Outs p e below s Q C S U') : Outs p e below s Q C S U := by
  obtain ⟨t, o, st, r⟩ := k
  exact ⟨t, o, h.trans st, r⟩
theorem Outs.mono {U : State} {Q' : Option Value → Heap → List Loc → Prop} (k : Outs p e below s Q C S U) (h : ∀ v h L, Q v h L → Q' v h L) : Outs p e below s Q' C S U := by
  obtain ⟨t, o, st, h1, h2, v, L, h3, h4, h5⟩ := k
  exact ⟨t, o, st, h1, h2, v, L, h3, h _ _ _ h4, h5⟩
theorem Outs.ret (X : Stand p l e R s m args below meth c T locs cells slots) {g : JFrame} {v : Option Value} (hv : meth.sig.returnType = none → v = none) (hlk : meth.locks = false) (hC : cells ≤ C) (hS : slots ≤ S)
    (st : ∀ fs, (∀ (f : JFrame) (acts : List Action), f.method = m → f.locked = none → f.entered = [] → (doReturn e (T.setTop f) acts v).1 = T.setFrames fs) → Steps p.tables e below (T.setTop g) (T.setFrames fs))
    {h : Heap} (eT : T.heap = h) (q : Q v h locs) : Outs p e below s Q C S (T.setTop g) := by
  subst eT
  obtain ⟨fs, hr, hrun, hended, hW, hsame⟩ := X.leave (v := v) hv hlk
  exact ⟨_, _, st fs hr, hrun, hended, v, locs, rfl, q, ⟨_, rfl⟩, hW, hsame.mono hC hS⟩
theorem Outs.retI (X : Stand p l e R s m args below meth c T locs cells slots) (hx : p.tables.exec = Jvm.exec) {pc : Nat} {Ls : Array Slot} {z : Int32} {rest : List Value} (hret : meth.sig.returnType = some .int) (hd : decode c.code pc = .ok (.ireturn, 1)) (hlk : meth.locks = false) (hC : cells ≤ C) (hS : slots ≤ S)
    {h : Heap} (eT : T.heap = h) (q : Q (some (.int z)) h locs) : Outs p e below s Q C S (T.setTop (mkF m pc Ls (.int z :: rest))) :=
  Outs.ret X (fun h => by rw [hret] at h; cases h) hlk hC hS (fun fs hl => retOut X hx hret rfl (Or.inl ⟨rfl, Or.inl rfl, z, rfl⟩) hd hl) eT q
theorem Outs.retL (X : Stand p l e R s m args below meth c T locs cells slots) (hx : p.tables.exec = Jvm.exec) {pc : Nat} {Ls : Array Slot} {z : Int64} {rest : List Value} (hret : meth.sig.returnType = some .long) (hd : decode c.code pc = .ok (.lreturn, 1)) (hlk : meth.locks = false) (hC : cells ≤ C) (hS : slots ≤ S)
    {h : Heap} (eT : T.heap = h) (q : Q (some (.long z)) h locs) : Outs p e below s Q C S (T.setTop (mkF m pc Ls (.long z :: rest))) :=
  Outs.ret X (fun h => by rw [hret] at h; cases h) hlk hC hS (fun fs hl => retOut X hx hret rfl (Or.inr (Or.inl ⟨rfl, rfl, z, rfl⟩)) hd hl) eT q
theorem Outs.retN (X : Stand p l e R s m args below meth c T locs cells slots) (hx : p.tables.exec = Jvm.exec) {pc : Nat} {Ls : Array Slot} {z : Int32} {t : FieldType} {rest : List Value} (hret : meth.sig.returnType = some t) (ht : t = .boolean ∨ t = .byte ∨ t = .char ∨ t = .short) (hd : decode c.code pc = .ok (.ireturn, 1)) (hlk : meth.locks = false) (hC : cells ≤ C) (hS : slots ≤ S)
    {h : Heap} (eT : T.heap = h) (q : Q (some (.int (nar t z))) h locs) : Outs p e below s Q C S (T.setTop (mkF m pc Ls (.int z :: rest))) :=
  Outs.ret X (fun h => by rw [hret] at h; cases h) hlk hC hS (fun fs hl => Jvm.RoadKit.retN X hx hret ht hd hl) eT q
theorem Outs.retV (X : Stand p l e R s m args below meth c T locs cells slots) (hx : p.tables.exec = Jvm.exec) {pc : Nat} {Ls : Array Slot} (hret : meth.sig.returnType = none) (hd : decode c.code pc = .ok (.return_, 1)) (hlk : meth.locks = false) (hC : cells ≤ C) (hS : slots ≤ S)
    {h : Heap} (eT : T.heap = h) (q : Q none h locs) : Outs p e below s Q C S (T.setTop (mkF m pc Ls [])) :=
  Outs.ret X (fun _ => rfl) hlk hC hS (fun fs hl => X.returnOut hx hret hd hl) eT q
theorem Outs.retA (X : Stand p l e R s m args below meth c T locs cells slots) (hx : p.tables.exec = Jvm.exec) {pc : Nat} {Ls : Array Slot} {w : Value} {t : FieldType} {rest : List Value} (hret : meth.sig.returnType = some t) (ht : t.isReference = true) (hw : w.isRef = true) (hn : narrow t w = w) (hd : decode c.code pc = .ok (.areturn, 1)) (hlk : meth.locks = false) (hC : cells ≤ C) (hS : slots ≤ S)
    {h : Heap} (eT : T.heap = h) (q : Q (some w) h locs) : Outs p e below s Q C S (T.setTop (mkF m pc Ls (w :: rest))) :=
  Outs.ret X (fun h => by rw [hret] at h; cases h) hlk hC hS (fun fs hl => retOut X hx hret hn (Or.inr (Or.inr (Or.inr (Or.inr ⟨rfl, ht, hw⟩)))) hd hl) eT q
theorem lremM {g : JFrame} {target : State} (X : Stand p l e R s m args below meth c T locs cells slots) (hx : p.tables.exec = Jvm.exec) (hg : g.method = m) {x y : Int64} {rest : List Value} (hd : decode c.code g.pc = .ok (.lrem, 1)) (hs : g.stack = .long y :: .long x :: rest) (hy : y ≠ 0)
    (hr : Steps p.tables e below (T.setTop { g with pc := g.pc + 1, stack := .long (x % y) :: rest }) target) : Steps p.tables e below (T.setTop g) target :=
  XS.lrem X.here hx hg hd hs hy (by rw [lrem_mod]; exact hr)
/-- a body that returns v and leaves the heap as it was -/
def QR (z : Option Value) (h0 : Heap) (n0 : Nat) (v : Option Value) (h : Heap) (L : List Loc) : Prop := v = z ∧ Fr n0 L ∧ h = h0
/-- the law's own -/
def QL (n0 : Nat) (v : Option Value) (h : Heap) (L : List Loc) : Prop := v = some (.int 1) ∧ Fr n0 L
end Own
end Jvm.RoadKit
namespace Jvm.RoadKit
open Sem ClassFile Op Lib Jvm.Stand Jvm.Free Jvm.LawKit
section OwnHeap
variable {p : Program} {l : Launch} {e : Env} {R : Room} {s : State} {m : MethodId} {args : Array Value} {below : List Frame} {meth : Method} {c : Code} {T : State} {locs : List Loc} {cells slots : Nat} {Z : State} {a0 : Array Value} {h h' : Heap} {a b : Addr} {ty : FieldType} {n : Nat}
def upv {α : Type} (g : Nat → α) (k : Nat) (v : α) : Nat → α := fun j => if j = k then v else g j
theorem upv_same {α : Type} (g : Nat → α) (k : Nat) (v : α) : upv g k v k = v := if_pos rfl
theorem upv_ne {α : Type} (g : Nat → α) {k j : Nat} (v : α) (q : j ≠ k) : upv g k v j = g j := if_neg q
/-- an array of n places; place j holds f j -/
def AF (Z : State) (h : Heap) (a : Addr) (ty : FieldType) (n : Nat) (f : Nat → Value) : Prop :=
  ∃ c : Cell, Arr Z h a c ty ∧ c.slots.size = n ∧ n < 2147483648 ∧ ∀ j, j < n → c.slots[j]? = some (f j)
def AI (Z : State) (h : Heap) (a : Addr) (ty : FieldType) (n : Nat) (g : Nat → Int32) : Prop := AF Z h a ty n (fun j => .int (g j))
def AJ (Z : State) (h : Heap) (a : Addr) (ty : FieldType) (n : Nat) (g : Nat → Int64) : Prop := AF Z h a ty n (fun j => .long (g j))
theorem AF.lt {f : Nat → Value} (F : AF Z h a ty n f) : a < h.size := by obtain ⟨c, A, -⟩ := F; exact A.lt
theorem AF.ext {f : Nat → Value} (F : AF Z h a ty n f) (E : Ext h h') : AF Z h' a ty n f := by obtain ⟨c, A, r⟩ := F; exact ⟨c, A.ext E, r⟩
theorem AF.other {f : Nat → Value} {sl : Nat} {v : Value} (F : AF Z h b ty n f) (W : Wr h h' a sl v) (q : b ≠ a) : AF Z h' b ty n f := by obtain ⟨c, A, r⟩ := F; exact ⟨c, A.other W q, r⟩
theorem AF.keep {f : Nat → Value} {ws : List Addr} (F : AF Z h a ty n f) (K : Keep h h' ws) (q : a ∉ ws) : AF Z h' a ty n f := by obtain ⟨c, A, r⟩ := F; exact ⟨c, ⟨K.2.1 a c A.1 q, A.2⟩, r⟩
theorem AF.len {f : Nat → Value} (F : AF Z h a ty n f) : n < 2147483648 := by obtain ⟨c, A, -, M, -⟩ := F; exact M
theorem AF.cong {f f' : Nat → Value} (F : AF Z h a ty n f) (q : ∀ j, j < n → f j = f' j) : AF Z h a ty n f' := by
  obtain ⟨c, A, S, M, G⟩ := F
  exact ⟨c, A, S, M, fun j hj => by rw [← q j hj]; exact G j hj⟩
theorem AI.cong {g g' : Nat → Int32} (F : AI Z h a ty n g) (q : ∀ j, j < n → g j = g' j) : AI Z h a ty n g' := AF.cong F fun j hj => by rw [q j hj]
theorem AJ.cong {g g' : Nat → Int64} (F : AJ Z h a ty n g) (q : ∀ j, j < n → g j = g' j) : AJ Z h a ty n g' := AF.cong F fun j hj => by rw [q j hj]
theorem own_nat {j : Int32} {k : Nat} (hk : j.toInt = k) : j.toNatClampNeg = k := by
  show j.toInt.toNat = k
  rw [hk]; rfl
theorem own_in {cl : Cell} {j : Int32} {k : Nat} (S : cl.slots.size = n) (hk : j.toInt = k) (hn : k < n) : ¬ (j < 0 ∨ cl.slots.size ≤ j.toNatClampNeg) := by
  rw [own_nat hk, S, Int32.lt_iff_toInt_lt, hk]
  have : (0 : Int32).toInt = 0 := rfl
  omega
theorem AF.set {f : Nat → Value} {k : Nat} {v : Value} (F : AF Z h a ty n f) (W : Wr h h' a k v) : AF Z h' a ty n (upv f k v) := by
  obtain ⟨c, A, S, M, G⟩ := F
  refine ⟨c.setSlot k v, A.same W, by rw [sz_set]; exact S, M, fun j hj => ?_⟩
  have hz : j < c.slots.size := by omega
  simp only [Cell.setSlot, upv, Array.getElem?_setIfInBounds]
  by_cases q : j = k
  · subst q; simp [hz]
  · rw [if_neg (Ne.symm q), if_neg q]; exact G j hj
theorem AI.set {g : Nat → Int32} {k : Nat} {x : Int32} (F : AI Z h a ty n g) (W : Wr h h' a k (.int x)) : AI Z h' a ty n (upv g k x) :=
  AF.cong (AF.set F W) fun j _ => by simp only [upv]; split <;> rfl
theorem AJ.set {g : Nat → Int64} {k : Nat} {x : Int64} (F : AJ Z h a ty n g) (W : Wr h h' a k (.long x)) : AJ Z h' a ty n (upv g k x) :=
  AF.cong (AF.set F W) fun j _ => by simp only [upv]; split <;> rfl
theorem AF.fresh {k : ClassId} {z : Int32} {i : Nat} (A : Arr Z h a (newA k ty z) ty) (q : z.toInt = i) : AF Z h a ty i (fun _ => defaultValue ty) := by
  have S : (newA k ty z).slots.size = i := by rw [sz_new, own_nat q]
  refine ⟨_, A, S, ?_, fun j hj => ?_⟩
  · have := z.toInt_lt; omega
  · have hz : j < (newA k ty z).slots.size := by omega
    simp only [newA] at hz ⊢
    rw [Array.getElem?_eq_getElem hz]; simp
section Loads
theorem ldI (X : Stand p l e R s m args below meth c T locs cells slots) (hx : p.tables.exec = Jvm.exec) (hZ : Z.Warmed39 s.vm) (eT : T.heap = h) {g : Nat → Int32} (F : AI Z h a .int n g) {j : Int32} {k : Nat} (hk : j.toInt = k) (hn : k < n) {f : JFrame} (hg : f.method = m) {rest : List Value} (hs : f.stack = .int j :: .ref a :: rest) (hd : decode c.code f.pc = .ok (.iaload, 1)) :
    ∀ target, Steps p.tables e below (T.setTop { f with pc := f.pc + 1, stack := .int (g k) :: rest }) target → Steps p.tables e below (T.setTop f) target := by
  obtain ⟨cl, A, S, M, G⟩ := F
  intro target kt
  exact X.iaload hx (by rw [eT]; exact A.1) (State.isArrayOf_alike hZ.alike A.2.1) A.2.2 (own_in S hk hn) (by rw [own_nat hk]; exact G k hn) hg hs hd target kt
theorem ldB (X : Stand p l e R s m args below meth c T locs cells slots) (hx : p.tables.exec = Jvm.exec) (hZ : Z.Warmed39 s.vm) (eT : T.heap = h) {g : Nat → Int32} (F : AI Z h a .byte n g) {j : Int32} {k : Nat} (hk : j.toInt = k) (hn : k < n) {f : JFrame} (hg : f.method = m) {rest : List Value} (hs : f.stack = .int j :: .ref a :: rest) (hd : decode c.code f.pc = .ok (.baload, 1)) :
    ∀ target, Steps p.tables e below (T.setTop { f with pc := f.pc + 1, stack := .int (g k) :: rest }) target → Steps p.tables e below (T.setTop f) target := by
  obtain ⟨cl, A, S, M, G⟩ := F
  intro target kt
  exact X.baloadBytes hx (by rw [eT]; exact A.1) (State.isArrayOf_alike hZ.alike A.2.1) A.2.2 (own_in S hk hn) (by rw [own_nat hk]; exact G k hn) hg hs hd target kt
theorem ldJ (X : Stand p l e R s m args below meth c T locs cells slots) (hx : p.tables.exec = Jvm.exec) (hZ : Z.Warmed39 s.vm) (eT : T.heap = h) {g : Nat → Int64} (F : AJ Z h a .long n g) {j : Int32} {k : Nat} (hk : j.toInt = k) (hn : k < n) {f : JFrame} (hg : f.method = m) {rest : List Value} (hs : f.stack = .int j :: .ref a :: rest) (hd : decode c.code f.pc = .ok (.laload, 1)) :
    ∀ target, Steps p.tables e below (T.setTop { f with pc := f.pc + 1, stack := .long (g k) :: rest }) target → Steps p.tables e below (T.setTop f) target := by
  obtain ⟨cl, A, S, M, G⟩ := F
  intro target kt
  exact X.laload hx (by rw [eT]; exact A.1) (State.isArrayOf_alike hZ.alike A.2.1) A.2.2 (own_in S hk hn) (by rw [own_nat hk]; exact G k hn) hg hs hd target kt
theorem ldR (X : Stand p l e R s m args below meth c T locs cells slots) (hx : p.tables.exec = Jvm.exec) (hZ : Z.Warmed39 s.vm) (eT : T.heap = h) {g : Nat → Value} (F : AF Z h a ty n g) (hty : ty.isReference = true) {j : Int32} {k : Nat} (hk : j.toInt = k) (hn : k < n) {f : JFrame} (hg : f.method = m) {rest : List Value} (hs : f.stack = .int j :: .ref a :: rest) (hd : decode c.code f.pc = .ok (.aaload, 1)) :
    ∀ target, Steps p.tables e below (T.setTop { f with pc := f.pc + 1, stack := g k :: rest }) target → Steps p.tables e below (T.setTop f) target := by
  obtain ⟨cl, A, S, M, G⟩ := F
  intro target kt
  exact X.aaload hx (by rw [eT]; exact A.1) (State.isArrayOf_alike hZ.alike A.2.1) hty A.2.2 (own_in S hk hn) (by rw [own_nat hk]; exact G k hn) hg hs hd target kt
theorem alen (X : Stand p l e R s m args below meth c T locs cells slots) (hx : p.tables.exec = Jvm.exec) (hZ : Z.Warmed39 s.vm) (eT : T.heap = h) {g : Nat → Value} (F : AF Z h a ty n g) {z : Int32} (hz : z.toInt = n) {f : JFrame} (hg : f.method = m) {rest : List Value} (hs : f.stack = .ref a :: rest) (hd : decode c.code f.pc = .ok (.arraylength, 1)) :
    ∀ target, Steps p.tables e below (T.setTop { f with pc := f.pc + 1, stack := .int z :: rest }) target → Steps p.tables e below (T.setTop f) target := by
  obtain ⟨cl, A, S, M, G⟩ := F
  intro target kt
  have h0 : ¬ z < 0 := by
    rw [Int32.lt_iff_toInt_lt, hz]
    have : (0 : Int32).toInt = 0 := rfl
    omega
  have q : cl.slots.size.toInt32 = z := by rw [S, ← own_nat hz]; exact (back32 h0).1
  refine X.arraylength hx (by rw [eT]; exact A.1) (State.isArrayOf_alike hZ.alike A.2.1) hg hs hd target ?_
  rw [q]; exact kt
end Loads
section Stores
theorem puI (X : Stand p l e R s m args below meth c T locs cells slots) (hx : p.tables.exec = Jvm.exec) (hZ : Z.Warmed39 s.vm) (eT : T.heap = h) {g : Nat → Int32} (F : AI Z h a .int n g) {j x : Int32} {k : Nat} (hk : j.toInt = k) (hn : k < n) {f : JFrame} (hg : f.method = m) {rest : List Value} (hs : f.stack = .int x :: .int j :: .ref a :: rest) (hd : decode c.code f.pc = .ok (.iastore, 1)) :
    ∃ T' h', Stand p l e R s m args below meth c T' (locs ++ [⟨a, k⟩]) cells slots ∧ T'.heap = h' ∧ Wr h h' a k (.int x) ∧ AI Z h' a .int n (upv g k x) ∧ ∀ target, Steps p.tables e below (T'.setTop { f with pc := f.pc + 1, stack := rest }) target → Steps p.tables e below (T.setTop f) target := by
  obtain ⟨cl, A, S, M, G⟩ := id F
  obtain ⟨T', h', X', e', W, st⟩ := stI X hx hZ eT A (j := j) (own_in S hk hn) hg hs hd
  rw [own_nat hk] at X' W
  exact ⟨T', h', X', e', W, AI.set F W, st⟩
theorem puB (X : Stand p l e R s m args below meth c T locs cells slots) (hx : p.tables.exec = Jvm.exec) (hZ : Z.Warmed39 s.vm) (eT : T.heap = h) {g : Nat → Int32} (F : AI Z h a .byte n g) {j x : Int32} {k : Nat} (hk : j.toInt = k) (hn : k < n) {f : JFrame} (hg : f.method = m) {rest : List Value} (hs : f.stack = .int x :: .int j :: .ref a :: rest) (hd : decode c.code f.pc = .ok (.bastore, 1)) :
    ∃ T' h', Stand p l e R s m args below meth c T' (locs ++ [⟨a, k⟩]) cells slots ∧ T'.heap = h' ∧ Wr h h' a k (.int x.toInt8.toInt32) ∧ AI Z h' a .byte n (upv g k x.toInt8.toInt32) ∧ ∀ target, Steps p.tables e below (T'.setTop { f with pc := f.pc + 1, stack := rest }) target → Steps p.tables e below (T.setTop f) target := by
  obtain ⟨cl, A, S, M, G⟩ := id F
  obtain ⟨T', h', X', e', W, st⟩ := stB X hx hZ eT A (j := j) (own_in S hk hn) hg hs hd
  rw [own_nat hk] at X' W
  exact ⟨T', h', X', e', W, AI.set F W, st⟩
theorem puJ (X : Stand p l e R s m args below meth c T locs cells slots) (hx : p.tables.exec = Jvm.exec) (hZ : Z.Warmed39 s.vm) (eT : T.heap = h) {g : Nat → Int64} (F : AJ Z h a .long n g) {j : Int32} {x : Int64} {k : Nat} (hk : j.toInt = k) (hn : k < n) {f : JFrame} (hg : f.method = m) {rest : List Value} (hs : f.stack = .long x :: .int j :: .ref a :: rest) (hd : decode c.code f.pc = .ok (.lastore, 1)) :
    ∃ T' h', Stand p l e R s m args below meth c T' (locs ++ [⟨a, k⟩]) cells slots ∧ T'.heap = h' ∧ Wr h h' a k (.long x) ∧ AJ Z h' a .long n (upv g k x) ∧ ∀ target, Steps p.tables e below (T'.setTop { f with pc := f.pc + 1, stack := rest }) target → Steps p.tables e below (T.setTop f) target := by
  obtain ⟨cl, A, S, M, G⟩ := id F
  obtain ⟨T', h', X', e', W, st⟩ := stJ X hx hZ eT A (j := j) (own_in S hk hn) hg hs hd
  rw [own_nat hk] at X' W
  exact ⟨T', h', X', e', W, AJ.set F W, st⟩
theorem puR (X : Stand p l e R s m args below meth c T locs cells slots) (hx : p.tables.exec = Jvm.exec) (hZ : Z.Warmed39 s.vm) (eT : T.heap = h) {g : Nat → Value} (F : AF Z h a ty n g) (hty : ty.isReference = true) {j : Int32} {x : Value} (O : Sto Z h a x) {k : Nat} (hk : j.toInt = k) (hn : k < n) {f : JFrame} (hg : f.method = m) {rest : List Value} (hs : f.stack = x :: .int j :: .ref a :: rest) (hd : decode c.code f.pc = .ok (.aastore, 1)) :
    ∃ T' h', Stand p l e R s m args below meth c T' (locs ++ [⟨a, k⟩]) cells slots ∧ T'.heap = h' ∧ Wr h h' a k x ∧ AF Z h' a ty n (upv g k x) ∧ ∀ target, Steps p.tables e below (T'.setTop { f with pc := f.pc + 1, stack := rest }) target → Steps p.tables e below (T.setTop f) target := by
  obtain ⟨cl, A, S, M, G⟩ := id F
  obtain ⟨T', h', X', e', W, st⟩ := stR X hx hZ eT A (j := j) (own_in S hk hn) hty O hg hs hd
  rw [own_nat hk] at X' W
  exact ⟨T', h', X', e', W, AF.set F W, st⟩
theorem newAF (X : Stand p l e R s m args below meth c T locs cells slots) (hx : p.tables.exec = Jvm.exec) (hZ : Z.Warmed39 s.vm) {aty : ArrayType} (w : (Cond.arrayClass (newarray.typeOf aty)).before a0 Z = true) (eT : T.heap = h) {f : JFrame} (hg : f.method = m) (hd : decode c.code f.pc = .ok (.newarray aty, 2)) {z : Int32} {rest : List Value} (hs : f.stack = .int z :: rest)
    {k : Nat} (hk : z.toInt = k) {cap : Nat} (hcap : k ≤ cap) (hb : cap * 8 ≤ 536870912) (hc : cells + 1 ≤ R.cells) (hl : slots + cap ≤ R.slots) :
    ∃ T' h', Stand p l e R s m args below meth c T' locs (cells + 1) (slots + cap) ∧ T'.heap = h' ∧ Ext h h' ∧ AF Z h' h.size (newarray.typeOf aty) k (fun _ => defaultValue (newarray.typeOf aty)) ∧
      ∀ target, Steps p.tables e below (T'.setTop { f with pc := f.pc + 2, stack := .ref h.size :: rest }) target → Steps p.tables e below (T.setTop f) target := by
  have h0 : ¬ z < 0 := by
    rw [Int32.lt_iff_toInt_lt, hk]
    have : (0 : Int32).toInt = 0 := rfl
    omega
  obtain ⟨T', h', cA, X', e', E, A, st⟩ := newP X hx hZ w eT hg hd hs h0 (cap := cap) (by rw [own_nat hk]; exact hcap) hb hc hl
  exact ⟨T', h', X', e', E, AF.fresh A hk, st⟩
end Stores
theorem hide (X : Stand p l e R s m args below meth c T locs cells slots) {n0 : Nat} (N : Fr n0 locs) {C S : Nat} (hc : cells ≤ C) (hs : slots ≤ S) : ∃ L, Stand p l e R s m args below meth c T L C S ∧ Fr n0 L := ⟨locs, X.more hc hs, N⟩
theorem own_selects {args' : Array Value} {U : State} {y : MethodName} {k : Nat} (wi : (Cond.instantiable y.cls k).before args' U = true) (hpriv : U.PrivateAt y) (hinst : (Cond.instanceMethod y).before args' U = true) (hy : y.cls ≠ "java/lang/invoke/MethodHandle" ∧ y.cls ≠ "java/lang/invoke/VarHandle") : (Cond.selects y.cls y y).before args' U = true := by
  obtain ⟨c1, k1, i1, i2, -, i3, -⟩ := Cond.instantiable_spec wi
  have hni : k1.isInterface = false := by cases q : k1.isInterface <;> simp [q] at i3 ⊢
  exact Jvm.Stand.selects_self_of_private i1 i2 hni hpriv hinst hy
theorem isRef_cat {w : Value} (q : w.isRef = true) : w.category = 1 := by
  rcases ref_cases q with rfl | ⟨x, rfl⟩ <;> rfl
theorem mem1 {α : Type} (x : α) (L : List α) : x ∈ x :: L := List.mem_cons_self
theorem mem2 {α : Type} (x y : α) (L : List α) : x ∈ y :: x :: L := List.mem_cons_of_mem _ List.mem_cons_self
end OwnHeap
end Jvm.RoadKit
namespace Jvm.Pilot.@@N@@
open Jvm Jvm.ClassFile Sem Op Lib Jvm.Free Jvm.Stand Jvm.LawKit Jvm.RoadKit Bundle Jvm.Pilot.@@N@@.Jvm.D
theorem own_ixa {i c : Int32} {k d : Nat} (hk : i.toInt = k) (hc : c.toInt = d) (hb : k + d < 2147483648) : (i + c).toInt = ((k + d : Nat) : Int) := by
  have a := c_iadd i c
  have r := rng32 (i + c)
  omega
def nat (j : Int32) : Nat := j.toInt.toNat
theorem own_hk {j : Int32} (h : 0 ≤ j.toInt) : j.toInt = (nat j : Int) := by unfold nat; omega
theorem own_hn {j : Int32} {n : Nat} (h : 0 ≤ j.toInt) (h2 : j.toInt < n) : nat j < n := by unfold nat; omega
theorem own_ix {i1 i2 n j : Int32} (h1 : 0 ≤ i1.toInt ∧ i1.toInt < 6) (h2 : 0 ≤ i2.toInt ∧ i2.toInt ≤ 6) (hn : 0 ≤ n.toInt ∧ n.toInt ≤ 4) (hq : ¬ (i2 - i1) < n) (hj : j.toInt < n.toInt ∧ 0 ≤ j.toInt) : 0 ≤ (i1 + j).toInt ∧ (i1 + j).toInt < (6 : Nat) := by
  have a := c_iadd i1 j
  have b := c_isub i2 i1
  have r := rng32 (i1 + j)
  have r2 := rng32 (i2 - i1)
  rw [Int32.lt_iff_toInt_lt] at hq
  omega
def f1_22_l5 (i1 : Int32) (i2 : Int32) (g : Nat → Int32) : Int32 := (if (((g ((nat i1))) &&& (255 : Int32)) &&& (224 : Int32)) = (192 : Int32) then (2 : Int32) else (if (((g ((nat i1))) &&& (255 : Int32)) &&& (240 : Int32)) = (224 : Int32) then (3 : Int32) else (if (((g ((nat i1))) &&& (255 : Int32)) &&& (248 : Int32)) = (240 : Int32) then (4 : Int32) else (0 : Int32))))
def f1_149_s0 (i1 : Int32) (i2 : Int32) (g : Nat → Int32) : Int32 := (if (((g ((nat (i1 + (1 : Int32))))) &&& (255 : Int32)) &&& (192 : Int32)) = (128 : Int32) then (1 : Int32) else (0 : Int32))
def f1_v203 (i1 : Int32) (i2 : Int32) (g : Nat → Int32) : Int32 := (((((g ((nat i1))) &&& (255 : Int32)) &&& (31 : Int32)) <<< ((6 : Int32) &&& 31)) ||| (((g ((nat (i1 + (1 : Int32))))) &&& (255 : Int32)) &&& (63 : Int32)))
def f1_v242 (i1 : Int32) (i2 : Int32) (g : Nat → Int32) : Int32 := ((((((g ((nat i1))) &&& (255 : Int32)) &&& (15 : Int32)) <<< ((12 : Int32) &&& 31)) ||| ((((g ((nat (i1 + (1 : Int32))))) &&& (255 : Int32)) &&& (63 : Int32)) <<< ((6 : Int32) &&& 31))) ||| (0 : Int32))
def f1_v284 (i1 : Int32) (i2 : Int32) (g : Nat → Int32) : Int32 := (((((((g ((nat i1))) &&& (255 : Int32)) &&& (7 : Int32)) <<< ((18 : Int32) &&& 31)) ||| ((((g ((nat (i1 + (1 : Int32))))) &&& (255 : Int32)) &&& (63 : Int32)) <<< ((12 : Int32) &&& 31))) ||| ((0 : Int32) <<< ((6 : Int32) &&& 31))) ||| (0 : Int32))
def f1_186_l10 (i1 : Int32) (i2 : Int32) (g : Nat → Int32) : Int32 := (if (f1_22_l5 i1 i2 g) = (2 : Int32) then (f1_v203 i1 i2 g) else (if (f1_22_l5 i1 i2 g) = (3 : Int32) then (f1_v242 i1 i2 g) else (f1_v284 i1 i2 g)))
def f1_186_l11 (i1 : Int32) (i2 : Int32) (g : Nat → Int32) : Int32 := (if (f1_22_l5 i1 i2 g) = (2 : Int32) then (128 : Int32) else (if (f1_22_l5 i1 i2 g) = (3 : Int32) then (2048 : Int32) else (65536 : Int32)))
def f1_294_s0 (i1 : Int32) (i2 : Int32) (g : Nat → Int32) : Int32 := (if (f1_186_l10 i1 i2 g) < (55296 : Int32) then (0 : Int32) else (if (57343 : Int32) < (f1_186_l10 i1 i2 g) then (0 : Int32) else (1 : Int32)))
def f1_313_s0 (i1 : Int32) (i2 : Int32) (g : Nat → Int32) : Int32 := (if (f1_149_s0 i1 i2 g) = (0 : Int32) then (0 : Int32) else (if (f1_186_l10 i1 i2 g) < (f1_186_l11 i1 i2 g) then (0 : Int32) else (if (1114111 : Int32) < (f1_186_l10 i1 i2 g) then (0 : Int32) else (if (f1_294_s0 i1 i2 g) = (0 : Int32) then (1 : Int32) else (0 : Int32)))))
def f1_344_s0 (i1 : Int32) (i2 : Int32) (g : Nat → Int32) : Int32 := (if (f1_313_s0 i1 i2 g) = (0 : Int32) then (0 : Int32) else (f1_22_l5 i1 i2 g))
def f1_149_s0a (i1 : Int32) (i2 : Int32) (g : Nat → Int32) : Int32 := (if (((g ((nat (i1 + (1 : Int32))))) &&& (255 : Int32)) &&& (192 : Int32)) = (128 : Int32) then (if (((g ((nat (i1 + (2 : Int32))))) &&& (255 : Int32)) &&& (192 : Int32)) = (128 : Int32) then (if (((g ((nat (i1 + (3 : Int32))))) &&& (255 : Int32)) &&& (192 : Int32)) = (128 : Int32) then (1 : Int32) else (0 : Int32)) else (0 : Int32)) else (0 : Int32))
def f1_v242a (i1 : Int32) (i2 : Int32) (g : Nat → Int32) : Int32 := ((((((g ((nat i1))) &&& (255 : Int32)) &&& (15 : Int32)) <<< ((12 : Int32) &&& 31)) ||| ((((g ((nat (i1 + (1 : Int32))))) &&& (255 : Int32)) &&& (63 : Int32)) <<< ((6 : Int32) &&& 31))) ||| (((g ((nat (i1 + (2 : Int32))))) &&& (255 : Int32)) &&& (63 : Int32)))
def f1_v284a (i1 : Int32) (i2 : Int32) (g : Nat → Int32) : Int32 := (((((((g ((nat i1))) &&& (255 : Int32)) &&& (7 : Int32)) <<< ((18 : Int32) &&& 31)) ||| ((((g ((nat (i1 + (1 : Int32))))) &&& (255 : Int32)) &&& (63 : Int32)) <<< ((12 : Int32) &&& 31))) ||| ((((g ((nat (i1 + (2 : Int32))))) &&& (255 : Int32)) &&& (63 : Int32)) <<< ((6 : Int32) &&& 31))) ||| (((g ((nat (i1 + (3 : Int32))))) &&& (255 : Int32)) &&& (63 : Int32)))
def f1_186_l10a (i1 : Int32) (i2 : Int32) (g : Nat → Int32) : Int32 := (if (f1_22_l5 i1 i2 g) = (2 : Int32) then (f1_v203 i1 i2 g) else (if (f1_22_l5 i1 i2 g) = (3 : Int32) then (f1_v242a i1 i2 g) else (f1_v284a i1 i2 g)))
def f1_294_s0a (i1 : Int32) (i2 : Int32) (g : Nat → Int32) : Int32 := (if (f1_186_l10a i1 i2 g) < (55296 : Int32) then (0 : Int32) else (if (57343 : Int32) < (f1_186_l10a i1 i2 g) then (0 : Int32) else (1 : Int32)))
def f1_313_s0a (i1 : Int32) (i2 : Int32) (g : Nat → Int32) : Int32 := (if (f1_149_s0a i1 i2 g) = (0 : Int32) then (0 : Int32) else (if (f1_186_l10a i1 i2 g) < (f1_186_l11 i1 i2 g) then (0 : Int32) else (if (1114111 : Int32) < (f1_186_l10a i1 i2 g) then (0 : Int32) else (if (f1_294_s0a i1 i2 g) = (0 : Int32) then (1 : Int32) else (0 : Int32)))))
def f1_344_s0a (i1 : Int32) (i2 : Int32) (g : Nat → Int32) : Int32 := (if (f1_313_s0a i1 i2 g) = (0 : Int32) then (0 : Int32) else (f1_22_l5 i1 i2 g))
def f1_149_s0b (i1 : Int32) (i2 : Int32) (g : Nat → Int32) : Int32 := (if (((g ((nat (i1 + (1 : Int32))))) &&& (255 : Int32)) &&& (192 : Int32)) = (128 : Int32) then (if (((g ((nat (i1 + (2 : Int32))))) &&& (255 : Int32)) &&& (192 : Int32)) = (128 : Int32) then (1 : Int32) else (0 : Int32)) else (0 : Int32))
def f1_v284b (i1 : Int32) (i2 : Int32) (g : Nat → Int32) : Int32 := (((((((g ((nat i1))) &&& (255 : Int32)) &&& (7 : Int32)) <<< ((18 : Int32) &&& 31)) ||| ((((g ((nat (i1 + (1 : Int32))))) &&& (255 : Int32)) &&& (63 : Int32)) <<< ((12 : Int32) &&& 31))) ||| ((((g ((nat (i1 + (2 : Int32))))) &&& (255 : Int32)) &&& (63 : Int32)) <<< ((6 : Int32) &&& 31))) ||| (0 : Int32))
def f1_186_l10b (i1 : Int32) (i2 : Int32) (g : Nat → Int32) : Int32 := (if (f1_22_l5 i1 i2 g) = (2 : Int32) then (f1_v203 i1 i2 g) else (if (f1_22_l5 i1 i2 g) = (3 : Int32) then (f1_v242a i1 i2 g) else (f1_v284b i1 i2 g)))
def f1_294_s0b (i1 : Int32) (i2 : Int32) (g : Nat → Int32) : Int32 := (if (f1_186_l10b i1 i2 g) < (55296 : Int32) then (0 : Int32) else (if (57343 : Int32) < (f1_186_l10b i1 i2 g) then (0 : Int32) else (1 : Int32)))
def f1_313_s0b (i1 : Int32) (i2 : Int32) (g : Nat → Int32) : Int32 := (if (f1_149_s0b i1 i2 g) = (0 : Int32) then (0 : Int32) else (if (f1_186_l10b i1 i2 g) < (f1_186_l11 i1 i2 g) then (0 : Int32) else (if (1114111 : Int32) < (f1_186_l10b i1 i2 g) then (0 : Int32) else (if (f1_294_s0b i1 i2 g) = (0 : Int32) then (1 : Int32) else (0 : Int32)))))
def f1_344_s0b (i1 : Int32) (i2 : Int32) (g : Nat → Int32) : Int32 := (if (f1_313_s0b i1 i2 g) = (0 : Int32) then (0 : Int32) else (f1_22_l5 i1 i2 g))
def f2_22_l4 (i1 : Int32) (i2 : Int32) (g : Nat → Int32) : Int32 := (if ((g ((nat i1))) &&& (255 : Int32)) < (194 : Int32) then (if ((g ((nat i1))) &&& (255 : Int32)) < (224 : Int32) then (if ((g ((nat i1))) &&& (255 : Int32)) < (240 : Int32) then (0 : Int32) else (if (244 : Int32) < ((g ((nat i1))) &&& (255 : Int32)) then (0 : Int32) else (if ((g ((nat i1))) &&& (255 : Int32)) = (240 : Int32) then (if ((g ((nat i1))) &&& (255 : Int32)) = (244 : Int32) then (4 : Int32) else (4 : Int32)) else (if ((g ((nat i1))) &&& (255 : Int32)) = (244 : Int32) then (4 : Int32) else (4 : Int32))))) else (if (239 : Int32) < ((g ((nat i1))) &&& (255 : Int32)) then (if ((g ((nat i1))) &&& (255 : Int32)) < (240 : Int32) then (0 : Int32) else (if (244 : Int32) < ((g ((nat i1))) &&& (255 : Int32)) then (0 : Int32) else (if ((g ((nat i1))) &&& (255 : Int32)) = (240 : Int32) then (if ((g ((nat i1))) &&& (255 : Int32)) = (244 : Int32) then (4 : Int32) else (4 : Int32)) else (if ((g ((nat i1))) &&& (255 : Int32)) = (244 : Int32) then (4 : Int32) else (4 : Int32))))) else (if ((g ((nat i1))) &&& (255 : Int32)) = (224 : Int32) then (if ((g ((nat i1))) &&& (255 : Int32)) = (237 : Int32) then (3 : Int32) else (3 : Int32)) else (if ((g ((nat i1))) &&& (255 : Int32)) = (237 : Int32) then (3 : Int32) else (3 : Int32))))) else (if (223 : Int32) < ((g ((nat i1))) &&& (255 : Int32)) then (if ((g ((nat i1))) &&& (255 : Int32)) < (224 : Int32) then (if ((g ((nat i1))) &&& (255 : Int32)) < (240 : Int32) then (0 : Int32) else (if (244 : Int32) < ((g ((nat i1))) &&& (255 : Int32)) then (0 : Int32) else (if ((g ((nat i1))) &&& (255 : Int32)) = (240 : Int32) then (if ((g ((nat i1))) &&& (255 : Int32)) = (244 : Int32) then (4 : Int32) else (4 : Int32)) else (if ((g ((nat i1))) &&& (255 : Int32)) = (244 : Int32) then (4 : Int32) else (4 : Int32))))) else (if (239 : Int32) < ((g ((nat i1))) &&& (255 : Int32)) then (if ((g ((nat i1))) &&& (255 : Int32)) < (240 : Int32) then (0 : Int32) else (if (244 : Int32) < ((g ((nat i1))) &&& (255 : Int32)) then (0 : Int32) else (if ((g ((nat i1))) &&& (255 : Int32)) = (240 : Int32) then (if ((g ((nat i1))) &&& (255 : Int32)) = (244 : Int32) then (4 : Int32) else (4 : Int32)) else (if ((g ((nat i1))) &&& (255 : Int32)) = (244 : Int32) then (4 : Int32) else (4 : Int32))))) else (if ((g ((nat i1))) &&& (255 : Int32)) = (224 : Int32) then (if ((g ((nat i1))) &&& (255 : Int32)) = (237 : Int32) then (3 : Int32) else (3 : Int32)) else (if ((g ((nat i1))) &&& (255 : Int32)) = (237 : Int32) then (3 : Int32) else (3 : Int32))))) else (2 : Int32)))
def f2_22_l5 (i1 : Int32) (i2 : Int32) (g : Nat → Int32) : Int32 := (if ((g ((nat i1))) &&& (255 : Int32)) < (194 : Int32) then (if ((g ((nat i1))) &&& (255 : Int32)) < (224 : Int32) then (if ((g ((nat i1))) &&& (255 : Int32)) < (240 : Int32) then (128 : Int32) else (if (244 : Int32) < ((g ((nat i1))) &&& (255 : Int32)) then (128 : Int32) else (if ((g ((nat i1))) &&& (255 : Int32)) = (240 : Int32) then (if ((g ((nat i1))) &&& (255 : Int32)) = (244 : Int32) then (144 : Int32) else (144 : Int32)) else (if ((g ((nat i1))) &&& (255 : Int32)) = (244 : Int32) then (128 : Int32) else (128 : Int32))))) else (if (239 : Int32) < ((g ((nat i1))) &&& (255 : Int32)) then (if ((g ((nat i1))) &&& (255 : Int32)) < (240 : Int32) then (128 : Int32) else (if (244 : Int32) < ((g ((nat i1))) &&& (255 : Int32)) then (128 : Int32) else (if ((g ((nat i1))) &&& (255 : Int32)) = (240 : Int32) then (if ((g ((nat i1))) &&& (255 : Int32)) = (244 : Int32) then (144 : Int32) else (144 : Int32)) else (if ((g ((nat i1))) &&& (255 : Int32)) = (244 : Int32) then (128 : Int32) else (128 : Int32))))) else (if ((g ((nat i1))) &&& (255 : Int32)) = (224 : Int32) then (if ((g ((nat i1))) &&& (255 : Int32)) = (237 : Int32) then (160 : Int32) else (160 : Int32)) else (if ((g ((nat i1))) &&& (255 : Int32)) = (237 : Int32) then (128 : Int32) else (128 : Int32))))) else (if (223 : Int32) < ((g ((nat i1))) &&& (255 : Int32)) then (if ((g ((nat i1))) &&& (255 : Int32)) < (224 : Int32) then (if ((g ((nat i1))) &&& (255 : Int32)) < (240 : Int32) then (128 : Int32) else (if (244 : Int32) < ((g ((nat i1))) &&& (255 : Int32)) then (128 : Int32) else (if ((g ((nat i1))) &&& (255 : Int32)) = (240 : Int32) then (if ((g ((nat i1))) &&& (255 : Int32)) = (244 : Int32) then (144 : Int32) else (144 : Int32)) else (if ((g ((nat i1))) &&& (255 : Int32)) = (244 : Int32) then (128 : Int32) else (128 : Int32))))) else (if (239 : Int32) < ((g ((nat i1))) &&& (255 : Int32)) then (if ((g ((nat i1))) &&& (255 : Int32)) < (240 : Int32) then (128 : Int32) else (if (244 : Int32) < ((g ((nat i1))) &&& (255 : Int32)) then (128 : Int32) else (if ((g ((nat i1))) &&& (255 : Int32)) = (240 : Int32) then (if ((g ((nat i1))) &&& (255 : Int32)) = (244 : Int32) then (144 : Int32) else (144 : Int32)) else (if ((g ((nat i1))) &&& (255 : Int32)) = (244 : Int32) then (128 : Int32) else (128 : Int32))))) else (if ((g ((nat i1))) &&& (255 : Int32)) = (224 : Int32) then (if ((g ((nat i1))) &&& (255 : Int32)) = (237 : Int32) then (160 : Int32) else (160 : Int32)) else (if ((g ((nat i1))) &&& (255 : Int32)) = (237 : Int32) then (128 : Int32) else (128 : Int32))))) else (128 : Int32)))
def f2_22_l6 (i1 : Int32) (i2 : Int32) (g : Nat → Int32) : Int32 := (if ((g ((nat i1))) &&& (255 : Int32)) < (194 : Int32) then (if ((g ((nat i1))) &&& (255 : Int32)) < (224 : Int32) then (if ((g ((nat i1))) &&& (255 : Int32)) < (240 : Int32) then (191 : Int32) else (if (244 : Int32) < ((g ((nat i1))) &&& (255 : Int32)) then (191 : Int32) else (if ((g ((nat i1))) &&& (255 : Int32)) = (240 : Int32) then (if ((g ((nat i1))) &&& (255 : Int32)) = (244 : Int32) then (143 : Int32) else (191 : Int32)) else (if ((g ((nat i1))) &&& (255 : Int32)) = (244 : Int32) then (143 : Int32) else (191 : Int32))))) else (if (239 : Int32) < ((g ((nat i1))) &&& (255 : Int32)) then (if ((g ((nat i1))) &&& (255 : Int32)) < (240 : Int32) then (191 : Int32) else (if (244 : Int32) < ((g ((nat i1))) &&& (255 : Int32)) then (191 : Int32) else (if ((g ((nat i1))) &&& (255 : Int32)) = (240 : Int32) then (if ((g ((nat i1))) &&& (255 : Int32)) = (244 : Int32) then (143 : Int32) else (191 : Int32)) else (if ((g ((nat i1))) &&& (255 : Int32)) = (244 : Int32) then (143 : Int32) else (191 : Int32))))) else (if ((g ((nat i1))) &&& (255 : Int32)) = (224 : Int32) then (if ((g ((nat i1))) &&& (255 : Int32)) = (237 : Int32) then (159 : Int32) else (191 : Int32)) else (if ((g ((nat i1))) &&& (255 : Int32)) = (237 : Int32) then (159 : Int32) else (191 : Int32))))) else (if (223 : Int32) < ((g ((nat i1))) &&& (255 : Int32)) then (if ((g ((nat i1))) &&& (255 : Int32)) < (224 : Int32) then (if ((g ((nat i1))) &&& (255 : Int32)) < (240 : Int32) then (191 : Int32) else (if (244 : Int32) < ((g ((nat i1))) &&& (255 : Int32)) then (191 : Int32) else (if ((g ((nat i1))) &&& (255 : Int32)) = (240 : Int32) then (if ((g ((nat i1))) &&& (255 : Int32)) = (244 : Int32) then (143 : Int32) else (191 : Int32)) else (if ((g ((nat i1))) &&& (255 : Int32)) = (244 : Int32) then (143 : Int32) else (191 : Int32))))) else (if (239 : Int32) < ((g ((nat i1))) &&& (255 : Int32)) then (if ((g ((nat i1))) &&& (255 : Int32)) < (240 : Int32) then (191 : Int32) else (if (244 : Int32) < ((g ((nat i1))) &&& (255 : Int32)) then (191 : Int32) else (if ((g ((nat i1))) &&& (255 : Int32)) = (240 : Int32) then (if ((g ((nat i1))) &&& (255 : Int32)) = (244 : Int32) then (143 : Int32) else (191 : Int32)) else (if ((g ((nat i1))) &&& (255 : Int32)) = (244 : Int32) then (143 : Int32) else (191 : Int32))))) else (if ((g ((nat i1))) &&& (255 : Int32)) = (224 : Int32) then (if ((g ((nat i1))) &&& (255 : Int32)) = (237 : Int32) then (159 : Int32) else (191 : Int32)) else (if ((g ((nat i1))) &&& (255 : Int32)) = (237 : Int32) then (159 : Int32) else (191 : Int32))))) else (191 : Int32)))
def f2_183_s0 (i1 : Int32) (i2 : Int32) (g : Nat → Int32) : Int32 := (if ((g ((nat (i1 + (1 : Int32))))) &&& (255 : Int32)) < (f2_22_l5 i1 i2 g) then (0 : Int32) else (if (f2_22_l6 i1 i2 g) < ((g ((nat (i1 + (1 : Int32))))) &&& (255 : Int32)) then (0 : Int32) else (1 : Int32)))
def f2_227_s0 (i1 : Int32) (i2 : Int32) (g : Nat → Int32) : Int32 := (if ((g ((nat (i1 + (2 : Int32))))) &&& (192 : Int32)) = (128 : Int32) then (1 : Int32) else (0 : Int32))
def f2_227_s0a (i1 : Int32) (i2 : Int32) (g : Nat → Int32) : Int32 := (if ((g ((nat ((i1 + (2 : Int32)) + (1 : Int32))))) &&& (192 : Int32)) = (128 : Int32) then (1 : Int32) else (0 : Int32))
def f2_v236 (i1 : Int32) (i2 : Int32) (g : Nat → Int32) : Int32 := (((f2_183_s0 i1 i2 g) &&& (f2_227_s0 i1 i2 g)) &&& (f2_227_s0a i1 i2 g))
def f2_246_s0 (i1 : Int32) (i2 : Int32) (g : Nat → Int32) : Int32 := (if (f2_v236 i1 i2 g) = (0 : Int32) then (0 : Int32) else (f2_22_l4 i1 i2 g))
def f2_246_s0a (i1 : Int32) (i2 : Int32) (g : Nat → Int32) : Int32 := (if ((f2_183_s0 i1 i2 g) &&& (f2_227_s0 i1 i2 g)) = (0 : Int32) then (0 : Int32) else (f2_22_l4 i1 i2 g))
def f2_246_s0b (i1 : Int32) (i2 : Int32) (g : Nat → Int32) : Int32 := (if (f2_183_s0 i1 i2 g) = (0 : Int32) then (0 : Int32) else (f2_22_l4 i1 i2 g))
theorem own_n34 {i1 i2 : Int32} {g : Nat → Int32} (h : f1_22_l5 i1 i2 g < 3) : ¬ f1_22_l5 i1 i2 g = 4 := fun q => by
  rw [q] at h; exact absurd h (by decide)
theorem own_l5 (i1 i2 : Int32) (g : Nat → Int32) (h : ¬ f1_22_l5 i1 i2 g = 0) : 2 ≤ (f1_22_l5 i1 i2 g).toInt ∧ (f1_22_l5 i1 i2 g).toInt ≤ 4 := by
  revert h
  unfold f1_22_l5
  split
  · intro; decide
  · split
    · intro; decide
    · split
      · intro; decide
      · intro h; exact absurd rfl h
theorem ixr1 (i1 i2 : Int32) (g : Nat → Int32) (h1 : 0 ≤ i1.toInt ∧ i1.toInt < 6) (h2 : 0 ≤ i2.toInt ∧ i2.toInt ≤ 6) (h72 : ¬ f1_22_l5 i1 i2 g = 0) (h78 : ¬ (i2 - i1) < f1_22_l5 i1 i2 g) : 0 ≤ (i1 + 1).toInt ∧ (i1 + 1).toInt < (6 : Nat) := by
  have a := own_l5 i1 i2 g h72
  exact own_ix h1 h2 (by omega) h78 (by have : (1 : Int32).toInt = 1 := by decide
                                        omega)
theorem ixr2 (i1 i2 : Int32) (g : Nat → Int32) (h1 : 0 ≤ i1.toInt ∧ i1.toInt < 6) (h2 : 0 ≤ i2.toInt ∧ i2.toInt ≤ 6) (h72 : ¬ f1_22_l5 i1 i2 g = 0) (h78 : ¬ (i2 - i1) < f1_22_l5 i1 i2 g) (h97 : ¬ f1_22_l5 i1 i2 g < 3) : 0 ≤ (i1 + 2).toInt ∧ (i1 + 2).toInt < (6 : Nat) := by
  have a := own_l5 i1 i2 g h72
  rw [Int32.lt_iff_toInt_lt] at h97
  exact own_ix h1 h2 (by omega) h78 (by have : (2 : Int32).toInt = 2 := by decide
                                        have : (3 : Int32).toInt = 3 := by decide
                                        omega)
theorem ixr3 (i1 i2 : Int32) (g : Nat → Int32) (h1 : 0 ≤ i1.toInt ∧ i1.toInt < 6) (h2 : 0 ≤ i2.toInt ∧ i2.toInt ≤ 6) (h72 : ¬ f1_22_l5 i1 i2 g = 0) (h78 : ¬ (i2 - i1) < f1_22_l5 i1 i2 g) (h120 : f1_22_l5 i1 i2 g = 4) : 0 ≤ (i1 + 3).toInt ∧ (i1 + 3).toInt < (6 : Nat) := by
  have a := own_l5 i1 i2 g h72
  have b : (f1_22_l5 i1 i2 g).toInt = 4 := by rw [h120]; decide
  exact own_ix h1 h2 (by omega) h78 (by have : (3 : Int32).toInt = 3 := by decide
                                        omega)
theorem own_l4 (i1 i2 : Int32) (g : Nat → Int32) : f2_22_l4 i1 i2 g = 0 ∨ f2_22_l4 i1 i2 g = 2 ∨ f2_22_l4 i1 i2 g = 3 ∨ f2_22_l4 i1 i2 g = 4 := by
  unfold f2_22_l4
  repeat' split
  all_goals simp
theorem own_l4b (i1 i2 : Int32) (g : Nat → Int32) (h : ¬ f2_22_l4 i1 i2 g = 0) : 2 ≤ (f2_22_l4 i1 i2 g).toInt ∧ (f2_22_l4 i1 i2 g).toInt ≤ 4 := by
  rcases own_l4 i1 i2 g with q | q | q | q
  · exact absurd q h
  · rw [q]; decide
  · rw [q]; decide
  · rw [q]; decide
theorem ixu1 (i1 i2 : Int32) (g : Nat → Int32) (h1 : 0 ≤ i1.toInt ∧ i1.toInt < 6) (h2 : 0 ≤ i2.toInt ∧ i2.toInt ≤ 6) (h72 : ¬ f2_22_l4 i1 i2 g = 0) (h78 : ¬ (i2 - i1) < f2_22_l4 i1 i2 g) : 0 ≤ (i1 + 1).toInt ∧ (i1 + 1).toInt < (6 : Nat) := by
  have a := own_l4b i1 i2 g h72
  exact own_ix h1 h2 (by omega) h78 (by have : (1 : Int32).toInt = 1 := by decide
                                        omega)
theorem own_addn {i1 n : Int32} (h1 : 0 ≤ i1.toInt ∧ i1.toInt < 6) (hn : 0 ≤ n.toInt ∧ n.toInt ≤ 4) : (i1 + n).toInt = i1.toInt + n.toInt := by
  have a := c_iadd i1 n
  have r := rng32 (i1 + n)
  omega
theorem ixu2 (i1 i2 : Int32) (g : Nat → Int32) (h1 : 0 ≤ i1.toInt ∧ i1.toInt < 6) (h2 : 0 ≤ i2.toInt ∧ i2.toInt ≤ 6) (h72 : ¬ f2_22_l4 i1 i2 g = 0) (h78 : ¬ (i2 - i1) < f2_22_l4 i1 i2 g) (h211 : (i1 + 2) < (i1 + f2_22_l4 i1 i2 g)) : 0 ≤ (i1 + 2).toInt ∧ (i1 + 2).toInt < (6 : Nat) := by
  have a := own_l4b i1 i2 g h72
  rw [Int32.lt_iff_toInt_lt, own_addn h1 (by decide), own_addn h1 (by omega)] at h211
  exact own_ix h1 h2 (by omega) h78 (by have : (2 : Int32).toInt = 2 := by decide
                                        omega)
theorem own_23 {i1 : Int32} : (i1 + 2) + 1 = i1 + (3 : Int32) := by
  rw [Int32.add_assoc]; rfl
theorem ixu3 (i1 i2 : Int32) (g : Nat → Int32) (h1 : 0 ≤ i1.toInt ∧ i1.toInt < 6) (h2 : 0 ≤ i2.toInt ∧ i2.toInt ≤ 6) (h72 : ¬ f2_22_l4 i1 i2 g = 0) (h78 : ¬ (i2 - i1) < f2_22_l4 i1 i2 g) (h211 : ((i1 + 2) + 1) < (i1 + f2_22_l4 i1 i2 g)) : 0 ≤ ((i1 + 2) + 1).toInt ∧ ((i1 + 2) + 1).toInt < (6 : Nat) := by
  have a := own_l4b i1 i2 g h72
  rw [own_23] at h211 ⊢
  rw [Int32.lt_iff_toInt_lt, own_addn h1 (by decide), own_addn h1 (by omega)] at h211
  exact own_ix h1 h2 (by omega) h78 (by have : (3 : Int32).toInt = 3 := by decide
                                        omega)
theorem own_n5 (i1 i2 : Int32) (g : Nat → Int32) (h1 : 0 ≤ i1.toInt ∧ i1.toInt < 6) : ¬ (((i1 + (2 : Int32)) + (1 : Int32)) + (1 : Int32)) < (i1 + f2_22_l4 i1 i2 g) := by
  rw [own_23, show i1 + 3 + 1 = i1 + (4 : Int32) by rw [Int32.add_assoc]; rfl, Int32.lt_iff_toInt_lt, own_addn h1 (by decide)]
  have e4 : (4 : Int32).toInt = 4 := by decide
  rcases own_l4 i1 i2 g with q | q | q | q
  · rw [q, own_addn h1 (by decide)]; have : (0 : Int32).toInt = 0 := by decide
    omega
  · rw [q, own_addn h1 (by decide)]; have : (2 : Int32).toInt = 2 := by decide
    omega
  · rw [q, own_addn h1 (by decide)]; have : (3 : Int32).toInt = 3 := by decide
    omega
  · rw [q, own_addn h1 (by decide)]; omega
theorem ef_1 (m : MethodId) (x0 : Addr) (x1 : Int32) (x2 : Int32) : entryFrame m #[(.ref x0), (.int x1), (.int x2)] 14 = mkF m 0 #[.val (.ref x0), .val (.int x1), .val (.int x2), .unset, .unset, .unset, .unset, .unset, .unset, .unset, .unset, .unset, .unset, .unset] [] := by first | (simp [entryFrame, mkF, argsToLocals, Value.category]; done) | rfl
theorem d1_0 : decode method_3_code 0 = .ok (.iload_n 2, 1) := by decide +kernel
theorem d1_1 : decode method_3_code 1 = .ok (.iload_n 1, 1) := by decide +kernel
theorem d1_2 : decode method_3_code 2 = .ok (.isub, 1) := by decide +kernel
theorem d1_3 : decode method_3_code 3 = .ok (.istore_n 3, 1) := by decide +kernel
theorem d1_4 : decode method_3_code 4 = .ok (.aload_n 0, 1) := by decide +kernel
theorem d1_5 : decode method_3_code 5 = .ok (.iload_n 1, 1) := by decide +kernel
theorem d1_6 : decode method_3_code 6 = .ok (.baload, 1) := by decide +kernel
theorem d1_7 : decode method_3_code 7 = .ok (.sipush 255, 3) := by decide +kernel
theorem d1_10 : decode method_3_code 10 = .ok (.iand, 1) := by decide +kernel
theorem d1_11 : decode method_3_code 11 = .ok (.istore 4, 2) := by decide +kernel
theorem d1_13 : decode method_3_code 13 = .ok (.iload 4, 2) := by decide +kernel
theorem d1_15 : decode method_3_code 15 = .ok (.sipush 224, 3) := by decide +kernel
theorem d1_18 : decode method_3_code 18 = .ok (.iand, 1) := by decide +kernel
theorem d1_19 : decode method_3_code 19 = .ok (.sipush 192, 3) := by decide +kernel
theorem d1_22 : decode method_3_code 22 = .ok (.if_icmp .ne 9, 3) := by decide +kernel
theorem d1_25 : decode method_3_code 25 = .ok (.iconst 2, 1) := by decide +kernel
theorem d1_26 : decode method_3_code 26 = .ok (.istore 5, 2) := by decide +kernel
theorem d1_28 : decode method_3_code 28 = .ok (.goto 42, 3) := by decide +kernel
theorem d1_31 : decode method_3_code 31 = .ok (.iload 4, 2) := by decide +kernel
theorem d1_33 : decode method_3_code 33 = .ok (.sipush 240, 3) := by decide +kernel
theorem d1_36 : decode method_3_code 36 = .ok (.iand, 1) := by decide +kernel
theorem d1_37 : decode method_3_code 37 = .ok (.sipush 224, 3) := by decide +kernel
theorem d1_40 : decode method_3_code 40 = .ok (.if_icmp .ne 9, 3) := by decide +kernel
theorem d1_43 : decode method_3_code 43 = .ok (.iconst 3, 1) := by decide +kernel
theorem d1_44 : decode method_3_code 44 = .ok (.istore 5, 2) := by decide +kernel
theorem d1_46 : decode method_3_code 46 = .ok (.goto 24, 3) := by decide +kernel
theorem d1_49 : decode method_3_code 49 = .ok (.iload 4, 2) := by decide +kernel
theorem d1_51 : decode method_3_code 51 = .ok (.sipush 248, 3) := by decide +kernel
theorem d1_54 : decode method_3_code 54 = .ok (.iand, 1) := by decide +kernel
theorem d1_55 : decode method_3_code 55 = .ok (.sipush 240, 3) := by decide +kernel
theorem d1_58 : decode method_3_code 58 = .ok (.if_icmp .ne 9, 3) := by decide +kernel
theorem d1_61 : decode method_3_code 61 = .ok (.iconst 4, 1) := by decide +kernel
theorem d1_62 : decode method_3_code 62 = .ok (.istore 5, 2) := by decide +kernel
theorem d1_64 : decode method_3_code 64 = .ok (.goto 6, 3) := by decide +kernel
theorem d1_67 : decode method_3_code 67 = .ok (.iconst 0, 1) := by decide +kernel
theorem d1_68 : decode method_3_code 68 = .ok (.istore 5, 2) := by decide +kernel
theorem d1_70 : decode method_3_code 70 = .ok (.iload 5, 2) := by decide +kernel
theorem d1_72 : decode method_3_code 72 = .ok (.ifCond .eq 9, 3) := by decide +kernel
theorem d1_81 : decode method_3_code 81 = .ok (.iconst 0, 1) := by decide +kernel
theorem d1_82 : decode method_3_code 82 = .ok (.ireturn, 1) := by decide +kernel
theorem d1_75 : decode method_3_code 75 = .ok (.iload_n 3, 1) := by decide +kernel
theorem d1_76 : decode method_3_code 76 = .ok (.iload 5, 2) := by decide +kernel
theorem d1_78 : decode method_3_code 78 = .ok (.if_icmp .ge 5, 3) := by decide +kernel
theorem d1_83 : decode method_3_code 83 = .ok (.aload_n 0, 1) := by decide +kernel
theorem d1_84 : decode method_3_code 84 = .ok (.iload_n 1, 1) := by decide +kernel
theorem d1_85 : decode method_3_code 85 = .ok (.iconst 1, 1) := by decide +kernel
theorem d1_86 : decode method_3_code 86 = .ok (.iadd, 1) := by decide +kernel
theorem d1_87 : decode method_3_code 87 = .ok (.baload, 1) := by decide +kernel
theorem d1_88 : decode method_3_code 88 = .ok (.sipush 255, 3) := by decide +kernel
theorem d1_91 : decode method_3_code 91 = .ok (.iand, 1) := by decide +kernel
theorem d1_92 : decode method_3_code 92 = .ok (.istore 6, 2) := by decide +kernel
theorem d1_94 : decode method_3_code 94 = .ok (.iload 5, 2) := by decide +kernel
theorem d1_96 : decode method_3_code 96 = .ok (.iconst 3, 1) := by decide +kernel
theorem d1_97 : decode method_3_code 97 = .ok (.if_icmp .lt 15, 3) := by decide +kernel
theorem d1_112 : decode method_3_code 112 = .ok (.sipush 128, 3) := by decide +kernel
theorem d1_115 : decode method_3_code 115 = .ok (.istore 7, 2) := by decide +kernel
theorem d1_117 : decode method_3_code 117 = .ok (.iload 5, 2) := by decide +kernel
theorem d1_119 : decode method_3_code 119 = .ok (.iconst 4, 1) := by decide +kernel
theorem d1_120 : decode method_3_code 120 = .ok (.if_icmp .ne 15, 3) := by decide +kernel
theorem d1_135 : decode method_3_code 135 = .ok (.sipush 128, 3) := by decide +kernel
theorem d1_138 : decode method_3_code 138 = .ok (.istore 8, 2) := by decide +kernel
theorem d1_140 : decode method_3_code 140 = .ok (.iload 6, 2) := by decide +kernel
theorem d1_142 : decode method_3_code 142 = .ok (.sipush 192, 3) := by decide +kernel
theorem d1_145 : decode method_3_code 145 = .ok (.iand, 1) := by decide +kernel
theorem d1_146 : decode method_3_code 146 = .ok (.sipush 128, 3) := by decide +kernel
theorem d1_149 : decode method_3_code 149 = .ok (.if_icmp .ne 31, 3) := by decide +kernel
theorem d1_152 : decode method_3_code 152 = .ok (.iload 7, 2) := by decide +kernel
theorem d1_154 : decode method_3_code 154 = .ok (.sipush 192, 3) := by decide +kernel
theorem d1_157 : decode method_3_code 157 = .ok (.iand, 1) := by decide +kernel
theorem d1_158 : decode method_3_code 158 = .ok (.sipush 128, 3) := by decide +kernel
theorem d1_161 : decode method_3_code 161 = .ok (.if_icmp .ne 19, 3) := by decide +kernel
theorem d1_164 : decode method_3_code 164 = .ok (.iload 8, 2) := by decide +kernel
theorem d1_166 : decode method_3_code 166 = .ok (.sipush 192, 3) := by decide +kernel
theorem d1_169 : decode method_3_code 169 = .ok (.iand, 1) := by decide +kernel
theorem d1_170 : decode method_3_code 170 = .ok (.sipush 128, 3) := by decide +kernel
theorem d1_173 : decode method_3_code 173 = .ok (.if_icmp .ne 7, 3) := by decide +kernel
theorem d1_176 : decode method_3_code 176 = .ok (.iconst 1, 1) := by decide +kernel
theorem d1_177 : decode method_3_code 177 = .ok (.goto 4, 3) := by decide +kernel
theorem d1_180 : decode method_3_code 180 = .ok (.iconst 0, 1) := by decide +kernel
theorem d1_181 : decode method_3_code 181 = .ok (.istore 9, 2) := by decide +kernel
theorem d1_183 : decode method_3_code 183 = .ok (.iload 5, 2) := by decide +kernel
theorem d1_185 : decode method_3_code 185 = .ok (.iconst 2, 1) := by decide +kernel
theorem d1_186 : decode method_3_code 186 = .ok (.if_icmp .ne 27, 3) := by decide +kernel
theorem d1_189 : decode method_3_code 189 = .ok (.iload 4, 2) := by decide +kernel
theorem d1_191 : decode method_3_code 191 = .ok (.bipush 31, 2) := by decide +kernel
theorem d1_193 : decode method_3_code 193 = .ok (.iand, 1) := by decide +kernel
theorem d1_194 : decode method_3_code 194 = .ok (.bipush 6, 2) := by decide +kernel
theorem d1_196 : decode method_3_code 196 = .ok (.ishl, 1) := by decide +kernel
theorem d1_197 : decode method_3_code 197 = .ok (.iload 6, 2) := by decide +kernel
theorem d1_199 : decode method_3_code 199 = .ok (.bipush 63, 2) := by decide +kernel
theorem d1_201 : decode method_3_code 201 = .ok (.iand, 1) := by decide +kernel
theorem d1_202 : decode method_3_code 202 = .ok (.ior, 1) := by decide +kernel
theorem d1_203 : decode method_3_code 203 = .ok (.istore 10, 2) := by decide +kernel
theorem d1_205 : decode method_3_code 205 = .ok (.sipush 128, 3) := by decide +kernel
theorem d1_208 : decode method_3_code 208 = .ok (.istore 11, 2) := by decide +kernel
theorem d1_210 : decode method_3_code 210 = .ok (.goto 80, 3) := by decide +kernel
theorem d1_213 : decode method_3_code 213 = .ok (.iload 5, 2) := by decide +kernel
theorem d1_215 : decode method_3_code 215 = .ok (.iconst 3, 1) := by decide +kernel
theorem d1_216 : decode method_3_code 216 = .ok (.if_icmp .ne 36, 3) := by decide +kernel
theorem d1_219 : decode method_3_code 219 = .ok (.iload 4, 2) := by decide +kernel
theorem d1_221 : decode method_3_code 221 = .ok (.bipush 15, 2) := by decide +kernel
theorem d1_223 : decode method_3_code 223 = .ok (.iand, 1) := by decide +kernel
theorem d1_224 : decode method_3_code 224 = .ok (.bipush 12, 2) := by decide +kernel
theorem d1_226 : decode method_3_code 226 = .ok (.ishl, 1) := by decide +kernel
theorem d1_227 : decode method_3_code 227 = .ok (.iload 6, 2) := by decide +kernel
theorem d1_229 : decode method_3_code 229 = .ok (.bipush 63, 2) := by decide +kernel
theorem d1_231 : decode method_3_code 231 = .ok (.iand, 1) := by decide +kernel
theorem d1_232 : decode method_3_code 232 = .ok (.bipush 6, 2) := by decide +kernel
theorem d1_234 : decode method_3_code 234 = .ok (.ishl, 1) := by decide +kernel
theorem d1_235 : decode method_3_code 235 = .ok (.ior, 1) := by decide +kernel
theorem d1_236 : decode method_3_code 236 = .ok (.iload 7, 2) := by decide +kernel
theorem d1_238 : decode method_3_code 238 = .ok (.bipush 63, 2) := by decide +kernel
theorem d1_240 : decode method_3_code 240 = .ok (.iand, 1) := by decide +kernel
theorem d1_241 : decode method_3_code 241 = .ok (.ior, 1) := by decide +kernel
theorem d1_242 : decode method_3_code 242 = .ok (.istore 10, 2) := by decide +kernel
theorem d1_244 : decode method_3_code 244 = .ok (.sipush 2048, 3) := by decide +kernel
theorem d1_247 : decode method_3_code 247 = .ok (.istore 11, 2) := by decide +kernel
theorem d1_249 : decode method_3_code 249 = .ok (.goto 41, 3) := by decide +kernel
theorem d1_252 : decode method_3_code 252 = .ok (.iload 4, 2) := by decide +kernel
theorem d1_254 : decode method_3_code 254 = .ok (.bipush 7, 2) := by decide +kernel
theorem d1_256 : decode method_3_code 256 = .ok (.iand, 1) := by decide +kernel
theorem d1_257 : decode method_3_code 257 = .ok (.bipush 18, 2) := by decide +kernel
theorem d1_259 : decode method_3_code 259 = .ok (.ishl, 1) := by decide +kernel
theorem d1_260 : decode method_3_code 260 = .ok (.iload 6, 2) := by decide +kernel
theorem d1_262 : decode method_3_code 262 = .ok (.bipush 63, 2) := by decide +kernel
theorem d1_264 : decode method_3_code 264 = .ok (.iand, 1) := by decide +kernel
theorem d1_265 : decode method_3_code 265 = .ok (.bipush 12, 2) := by decide +kernel
theorem d1_267 : decode method_3_code 267 = .ok (.ishl, 1) := by decide +kernel
theorem d1_268 : decode method_3_code 268 = .ok (.ior, 1) := by decide +kernel
theorem d1_269 : decode method_3_code 269 = .ok (.iload 7, 2) := by decide +kernel
theorem d1_271 : decode method_3_code 271 = .ok (.bipush 63, 2) := by decide +kernel
theorem d1_273 : decode method_3_code 273 = .ok (.iand, 1) := by decide +kernel
theorem d1_274 : decode method_3_code 274 = .ok (.bipush 6, 2) := by decide +kernel
theorem d1_276 : decode method_3_code 276 = .ok (.ishl, 1) := by decide +kernel
theorem d1_277 : decode method_3_code 277 = .ok (.ior, 1) := by decide +kernel
theorem d1_278 : decode method_3_code 278 = .ok (.iload 8, 2) := by decide +kernel
theorem d1_280 : decode method_3_code 280 = .ok (.bipush 63, 2) := by decide +kernel
theorem d1_282 : decode method_3_code 282 = .ok (.iand, 1) := by decide +kernel
theorem d1_283 : decode method_3_code 283 = .ok (.ior, 1) := by decide +kernel
theorem d1_284 : decode method_3_code 284 = .ok (.istore 10, 2) := by decide +kernel
theorem d1_286 : decode method_3_code 286 = .ok (.ldc 18, 2) := by decide +kernel
theorem d1_288 : decode method_3_code 288 = .ok (.istore 11, 2) := by decide +kernel
theorem d1_290 : decode method_3_code 290 = .ok (.iload 10, 2) := by decide +kernel
theorem d1_292 : decode method_3_code 292 = .ok (.ldc 19, 2) := by decide +kernel
theorem d1_294 : decode method_3_code 294 = .ok (.if_icmp .lt 14, 3) := by decide +kernel
theorem d1_308 : decode method_3_code 308 = .ok (.iconst 0, 1) := by decide +kernel
theorem d1_297 : decode method_3_code 297 = .ok (.iload 10, 2) := by decide +kernel
theorem d1_299 : decode method_3_code 299 = .ok (.ldc 20, 2) := by decide +kernel
theorem d1_301 : decode method_3_code 301 = .ok (.if_icmp .gt 7, 3) := by decide +kernel
theorem d1_304 : decode method_3_code 304 = .ok (.iconst 1, 1) := by decide +kernel
theorem d1_305 : decode method_3_code 305 = .ok (.goto 4, 3) := by decide +kernel
theorem d1_309 : decode method_3_code 309 = .ok (.istore 12, 2) := by decide +kernel
theorem d1_311 : decode method_3_code 311 = .ok (.iload 9, 2) := by decide +kernel
theorem d1_313 : decode method_3_code 313 = .ok (.ifCond .eq 26, 3) := by decide +kernel
theorem d1_339 : decode method_3_code 339 = .ok (.iconst 0, 1) := by decide +kernel
theorem d1_316 : decode method_3_code 316 = .ok (.iload 10, 2) := by decide +kernel
theorem d1_318 : decode method_3_code 318 = .ok (.iload 11, 2) := by decide +kernel
theorem d1_320 : decode method_3_code 320 = .ok (.if_icmp .lt 19, 3) := by decide +kernel
theorem d1_323 : decode method_3_code 323 = .ok (.iload 10, 2) := by decide +kernel
theorem d1_325 : decode method_3_code 325 = .ok (.ldc 21, 2) := by decide +kernel
theorem d1_327 : decode method_3_code 327 = .ok (.if_icmp .gt 12, 3) := by decide +kernel
theorem d1_330 : decode method_3_code 330 = .ok (.iload 12, 2) := by decide +kernel
theorem d1_332 : decode method_3_code 332 = .ok (.ifCond .ne 7, 3) := by decide +kernel
theorem d1_335 : decode method_3_code 335 = .ok (.iconst 1, 1) := by decide +kernel
theorem d1_336 : decode method_3_code 336 = .ok (.goto 4, 3) := by decide +kernel
theorem d1_340 : decode method_3_code 340 = .ok (.istore 13, 2) := by decide +kernel
theorem d1_342 : decode method_3_code 342 = .ok (.iload 13, 2) := by decide +kernel
theorem d1_344 : decode method_3_code 344 = .ok (.ifCond .eq 8, 3) := by decide +kernel
theorem d1_352 : decode method_3_code 352 = .ok (.iconst 0, 1) := by decide +kernel
theorem d1_347 : decode method_3_code 347 = .ok (.iload 5, 2) := by decide +kernel
theorem d1_349 : decode method_3_code 349 = .ok (.goto 4, 3) := by decide +kernel
theorem d1_353 : decode method_3_code 353 = .ok (.ireturn, 1) := by decide +kernel
theorem d1_100 : decode method_3_code 100 = .ok (.aload_n 0, 1) := by decide +kernel
theorem d1_101 : decode method_3_code 101 = .ok (.iload_n 1, 1) := by decide +kernel
theorem d1_102 : decode method_3_code 102 = .ok (.iconst 2, 1) := by decide +kernel
theorem d1_103 : decode method_3_code 103 = .ok (.iadd, 1) := by decide +kernel
theorem d1_104 : decode method_3_code 104 = .ok (.baload, 1) := by decide +kernel
theorem d1_105 : decode method_3_code 105 = .ok (.sipush 255, 3) := by decide +kernel
theorem d1_108 : decode method_3_code 108 = .ok (.iand, 1) := by decide +kernel
theorem d1_109 : decode method_3_code 109 = .ok (.goto 6, 3) := by decide +kernel
theorem d1_123 : decode method_3_code 123 = .ok (.aload_n 0, 1) := by decide +kernel
theorem d1_124 : decode method_3_code 124 = .ok (.iload_n 1, 1) := by decide +kernel
theorem d1_125 : decode method_3_code 125 = .ok (.iconst 3, 1) := by decide +kernel
theorem d1_126 : decode method_3_code 126 = .ok (.iadd, 1) := by decide +kernel
theorem d1_127 : decode method_3_code 127 = .ok (.baload, 1) := by decide +kernel
theorem d1_128 : decode method_3_code 128 = .ok (.sipush 255, 3) := by decide +kernel
theorem d1_131 : decode method_3_code 131 = .ok (.iand, 1) := by decide +kernel
theorem d1_132 : decode method_3_code 132 = .ok (.goto 6, 3) := by decide +kernel
theorem pn_0 : plainName "com/example/brief_locator/brieflocator/sections/TextOrPetUtf8LengthPinLaw" = true := by first | (simp [plainName, overriddenIn]; done) | decide +kernel
def F_f1 (i1 : Int32) (i2 : Int32) (g : Nat → Int32) : Int32 := (if (f1_22_l5 i1 i2 g) = (0 : Int32) then (0 : Int32) else (if (i2 - i1) < (f1_22_l5 i1 i2 g) then (0 : Int32) else (if (f1_22_l5 i1 i2 g) < (3 : Int32) then (f1_344_s0 i1 i2 g) else (if (f1_22_l5 i1 i2 g) = (4 : Int32) then (f1_344_s0a i1 i2 g) else (f1_344_s0b i1 i2 g)))))
set_option maxRecDepth 65536 in
set_option maxHeartbeats 40000000 in
theorem rm1 (l : Launch) (Z : State) (a0 : Array Value) (hw : ∀ d ∈ tables_1, d.before a0 Z = true) (ws : List Jvm.Cond) (o0 : Addr) (i1 : Int32) (i2 : Int32) (g : Nat → Int32) (h0 : Heap) (n0 : Nat) (A_o0 : AI Z h0 o0 .byte 6 g) (h1 : 0 ≤ i1.toInt ∧ i1.toInt < 6) (h2 : 0 ≤ i2.toInt ∧ i2.toInt ≤ 6) :
    MetFree l (⟨"com/example/brief_locator/brieflocator/sections/TextOrPetUtf8LengthPinLaw", "reference", "([BII)I"⟩ : MethodName) (head1 (Jvm.Cond.code (⟨"com/example/brief_locator/brieflocator/sections/TextOrPetUtf8LengthPinLaw", "reference", "([BII)I"⟩ : MethodName) method_3_code 14 (some .int) :: ws) ({ frames := 0, cells := 0, slots := 0, locals := 0 } : Room)) (fun a U => a = #[(.ref o0), (.int i1), (.int i2)] ∧ Z.Warmed39 U.vm ∧ U.heap = h0) (fun _ _ _ _ _ => True) (fun _ U o U' => ∃ v L, o = .returned v ∧ QR (some (.int (F_f1 i1 i2 g))) h0 n0 v U'.heap L ∧ FrameEnd U o U' L ({ frames := 0, cells := 0, slots := 0, locals := 0 } : Room).cells ({ frames := 0, cells := 0, slots := 0, locals := 0 } : Room).slots) := by
  refine MetFree.of_bodySF (plainFor_of_name pn_0) hisR ?_
  intro p e s m args below meth c s₁ Bd hml0 hP hK
  obtain ⟨rfl, hZ, hh⟩ := hP
  have hx := Bd.exec
  have hby := Bd.bytes
  have hml : c.maxLocals = 14 := hml0
  have hown : s.vm.findClass "com/example/brief_locator/brieflocator/sections/TextOrPetUtf8LengthPinLaw" = some m.cls := findClass_of_methodNamed Bd.named
  have hnm := (name_of_methodNamed Bd.named Bd.method).1
  have hret := Bd.returns
  have hlk : meth.locks = false := BodyLoose.notSynchronized Bd
  have X0 : Stand p l e ({ frames := 0, cells := 0, slots := 0, locals := 0 } : Room) s m #[(.ref o0), (.int i1), (.int i2)] below meth c s₁ [] 0 0 := Stand.of_body Bd
  have e0 : s₁.heap = h0 := by rw [← hh, Bd.state]; rfl
  have N0 := Fr.nil n0
  show Outs p e below s (QR (some (.int (F_f1 i1 i2 g))) h0 n0) _ _ _
  refine Outs.of (U' := s₁.setTop (mkF m 0 #[.val (.ref o0), .val (.int i1), .val (.int i2), .unset, .unset, .unset, .unset, .unset, .unset, .unset, .unset, .unset, .unset, .unset] [])) (fun t k => castTop (ef_1 m o0 i1 i2) k) ?_
  refine Outs.of (U' := s₁.setTop (mkF m 6 #[.val (.ref o0), .val (.int i1), .val (.int i2), .val (.int (i2 - i1)), .unset, .unset, .unset, .unset, .unset, .unset, .unset, .unset, .unset, .unset] [(.int i1), (.ref o0)])) (fun t k => ?_) ?_
  · refine XS.iloadN X0.here hx rfl (hb hby d1_0) rfl ?_
    show Steps p.tables e below (s₁.setTop (mkF m 1 #[.val (.ref o0), .val (.int i1), .val (.int i2), .unset, .unset, .unset, .unset, .unset, .unset, .unset, .unset, .unset, .unset, .unset] [(.int i2)])) _
    refine XS.iloadN X0.here hx rfl (hb hby d1_1) rfl ?_
    show Steps p.tables e below (s₁.setTop (mkF m 2 #[.val (.ref o0), .val (.int i1), .val (.int i2), .unset, .unset, .unset, .unset, .unset, .unset, .unset, .unset, .unset, .unset, .unset] [(.int i1), (.int i2)])) _
    refine XS.isub X0.here hx rfl (hb hby d1_2) rfl ?_
    show Steps p.tables e below (s₁.setTop (mkF m 3 #[.val (.ref o0), .val (.int i1), .val (.int i2), .unset, .unset, .unset, .unset, .unset, .unset, .unset, .unset, .unset, .unset, .unset] [(.int (i2 - i1))])) _
    refine XS.istoreN X0.here hx rfl (hb hby d1_3) rfl (l' := #[.val (.ref o0), .val (.int i1), .val (.int i2), .val (.int (i2 - i1)), .unset, .unset, .unset, .unset, .unset, .unset, .unset, .unset, .unset, .unset]) rfl ?_
    show Steps p.tables e below (s₁.setTop (mkF m 4 #[.val (.ref o0), .val (.int i1), .val (.int i2), .val (.int (i2 - i1)), .unset, .unset, .unset, .unset, .unset, .unset, .unset, .unset, .unset, .unset] [])) _
    refine XS.aloadN X0.here hx rfl (hb hby d1_4) rfl rfl ?_
    show Steps p.tables e below (s₁.setTop (mkF m 5 #[.val (.ref o0), .val (.int i1), .val (.int i2), .val (.int (i2 - i1)), .unset, .unset, .unset, .unset, .unset, .unset, .unset, .unset, .unset, .unset] [(.ref o0)])) _
    refine XS.iloadN X0.here hx rfl (hb hby d1_5) rfl ?_
    show Steps p.tables e below (s₁.setTop (mkF m 6 #[.val (.ref o0), .val (.int i1), .val (.int i2), .val (.int (i2 - i1)), .unset, .unset, .unset, .unset, .unset, .unset, .unset, .unset, .unset, .unset] [(.int i1), (.ref o0)])) _
    exact k
  refine Outs.of (ldB X0 hx hZ e0 A_o0 (j := i1) (k := (nat i1)) (own_hk (h1).1) (own_hn (h1).1 (h1).2) (f := (mkF m 6 #[.val (.ref o0), .val (.int i1), .val (.int i2), .val (.int (i2 - i1)), .unset, .unset, .unset, .unset, .unset, .unset, .unset, .unset, .unset, .unset] [(.int i1), (.ref o0)])) rfl rfl (hb hby d1_6)) ?_
  show Outs p e below s _ _ _ (s₁.setTop (mkF m 7 #[.val (.ref o0), .val (.int i1), .val (.int i2), .val (.int (i2 - i1)), .unset, .unset, .unset, .unset, .unset, .unset, .unset, .unset, .unset, .unset] [(.int (g ((nat i1))))]))
  refine Outs.of (U' := s₁.setTop (mkF m 70 #[.val (.ref o0), .val (.int i1), .val (.int i2), .val (.int (i2 - i1)), .val (.int ((g ((nat i1))) &&& (255 : Int32))), .val (.int (f1_22_l5 i1 i2 g)), .unset, .unset, .unset, .unset, .unset, .unset, .unset, .unset] [])) (fun t k => ?_) ?_
  · refine XS.sipush X0.here hx rfl (hb hby d1_7) ?_
    show Steps p.tables e below (s₁.setTop (mkF m 10 #[.val (.ref o0), .val (.int i1), .val (.int i2), .val (.int (i2 - i1)), .unset, .unset, .unset, .unset, .unset, .unset, .unset, .unset, .unset, .unset] [(.int (255 : Int32)), (.int (g ((nat i1))))])) _
    refine XS.iand X0.here hx rfl (hb hby d1_10) rfl ?_
    show Steps p.tables e below (s₁.setTop (mkF m 11 #[.val (.ref o0), .val (.int i1), .val (.int i2), .val (.int (i2 - i1)), .unset, .unset, .unset, .unset, .unset, .unset, .unset, .unset, .unset, .unset] [(.int ((g ((nat i1))) &&& (255 : Int32)))])) _
    refine XS.istore X0.here hx rfl (hb hby d1_11) rfl (l' := #[.val (.ref o0), .val (.int i1), .val (.int i2), .val (.int (i2 - i1)), .val (.int ((g ((nat i1))) &&& (255 : Int32))), .unset, .unset, .unset, .unset, .unset, .unset, .unset, .unset, .unset]) rfl ?_
    show Steps p.tables e below (s₁.setTop (mkF m 13 #[.val (.ref o0), .val (.int i1), .val (.int i2), .val (.int (i2 - i1)), .val (.int ((g ((nat i1))) &&& (255 : Int32))), .unset, .unset, .unset, .unset, .unset, .unset, .unset, .unset, .unset] [])) _
    refine XS.iload X0.here hx rfl (hb hby d1_13) rfl ?_
    show Steps p.tables e below (s₁.setTop (mkF m 15 #[.val (.ref o0), .val (.int i1), .val (.int i2), .val (.int (i2 - i1)), .val (.int ((g ((nat i1))) &&& (255 : Int32))), .unset, .unset, .unset, .unset, .unset, .unset, .unset, .unset, .unset] [(.int ((g ((nat i1))) &&& (255 : Int32)))])) _
    refine XS.sipush X0.here hx rfl (hb hby d1_15) ?_
    show Steps p.tables e below (s₁.setTop (mkF m 18 #[.val (.ref o0), .val (.int i1), .val (.int i2), .val (.int (i2 - i1)), .val (.int ((g ((nat i1))) &&& (255 : Int32))), .unset, .unset, .unset, .unset, .unset, .unset, .unset, .unset, .unset] [(.int (224 : Int32)), (.int ((g ((nat i1))) &&& (255 : Int32)))])) _
    refine XS.iand X0.here hx rfl (hb hby d1_18) rfl ?_
    show Steps p.tables e below (s₁.setTop (mkF m 19 #[.val (.ref o0), .val (.int i1), .val (.int i2), .val (.int (i2 - i1)), .val (.int ((g ((nat i1))) &&& (255 : Int32))), .unset, .unset, .unset, .unset, .unset, .unset, .unset, .unset, .unset] [(.int (((g ((nat i1))) &&& (255 : Int32)) &&& (224 : Int32)))])) _
    refine XS.sipush X0.here hx rfl (hb hby d1_19) ?_
    show Steps p.tables e below (s₁.setTop (mkF m 22 #[.val (.ref o0), .val (.int i1), .val (.int i2), .val (.int (i2 - i1)), .val (.int ((g ((nat i1))) &&& (255 : Int32))), .unset, .unset, .unset, .unset, .unset, .unset, .unset, .unset, .unset] [(.int (192 : Int32)), (.int (((g ((nat i1))) &&& (255 : Int32)) &&& (224 : Int32)))])) _
    by_cases hc22 : (((g ((nat i1))) &&& (255 : Int32)) &&& (224 : Int32)) = (192 : Int32)
    · refine XS.icmpNo X0.here hx rfl (hb hby d1_22) rfl (teq hc22).2 ?_
      show Steps p.tables e below (s₁.setTop (mkF m 25 #[.val (.ref o0), .val (.int i1), .val (.int i2), .val (.int (i2 - i1)), .val (.int ((g ((nat i1))) &&& (255 : Int32))), .unset, .unset, .unset, .unset, .unset, .unset, .unset, .unset, .unset] [])) _
      refine XS.iconst X0.here hx rfl (hb hby d1_25) ?_
      show Steps p.tables e below (s₁.setTop (mkF m 26 #[.val (.ref o0), .val (.int i1), .val (.int i2), .val (.int (i2 - i1)), .val (.int ((g ((nat i1))) &&& (255 : Int32))), .unset, .unset, .unset, .unset, .unset, .unset, .unset, .unset, .unset] [(.int (2 : Int32))])) _
      refine XS.istore X0.here hx rfl (hb hby d1_26) rfl (l' := #[.val (.ref o0), .val (.int i1), .val (.int i2), .val (.int (i2 - i1)), .val (.int ((g ((nat i1))) &&& (255 : Int32))), .val (.int (2 : Int32)), .unset, .unset, .unset, .unset, .unset, .unset, .unset, .unset]) rfl ?_
      show Steps p.tables e below (s₁.setTop (mkF m 28 #[.val (.ref o0), .val (.int i1), .val (.int i2), .val (.int (i2 - i1)), .val (.int ((g ((nat i1))) &&& (255 : Int32))), .val (.int (2 : Int32)), .unset, .unset, .unset, .unset, .unset, .unset, .unset, .unset] [])) _
      refine XS.goto X0.here hx rfl (pc0 := 28) (pc' := 70) rfl (hb hby d1_28) (by decide) (by decide) ?_
      show Steps p.tables e below (s₁.setTop (mkF m 70 #[.val (.ref o0), .val (.int i1), .val (.int i2), .val (.int (i2 - i1)), .val (.int ((g ((nat i1))) &&& (255 : Int32))), .val (.int (2 : Int32)), .unset, .unset, .unset, .unset, .unset, .unset, .unset, .unset] [])) _
      rw [show (f1_22_l5 i1 i2 g) = (2 : Int32) from (if_pos hc22)] at k
      exact k
    · refine XS.icmpYes X0.here hx rfl (pc0 := 22) (pc' := 31) rfl (hb hby d1_22) rfl (feq hc22).2 (by decide) (by decide) ?_
      show Steps p.tables e below (s₁.setTop (mkF m 31 #[.val (.ref o0), .val (.int i1), .val (.int i2), .val (.int (i2 - i1)), .val (.int ((g ((nat i1))) &&& (255 : Int32))), .unset, .unset, .unset, .unset, .unset, .unset, .unset, .unset, .unset] [])) _
      refine XS.iload X0.here hx rfl (hb hby d1_31) rfl ?_
      show Steps p.tables e below (s₁.setTop (mkF m 33 #[.val (.ref o0), .val (.int i1), .val (.int i2), .val (.int (i2 - i1)), .val (.int ((g ((nat i1))) &&& (255 : Int32))), .unset, .unset, .unset, .unset, .unset, .unset, .unset, .unset, .unset] [(.int ((g ((nat i1))) &&& (255 : Int32)))])) _
      refine XS.sipush X0.here hx rfl (hb hby d1_33) ?_
      show Steps p.tables e below (s₁.setTop (mkF m 36 #[.val (.ref o0), .val (.int i1), .val (.int i2), .val (.int (i2 - i1)), .val (.int ((g ((nat i1))) &&& (255 : Int32))), .unset, .unset, .unset, .unset, .unset, .unset, .unset, .unset, .unset] [(.int (240 : Int32)), (.int ((g ((nat i1))) &&& (255 : Int32)))])) _
      refine XS.iand X0.here hx rfl (hb hby d1_36) rfl ?_
      show Steps p.tables e below (s₁.setTop (mkF m 37 #[.val (.ref o0), .val (.int i1), .val (.int i2), .val (.int (i2 - i1)), .val (.int ((g ((nat i1))) &&& (255 : Int32))), .unset, .unset, .unset, .unset, .unset, .unset, .unset, .unset, .unset] [(.int (((g ((nat i1))) &&& (255 : Int32)) &&& (240 : Int32)))])) _
      refine XS.sipush X0.here hx rfl (hb hby d1_37) ?_
      show Steps p.tables e below (s₁.setTop (mkF m 40 #[.val (.ref o0), .val (.int i1), .val (.int i2), .val (.int (i2 - i1)), .val (.int ((g ((nat i1))) &&& (255 : Int32))), .unset, .unset, .unset, .unset, .unset, .unset, .unset, .unset, .unset] [(.int (224 : Int32)), (.int (((g ((nat i1))) &&& (255 : Int32)) &&& (240 : Int32)))])) _
      by_cases hc40 : (((g ((nat i1))) &&& (255 : Int32)) &&& (240 : Int32)) = (224 : Int32)
      · refine XS.icmpNo X0.here hx rfl (hb hby d1_40) rfl (teq hc40).2 ?_
        show Steps p.tables e below (s₁.setTop (mkF m 43 #[.val (.ref o0), .val (.int i1), .val (.int i2), .val (.int (i2 - i1)), .val (.int ((g ((nat i1))) &&& (255 : Int32))), .unset, .unset, .unset, .unset, .unset, .unset, .unset, .unset, .unset] [])) _
        refine XS.iconst X0.here hx rfl (hb hby d1_43) ?_
        show Steps p.tables e below (s₁.setTop (mkF m 44 #[.val (.ref o0), .val (.int i1), .val (.int i2), .val (.int (i2 - i1)), .val (.int ((g ((nat i1))) &&& (255 : Int32))), .unset, .unset, .unset, .unset, .unset, .unset, .unset, .unset, .unset] [(.int (3 : Int32))])) _
        refine XS.istore X0.here hx rfl (hb hby d1_44) rfl (l' := #[.val (.ref o0), .val (.int i1), .val (.int i2), .val (.int (i2 - i1)), .val (.int ((g ((nat i1))) &&& (255 : Int32))), .val (.int (3 : Int32)), .unset, .unset, .unset, .unset, .unset, .unset, .unset, .unset]) rfl ?_
        show Steps p.tables e below (s₁.setTop (mkF m 46 #[.val (.ref o0), .val (.int i1), .val (.int i2), .val (.int (i2 - i1)), .val (.int ((g ((nat i1))) &&& (255 : Int32))), .val (.int (3 : Int32)), .unset, .unset, .unset, .unset, .unset, .unset, .unset, .unset] [])) _
        refine XS.goto X0.here hx rfl (pc0 := 46) (pc' := 70) rfl (hb hby d1_46) (by decide) (by decide) ?_
        show Steps p.tables e below (s₁.setTop (mkF m 70 #[.val (.ref o0), .val (.int i1), .val (.int i2), .val (.int (i2 - i1)), .val (.int ((g ((nat i1))) &&& (255 : Int32))), .val (.int (3 : Int32)), .unset, .unset, .unset, .unset, .unset, .unset, .unset, .unset] [])) _
        rw [show (f1_22_l5 i1 i2 g) = (3 : Int32) from ((if_neg hc22).trans (if_pos hc40))] at k
        exact k
      · refine XS.icmpYes X0.here hx rfl (pc0 := 40) (pc' := 49) rfl (hb hby d1_40) rfl (feq hc40).2 (by decide) (by decide) ?_
        show Steps p.tables e below (s₁.setTop (mkF m 49 #[.val (.ref o0), .val (.int i1), .val (.int i2), .val (.int (i2 - i1)), .val (.int ((g ((nat i1))) &&& (255 : Int32))), .unset, .unset, .unset, .unset, .unset, .unset, .unset, .unset, .unset] [])) _
        refine XS.iload X0.here hx rfl (hb hby d1_49) rfl ?_
        show Steps p.tables e below (s₁.setTop (mkF m 51 #[.val (.ref o0), .val (.int i1), .val (.int i2), .val (.int (i2 - i1)), .val (.int ((g ((nat i1))) &&& (255 : Int32))), .unset, .unset, .unset, .unset, .unset, .unset, .unset, .unset, .unset] [(.int ((g ((nat i1))) &&& (255 : Int32)))])) _
        refine XS.sipush X0.here hx rfl (hb hby d1_51) ?_
        show Steps p.tables e below (s₁.setTop (mkF m 54 #[.val (.ref o0), .val (.int i1), .val (.int i2), .val (.int (i2 - i1)), .val (.int ((g ((nat i1))) &&& (255 : Int32))), .unset, .unset, .unset, .unset, .unset, .unset, .unset, .unset, .unset] [(.int (248 : Int32)), (.int ((g ((nat i1))) &&& (255 : Int32)))])) _
        refine XS.iand X0.here hx rfl (hb hby d1_54) rfl ?_
        show Steps p.tables e below (s₁.setTop (mkF m 55 #[.val (.ref o0), .val (.int i1), .val (.int i2), .val (.int (i2 - i1)), .val (.int ((g ((nat i1))) &&& (255 : Int32))), .unset, .unset, .unset, .unset, .unset, .unset, .unset, .unset, .unset] [(.int (((g ((nat i1))) &&& (255 : Int32)) &&& (248 : Int32)))])) _
        refine XS.sipush X0.here hx rfl (hb hby d1_55) ?_
        show Steps p.tables e below (s₁.setTop (mkF m 58 #[.val (.ref o0), .val (.int i1), .val (.int i2), .val (.int (i2 - i1)), .val (.int ((g ((nat i1))) &&& (255 : Int32))), .unset, .unset, .unset, .unset, .unset, .unset, .unset, .unset, .unset] [(.int (240 : Int32)), (.int (((g ((nat i1))) &&& (255 : Int32)) &&& (248 : Int32)))])) _
        by_cases hc58 : (((g ((nat i1))) &&& (255 : Int32)) &&& (248 : Int32)) = (240 : Int32)
        · refine XS.icmpNo X0.here hx rfl (hb hby d1_58) rfl (teq hc58).2 ?_
          show Steps p.tables e below (s₁.setTop (mkF m 61 #[.val (.ref o0), .val (.int i1), .val (.int i2), .val (.int (i2 - i1)), .val (.int ((g ((nat i1))) &&& (255 : Int32))), .unset, .unset, .unset, .unset, .unset, .unset, .unset, .unset, .unset] [])) _
          refine XS.iconst X0.here hx rfl (hb hby d1_61) ?_
          show Steps p.tables e below (s₁.setTop (mkF m 62 #[.val (.ref o0), .val (.int i1), .val (.int i2), .val (.int (i2 - i1)), .val (.int ((g ((nat i1))) &&& (255 : Int32))), .unset, .unset, .unset, .unset, .unset, .unset, .unset, .unset, .unset] [(.int (4 : Int32))])) _
          refine XS.istore X0.here hx rfl (hb hby d1_62) rfl (l' := #[.val (.ref o0), .val (.int i1), .val (.int i2), .val (.int (i2 - i1)), .val (.int ((g ((nat i1))) &&& (255 : Int32))), .val (.int (4 : Int32)), .unset, .unset, .unset, .unset, .unset, .unset, .unset, .unset]) rfl ?_
          show Steps p.tables e below (s₁.setTop (mkF m 64 #[.val (.ref o0), .val (.int i1), .val (.int i2), .val (.int (i2 - i1)), .val (.int ((g ((nat i1))) &&& (255 : Int32))), .val (.int (4 : Int32)), .unset, .unset, .unset, .unset, .unset, .unset, .unset, .unset] [])) _
          refine XS.goto X0.here hx rfl (pc0 := 64) (pc' := 70) rfl (hb hby d1_64) (by decide) (by decide) ?_
          show Steps p.tables e below (s₁.setTop (mkF m 70 #[.val (.ref o0), .val (.int i1), .val (.int i2), .val (.int (i2 - i1)), .val (.int ((g ((nat i1))) &&& (255 : Int32))), .val (.int (4 : Int32)), .unset, .unset, .unset, .unset, .unset, .unset, .unset, .unset] [])) _
          rw [show (f1_22_l5 i1 i2 g) = (4 : Int32) from ((if_neg hc22).trans ((if_neg hc40).trans (if_pos hc58)))] at k
          exact k
        · refine XS.icmpYes X0.here hx rfl (pc0 := 58) (pc' := 67) rfl (hb hby d1_58) rfl (feq hc58).2 (by decide) (by decide) ?_
          show Steps p.tables e below (s₁.setTop (mkF m 67 #[.val (.ref o0), .val (.int i1), .val (.int i2), .val (.int (i2 - i1)), .val (.int ((g ((nat i1))) &&& (255 : Int32))), .unset, .unset, .unset, .unset, .unset, .unset, .unset, .unset, .unset] [])) _
          refine XS.iconst X0.here hx rfl (hb hby d1_67) ?_
          show Steps p.tables e below (s₁.setTop (mkF m 68 #[.val (.ref o0), .val (.int i1), .val (.int i2), .val (.int (i2 - i1)), .val (.int ((g ((nat i1))) &&& (255 : Int32))), .unset, .unset, .unset, .unset, .unset, .unset, .unset, .unset, .unset] [(.int (0 : Int32))])) _
          refine XS.istore X0.here hx rfl (hb hby d1_68) rfl (l' := #[.val (.ref o0), .val (.int i1), .val (.int i2), .val (.int (i2 - i1)), .val (.int ((g ((nat i1))) &&& (255 : Int32))), .val (.int (0 : Int32)), .unset, .unset, .unset, .unset, .unset, .unset, .unset, .unset]) rfl ?_
          show Steps p.tables e below (s₁.setTop (mkF m 70 #[.val (.ref o0), .val (.int i1), .val (.int i2), .val (.int (i2 - i1)), .val (.int ((g ((nat i1))) &&& (255 : Int32))), .val (.int (0 : Int32)), .unset, .unset, .unset, .unset, .unset, .unset, .unset, .unset] [])) _
          rw [show (f1_22_l5 i1 i2 g) = (0 : Int32) from ((if_neg hc22).trans ((if_neg hc40).trans (if_neg hc58)))] at k
          exact k
  refine Outs.of (U' := s₁.setTop (mkF m 72 #[.val (.ref o0), .val (.int i1), .val (.int i2), .val (.int (i2 - i1)), .val (.int ((g ((nat i1))) &&& (255 : Int32))), .val (.int (f1_22_l5 i1 i2 g)), .unset, .unset, .unset, .unset, .unset, .unset, .unset, .unset] [(.int (f1_22_l5 i1 i2 g))])) (fun t k => ?_) ?_
  · refine XS.iload X0.here hx rfl (hb hby d1_70) rfl ?_
    show Steps p.tables e below (s₁.setTop (mkF m 72 #[.val (.ref o0), .val (.int i1), .val (.int i2), .val (.int (i2 - i1)), .val (.int ((g ((nat i1))) &&& (255 : Int32))), .val (.int (f1_22_l5 i1 i2 g)), .unset, .unset, .unset, .unset, .unset, .unset, .unset, .unset] [(.int (f1_22_l5 i1 i2 g))])) _
    exact k
  by_cases hc72 : (f1_22_l5 i1 i2 g) = (0 : Int32)
  · refine Outs.of (U' := s₁.setTop (mkF m 81 #[.val (.ref o0), .val (.int i1), .val (.int i2), .val (.int (i2 - i1)), .val (.int ((g ((nat i1))) &&& (255 : Int32))), .val (.int (f1_22_l5 i1 i2 g)), .unset, .unset, .unset, .unset, .unset, .unset, .unset, .unset] [])) (fun t k => ?_) ?_
    · refine XS.ifYes X0.here hx rfl (pc0 := 72) (pc' := 81) rfl (hb hby d1_72) rfl ((if0 _ _).trans (teq hc72).1) (by decide) (by decide) ?_
      show Steps p.tables e below (s₁.setTop (mkF m 81 #[.val (.ref o0), .val (.int i1), .val (.int i2), .val (.int (i2 - i1)), .val (.int ((g ((nat i1))) &&& (255 : Int32))), .val (.int (f1_22_l5 i1 i2 g)), .unset, .unset, .unset, .unset, .unset, .unset, .unset, .unset] [])) _
      exact k
    refine Outs.of (U' := s₁.setTop (mkF m 82 #[.val (.ref o0), .val (.int i1), .val (.int i2), .val (.int (i2 - i1)), .val (.int ((g ((nat i1))) &&& (255 : Int32))), .val (.int (f1_22_l5 i1 i2 g)), .unset, .unset, .unset, .unset, .unset, .unset, .unset, .unset] [(.int (0 : Int32))])) (fun t k => ?_) ?_
    · refine XS.iconst X0.here hx rfl (hb hby d1_81) ?_
      show Steps p.tables e below (s₁.setTop (mkF m 82 #[.val (.ref o0), .val (.int i1), .val (.int i2), .val (.int (i2 - i1)), .val (.int ((g ((nat i1))) &&& (255 : Int32))), .val (.int (f1_22_l5 i1 i2 g)), .unset, .unset, .unset, .unset, .unset, .unset, .unset, .unset] [(.int (0 : Int32))])) _
      exact k
    exact Outs.retI X0 hx hret (hb hby d1_82) hlk (by decide) (by decide) e0 ⟨congrArg (fun z_ => some (Value.int z_)) (show (F_f1 i1 i2 g) = (0 : Int32) from (if_pos hc72)).symm, N0, rfl⟩
  · refine Outs.of (U' := s₁.setTop (mkF m 75 #[.val (.ref o0), .val (.int i1), .val (.int i2), .val (.int (i2 - i1)), .val (.int ((g ((nat i1))) &&& (255 : Int32))), .val (.int (f1_22_l5 i1 i2 g)), .unset, .unset, .unset, .unset, .unset, .unset, .unset, .unset] [])) (fun t k => ?_) ?_
    · refine XS.ifNo X0.here hx rfl (hb hby d1_72) rfl ((if0 _ _).trans (feq hc72).1) ?_
      show Steps p.tables e below (s₁.setTop (mkF m 75 #[.val (.ref o0), .val (.int i1), .val (.int i2), .val (.int (i2 - i1)), .val (.int ((g ((nat i1))) &&& (255 : Int32))), .val (.int (f1_22_l5 i1 i2 g)), .unset, .unset, .unset, .unset, .unset, .unset, .unset, .unset] [])) _
      exact k
    refine Outs.of (U' := s₁.setTop (mkF m 78 #[.val (.ref o0), .val (.int i1), .val (.int i2), .val (.int (i2 - i1)), .val (.int ((g ((nat i1))) &&& (255 : Int32))), .val (.int (f1_22_l5 i1 i2 g)), .unset, .unset, .unset, .unset, .unset, .unset, .unset, .unset] [(.int (f1_22_l5 i1 i2 g)), (.int (i2 - i1))])) (fun t k => ?_) ?_
    · refine XS.iloadN X0.here hx rfl (hb hby d1_75) rfl ?_
      show Steps p.tables e below (s₁.setTop (mkF m 76 #[.val (.ref o0), .val (.int i1), .val (.int i2), .val (.int (i2 - i1)), .val (.int ((g ((nat i1))) &&& (255 : Int32))), .val (.int (f1_22_l5 i1 i2 g)), .unset, .unset, .unset, .unset, .unset, .unset, .unset, .unset] [(.int (i2 - i1))])) _
      refine XS.iload X0.here hx rfl (hb hby d1_76) rfl ?_
      show Steps p.tables e below (s₁.setTop (mkF m 78 #[.val (.ref o0), .val (.int i1), .val (.int i2), .val (.int (i2 - i1)), .val (.int ((g ((nat i1))) &&& (255 : Int32))), .val (.int (f1_22_l5 i1 i2 g)), .unset, .unset, .unset, .unset, .unset, .unset, .unset, .unset] [(.int (f1_22_l5 i1 i2 g)), (.int (i2 - i1))])) _
      exact k
    by_cases hc78 : (i2 - i1) < (f1_22_l5 i1 i2 g)
    · refine Outs.of (U' := s₁.setTop (mkF m 81 #[.val (.ref o0), .val (.int i1), .val (.int i2), .val (.int (i2 - i1)), .val (.int ((g ((nat i1))) &&& (255 : Int32))), .val (.int (f1_22_l5 i1 i2 g)), .unset, .unset, .unset, .unset, .unset, .unset, .unset, .unset] [])) (fun t k => ?_) ?_
      · refine XS.icmpNo X0.here hx rfl (hb hby d1_78) rfl (tlt hc78).2.1 ?_
        show Steps p.tables e below (s₁.setTop (mkF m 81 #[.val (.ref o0), .val (.int i1), .val (.int i2), .val (.int (i2 - i1)), .val (.int ((g ((nat i1))) &&& (255 : Int32))), .val (.int (f1_22_l5 i1 i2 g)), .unset, .unset, .unset, .unset, .unset, .unset, .unset, .unset] [])) _
        exact k
      refine Outs.of (U' := s₁.setTop (mkF m 82 #[.val (.ref o0), .val (.int i1), .val (.int i2), .val (.int (i2 - i1)), .val (.int ((g ((nat i1))) &&& (255 : Int32))), .val (.int (f1_22_l5 i1 i2 g)), .unset, .unset, .unset, .unset, .unset, .unset, .unset, .unset] [(.int (0 : Int32))])) (fun t k => ?_) ?_
      · refine XS.iconst X0.here hx rfl (hb hby d1_81) ?_
        show Steps p.tables e below (s₁.setTop (mkF m 82 #[.val (.ref o0), .val (.int i1), .val (.int i2), .val (.int (i2 - i1)), .val (.int ((g ((nat i1))) &&& (255 : Int32))), .val (.int (f1_22_l5 i1 i2 g)), .unset, .unset, .unset, .unset, .unset, .unset, .unset, .unset] [(.int (0 : Int32))])) _
        exact k
      exact Outs.retI X0 hx hret (hb hby d1_82) hlk (by decide) (by decide) e0 ⟨congrArg (fun z_ => some (Value.int z_)) (show (F_f1 i1 i2 g) = (0 : Int32) from ((if_neg hc72).trans (if_pos hc78))).symm, N0, rfl⟩
    · refine Outs.of (U' := s₁.setTop (mkF m 83 #[.val (.ref o0), .val (.int i1), .val (.int i2), .val (.int (i2 - i1)), .val (.int ((g ((nat i1))) &&& (255 : Int32))), .val (.int (f1_22_l5 i1 i2 g)), .unset, .unset, .unset, .unset, .unset, .unset, .unset, .unset] [])) (fun t k => ?_) ?_
      · refine XS.icmpYes X0.here hx rfl (pc0 := 78) (pc' := 83) rfl (hb hby d1_78) rfl (flt hc78).2.1 (by decide) (by decide) ?_
        show Steps p.tables e below (s₁.setTop (mkF m 83 #[.val (.ref o0), .val (.int i1), .val (.int i2), .val (.int (i2 - i1)), .val (.int ((g ((nat i1))) &&& (255 : Int32))), .val (.int (f1_22_l5 i1 i2 g)), .unset, .unset, .unset, .unset, .unset, .unset, .unset, .unset] [])) _
        exact k
      refine Outs.of (U' := s₁.setTop (mkF m 87 #[.val (.ref o0), .val (.int i1), .val (.int i2), .val (.int (i2 - i1)), .val (.int ((g ((nat i1))) &&& (255 : Int32))), .val (.int (f1_22_l5 i1 i2 g)), .unset, .unset, .unset, .unset, .unset, .unset, .unset, .unset] [(.int (i1 + (1 : Int32))), (.ref o0)])) (fun t k => ?_) ?_
      · refine XS.aloadN X0.here hx rfl (hb hby d1_83) rfl rfl ?_
        show Steps p.tables e below (s₁.setTop (mkF m 84 #[.val (.ref o0), .val (.int i1), .val (.int i2), .val (.int (i2 - i1)), .val (.int ((g ((nat i1))) &&& (255 : Int32))), .val (.int (f1_22_l5 i1 i2 g)), .unset, .unset, .unset, .unset, .unset, .unset, .unset, .unset] [(.ref o0)])) _
        refine XS.iloadN X0.here hx rfl (hb hby d1_84) rfl ?_
        show Steps p.tables e below (s₁.setTop (mkF m 85 #[.val (.ref o0), .val (.int i1), .val (.int i2), .val (.int (i2 - i1)), .val (.int ((g ((nat i1))) &&& (255 : Int32))), .val (.int (f1_22_l5 i1 i2 g)), .unset, .unset, .unset, .unset, .unset, .unset, .unset, .unset] [(.int i1), (.ref o0)])) _
        refine XS.iconst X0.here hx rfl (hb hby d1_85) ?_
        show Steps p.tables e below (s₁.setTop (mkF m 86 #[.val (.ref o0), .val (.int i1), .val (.int i2), .val (.int (i2 - i1)), .val (.int ((g ((nat i1))) &&& (255 : Int32))), .val (.int (f1_22_l5 i1 i2 g)), .unset, .unset, .unset, .unset, .unset, .unset, .unset, .unset] [(.int (1 : Int32)), (.int i1), (.ref o0)])) _
        refine XS.iadd X0.here hx rfl (hb hby d1_86) rfl ?_
        show Steps p.tables e below (s₁.setTop (mkF m 87 #[.val (.ref o0), .val (.int i1), .val (.int i2), .val (.int (i2 - i1)), .val (.int ((g ((nat i1))) &&& (255 : Int32))), .val (.int (f1_22_l5 i1 i2 g)), .unset, .unset, .unset, .unset, .unset, .unset, .unset, .unset] [(.int (i1 + (1 : Int32))), (.ref o0)])) _
        exact k
      refine Outs.of (ldB X0 hx hZ e0 A_o0 (j := (i1 + (1 : Int32))) (k := (nat (i1 + (1 : Int32)))) (own_hk (ixr1 i1 i2 g h1 h2 hc72 hc78 ).1) (own_hn (ixr1 i1 i2 g h1 h2 hc72 hc78 ).1 (ixr1 i1 i2 g h1 h2 hc72 hc78 ).2) (f := (mkF m 87 #[.val (.ref o0), .val (.int i1), .val (.int i2), .val (.int (i2 - i1)), .val (.int ((g ((nat i1))) &&& (255 : Int32))), .val (.int (f1_22_l5 i1 i2 g)), .unset, .unset, .unset, .unset, .unset, .unset, .unset, .unset] [(.int (i1 + (1 : Int32))), (.ref o0)])) rfl rfl (hb hby d1_87)) ?_
      show Outs p e below s _ _ _ (s₁.setTop (mkF m 88 #[.val (.ref o0), .val (.int i1), .val (.int i2), .val (.int (i2 - i1)), .val (.int ((g ((nat i1))) &&& (255 : Int32))), .val (.int (f1_22_l5 i1 i2 g)), .unset, .unset, .unset, .unset, .unset, .unset, .unset, .unset] [(.int (g ((nat (i1 + (1 : Int32))))))]))
      refine Outs.of (U' := s₁.setTop (mkF m 97 #[.val (.ref o0), .val (.int i1), .val (.int i2), .val (.int (i2 - i1)), .val (.int ((g ((nat i1))) &&& (255 : Int32))), .val (.int (f1_22_l5 i1 i2 g)), .val (.int ((g ((nat (i1 + (1 : Int32))))) &&& (255 : Int32))), .unset, .unset, .unset, .unset, .unset, .unset, .unset] [(.int (3 : Int32)), (.int (f1_22_l5 i1 i2 g))])) (fun t k => ?_) ?_
      · refine XS.sipush X0.here hx rfl (hb hby d1_88) ?_
        show Steps p.tables e below (s₁.setTop (mkF m 91 #[.val (.ref o0), .val (.int i1), .val (.int i2), .val (.int (i2 - i1)), .val (.int ((g ((nat i1))) &&& (255 : Int32))), .val (.int (f1_22_l5 i1 i2 g)), .unset, .unset, .unset, .unset, .unset, .unset, .unset, .unset] [(.int (255 : Int32)), (.int (g ((nat (i1 + (1 : Int32))))))])) _
        refine XS.iand X0.here hx rfl (hb hby d1_91) rfl ?_
        show Steps p.tables e below (s₁.setTop (mkF m 92 #[.val (.ref o0), .val (.int i1), .val (.int i2), .val (.int (i2 - i1)), .val (.int ((g ((nat i1))) &&& (255 : Int32))), .val (.int (f1_22_l5 i1 i2 g)), .unset, .unset, .unset, .unset, .unset, .unset, .unset, .unset] [(.int ((g ((nat (i1 + (1 : Int32))))) &&& (255 : Int32)))])) _
        refine XS.istore X0.here hx rfl (hb hby d1_92) rfl (l' := #[.val (.ref o0), .val (.int i1), .val (.int i2), .val (.int (i2 - i1)), .val (.int ((g ((nat i1))) &&& (255 : Int32))), .val (.int (f1_22_l5 i1 i2 g)), .val (.int ((g ((nat (i1 + (1 : Int32))))) &&& (255 : Int32))), .unset, .unset, .unset, .unset, .unset, .unset, .unset]) rfl ?_
        show Steps p.tables e below (s₁.setTop (mkF m 94 #[.val (.ref o0), .val (.int i1), .val (.int i2), .val (.int (i2 - i1)), .val (.int ((g ((nat i1))) &&& (255 : Int32))), .val (.int (f1_22_l5 i1 i2 g)), .val (.int ((g ((nat (i1 + (1 : Int32))))) &&& (255 : Int32))), .unset, .unset, .unset, .unset, .unset, .unset, .unset] [])) _
        refine XS.iload X0.here hx rfl (hb hby d1_94) rfl ?_
        show Steps p.tables e below (s₁.setTop (mkF m 96 #[.val (.ref o0), .val (.int i1), .val (.int i2), .val (.int (i2 - i1)), .val (.int ((g ((nat i1))) &&& (255 : Int32))), .val (.int (f1_22_l5 i1 i2 g)), .val (.int ((g ((nat (i1 + (1 : Int32))))) &&& (255 : Int32))), .unset, .unset, .unset, .unset, .unset, .unset, .unset] [(.int (f1_22_l5 i1 i2 g))])) _
        refine XS.iconst X0.here hx rfl (hb hby d1_96) ?_
        show Steps p.tables e below (s₁.setTop (mkF m 97 #[.val (.ref o0), .val (.int i1), .val (.int i2), .val (.int (i2 - i1)), .val (.int ((g ((nat i1))) &&& (255 : Int32))), .val (.int (f1_22_l5 i1 i2 g)), .val (.int ((g ((nat (i1 + (1 : Int32))))) &&& (255 : Int32))), .unset, .unset, .unset, .unset, .unset, .unset, .unset] [(.int (3 : Int32)), (.int (f1_22_l5 i1 i2 g))])) _
        exact k
      by_cases hc97 : (f1_22_l5 i1 i2 g) < (3 : Int32)
      · refine Outs.of (U' := s₁.setTop (mkF m 112 #[.val (.ref o0), .val (.int i1), .val (.int i2), .val (.int (i2 - i1)), .val (.int ((g ((nat i1))) &&& (255 : Int32))), .val (.int (f1_22_l5 i1 i2 g)), .val (.int ((g ((nat (i1 + (1 : Int32))))) &&& (255 : Int32))), .unset, .unset, .unset, .unset, .unset, .unset, .unset] [])) (fun t k => ?_) ?_
        · refine XS.icmpYes X0.here hx rfl (pc0 := 97) (pc' := 112) rfl (hb hby d1_97) rfl (tlt hc97).1 (by decide) (by decide) ?_
          show Steps p.tables e below (s₁.setTop (mkF m 112 #[.val (.ref o0), .val (.int i1), .val (.int i2), .val (.int (i2 - i1)), .val (.int ((g ((nat i1))) &&& (255 : Int32))), .val (.int (f1_22_l5 i1 i2 g)), .val (.int ((g ((nat (i1 + (1 : Int32))))) &&& (255 : Int32))), .unset, .unset, .unset, .unset, .unset, .unset, .unset] [])) _
          exact k
        refine Outs.of (U' := s₁.setTop (mkF m 181 #[.val (.ref o0), .val (.int i1), .val (.int i2), .val (.int (i2 - i1)), .val (.int ((g ((nat i1))) &&& (255 : Int32))), .val (.int (f1_22_l5 i1 i2 g)), .val (.int ((g ((nat (i1 + (1 : Int32))))) &&& (255 : Int32))), .val (.int (128 : Int32)), .val (.int (128 : Int32)), .unset, .unset, .unset, .unset, .unset] [(.int (f1_149_s0 i1 i2 g))])) (fun t k => ?_) ?_
        · refine XS.sipush X0.here hx rfl (hb hby d1_112) ?_
          show Steps p.tables e below (s₁.setTop (mkF m 115 #[.val (.ref o0), .val (.int i1), .val (.int i2), .val (.int (i2 - i1)), .val (.int ((g ((nat i1))) &&& (255 : Int32))), .val (.int (f1_22_l5 i1 i2 g)), .val (.int ((g ((nat (i1 + (1 : Int32))))) &&& (255 : Int32))), .unset, .unset, .unset, .unset, .unset, .unset, .unset] [(.int (128 : Int32))])) _
          refine XS.istore X0.here hx rfl (hb hby d1_115) rfl (l' := #[.val (.ref o0), .val (.int i1), .val (.int i2), .val (.int (i2 - i1)), .val (.int ((g ((nat i1))) &&& (255 : Int32))), .val (.int (f1_22_l5 i1 i2 g)), .val (.int ((g ((nat (i1 + (1 : Int32))))) &&& (255 : Int32))), .val (.int (128 : Int32)), .unset, .unset, .unset, .unset, .unset, .unset]) rfl ?_
          show Steps p.tables e below (s₁.setTop (mkF m 117 #[.val (.ref o0), .val (.int i1), .val (.int i2), .val (.int (i2 - i1)), .val (.int ((g ((nat i1))) &&& (255 : Int32))), .val (.int (f1_22_l5 i1 i2 g)), .val (.int ((g ((nat (i1 + (1 : Int32))))) &&& (255 : Int32))), .val (.int (128 : Int32)), .unset, .unset, .unset, .unset, .unset, .unset] [])) _
          refine XS.iload X0.here hx rfl (hb hby d1_117) rfl ?_
          show Steps p.tables e below (s₁.setTop (mkF m 119 #[.val (.ref o0), .val (.int i1), .val (.int i2), .val (.int (i2 - i1)), .val (.int ((g ((nat i1))) &&& (255 : Int32))), .val (.int (f1_22_l5 i1 i2 g)), .val (.int ((g ((nat (i1 + (1 : Int32))))) &&& (255 : Int32))), .val (.int (128 : Int32)), .unset, .unset, .unset, .unset, .unset, .unset] [(.int (f1_22_l5 i1 i2 g))])) _
          refine XS.iconst X0.here hx rfl (hb hby d1_119) ?_
          show Steps p.tables e below (s₁.setTop (mkF m 120 #[.val (.ref o0), .val (.int i1), .val (.int i2), .val (.int (i2 - i1)), .val (.int ((g ((nat i1))) &&& (255 : Int32))), .val (.int (f1_22_l5 i1 i2 g)), .val (.int ((g ((nat (i1 + (1 : Int32))))) &&& (255 : Int32))), .val (.int (128 : Int32)), .unset, .unset, .unset, .unset, .unset, .unset] [(.int (4 : Int32)), (.int (f1_22_l5 i1 i2 g))])) _
          refine XS.icmpYes X0.here hx rfl (pc0 := 120) (pc' := 135) rfl (hb hby d1_120) rfl (feq (own_n34 hc97)).2 (by decide) (by decide) ?_
          show Steps p.tables e below (s₁.setTop (mkF m 135 #[.val (.ref o0), .val (.int i1), .val (.int i2), .val (.int (i2 - i1)), .val (.int ((g ((nat i1))) &&& (255 : Int32))), .val (.int (f1_22_l5 i1 i2 g)), .val (.int ((g ((nat (i1 + (1 : Int32))))) &&& (255 : Int32))), .val (.int (128 : Int32)), .unset, .unset, .unset, .unset, .unset, .unset] [])) _
          refine XS.sipush X0.here hx rfl (hb hby d1_135) ?_
          show Steps p.tables e below (s₁.setTop (mkF m 138 #[.val (.ref o0), .val (.int i1), .val (.int i2), .val (.int (i2 - i1)), .val (.int ((g ((nat i1))) &&& (255 : Int32))), .val (.int (f1_22_l5 i1 i2 g)), .val (.int ((g ((nat (i1 + (1 : Int32))))) &&& (255 : Int32))), .val (.int (128 : Int32)), .unset, .unset, .unset, .unset, .unset, .unset] [(.int (128 : Int32))])) _
          refine XS.istore X0.here hx rfl (hb hby d1_138) rfl (l' := #[.val (.ref o0), .val (.int i1), .val (.int i2), .val (.int (i2 - i1)), .val (.int ((g ((nat i1))) &&& (255 : Int32))), .val (.int (f1_22_l5 i1 i2 g)), .val (.int ((g ((nat (i1 + (1 : Int32))))) &&& (255 : Int32))), .val (.int (128 : Int32)), .val (.int (128 : Int32)), .unset, .unset, .unset, .unset, .unset]) rfl ?_
          show Steps p.tables e below (s₁.setTop (mkF m 140 #[.val (.ref o0), .val (.int i1), .val (.int i2), .val (.int (i2 - i1)), .val (.int ((g ((nat i1))) &&& (255 : Int32))), .val (.int (f1_22_l5 i1 i2 g)), .val (.int ((g ((nat (i1 + (1 : Int32))))) &&& (255 : Int32))), .val (.int (128 : Int32)), .val (.int (128 : Int32)), .unset, .unset, .unset, .unset, .unset] [])) _
          refine XS.iload X0.here hx rfl (hb hby d1_140) rfl ?_
          show Steps p.tables e below (s₁.setTop (mkF m 142 #[.val (.ref o0), .val (.int i1), .val (.int i2), .val (.int (i2 - i1)), .val (.int ((g ((nat i1))) &&& (255 : Int32))), .val (.int (f1_22_l5 i1 i2 g)), .val (.int ((g ((nat (i1 + (1 : Int32))))) &&& (255 : Int32))), .val (.int (128 : Int32)), .val (.int (128 : Int32)), .unset, .unset, .unset, .unset, .unset] [(.int ((g ((nat (i1 + (1 : Int32))))) &&& (255 : Int32)))])) _
          refine XS.sipush X0.here hx rfl (hb hby d1_142) ?_
          show Steps p.tables e below (s₁.setTop (mkF m 145 #[.val (.ref o0), .val (.int i1), .val (.int i2), .val (.int (i2 - i1)), .val (.int ((g ((nat i1))) &&& (255 : Int32))), .val (.int (f1_22_l5 i1 i2 g)), .val (.int ((g ((nat (i1 + (1 : Int32))))) &&& (255 : Int32))), .val (.int (128 : Int32)), .val (.int (128 : Int32)), .unset, .unset, .unset, .unset, .unset] [(.int (192 : Int32)), (.int ((g ((nat (i1 + (1 : Int32))))) &&& (255 : Int32)))])) _
          refine XS.iand X0.here hx rfl (hb hby d1_145) rfl ?_
          show Steps p.tables e below (s₁.setTop (mkF m 146 #[.val (.ref o0), .val (.int i1), .val (.int i2), .val (.int (i2 - i1)), .val (.int ((g ((nat i1))) &&& (255 : Int32))), .val (.int (f1_22_l5 i1 i2 g)), .val (.int ((g ((nat (i1 + (1 : Int32))))) &&& (255 : Int32))), .val (.int (128 : Int32)), .val (.int (128 : Int32)), .unset, .unset, .unset, .unset, .unset] [(.int (((g ((nat (i1 + (1 : Int32))))) &&& (255 : Int32)) &&& (192 : Int32)))])) _
          refine XS.sipush X0.here hx rfl (hb hby d1_146) ?_
          show Steps p.tables e below (s₁.setTop (mkF m 149 #[.val (.ref o0), .val (.int i1), .val (.int i2), .val (.int (i2 - i1)), .val (.int ((g ((nat i1))) &&& (255 : Int32))), .val (.int (f1_22_l5 i1 i2 g)), .val (.int ((g ((nat (i1 + (1 : Int32))))) &&& (255 : Int32))), .val (.int (128 : Int32)), .val (.int (128 : Int32)), .unset, .unset, .unset, .unset, .unset] [(.int (128 : Int32)), (.int (((g ((nat (i1 + (1 : Int32))))) &&& (255 : Int32)) &&& (192 : Int32)))])) _
          by_cases hc149 : (((g ((nat (i1 + (1 : Int32))))) &&& (255 : Int32)) &&& (192 : Int32)) = (128 : Int32)
          · refine XS.icmpNo X0.here hx rfl (hb hby d1_149) rfl (teq hc149).2 ?_
            show Steps p.tables e below (s₁.setTop (mkF m 152 #[.val (.ref o0), .val (.int i1), .val (.int i2), .val (.int (i2 - i1)), .val (.int ((g ((nat i1))) &&& (255 : Int32))), .val (.int (f1_22_l5 i1 i2 g)), .val (.int ((g ((nat (i1 + (1 : Int32))))) &&& (255 : Int32))), .val (.int (128 : Int32)), .val (.int (128 : Int32)), .unset, .unset, .unset, .unset, .unset] [])) _
            refine XS.iload X0.here hx rfl (hb hby d1_152) rfl ?_
            show Steps p.tables e below (s₁.setTop (mkF m 154 #[.val (.ref o0), .val (.int i1), .val (.int i2), .val (.int (i2 - i1)), .val (.int ((g ((nat i1))) &&& (255 : Int32))), .val (.int (f1_22_l5 i1 i2 g)), .val (.int ((g ((nat (i1 + (1 : Int32))))) &&& (255 : Int32))), .val (.int (128 : Int32)), .val (.int (128 : Int32)), .unset, .unset, .unset, .unset, .unset] [(.int (128 : Int32))])) _
            refine XS.sipush X0.here hx rfl (hb hby d1_154) ?_
            show Steps p.tables e below (s₁.setTop (mkF m 157 #[.val (.ref o0), .val (.int i1), .val (.int i2), .val (.int (i2 - i1)), .val (.int ((g ((nat i1))) &&& (255 : Int32))), .val (.int (f1_22_l5 i1 i2 g)), .val (.int ((g ((nat (i1 + (1 : Int32))))) &&& (255 : Int32))), .val (.int (128 : Int32)), .val (.int (128 : Int32)), .unset, .unset, .unset, .unset, .unset] [(.int (192 : Int32)), (.int (128 : Int32))])) _
            refine XS.iand X0.here hx rfl (hb hby d1_157) rfl ?_
            show Steps p.tables e below (s₁.setTop (mkF m 158 #[.val (.ref o0), .val (.int i1), .val (.int i2), .val (.int (i2 - i1)), .val (.int ((g ((nat i1))) &&& (255 : Int32))), .val (.int (f1_22_l5 i1 i2 g)), .val (.int ((g ((nat (i1 + (1 : Int32))))) &&& (255 : Int32))), .val (.int (128 : Int32)), .val (.int (128 : Int32)), .unset, .unset, .unset, .unset, .unset] [(.int (128 : Int32))])) _
            refine XS.sipush X0.here hx rfl (hb hby d1_158) ?_
            show Steps p.tables e below (s₁.setTop (mkF m 161 #[.val (.ref o0), .val (.int i1), .val (.int i2), .val (.int (i2 - i1)), .val (.int ((g ((nat i1))) &&& (255 : Int32))), .val (.int (f1_22_l5 i1 i2 g)), .val (.int ((g ((nat (i1 + (1 : Int32))))) &&& (255 : Int32))), .val (.int (128 : Int32)), .val (.int (128 : Int32)), .unset, .unset, .unset, .unset, .unset] [(.int (128 : Int32)), (.int (128 : Int32))])) _
            refine XS.icmpNo X0.here hx rfl (hb hby d1_161) rfl (teq (by decide)).2 ?_
            show Steps p.tables e below (s₁.setTop (mkF m 164 #[.val (.ref o0), .val (.int i1), .val (.int i2), .val (.int (i2 - i1)), .val (.int ((g ((nat i1))) &&& (255 : Int32))), .val (.int (f1_22_l5 i1 i2 g)), .val (.int ((g ((nat (i1 + (1 : Int32))))) &&& (255 : Int32))), .val (.int (128 : Int32)), .val (.int (128 : Int32)), .unset, .unset, .unset, .unset, .unset] [])) _
            refine XS.iload X0.here hx rfl (hb hby d1_164) rfl ?_
            show Steps p.tables e below (s₁.setTop (mkF m 166 #[.val (.ref o0), .val (.int i1), .val (.int i2), .val (.int (i2 - i1)), .val (.int ((g ((nat i1))) &&& (255 : Int32))), .val (.int (f1_22_l5 i1 i2 g)), .val (.int ((g ((nat (i1 + (1 : Int32))))) &&& (255 : Int32))), .val (.int (128 : Int32)), .val (.int (128 : Int32)), .unset, .unset, .unset, .unset, .unset] [(.int (128 : Int32))])) _
            refine XS.sipush X0.here hx rfl (hb hby d1_166) ?_
            show Steps p.tables e below (s₁.setTop (mkF m 169 #[.val (.ref o0), .val (.int i1), .val (.int i2), .val (.int (i2 - i1)), .val (.int ((g ((nat i1))) &&& (255 : Int32))), .val (.int (f1_22_l5 i1 i2 g)), .val (.int ((g ((nat (i1 + (1 : Int32))))) &&& (255 : Int32))), .val (.int (128 : Int32)), .val (.int (128 : Int32)), .unset, .unset, .unset, .unset, .unset] [(.int (192 : Int32)), (.int (128 : Int32))])) _
            refine XS.iand X0.here hx rfl (hb hby d1_169) rfl ?_
            show Steps p.tables e below (s₁.setTop (mkF m 170 #[.val (.ref o0), .val (.int i1), .val (.int i2), .val (.int (i2 - i1)), .val (.int ((g ((nat i1))) &&& (255 : Int32))), .val (.int (f1_22_l5 i1 i2 g)), .val (.int ((g ((nat (i1 + (1 : Int32))))) &&& (255 : Int32))), .val (.int (128 : Int32)), .val (.int (128 : Int32)), .unset, .unset, .unset, .unset, .unset] [(.int (128 : Int32))])) _
            refine XS.sipush X0.here hx rfl (hb hby d1_170) ?_
            show Steps p.tables e below (s₁.setTop (mkF m 173 #[.val (.ref o0), .val (.int i1), .val (.int i2), .val (.int (i2 - i1)), .val (.int ((g ((nat i1))) &&& (255 : Int32))), .val (.int (f1_22_l5 i1 i2 g)), .val (.int ((g ((nat (i1 + (1 : Int32))))) &&& (255 : Int32))), .val (.int (128 : Int32)), .val (.int (128 : Int32)), .unset, .unset, .unset, .unset, .unset] [(.int (128 : Int32)), (.int (128 : Int32))])) _
            refine XS.icmpNo X0.here hx rfl (hb hby d1_173) rfl (teq (by decide)).2 ?_
            show Steps p.tables e below (s₁.setTop (mkF m 176 #[.val (.ref o0), .val (.int i1), .val (.int i2), .val (.int (i2 - i1)), .val (.int ((g ((nat i1))) &&& (255 : Int32))), .val (.int (f1_22_l5 i1 i2 g)), .val (.int ((g ((nat (i1 + (1 : Int32))))) &&& (255 : Int32))), .val (.int (128 : Int32)), .val (.int (128 : Int32)), .unset, .unset, .unset, .unset, .unset] [])) _
            refine XS.iconst X0.here hx rfl (hb hby d1_176) ?_
            show Steps p.tables e below (s₁.setTop (mkF m 177 #[.val (.ref o0), .val (.int i1), .val (.int i2), .val (.int (i2 - i1)), .val (.int ((g ((nat i1))) &&& (255 : Int32))), .val (.int (f1_22_l5 i1 i2 g)), .val (.int ((g ((nat (i1 + (1 : Int32))))) &&& (255 : Int32))), .val (.int (128 : Int32)), .val (.int (128 : Int32)), .unset, .unset, .unset, .unset, .unset] [(.int (1 : Int32))])) _
            refine XS.goto X0.here hx rfl (pc0 := 177) (pc' := 181) rfl (hb hby d1_177) (by decide) (by decide) ?_
            show Steps p.tables e below (s₁.setTop (mkF m 181 #[.val (.ref o0), .val (.int i1), .val (.int i2), .val (.int (i2 - i1)), .val (.int ((g ((nat i1))) &&& (255 : Int32))), .val (.int (f1_22_l5 i1 i2 g)), .val (.int ((g ((nat (i1 + (1 : Int32))))) &&& (255 : Int32))), .val (.int (128 : Int32)), .val (.int (128 : Int32)), .unset, .unset, .unset, .unset, .unset] [(.int (1 : Int32))])) _
            rw [show (f1_149_s0 i1 i2 g) = (1 : Int32) from (if_pos hc149)] at k
            exact k
          · refine XS.icmpYes X0.here hx rfl (pc0 := 149) (pc' := 180) rfl (hb hby d1_149) rfl (feq hc149).2 (by decide) (by decide) ?_
            show Steps p.tables e below (s₁.setTop (mkF m 180 #[.val (.ref o0), .val (.int i1), .val (.int i2), .val (.int (i2 - i1)), .val (.int ((g ((nat i1))) &&& (255 : Int32))), .val (.int (f1_22_l5 i1 i2 g)), .val (.int ((g ((nat (i1 + (1 : Int32))))) &&& (255 : Int32))), .val (.int (128 : Int32)), .val (.int (128 : Int32)), .unset, .unset, .unset, .unset, .unset] [])) _
            refine XS.iconst X0.here hx rfl (hb hby d1_180) ?_
            show Steps p.tables e below (s₁.setTop (mkF m 181 #[.val (.ref o0), .val (.int i1), .val (.int i2), .val (.int (i2 - i1)), .val (.int ((g ((nat i1))) &&& (255 : Int32))), .val (.int (f1_22_l5 i1 i2 g)), .val (.int ((g ((nat (i1 + (1 : Int32))))) &&& (255 : Int32))), .val (.int (128 : Int32)), .val (.int (128 : Int32)), .unset, .unset, .unset, .unset, .unset] [(.int (0 : Int32))])) _
            rw [show (f1_149_s0 i1 i2 g) = (0 : Int32) from (if_neg hc149)] at k
            exact k
        refine Outs.of (U' := s₁.setTop (mkF m 290 #[.val (.ref o0), .val (.int i1), .val (.int i2), .val (.int (i2 - i1)), .val (.int ((g ((nat i1))) &&& (255 : Int32))), .val (.int (f1_22_l5 i1 i2 g)), .val (.int ((g ((nat (i1 + (1 : Int32))))) &&& (255 : Int32))), .val (.int (128 : Int32)), .val (.int (128 : Int32)), .val (.int (f1_149_s0 i1 i2 g)), .val (.int (f1_186_l10 i1 i2 g)), .val (.int (f1_186_l11 i1 i2 g)), .unset, .unset] [])) (fun t k => ?_) ?_
        · refine XS.istore X0.here hx rfl (hb hby d1_181) rfl (l' := #[.val (.ref o0), .val (.int i1), .val (.int i2), .val (.int (i2 - i1)), .val (.int ((g ((nat i1))) &&& (255 : Int32))), .val (.int (f1_22_l5 i1 i2 g)), .val (.int ((g ((nat (i1 + (1 : Int32))))) &&& (255 : Int32))), .val (.int (128 : Int32)), .val (.int (128 : Int32)), .val (.int (f1_149_s0 i1 i2 g)), .unset, .unset, .unset, .unset]) rfl ?_
          show Steps p.tables e below (s₁.setTop (mkF m 183 #[.val (.ref o0), .val (.int i1), .val (.int i2), .val (.int (i2 - i1)), .val (.int ((g ((nat i1))) &&& (255 : Int32))), .val (.int (f1_22_l5 i1 i2 g)), .val (.int ((g ((nat (i1 + (1 : Int32))))) &&& (255 : Int32))), .val (.int (128 : Int32)), .val (.int (128 : Int32)), .val (.int (f1_149_s0 i1 i2 g)), .unset, .unset, .unset, .unset] [])) _
          refine XS.iload X0.here hx rfl (hb hby d1_183) rfl ?_
          show Steps p.tables e below (s₁.setTop (mkF m 185 #[.val (.ref o0), .val (.int i1), .val (.int i2), .val (.int (i2 - i1)), .val (.int ((g ((nat i1))) &&& (255 : Int32))), .val (.int (f1_22_l5 i1 i2 g)), .val (.int ((g ((nat (i1 + (1 : Int32))))) &&& (255 : Int32))), .val (.int (128 : Int32)), .val (.int (128 : Int32)), .val (.int (f1_149_s0 i1 i2 g)), .unset, .unset, .unset, .unset] [(.int (f1_22_l5 i1 i2 g))])) _
          refine XS.iconst X0.here hx rfl (hb hby d1_185) ?_
          show Steps p.tables e below (s₁.setTop (mkF m 186 #[.val (.ref o0), .val (.int i1), .val (.int i2), .val (.int (i2 - i1)), .val (.int ((g ((nat i1))) &&& (255 : Int32))), .val (.int (f1_22_l5 i1 i2 g)), .val (.int ((g ((nat (i1 + (1 : Int32))))) &&& (255 : Int32))), .val (.int (128 : Int32)), .val (.int (128 : Int32)), .val (.int (f1_149_s0 i1 i2 g)), .unset, .unset, .unset, .unset] [(.int (2 : Int32)), (.int (f1_22_l5 i1 i2 g))])) _
          by_cases hc186 : (f1_22_l5 i1 i2 g) = (2 : Int32)
          · refine XS.icmpNo X0.here hx rfl (hb hby d1_186) rfl (teq hc186).2 ?_
            show Steps p.tables e below (s₁.setTop (mkF m 189 #[.val (.ref o0), .val (.int i1), .val (.int i2), .val (.int (i2 - i1)), .val (.int ((g ((nat i1))) &&& (255 : Int32))), .val (.int (f1_22_l5 i1 i2 g)), .val (.int ((g ((nat (i1 + (1 : Int32))))) &&& (255 : Int32))), .val (.int (128 : Int32)), .val (.int (128 : Int32)), .val (.int (f1_149_s0 i1 i2 g)), .unset, .unset, .unset, .unset] [])) _
            refine XS.iload X0.here hx rfl (hb hby d1_189) rfl ?_
            show Steps p.tables e below (s₁.setTop (mkF m 191 #[.val (.ref o0), .val (.int i1), .val (.int i2), .val (.int (i2 - i1)), .val (.int ((g ((nat i1))) &&& (255 : Int32))), .val (.int (f1_22_l5 i1 i2 g)), .val (.int ((g ((nat (i1 + (1 : Int32))))) &&& (255 : Int32))), .val (.int (128 : Int32)), .val (.int (128 : Int32)), .val (.int (f1_149_s0 i1 i2 g)), .unset, .unset, .unset, .unset] [(.int ((g ((nat i1))) &&& (255 : Int32)))])) _
            refine XS.bipush X0.here hx rfl (hb hby d1_191) ?_
            show Steps p.tables e below (s₁.setTop (mkF m 193 #[.val (.ref o0), .val (.int i1), .val (.int i2), .val (.int (i2 - i1)), .val (.int ((g ((nat i1))) &&& (255 : Int32))), .val (.int (f1_22_l5 i1 i2 g)), .val (.int ((g ((nat (i1 + (1 : Int32))))) &&& (255 : Int32))), .val (.int (128 : Int32)), .val (.int (128 : Int32)), .val (.int (f1_149_s0 i1 i2 g)), .unset, .unset, .unset, .unset] [(.int (31 : Int32)), (.int ((g ((nat i1))) &&& (255 : Int32)))])) _
            refine XS.iand X0.here hx rfl (hb hby d1_193) rfl ?_
            show Steps p.tables e below (s₁.setTop (mkF m 194 #[.val (.ref o0), .val (.int i1), .val (.int i2), .val (.int (i2 - i1)), .val (.int ((g ((nat i1))) &&& (255 : Int32))), .val (.int (f1_22_l5 i1 i2 g)), .val (.int ((g ((nat (i1 + (1 : Int32))))) &&& (255 : Int32))), .val (.int (128 : Int32)), .val (.int (128 : Int32)), .val (.int (f1_149_s0 i1 i2 g)), .unset, .unset, .unset, .unset] [(.int (((g ((nat i1))) &&& (255 : Int32)) &&& (31 : Int32)))])) _
            refine XS.bipush X0.here hx rfl (hb hby d1_194) ?_
            show Steps p.tables e below (s₁.setTop (mkF m 196 #[.val (.ref o0), .val (.int i1), .val (.int i2), .val (.int (i2 - i1)), .val (.int ((g ((nat i1))) &&& (255 : Int32))), .val (.int (f1_22_l5 i1 i2 g)), .val (.int ((g ((nat (i1 + (1 : Int32))))) &&& (255 : Int32))), .val (.int (128 : Int32)), .val (.int (128 : Int32)), .val (.int (f1_149_s0 i1 i2 g)), .unset, .unset, .unset, .unset] [(.int (6 : Int32)), (.int (((g ((nat i1))) &&& (255 : Int32)) &&& (31 : Int32)))])) _
            refine XS.ishl X0.here hx rfl (hb hby d1_196) rfl ?_
            show Steps p.tables e below (s₁.setTop (mkF m 197 #[.val (.ref o0), .val (.int i1), .val (.int i2), .val (.int (i2 - i1)), .val (.int ((g ((nat i1))) &&& (255 : Int32))), .val (.int (f1_22_l5 i1 i2 g)), .val (.int ((g ((nat (i1 + (1 : Int32))))) &&& (255 : Int32))), .val (.int (128 : Int32)), .val (.int (128 : Int32)), .val (.int (f1_149_s0 i1 i2 g)), .unset, .unset, .unset, .unset] [(.int ((((g ((nat i1))) &&& (255 : Int32)) &&& (31 : Int32)) <<< ((6 : Int32) &&& 31)))])) _
            refine XS.iload X0.here hx rfl (hb hby d1_197) rfl ?_
            show Steps p.tables e below (s₁.setTop (mkF m 199 #[.val (.ref o0), .val (.int i1), .val (.int i2), .val (.int (i2 - i1)), .val (.int ((g ((nat i1))) &&& (255 : Int32))), .val (.int (f1_22_l5 i1 i2 g)), .val (.int ((g ((nat (i1 + (1 : Int32))))) &&& (255 : Int32))), .val (.int (128 : Int32)), .val (.int (128 : Int32)), .val (.int (f1_149_s0 i1 i2 g)), .unset, .unset, .unset, .unset] [(.int ((g ((nat (i1 + (1 : Int32))))) &&& (255 : Int32))), (.int ((((g ((nat i1))) &&& (255 : Int32)) &&& (31 : Int32)) <<< ((6 : Int32) &&& 31)))])) _
            refine XS.bipush X0.here hx rfl (hb hby d1_199) ?_
            show Steps p.tables e below (s₁.setTop (mkF m 201 #[.val (.ref o0), .val (.int i1), .val (.int i2), .val (.int (i2 - i1)), .val (.int ((g ((nat i1))) &&& (255 : Int32))), .val (.int (f1_22_l5 i1 i2 g)), .val (.int ((g ((nat (i1 + (1 : Int32))))) &&& (255 : Int32))), .val (.int (128 : Int32)), .val (.int (128 : Int32)), .val (.int (f1_149_s0 i1 i2 g)), .unset, .unset, .unset, .unset] [(.int (63 : Int32)), (.int ((g ((nat (i1 + (1 : Int32))))) &&& (255 : Int32))), (.int ((((g ((nat i1))) &&& (255 : Int32)) &&& (31 : Int32)) <<< ((6 : Int32) &&& 31)))])) _
            refine XS.iand X0.here hx rfl (hb hby d1_201) rfl ?_
            show Steps p.tables e below (s₁.setTop (mkF m 202 #[.val (.ref o0), .val (.int i1), .val (.int i2), .val (.int (i2 - i1)), .val (.int ((g ((nat i1))) &&& (255 : Int32))), .val (.int (f1_22_l5 i1 i2 g)), .val (.int ((g ((nat (i1 + (1 : Int32))))) &&& (255 : Int32))), .val (.int (128 : Int32)), .val (.int (128 : Int32)), .val (.int (f1_149_s0 i1 i2 g)), .unset, .unset, .unset, .unset] [(.int (((g ((nat (i1 + (1 : Int32))))) &&& (255 : Int32)) &&& (63 : Int32))), (.int ((((g ((nat i1))) &&& (255 : Int32)) &&& (31 : Int32)) <<< ((6 : Int32) &&& 31)))])) _
            refine XS.ior X0.here hx rfl (hb hby d1_202) rfl ?_
            show Steps p.tables e below (s₁.setTop (mkF m 203 #[.val (.ref o0), .val (.int i1), .val (.int i2), .val (.int (i2 - i1)), .val (.int ((g ((nat i1))) &&& (255 : Int32))), .val (.int (f1_22_l5 i1 i2 g)), .val (.int ((g ((nat (i1 + (1 : Int32))))) &&& (255 : Int32))), .val (.int (128 : Int32)), .val (.int (128 : Int32)), .val (.int (f1_149_s0 i1 i2 g)), .unset, .unset, .unset, .unset] [(.int (((((g ((nat i1))) &&& (255 : Int32)) &&& (31 : Int32)) <<< ((6 : Int32) &&& 31)) ||| (((g ((nat (i1 + (1 : Int32))))) &&& (255 : Int32)) &&& (63 : Int32))))])) _
            refine XS.istore X0.here hx rfl (hb hby d1_203) rfl (l' := #[.val (.ref o0), .val (.int i1), .val (.int i2), .val (.int (i2 - i1)), .val (.int ((g ((nat i1))) &&& (255 : Int32))), .val (.int (f1_22_l5 i1 i2 g)), .val (.int ((g ((nat (i1 + (1 : Int32))))) &&& (255 : Int32))), .val (.int (128 : Int32)), .val (.int (128 : Int32)), .val (.int (f1_149_s0 i1 i2 g)), .val (.int (f1_v203 i1 i2 g)), .unset, .unset, .unset]) rfl ?_
            show Steps p.tables e below (s₁.setTop (mkF m 205 #[.val (.ref o0), .val (.int i1), .val (.int i2), .val (.int (i2 - i1)), .val (.int ((g ((nat i1))) &&& (255 : Int32))), .val (.int (f1_22_l5 i1 i2 g)), .val (.int ((g ((nat (i1 + (1 : Int32))))) &&& (255 : Int32))), .val (.int (128 : Int32)), .val (.int (128 : Int32)), .val (.int (f1_149_s0 i1 i2 g)), .val (.int (f1_v203 i1 i2 g)), .unset, .unset, .unset] [])) _
            refine XS.sipush X0.here hx rfl (hb hby d1_205) ?_
            show Steps p.tables e below (s₁.setTop (mkF m 208 #[.val (.ref o0), .val (.int i1), .val (.int i2), .val (.int (i2 - i1)), .val (.int ((g ((nat i1))) &&& (255 : Int32))), .val (.int (f1_22_l5 i1 i2 g)), .val (.int ((g ((nat (i1 + (1 : Int32))))) &&& (255 : Int32))), .val (.int (128 : Int32)), .val (.int (128 : Int32)), .val (.int (f1_149_s0 i1 i2 g)), .val (.int (f1_v203 i1 i2 g)), .unset, .unset, .unset] [(.int (128 : Int32))])) _
            refine XS.istore X0.here hx rfl (hb hby d1_208) rfl (l' := #[.val (.ref o0), .val (.int i1), .val (.int i2), .val (.int (i2 - i1)), .val (.int ((g ((nat i1))) &&& (255 : Int32))), .val (.int (f1_22_l5 i1 i2 g)), .val (.int ((g ((nat (i1 + (1 : Int32))))) &&& (255 : Int32))), .val (.int (128 : Int32)), .val (.int (128 : Int32)), .val (.int (f1_149_s0 i1 i2 g)), .val (.int (f1_v203 i1 i2 g)), .val (.int (128 : Int32)), .unset, .unset]) rfl ?_
            show Steps p.tables e below (s₁.setTop (mkF m 210 #[.val (.ref o0), .val (.int i1), .val (.int i2), .val (.int (i2 - i1)), .val (.int ((g ((nat i1))) &&& (255 : Int32))), .val (.int (f1_22_l5 i1 i2 g)), .val (.int ((g ((nat (i1 + (1 : Int32))))) &&& (255 : Int32))), .val (.int (128 : Int32)), .val (.int (128 : Int32)), .val (.int (f1_149_s0 i1 i2 g)), .val (.int (f1_v203 i1 i2 g)), .val (.int (128 : Int32)), .unset, .unset] [])) _
            refine XS.goto X0.here hx rfl (pc0 := 210) (pc' := 290) rfl (hb hby d1_210) (by decide) (by decide) ?_
            show Steps p.tables e below (s₁.setTop (mkF m 290 #[.val (.ref o0), .val (.int i1), .val (.int i2), .val (.int (i2 - i1)), .val (.int ((g ((nat i1))) &&& (255 : Int32))), .val (.int (f1_22_l5 i1 i2 g)), .val (.int ((g ((nat (i1 + (1 : Int32))))) &&& (255 : Int32))), .val (.int (128 : Int32)), .val (.int (128 : Int32)), .val (.int (f1_149_s0 i1 i2 g)), .val (.int (f1_v203 i1 i2 g)), .val (.int (128 : Int32)), .unset, .unset] [])) _
            rw [show (f1_186_l10 i1 i2 g) = (f1_v203 i1 i2 g) from (if_pos hc186), show (f1_186_l11 i1 i2 g) = (128 : Int32) from (if_pos hc186)] at k
            exact k
          · refine XS.icmpYes X0.here hx rfl (pc0 := 186) (pc' := 213) rfl (hb hby d1_186) rfl (feq hc186).2 (by decide) (by decide) ?_
            show Steps p.tables e below (s₁.setTop (mkF m 213 #[.val (.ref o0), .val (.int i1), .val (.int i2), .val (.int (i2 - i1)), .val (.int ((g ((nat i1))) &&& (255 : Int32))), .val (.int (f1_22_l5 i1 i2 g)), .val (.int ((g ((nat (i1 + (1 : Int32))))) &&& (255 : Int32))), .val (.int (128 : Int32)), .val (.int (128 : Int32)), .val (.int (f1_149_s0 i1 i2 g)), .unset, .unset, .unset, .unset] [])) _
            refine XS.iload X0.here hx rfl (hb hby d1_213) rfl ?_
            show Steps p.tables e below (s₁.setTop (mkF m 215 #[.val (.ref o0), .val (.int i1), .val (.int i2), .val (.int (i2 - i1)), .val (.int ((g ((nat i1))) &&& (255 : Int32))), .val (.int (f1_22_l5 i1 i2 g)), .val (.int ((g ((nat (i1 + (1 : Int32))))) &&& (255 : Int32))), .val (.int (128 : Int32)), .val (.int (128 : Int32)), .val (.int (f1_149_s0 i1 i2 g)), .unset, .unset, .unset, .unset] [(.int (f1_22_l5 i1 i2 g))])) _
            refine XS.iconst X0.here hx rfl (hb hby d1_215) ?_
            show Steps p.tables e below (s₁.setTop (mkF m 216 #[.val (.ref o0), .val (.int i1), .val (.int i2), .val (.int (i2 - i1)), .val (.int ((g ((nat i1))) &&& (255 : Int32))), .val (.int (f1_22_l5 i1 i2 g)), .val (.int ((g ((nat (i1 + (1 : Int32))))) &&& (255 : Int32))), .val (.int (128 : Int32)), .val (.int (128 : Int32)), .val (.int (f1_149_s0 i1 i2 g)), .unset, .unset, .unset, .unset] [(.int (3 : Int32)), (.int (f1_22_l5 i1 i2 g))])) _
            by_cases hc216 : (f1_22_l5 i1 i2 g) = (3 : Int32)
            · refine XS.icmpNo X0.here hx rfl (hb hby d1_216) rfl (teq hc216).2 ?_
              show Steps p.tables e below (s₁.setTop (mkF m 219 #[.val (.ref o0), .val (.int i1), .val (.int i2), .val (.int (i2 - i1)), .val (.int ((g ((nat i1))) &&& (255 : Int32))), .val (.int (f1_22_l5 i1 i2 g)), .val (.int ((g ((nat (i1 + (1 : Int32))))) &&& (255 : Int32))), .val (.int (128 : Int32)), .val (.int (128 : Int32)), .val (.int (f1_149_s0 i1 i2 g)), .unset, .unset, .unset, .unset] [])) _
              refine XS.iload X0.here hx rfl (hb hby d1_219) rfl ?_
              show Steps p.tables e below (s₁.setTop (mkF m 221 #[.val (.ref o0), .val (.int i1), .val (.int i2), .val (.int (i2 - i1)), .val (.int ((g ((nat i1))) &&& (255 : Int32))), .val (.int (f1_22_l5 i1 i2 g)), .val (.int ((g ((nat (i1 + (1 : Int32))))) &&& (255 : Int32))), .val (.int (128 : Int32)), .val (.int (128 : Int32)), .val (.int (f1_149_s0 i1 i2 g)), .unset, .unset, .unset, .unset] [(.int ((g ((nat i1))) &&& (255 : Int32)))])) _
              refine XS.bipush X0.here hx rfl (hb hby d1_221) ?_
              show Steps p.tables e below (s₁.setTop (mkF m 223 #[.val (.ref o0), .val (.int i1), .val (.int i2), .val (.int (i2 - i1)), .val (.int ((g ((nat i1))) &&& (255 : Int32))), .val (.int (f1_22_l5 i1 i2 g)), .val (.int ((g ((nat (i1 + (1 : Int32))))) &&& (255 : Int32))), .val (.int (128 : Int32)), .val (.int (128 : Int32)), .val (.int (f1_149_s0 i1 i2 g)), .unset, .unset, .unset, .unset] [(.int (15 : Int32)), (.int ((g ((nat i1))) &&& (255 : Int32)))])) _
              refine XS.iand X0.here hx rfl (hb hby d1_223) rfl ?_
              show Steps p.tables e below (s₁.setTop (mkF m 224 #[.val (.ref o0), .val (.int i1), .val (.int i2), .val (.int (i2 - i1)), .val (.int ((g ((nat i1))) &&& (255 : Int32))), .val (.int (f1_22_l5 i1 i2 g)), .val (.int ((g ((nat (i1 + (1 : Int32))))) &&& (255 : Int32))), .val (.int (128 : Int32)), .val (.int (128 : Int32)), .val (.int (f1_149_s0 i1 i2 g)), .unset, .unset, .unset, .unset] [(.int (((g ((nat i1))) &&& (255 : Int32)) &&& (15 : Int32)))])) _
              refine XS.bipush X0.here hx rfl (hb hby d1_224) ?_
              show Steps p.tables e below (s₁.setTop (mkF m 226 #[.val (.ref o0), .val (.int i1), .val (.int i2), .val (.int (i2 - i1)), .val (.int ((g ((nat i1))) &&& (255 : Int32))), .val (.int (f1_22_l5 i1 i2 g)), .val (.int ((g ((nat (i1 + (1 : Int32))))) &&& (255 : Int32))), .val (.int (128 : Int32)), .val (.int (128 : Int32)), .val (.int (f1_149_s0 i1 i2 g)), .unset, .unset, .unset, .unset] [(.int (12 : Int32)), (.int (((g ((nat i1))) &&& (255 : Int32)) &&& (15 : Int32)))])) _
              refine XS.ishl X0.here hx rfl (hb hby d1_226) rfl ?_
              show Steps p.tables e below (s₁.setTop (mkF m 227 #[.val (.ref o0), .val (.int i1), .val (.int i2), .val (.int (i2 - i1)), .val (.int ((g ((nat i1))) &&& (255 : Int32))), .val (.int (f1_22_l5 i1 i2 g)), .val (.int ((g ((nat (i1 + (1 : Int32))))) &&& (255 : Int32))), .val (.int (128 : Int32)), .val (.int (128 : Int32)), .val (.int (f1_149_s0 i1 i2 g)), .unset, .unset, .unset, .unset] [(.int ((((g ((nat i1))) &&& (255 : Int32)) &&& (15 : Int32)) <<< ((12 : Int32) &&& 31)))])) _
              refine XS.iload X0.here hx rfl (hb hby d1_227) rfl ?_
              show Steps p.tables e below (s₁.setTop (mkF m 229 #[.val (.ref o0), .val (.int i1), .val (.int i2), .val (.int (i2 - i1)), .val (.int ((g ((nat i1))) &&& (255 : Int32))), .val (.int (f1_22_l5 i1 i2 g)), .val (.int ((g ((nat (i1 + (1 : Int32))))) &&& (255 : Int32))), .val (.int (128 : Int32)), .val (.int (128 : Int32)), .val (.int (f1_149_s0 i1 i2 g)), .unset, .unset, .unset, .unset] [(.int ((g ((nat (i1 + (1 : Int32))))) &&& (255 : Int32))), (.int ((((g ((nat i1))) &&& (255 : Int32)) &&& (15 : Int32)) <<< ((12 : Int32) &&& 31)))])) _
              refine XS.bipush X0.here hx rfl (hb hby d1_229) ?_
              show Steps p.tables e below (s₁.setTop (mkF m 231 #[.val (.ref o0), .val (.int i1), .val (.int i2), .val (.int (i2 - i1)), .val (.int ((g ((nat i1))) &&& (255 : Int32))), .val (.int (f1_22_l5 i1 i2 g)), .val (.int ((g ((nat (i1 + (1 : Int32))))) &&& (255 : Int32))), .val (.int (128 : Int32)), .val (.int (128 : Int32)), .val (.int (f1_149_s0 i1 i2 g)), .unset, .unset, .unset, .unset] [(.int (63 : Int32)), (.int ((g ((nat (i1 + (1 : Int32))))) &&& (255 : Int32))), (.int ((((g ((nat i1))) &&& (255 : Int32)) &&& (15 : Int32)) <<< ((12 : Int32) &&& 31)))])) _
              refine XS.iand X0.here hx rfl (hb hby d1_231) rfl ?_
              show Steps p.tables e below (s₁.setTop (mkF m 232 #[.val (.ref o0), .val (.int i1), .val (.int i2), .val (.int (i2 - i1)), .val (.int ((g ((nat i1))) &&& (255 : Int32))), .val (.int (f1_22_l5 i1 i2 g)), .val (.int ((g ((nat (i1 + (1 : Int32))))) &&& (255 : Int32))), .val (.int (128 : Int32)), .val (.int (128 : Int32)), .val (.int (f1_149_s0 i1 i2 g)), .unset, .unset, .unset, .unset] [(.int (((g ((nat (i1 + (1 : Int32))))) &&& (255 : Int32)) &&& (63 : Int32))), (.int ((((g ((nat i1))) &&& (255 : Int32)) &&& (15 : Int32)) <<< ((12 : Int32) &&& 31)))])) _
              refine XS.bipush X0.here hx rfl (hb hby d1_232) ?_
              show Steps p.tables e below (s₁.setTop (mkF m 234 #[.val (.ref o0), .val (.int i1), .val (.int i2), .val (.int (i2 - i1)), .val (.int ((g ((nat i1))) &&& (255 : Int32))), .val (.int (f1_22_l5 i1 i2 g)), .val (.int ((g ((nat (i1 + (1 : Int32))))) &&& (255 : Int32))), .val (.int (128 : Int32)), .val (.int (128 : Int32)), .val (.int (f1_149_s0 i1 i2 g)), .unset, .unset, .unset, .unset] [(.int (6 : Int32)), (.int (((g ((nat (i1 + (1 : Int32))))) &&& (255 : Int32)) &&& (63 : Int32))), (.int ((((g ((nat i1))) &&& (255 : Int32)) &&& (15 : Int32)) <<< ((12 : Int32) &&& 31)))])) _
              refine XS.ishl X0.here hx rfl (hb hby d1_234) rfl ?_
              show Steps p.tables e below (s₁.setTop (mkF m 235 #[.val (.ref o0), .val (.int i1), .val (.int i2), .val (.int (i2 - i1)), .val (.int ((g ((nat i1))) &&& (255 : Int32))), .val (.int (f1_22_l5 i1 i2 g)), .val (.int ((g ((nat (i1 + (1 : Int32))))) &&& (255 : Int32))), .val (.int (128 : Int32)), .val (.int (128 : Int32)), .val (.int (f1_149_s0 i1 i2 g)), .unset, .unset, .unset, .unset] [(.int ((((g ((nat (i1 + (1 : Int32))))) &&& (255 : Int32)) &&& (63 : Int32)) <<< ((6 : Int32) &&& 31))), (.int ((((g ((nat i1))) &&& (255 : Int32)) &&& (15 : Int32)) <<< ((12 : Int32) &&& 31)))])) _
              refine XS.ior X0.here hx rfl (hb hby d1_235) rfl ?_
              show Steps p.tables e below (s₁.setTop (mkF m 236 #[.val (.ref o0), .val (.int i1), .val (.int i2), .val (.int (i2 - i1)), .val (.int ((g ((nat i1))) &&& (255 : Int32))), .val (.int (f1_22_l5 i1 i2 g)), .val (.int ((g ((nat (i1 + (1 : Int32))))) &&& (255 : Int32))), .val (.int (128 : Int32)), .val (.int (128 : Int32)), .val (.int (f1_149_s0 i1 i2 g)), .unset, .unset, .unset, .unset] [(.int (((((g ((nat i1))) &&& (255 : Int32)) &&& (15 : Int32)) <<< ((12 : Int32) &&& 31)) ||| ((((g ((nat (i1 + (1 : Int32))))) &&& (255 : Int32)) &&& (63 : Int32)) <<< ((6 : Int32) &&& 31))))])) _
              refine XS.iload X0.here hx rfl (hb hby d1_236) rfl ?_
              show Steps p.tables e below (s₁.setTop (mkF m 238 #[.val (.ref o0), .val (.int i1), .val (.int i2), .val (.int (i2 - i1)), .val (.int ((g ((nat i1))) &&& (255 : Int32))), .val (.int (f1_22_l5 i1 i2 g)), .val (.int ((g ((nat (i1 + (1 : Int32))))) &&& (255 : Int32))), .val (.int (128 : Int32)), .val (.int (128 : Int32)), .val (.int (f1_149_s0 i1 i2 g)), .unset, .unset, .unset, .unset] [(.int (128 : Int32)), (.int (((((g ((nat i1))) &&& (255 : Int32)) &&& (15 : Int32)) <<< ((12 : Int32) &&& 31)) ||| ((((g ((nat (i1 + (1 : Int32))))) &&& (255 : Int32)) &&& (63 : Int32)) <<< ((6 : Int32) &&& 31))))])) _
              refine XS.bipush X0.here hx rfl (hb hby d1_238) ?_
              show Steps p.tables e below (s₁.setTop (mkF m 240 #[.val (.ref o0), .val (.int i1), .val (.int i2), .val (.int (i2 - i1)), .val (.int ((g ((nat i1))) &&& (255 : Int32))), .val (.int (f1_22_l5 i1 i2 g)), .val (.int ((g ((nat (i1 + (1 : Int32))))) &&& (255 : Int32))), .val (.int (128 : Int32)), .val (.int (128 : Int32)), .val (.int (f1_149_s0 i1 i2 g)), .unset, .unset, .unset, .unset] [(.int (63 : Int32)), (.int (128 : Int32)), (.int (((((g ((nat i1))) &&& (255 : Int32)) &&& (15 : Int32)) <<< ((12 : Int32) &&& 31)) ||| ((((g ((nat (i1 + (1 : Int32))))) &&& (255 : Int32)) &&& (63 : Int32)) <<< ((6 : Int32) &&& 31))))])) _
              refine XS.iand X0.here hx rfl (hb hby d1_240) rfl ?_
              show Steps p.tables e below (s₁.setTop (mkF m 241 #[.val (.ref o0), .val (.int i1), .val (.int i2), .val (.int (i2 - i1)), .val (.int ((g ((nat i1))) &&& (255 : Int32))), .val (.int (f1_22_l5 i1 i2 g)), .val (.int ((g ((nat (i1 + (1 : Int32))))) &&& (255 : Int32))), .val (.int (128 : Int32)), .val (.int (128 : Int32)), .val (.int (f1_149_s0 i1 i2 g)), .unset, .unset, .unset, .unset] [(.int (0 : Int32)), (.int (((((g ((nat i1))) &&& (255 : Int32)) &&& (15 : Int32)) <<< ((12 : Int32) &&& 31)) ||| ((((g ((nat (i1 + (1 : Int32))))) &&& (255 : Int32)) &&& (63 : Int32)) <<< ((6 : Int32) &&& 31))))])) _
              refine XS.ior X0.here hx rfl (hb hby d1_241) rfl ?_
              show Steps p.tables e below (s₁.setTop (mkF m 242 #[.val (.ref o0), .val (.int i1), .val (.int i2), .val (.int (i2 - i1)), .val (.int ((g ((nat i1))) &&& (255 : Int32))), .val (.int (f1_22_l5 i1 i2 g)), .val (.int ((g ((nat (i1 + (1 : Int32))))) &&& (255 : Int32))), .val (.int (128 : Int32)), .val (.int (128 : Int32)), .val (.int (f1_149_s0 i1 i2 g)), .unset, .unset, .unset, .unset] [(.int ((((((g ((nat i1))) &&& (255 : Int32)) &&& (15 : Int32)) <<< ((12 : Int32) &&& 31)) ||| ((((g ((nat (i1 + (1 : Int32))))) &&& (255 : Int32)) &&& (63 : Int32)) <<< ((6 : Int32) &&& 31))) ||| (0 : Int32)))])) _
              refine XS.istore X0.here hx rfl (hb hby d1_242) rfl (l' := #[.val (.ref o0), .val (.int i1), .val (.int i2), .val (.int (i2 - i1)), .val (.int ((g ((nat i1))) &&& (255 : Int32))), .val (.int (f1_22_l5 i1 i2 g)), .val (.int ((g ((nat (i1 + (1 : Int32))))) &&& (255 : Int32))), .val (.int (128 : Int32)), .val (.int (128 : Int32)), .val (.int (f1_149_s0 i1 i2 g)), .val (.int (f1_v242 i1 i2 g)), .unset, .unset, .unset]) rfl ?_
              show Steps p.tables e below (s₁.setTop (mkF m 244 #[.val (.ref o0), .val (.int i1), .val (.int i2), .val (.int (i2 - i1)), .val (.int ((g ((nat i1))) &&& (255 : Int32))), .val (.int (f1_22_l5 i1 i2 g)), .val (.int ((g ((nat (i1 + (1 : Int32))))) &&& (255 : Int32))), .val (.int (128 : Int32)), .val (.int (128 : Int32)), .val (.int (f1_149_s0 i1 i2 g)), .val (.int (f1_v242 i1 i2 g)), .unset, .unset, .unset] [])) _
              refine XS.sipush X0.here hx rfl (hb hby d1_244) ?_
              show Steps p.tables e below (s₁.setTop (mkF m 247 #[.val (.ref o0), .val (.int i1), .val (.int i2), .val (.int (i2 - i1)), .val (.int ((g ((nat i1))) &&& (255 : Int32))), .val (.int (f1_22_l5 i1 i2 g)), .val (.int ((g ((nat (i1 + (1 : Int32))))) &&& (255 : Int32))), .val (.int (128 : Int32)), .val (.int (128 : Int32)), .val (.int (f1_149_s0 i1 i2 g)), .val (.int (f1_v242 i1 i2 g)), .unset, .unset, .unset] [(.int (2048 : Int32))])) _
              refine XS.istore X0.here hx rfl (hb hby d1_247) rfl (l' := #[.val (.ref o0), .val (.int i1), .val (.int i2), .val (.int (i2 - i1)), .val (.int ((g ((nat i1))) &&& (255 : Int32))), .val (.int (f1_22_l5 i1 i2 g)), .val (.int ((g ((nat (i1 + (1 : Int32))))) &&& (255 : Int32))), .val (.int (128 : Int32)), .val (.int (128 : Int32)), .val (.int (f1_149_s0 i1 i2 g)), .val (.int (f1_v242 i1 i2 g)), .val (.int (2048 : Int32)), .unset, .unset]) rfl ?_
              show Steps p.tables e below (s₁.setTop (mkF m 249 #[.val (.ref o0), .val (.int i1), .val (.int i2), .val (.int (i2 - i1)), .val (.int ((g ((nat i1))) &&& (255 : Int32))), .val (.int (f1_22_l5 i1 i2 g)), .val (.int ((g ((nat (i1 + (1 : Int32))))) &&& (255 : Int32))), .val (.int (128 : Int32)), .val (.int (128 : Int32)), .val (.int (f1_149_s0 i1 i2 g)), .val (.int (f1_v242 i1 i2 g)), .val (.int (2048 : Int32)), .unset, .unset] [])) _
              refine XS.goto X0.here hx rfl (pc0 := 249) (pc' := 290) rfl (hb hby d1_249) (by decide) (by decide) ?_
              show Steps p.tables e below (s₁.setTop (mkF m 290 #[.val (.ref o0), .val (.int i1), .val (.int i2), .val (.int (i2 - i1)), .val (.int ((g ((nat i1))) &&& (255 : Int32))), .val (.int (f1_22_l5 i1 i2 g)), .val (.int ((g ((nat (i1 + (1 : Int32))))) &&& (255 : Int32))), .val (.int (128 : Int32)), .val (.int (128 : Int32)), .val (.int (f1_149_s0 i1 i2 g)), .val (.int (f1_v242 i1 i2 g)), .val (.int (2048 : Int32)), .unset, .unset] [])) _
              rw [show (f1_186_l10 i1 i2 g) = (f1_v242 i1 i2 g) from ((if_neg hc186).trans (if_pos hc216)), show (f1_186_l11 i1 i2 g) = (2048 : Int32) from ((if_neg hc186).trans (if_pos hc216))] at k
              exact k
            · refine XS.icmpYes X0.here hx rfl (pc0 := 216) (pc' := 252) rfl (hb hby d1_216) rfl (feq hc216).2 (by decide) (by decide) ?_
              show Steps p.tables e below (s₁.setTop (mkF m 252 #[.val (.ref o0), .val (.int i1), .val (.int i2), .val (.int (i2 - i1)), .val (.int ((g ((nat i1))) &&& (255 : Int32))), .val (.int (f1_22_l5 i1 i2 g)), .val (.int ((g ((nat (i1 + (1 : Int32))))) &&& (255 : Int32))), .val (.int (128 : Int32)), .val (.int (128 : Int32)), .val (.int (f1_149_s0 i1 i2 g)), .unset, .unset, .unset, .unset] [])) _
              refine XS.iload X0.here hx rfl (hb hby d1_252) rfl ?_
              show Steps p.tables e below (s₁.setTop (mkF m 254 #[.val (.ref o0), .val (.int i1), .val (.int i2), .val (.int (i2 - i1)), .val (.int ((g ((nat i1))) &&& (255 : Int32))), .val (.int (f1_22_l5 i1 i2 g)), .val (.int ((g ((nat (i1 + (1 : Int32))))) &&& (255 : Int32))), .val (.int (128 : Int32)), .val (.int (128 : Int32)), .val (.int (f1_149_s0 i1 i2 g)), .unset, .unset, .unset, .unset] [(.int ((g ((nat i1))) &&& (255 : Int32)))])) _
              refine XS.bipush X0.here hx rfl (hb hby d1_254) ?_
              show Steps p.tables e below (s₁.setTop (mkF m 256 #[.val (.ref o0), .val (.int i1), .val (.int i2), .val (.int (i2 - i1)), .val (.int ((g ((nat i1))) &&& (255 : Int32))), .val (.int (f1_22_l5 i1 i2 g)), .val (.int ((g ((nat (i1 + (1 : Int32))))) &&& (255 : Int32))), .val (.int (128 : Int32)), .val (.int (128 : Int32)), .val (.int (f1_149_s0 i1 i2 g)), .unset, .unset, .unset, .unset] [(.int (7 : Int32)), (.int ((g ((nat i1))) &&& (255 : Int32)))])) _
              refine XS.iand X0.here hx rfl (hb hby d1_256) rfl ?_
              show Steps p.tables e below (s₁.setTop (mkF m 257 #[.val (.ref o0), .val (.int i1), .val (.int i2), .val (.int (i2 - i1)), .val (.int ((g ((nat i1))) &&& (255 : Int32))), .val (.int (f1_22_l5 i1 i2 g)), .val (.int ((g ((nat (i1 + (1 : Int32))))) &&& (255 : Int32))), .val (.int (128 : Int32)), .val (.int (128 : Int32)), .val (.int (f1_149_s0 i1 i2 g)), .unset, .unset, .unset, .unset] [(.int (((g ((nat i1))) &&& (255 : Int32)) &&& (7 : Int32)))])) _
              refine XS.bipush X0.here hx rfl (hb hby d1_257) ?_
              show Steps p.tables e below (s₁.setTop (mkF m 259 #[.val (.ref o0), .val (.int i1), .val (.int i2), .val (.int (i2 - i1)), .val (.int ((g ((nat i1))) &&& (255 : Int32))), .val (.int (f1_22_l5 i1 i2 g)), .val (.int ((g ((nat (i1 + (1 : Int32))))) &&& (255 : Int32))), .val (.int (128 : Int32)), .val (.int (128 : Int32)), .val (.int (f1_149_s0 i1 i2 g)), .unset, .unset, .unset, .unset] [(.int (18 : Int32)), (.int (((g ((nat i1))) &&& (255 : Int32)) &&& (7 : Int32)))])) _
              refine XS.ishl X0.here hx rfl (hb hby d1_259) rfl ?_
              show Steps p.tables e below (s₁.setTop (mkF m 260 #[.val (.ref o0), .val (.int i1), .val (.int i2), .val (.int (i2 - i1)), .val (.int ((g ((nat i1))) &&& (255 : Int32))), .val (.int (f1_22_l5 i1 i2 g)), .val (.int ((g ((nat (i1 + (1 : Int32))))) &&& (255 : Int32))), .val (.int (128 : Int32)), .val (.int (128 : Int32)), .val (.int (f1_149_s0 i1 i2 g)), .unset, .unset, .unset, .unset] [(.int ((((g ((nat i1))) &&& (255 : Int32)) &&& (7 : Int32)) <<< ((18 : Int32) &&& 31)))])) _
              refine XS.iload X0.here hx rfl (hb hby d1_260) rfl ?_
              show Steps p.tables e below (s₁.setTop (mkF m 262 #[.val (.ref o0), .val (.int i1), .val (.int i2), .val (.int (i2 - i1)), .val (.int ((g ((nat i1))) &&& (255 : Int32))), .val (.int (f1_22_l5 i1 i2 g)), .val (.int ((g ((nat (i1 + (1 : Int32))))) &&& (255 : Int32))), .val (.int (128 : Int32)), .val (.int (128 : Int32)), .val (.int (f1_149_s0 i1 i2 g)), .unset, .unset, .unset, .unset] [(.int ((g ((nat (i1 + (1 : Int32))))) &&& (255 : Int32))), (.int ((((g ((nat i1))) &&& (255 : Int32)) &&& (7 : Int32)) <<< ((18 : Int32) &&& 31)))])) _
              refine XS.bipush X0.here hx rfl (hb hby d1_262) ?_
              show Steps p.tables e below (s₁.setTop (mkF m 264 #[.val (.ref o0), .val (.int i1), .val (.int i2), .val (.int (i2 - i1)), .val (.int ((g ((nat i1))) &&& (255 : Int32))), .val (.int (f1_22_l5 i1 i2 g)), .val (.int ((g ((nat (i1 + (1 : Int32))))) &&& (255 : Int32))), .val (.int (128 : Int32)), .val (.int (128 : Int32)), .val (.int (f1_149_s0 i1 i2 g)), .unset, .unset, .unset, .unset] [(.int (63 : Int32)), (.int ((g ((nat (i1 + (1 : Int32))))) &&& (255 : Int32))), (.int ((((g ((nat i1))) &&& (255 : Int32)) &&& (7 : Int32)) <<< ((18 : Int32) &&& 31)))])) _
              refine XS.iand X0.here hx rfl (hb hby d1_264) rfl ?_
              show Steps p.tables e below (s₁.setTop (mkF m 265 #[.val (.ref o0), .val (.int i1), .val (.int i2), .val (.int (i2 - i1)), .val (.int ((g ((nat i1))) &&& (255 : Int32))), .val (.int (f1_22_l5 i1 i2 g)), .val (.int ((g ((nat (i1 + (1 : Int32))))) &&& (255 : Int32))), .val (.int (128 : Int32)), .val (.int (128 : Int32)), .val (.int (f1_149_s0 i1 i2 g)), .unset, .unset, .unset, .unset] [(.int (((g ((nat (i1 + (1 : Int32))))) &&& (255 : Int32)) &&& (63 : Int32))), (.int ((((g ((nat i1))) &&& (255 : Int32)) &&& (7 : Int32)) <<< ((18 : Int32) &&& 31)))])) _
              refine XS.bipush X0.here hx rfl (hb hby d1_265) ?_
              show Steps p.tables e below (s₁.setTop (mkF m 267 #[.val (.ref o0), .val (.int i1), .val (.int i2), .val (.int (i2 - i1)), .val (.int ((g ((nat i1))) &&& (255 : Int32))), .val (.int (f1_22_l5 i1 i2 g)), .val (.int ((g ((nat (i1 + (1 : Int32))))) &&& (255 : Int32))), .val (.int (128 : Int32)), .val (.int (128 : Int32)), .val (.int (f1_149_s0 i1 i2 g)), .unset, .unset, .unset, .unset] [(.int (12 : Int32)), (.int (((g ((nat (i1 + (1 : Int32))))) &&& (255 : Int32)) &&& (63 : Int32))), (.int ((((g ((nat i1))) &&& (255 : Int32)) &&& (7 : Int32)) <<< ((18 : Int32) &&& 31)))])) _
              refine XS.ishl X0.here hx rfl (hb hby d1_267) rfl ?_
              show Steps p.tables e below (s₁.setTop (mkF m 268 #[.val (.ref o0), .val (.int i1), .val (.int i2), .val (.int (i2 - i1)), .val (.int ((g ((nat i1))) &&& (255 : Int32))), .val (.int (f1_22_l5 i1 i2 g)), .val (.int ((g ((nat (i1 + (1 : Int32))))) &&& (255 : Int32))), .val (.int (128 : Int32)), .val (.int (128 : Int32)), .val (.int (f1_149_s0 i1 i2 g)), .unset, .unset, .unset, .unset] [(.int ((((g ((nat (i1 + (1 : Int32))))) &&& (255 : Int32)) &&& (63 : Int32)) <<< ((12 : Int32) &&& 31))), (.int ((((g ((nat i1))) &&& (255 : Int32)) &&& (7 : Int32)) <<< ((18 : Int32) &&& 31)))])) _
              refine XS.ior X0.here hx rfl (hb hby d1_268) rfl ?_
              show Steps p.tables e below (s₁.setTop (mkF m 269 #[.val (.ref o0), .val (.int i1), .val (.int i2), .val (.int (i2 - i1)), .val (.int ((g ((nat i1))) &&& (255 : Int32))), .val (.int (f1_22_l5 i1 i2 g)), .val (.int ((g ((nat (i1 + (1 : Int32))))) &&& (255 : Int32))), .val (.int (128 : Int32)), .val (.int (128 : Int32)), .val (.int (f1_149_s0 i1 i2 g)), .unset, .unset, .unset, .unset] [(.int (((((g ((nat i1))) &&& (255 : Int32)) &&& (7 : Int32)) <<< ((18 : Int32) &&& 31)) ||| ((((g ((nat (i1 + (1 : Int32))))) &&& (255 : Int32)) &&& (63 : Int32)) <<< ((12 : Int32) &&& 31))))])) _
              refine XS.iload X0.here hx rfl (hb hby d1_269) rfl ?_
              show Steps p.tables e below (s₁.setTop (mkF m 271 #[.val (.ref o0), .val (.int i1), .val (.int i2), .val (.int (i2 - i1)), .val (.int ((g ((nat i1))) &&& (255 : Int32))), .val (.int (f1_22_l5 i1 i2 g)), .val (.int ((g ((nat (i1 + (1 : Int32))))) &&& (255 : Int32))), .val (.int (128 : Int32)), .val (.int (128 : Int32)), .val (.int (f1_149_s0 i1 i2 g)), .unset, .unset, .unset, .unset] [(.int (128 : Int32)), (.int (((((g ((nat i1))) &&& (255 : Int32)) &&& (7 : Int32)) <<< ((18 : Int32) &&& 31)) ||| ((((g ((nat (i1 + (1 : Int32))))) &&& (255 : Int32)) &&& (63 : Int32)) <<< ((12 : Int32) &&& 31))))])) _
              refine XS.bipush X0.here hx rfl (hb hby d1_271) ?_
              show Steps p.tables e below (s₁.setTop (mkF m 273 #[.val (.ref o0), .val (.int i1), .val (.int i2), .val (.int (i2 - i1)), .val (.int ((g ((nat i1))) &&& (255 : Int32))), .val (.int (f1_22_l5 i1 i2 g)), .val (.int ((g ((nat (i1 + (1 : Int32))))) &&& (255 : Int32))), .val (.int (128 : Int32)), .val (.int (128 : Int32)), .val (.int (f1_149_s0 i1 i2 g)), .unset, .unset, .unset, .unset] [(.int (63 : Int32)), (.int (128 : Int32)), (.int (((((g ((nat i1))) &&& (255 : Int32)) &&& (7 : Int32)) <<< ((18 : Int32) &&& 31)) ||| ((((g ((nat (i1 + (1 : Int32))))) &&& (255 : Int32)) &&& (63 : Int32)) <<< ((12 : Int32) &&& 31))))])) _
              refine XS.iand X0.here hx rfl (hb hby d1_273) rfl ?_
              show Steps p.tables e below (s₁.setTop (mkF m 274 #[.val (.ref o0), .val (.int i1), .val (.int i2), .val (.int (i2 - i1)), .val (.int ((g ((nat i1))) &&& (255 : Int32))), .val (.int (f1_22_l5 i1 i2 g)), .val (.int ((g ((nat (i1 + (1 : Int32))))) &&& (255 : Int32))), .val (.int (128 : Int32)), .val (.int (128 : Int32)), .val (.int (f1_149_s0 i1 i2 g)), .unset, .unset, .unset, .unset] [(.int (0 : Int32)), (.int (((((g ((nat i1))) &&& (255 : Int32)) &&& (7 : Int32)) <<< ((18 : Int32) &&& 31)) ||| ((((g ((nat (i1 + (1 : Int32))))) &&& (255 : Int32)) &&& (63 : Int32)) <<< ((12 : Int32) &&& 31))))])) _
              refine XS.bipush X0.here hx rfl (hb hby d1_274) ?_
              show Steps p.tables e below (s₁.setTop (mkF m 276 #[.val (.ref o0), .val (.int i1), .val (.int i2), .val (.int (i2 - i1)), .val (.int ((g ((nat i1))) &&& (255 : Int32))), .val (.int (f1_22_l5 i1 i2 g)), .val (.int ((g ((nat (i1 + (1 : Int32))))) &&& (255 : Int32))), .val (.int (128 : Int32)), .val (.int (128 : Int32)), .val (.int (f1_149_s0 i1 i2 g)), .unset, .unset, .unset, .unset] [(.int (6 : Int32)), (.int (0 : Int32)), (.int (((((g ((nat i1))) &&& (255 : Int32)) &&& (7 : Int32)) <<< ((18 : Int32) &&& 31)) ||| ((((g ((nat (i1 + (1 : Int32))))) &&& (255 : Int32)) &&& (63 : Int32)) <<< ((12 : Int32) &&& 31))))])) _
              refine XS.ishl X0.here hx rfl (hb hby d1_276) rfl ?_
              show Steps p.tables e below (s₁.setTop (mkF m 277 #[.val (.ref o0), .val (.int i1), .val (.int i2), .val (.int (i2 - i1)), .val (.int ((g ((nat i1))) &&& (255 : Int32))), .val (.int (f1_22_l5 i1 i2 g)), .val (.int ((g ((nat (i1 + (1 : Int32))))) &&& (255 : Int32))), .val (.int (128 : Int32)), .val (.int (128 : Int32)), .val (.int (f1_149_s0 i1 i2 g)), .unset, .unset, .unset, .unset] [(.int ((0 : Int32) <<< ((6 : Int32) &&& 31))), (.int (((((g ((nat i1))) &&& (255 : Int32)) &&& (7 : Int32)) <<< ((18 : Int32) &&& 31)) ||| ((((g ((nat (i1 + (1 : Int32))))) &&& (255 : Int32)) &&& (63 : Int32)) <<< ((12 : Int32) &&& 31))))])) _
              refine XS.ior X0.here hx rfl (hb hby d1_277) rfl ?_
              show Steps p.tables e below (s₁.setTop (mkF m 278 #[.val (.ref o0), .val (.int i1), .val (.int i2), .val (.int (i2 - i1)), .val (.int ((g ((nat i1))) &&& (255 : Int32))), .val (.int (f1_22_l5 i1 i2 g)), .val (.int ((g ((nat (i1 + (1 : Int32))))) &&& (255 : Int32))), .val (.int (128 : Int32)), .val (.int (128 : Int32)), .val (.int (f1_149_s0 i1 i2 g)), .unset, .unset, .unset, .unset] [(.int ((((((g ((nat i1))) &&& (255 : Int32)) &&& (7 : Int32)) <<< ((18 : Int32) &&& 31)) ||| ((((g ((nat (i1 + (1 : Int32))))) &&& (255 : Int32)) &&& (63 : Int32)) <<< ((12 : Int32) &&& 31))) ||| ((0 : Int32) <<< ((6 : Int32) &&& 31))))])) _
              refine XS.iload X0.here hx rfl (hb hby d1_278) rfl ?_
              show Steps p.tables e below (s₁.setTop (mkF m 280 #[.val (.ref o0), .val (.int i1), .val (.int i2), .val (.int (i2 - i1)), .val (.int ((g ((nat i1))) &&& (255 : Int32))), .val (.int (f1_22_l5 i1 i2 g)), .val (.int ((g ((nat (i1 + (1 : Int32))))) &&& (255 : Int32))), .val (.int (128 : Int32)), .val (.int (128 : Int32)), .val (.int (f1_149_s0 i1 i2 g)), .unset, .unset, .unset, .unset] [(.int (128 : Int32)), (.int ((((((g ((nat i1))) &&& (255 : Int32)) &&& (7 : Int32)) <<< ((18 : Int32) &&& 31)) ||| ((((g ((nat (i1 + (1 : Int32))))) &&& (255 : Int32)) &&& (63 : Int32)) <<< ((12 : Int32) &&& 31))) ||| ((0 : Int32) <<< ((6 : Int32) &&& 31))))])) _
              refine XS.bipush X0.here hx rfl (hb hby d1_280) ?_
              show Steps p.tables e below (s₁.setTop (mkF m 282 #[.val (.ref o0), .val (.int i1), .val (.int i2), .val (.int (i2 - i1)), .val (.int ((g ((nat i1))) &&& (255 : Int32))), .val (.int (f1_22_l5 i1 i2 g)), .val (.int ((g ((nat (i1 + (1 : Int32))))) &&& (255 : Int32))), .val (.int (128 : Int32)), .val (.int (128 : Int32)), .val (.int (f1_149_s0 i1 i2 g)), .unset, .unset, .unset, .unset] [(.int (63 : Int32)), (.int (128 : Int32)), (.int ((((((g ((nat i1))) &&& (255 : Int32)) &&& (7 : Int32)) <<< ((18 : Int32) &&& 31)) ||| ((((g ((nat (i1 + (1 : Int32))))) &&& (255 : Int32)) &&& (63 : Int32)) <<< ((12 : Int32) &&& 31))) ||| ((0 : Int32) <<< ((6 : Int32) &&& 31))))])) _
              refine XS.iand X0.here hx rfl (hb hby d1_282) rfl ?_
              show Steps p.tables e below (s₁.setTop (mkF m 283 #[.val (.ref o0), .val (.int i1), .val (.int i2), .val (.int (i2 - i1)), .val (.int ((g ((nat i1))) &&& (255 : Int32))), .val (.int (f1_22_l5 i1 i2 g)), .val (.int ((g ((nat (i1 + (1 : Int32))))) &&& (255 : Int32))), .val (.int (128 : Int32)), .val (.int (128 : Int32)), .val (.int (f1_149_s0 i1 i2 g)), .unset, .unset, .unset, .unset] [(.int (0 : Int32)), (.int ((((((g ((nat i1))) &&& (255 : Int32)) &&& (7 : Int32)) <<< ((18 : Int32) &&& 31)) ||| ((((g ((nat (i1 + (1 : Int32))))) &&& (255 : Int32)) &&& (63 : Int32)) <<< ((12 : Int32) &&& 31))) ||| ((0 : Int32) <<< ((6 : Int32) &&& 31))))])) _
              refine XS.ior X0.here hx rfl (hb hby d1_283) rfl ?_
              show Steps p.tables e below (s₁.setTop (mkF m 284 #[.val (.ref o0), .val (.int i1), .val (.int i2), .val (.int (i2 - i1)), .val (.int ((g ((nat i1))) &&& (255 : Int32))), .val (.int (f1_22_l5 i1 i2 g)), .val (.int ((g ((nat (i1 + (1 : Int32))))) &&& (255 : Int32))), .val (.int (128 : Int32)), .val (.int (128 : Int32)), .val (.int (f1_149_s0 i1 i2 g)), .unset, .unset, .unset, .unset] [(.int (((((((g ((nat i1))) &&& (255 : Int32)) &&& (7 : Int32)) <<< ((18 : Int32) &&& 31)) ||| ((((g ((nat (i1 + (1 : Int32))))) &&& (255 : Int32)) &&& (63 : Int32)) <<< ((12 : Int32) &&& 31))) ||| ((0 : Int32) <<< ((6 : Int32) &&& 31))) ||| (0 : Int32)))])) _
              refine XS.istore X0.here hx rfl (hb hby d1_284) rfl (l' := #[.val (.ref o0), .val (.int i1), .val (.int i2), .val (.int (i2 - i1)), .val (.int ((g ((nat i1))) &&& (255 : Int32))), .val (.int (f1_22_l5 i1 i2 g)), .val (.int ((g ((nat (i1 + (1 : Int32))))) &&& (255 : Int32))), .val (.int (128 : Int32)), .val (.int (128 : Int32)), .val (.int (f1_149_s0 i1 i2 g)), .val (.int (f1_v284 i1 i2 g)), .unset, .unset, .unset]) rfl ?_
              show Steps p.tables e below (s₁.setTop (mkF m 286 #[.val (.ref o0), .val (.int i1), .val (.int i2), .val (.int (i2 - i1)), .val (.int ((g ((nat i1))) &&& (255 : Int32))), .val (.int (f1_22_l5 i1 i2 g)), .val (.int ((g ((nat (i1 + (1 : Int32))))) &&& (255 : Int32))), .val (.int (128 : Int32)), .val (.int (128 : Int32)), .val (.int (f1_149_s0 i1 i2 g)), .val (.int (f1_v284 i1 i2 g)), .unset, .unset, .unset] [])) _
              refine X0.ldcInt hx hown (mvT hZ (hw _ (List.mem_of_getElem? (i := 12) rfl))) (g := (mkF m 286 #[.val (.ref o0), .val (.int i1), .val (.int i2), .val (.int (i2 - i1)), .val (.int ((g ((nat i1))) &&& (255 : Int32))), .val (.int (f1_22_l5 i1 i2 g)), .val (.int ((g ((nat (i1 + (1 : Int32))))) &&& (255 : Int32))), .val (.int (128 : Int32)), .val (.int (128 : Int32)), .val (.int (f1_149_s0 i1 i2 g)), .val (.int (f1_v284 i1 i2 g)), .unset, .unset, .unset] [])) rfl (hb hby d1_286) _ ?_
              show Steps p.tables e below (s₁.setTop (mkF m 288 #[.val (.ref o0), .val (.int i1), .val (.int i2), .val (.int (i2 - i1)), .val (.int ((g ((nat i1))) &&& (255 : Int32))), .val (.int (f1_22_l5 i1 i2 g)), .val (.int ((g ((nat (i1 + (1 : Int32))))) &&& (255 : Int32))), .val (.int (128 : Int32)), .val (.int (128 : Int32)), .val (.int (f1_149_s0 i1 i2 g)), .val (.int (f1_v284 i1 i2 g)), .unset, .unset, .unset] [(.int (65536 : Int32))])) _
              refine XS.istore X0.here hx rfl (hb hby d1_288) rfl (l' := #[.val (.ref o0), .val (.int i1), .val (.int i2), .val (.int (i2 - i1)), .val (.int ((g ((nat i1))) &&& (255 : Int32))), .val (.int (f1_22_l5 i1 i2 g)), .val (.int ((g ((nat (i1 + (1 : Int32))))) &&& (255 : Int32))), .val (.int (128 : Int32)), .val (.int (128 : Int32)), .val (.int (f1_149_s0 i1 i2 g)), .val (.int (f1_v284 i1 i2 g)), .val (.int (65536 : Int32)), .unset, .unset]) rfl ?_
              show Steps p.tables e below (s₁.setTop (mkF m 290 #[.val (.ref o0), .val (.int i1), .val (.int i2), .val (.int (i2 - i1)), .val (.int ((g ((nat i1))) &&& (255 : Int32))), .val (.int (f1_22_l5 i1 i2 g)), .val (.int ((g ((nat (i1 + (1 : Int32))))) &&& (255 : Int32))), .val (.int (128 : Int32)), .val (.int (128 : Int32)), .val (.int (f1_149_s0 i1 i2 g)), .val (.int (f1_v284 i1 i2 g)), .val (.int (65536 : Int32)), .unset, .unset] [])) _
              rw [show (f1_186_l10 i1 i2 g) = (f1_v284 i1 i2 g) from ((if_neg hc186).trans (if_neg hc216)), show (f1_186_l11 i1 i2 g) = (65536 : Int32) from ((if_neg hc186).trans (if_neg hc216))] at k
              exact k
        refine Outs.of (U' := s₁.setTop (mkF m 309 #[.val (.ref o0), .val (.int i1), .val (.int i2), .val (.int (i2 - i1)), .val (.int ((g ((nat i1))) &&& (255 : Int32))), .val (.int (f1_22_l5 i1 i2 g)), .val (.int ((g ((nat (i1 + (1 : Int32))))) &&& (255 : Int32))), .val (.int (128 : Int32)), .val (.int (128 : Int32)), .val (.int (f1_149_s0 i1 i2 g)), .val (.int (f1_186_l10 i1 i2 g)), .val (.int (f1_186_l11 i1 i2 g)), .unset, .unset] [(.int (f1_294_s0 i1 i2 g))])) (fun t k => ?_) ?_
        · refine XS.iload X0.here hx rfl (hb hby d1_290) rfl ?_
          show Steps p.tables e below (s₁.setTop (mkF m 292 #[.val (.ref o0), .val (.int i1), .val (.int i2), .val (.int (i2 - i1)), .val (.int ((g ((nat i1))) &&& (255 : Int32))), .val (.int (f1_22_l5 i1 i2 g)), .val (.int ((g ((nat (i1 + (1 : Int32))))) &&& (255 : Int32))), .val (.int (128 : Int32)), .val (.int (128 : Int32)), .val (.int (f1_149_s0 i1 i2 g)), .val (.int (f1_186_l10 i1 i2 g)), .val (.int (f1_186_l11 i1 i2 g)), .unset, .unset] [(.int (f1_186_l10 i1 i2 g))])) _
          refine X0.ldcInt hx hown (mvT hZ (hw _ (List.mem_of_getElem? (i := 9) rfl))) (g := (mkF m 292 #[.val (.ref o0), .val (.int i1), .val (.int i2), .val (.int (i2 - i1)), .val (.int ((g ((nat i1))) &&& (255 : Int32))), .val (.int (f1_22_l5 i1 i2 g)), .val (.int ((g ((nat (i1 + (1 : Int32))))) &&& (255 : Int32))), .val (.int (128 : Int32)), .val (.int (128 : Int32)), .val (.int (f1_149_s0 i1 i2 g)), .val (.int (f1_186_l10 i1 i2 g)), .val (.int (f1_186_l11 i1 i2 g)), .unset, .unset] [(.int (f1_186_l10 i1 i2 g))])) rfl (hb hby d1_292) _ ?_
          show Steps p.tables e below (s₁.setTop (mkF m 294 #[.val (.ref o0), .val (.int i1), .val (.int i2), .val (.int (i2 - i1)), .val (.int ((g ((nat i1))) &&& (255 : Int32))), .val (.int (f1_22_l5 i1 i2 g)), .val (.int ((g ((nat (i1 + (1 : Int32))))) &&& (255 : Int32))), .val (.int (128 : Int32)), .val (.int (128 : Int32)), .val (.int (f1_149_s0 i1 i2 g)), .val (.int (f1_186_l10 i1 i2 g)), .val (.int (f1_186_l11 i1 i2 g)), .unset, .unset] [(.int (55296 : Int32)), (.int (f1_186_l10 i1 i2 g))])) _
          by_cases hc294 : (f1_186_l10 i1 i2 g) < (55296 : Int32)
          · refine XS.icmpYes X0.here hx rfl (pc0 := 294) (pc' := 308) rfl (hb hby d1_294) rfl (tlt hc294).1 (by decide) (by decide) ?_
            show Steps p.tables e below (s₁.setTop (mkF m 308 #[.val (.ref o0), .val (.int i1), .val (.int i2), .val (.int (i2 - i1)), .val (.int ((g ((nat i1))) &&& (255 : Int32))), .val (.int (f1_22_l5 i1 i2 g)), .val (.int ((g ((nat (i1 + (1 : Int32))))) &&& (255 : Int32))), .val (.int (128 : Int32)), .val (.int (128 : Int32)), .val (.int (f1_149_s0 i1 i2 g)), .val (.int (f1_186_l10 i1 i2 g)), .val (.int (f1_186_l11 i1 i2 g)), .unset, .unset] [])) _
            refine XS.iconst X0.here hx rfl (hb hby d1_308) ?_
            show Steps p.tables e below (s₁.setTop (mkF m 309 #[.val (.ref o0), .val (.int i1), .val (.int i2), .val (.int (i2 - i1)), .val (.int ((g ((nat i1))) &&& (255 : Int32))), .val (.int (f1_22_l5 i1 i2 g)), .val (.int ((g ((nat (i1 + (1 : Int32))))) &&& (255 : Int32))), .val (.int (128 : Int32)), .val (.int (128 : Int32)), .val (.int (f1_149_s0 i1 i2 g)), .val (.int (f1_186_l10 i1 i2 g)), .val (.int (f1_186_l11 i1 i2 g)), .unset, .unset] [(.int (0 : Int32))])) _
            rw [show (f1_294_s0 i1 i2 g) = (0 : Int32) from (if_pos hc294)] at k
            exact k
          · refine XS.icmpNo X0.here hx rfl (hb hby d1_294) rfl (flt hc294).1 ?_
            show Steps p.tables e below (s₁.setTop (mkF m 297 #[.val (.ref o0), .val (.int i1), .val (.int i2), .val (.int (i2 - i1)), .val (.int ((g ((nat i1))) &&& (255 : Int32))), .val (.int (f1_22_l5 i1 i2 g)), .val (.int ((g ((nat (i1 + (1 : Int32))))) &&& (255 : Int32))), .val (.int (128 : Int32)), .val (.int (128 : Int32)), .val (.int (f1_149_s0 i1 i2 g)), .val (.int (f1_186_l10 i1 i2 g)), .val (.int (f1_186_l11 i1 i2 g)), .unset, .unset] [])) _
            refine XS.iload X0.here hx rfl (hb hby d1_297) rfl ?_
            show Steps p.tables e below (s₁.setTop (mkF m 299 #[.val (.ref o0), .val (.int i1), .val (.int i2), .val (.int (i2 - i1)), .val (.int ((g ((nat i1))) &&& (255 : Int32))), .val (.int (f1_22_l5 i1 i2 g)), .val (.int ((g ((nat (i1 + (1 : Int32))))) &&& (255 : Int32))), .val (.int (128 : Int32)), .val (.int (128 : Int32)), .val (.int (f1_149_s0 i1 i2 g)), .val (.int (f1_186_l10 i1 i2 g)), .val (.int (f1_186_l11 i1 i2 g)), .unset, .unset] [(.int (f1_186_l10 i1 i2 g))])) _
            refine X0.ldcInt hx hown (mvT hZ (hw _ (List.mem_of_getElem? (i := 11) rfl))) (g := (mkF m 299 #[.val (.ref o0), .val (.int i1), .val (.int i2), .val (.int (i2 - i1)), .val (.int ((g ((nat i1))) &&& (255 : Int32))), .val (.int (f1_22_l5 i1 i2 g)), .val (.int ((g ((nat (i1 + (1 : Int32))))) &&& (255 : Int32))), .val (.int (128 : Int32)), .val (.int (128 : Int32)), .val (.int (f1_149_s0 i1 i2 g)), .val (.int (f1_186_l10 i1 i2 g)), .val (.int (f1_186_l11 i1 i2 g)), .unset, .unset] [(.int (f1_186_l10 i1 i2 g))])) rfl (hb hby d1_299) _ ?_
            show Steps p.tables e below (s₁.setTop (mkF m 301 #[.val (.ref o0), .val (.int i1), .val (.int i2), .val (.int (i2 - i1)), .val (.int ((g ((nat i1))) &&& (255 : Int32))), .val (.int (f1_22_l5 i1 i2 g)), .val (.int ((g ((nat (i1 + (1 : Int32))))) &&& (255 : Int32))), .val (.int (128 : Int32)), .val (.int (128 : Int32)), .val (.int (f1_149_s0 i1 i2 g)), .val (.int (f1_186_l10 i1 i2 g)), .val (.int (f1_186_l11 i1 i2 g)), .unset, .unset] [(.int (57343 : Int32)), (.int (f1_186_l10 i1 i2 g))])) _
            by_cases hc301 : (57343 : Int32) < (f1_186_l10 i1 i2 g)
            · refine XS.icmpYes X0.here hx rfl (pc0 := 301) (pc' := 308) rfl (hb hby d1_301) rfl (tlt hc301).2.2.1 (by decide) (by decide) ?_
              show Steps p.tables e below (s₁.setTop (mkF m 308 #[.val (.ref o0), .val (.int i1), .val (.int i2), .val (.int (i2 - i1)), .val (.int ((g ((nat i1))) &&& (255 : Int32))), .val (.int (f1_22_l5 i1 i2 g)), .val (.int ((g ((nat (i1 + (1 : Int32))))) &&& (255 : Int32))), .val (.int (128 : Int32)), .val (.int (128 : Int32)), .val (.int (f1_149_s0 i1 i2 g)), .val (.int (f1_186_l10 i1 i2 g)), .val (.int (f1_186_l11 i1 i2 g)), .unset, .unset] [])) _
              refine XS.iconst X0.here hx rfl (hb hby d1_308) ?_
              show Steps p.tables e below (s₁.setTop (mkF m 309 #[.val (.ref o0), .val (.int i1), .val (.int i2), .val (.int (i2 - i1)), .val (.int ((g ((nat i1))) &&& (255 : Int32))), .val (.int (f1_22_l5 i1 i2 g)), .val (.int ((g ((nat (i1 + (1 : Int32))))) &&& (255 : Int32))), .val (.int (128 : Int32)), .val (.int (128 : Int32)), .val (.int (f1_149_s0 i1 i2 g)), .val (.int (f1_186_l10 i1 i2 g)), .val (.int (f1_186_l11 i1 i2 g)), .unset, .unset] [(.int (0 : Int32))])) _
              rw [show (f1_294_s0 i1 i2 g) = (0 : Int32) from ((if_neg hc294).trans (if_pos hc301))] at k
              exact k
            · refine XS.icmpNo X0.here hx rfl (hb hby d1_301) rfl (flt hc301).2.2.1 ?_
              show Steps p.tables e below (s₁.setTop (mkF m 304 #[.val (.ref o0), .val (.int i1), .val (.int i2), .val (.int (i2 - i1)), .val (.int ((g ((nat i1))) &&& (255 : Int32))), .val (.int (f1_22_l5 i1 i2 g)), .val (.int ((g ((nat (i1 + (1 : Int32))))) &&& (255 : Int32))), .val (.int (128 : Int32)), .val (.int (128 : Int32)), .val (.int (f1_149_s0 i1 i2 g)), .val (.int (f1_186_l10 i1 i2 g)), .val (.int (f1_186_l11 i1 i2 g)), .unset, .unset] [])) _
              refine XS.iconst X0.here hx rfl (hb hby d1_304) ?_
              show Steps p.tables e below (s₁.setTop (mkF m 305 #[.val (.ref o0), .val (.int i1), .val (.int i2), .val (.int (i2 - i1)), .val (.int ((g ((nat i1))) &&& (255 : Int32))), .val (.int (f1_22_l5 i1 i2 g)), .val (.int ((g ((nat (i1 + (1 : Int32))))) &&& (255 : Int32))), .val (.int (128 : Int32)), .val (.int (128 : Int32)), .val (.int (f1_149_s0 i1 i2 g)), .val (.int (f1_186_l10 i1 i2 g)), .val (.int (f1_186_l11 i1 i2 g)), .unset, .unset] [(.int (1 : Int32))])) _
              refine XS.goto X0.here hx rfl (pc0 := 305) (pc' := 309) rfl (hb hby d1_305) (by decide) (by decide) ?_
              show Steps p.tables e below (s₁.setTop (mkF m 309 #[.val (.ref o0), .val (.int i1), .val (.int i2), .val (.int (i2 - i1)), .val (.int ((g ((nat i1))) &&& (255 : Int32))), .val (.int (f1_22_l5 i1 i2 g)), .val (.int ((g ((nat (i1 + (1 : Int32))))) &&& (255 : Int32))), .val (.int (128 : Int32)), .val (.int (128 : Int32)), .val (.int (f1_149_s0 i1 i2 g)), .val (.int (f1_186_l10 i1 i2 g)), .val (.int (f1_186_l11 i1 i2 g)), .unset, .unset] [(.int (1 : Int32))])) _
              rw [show (f1_294_s0 i1 i2 g) = (1 : Int32) from ((if_neg hc294).trans (if_neg hc301))] at k
              exact k
        refine Outs.of (U' := s₁.setTop (mkF m 340 #[.val (.ref o0), .val (.int i1), .val (.int i2), .val (.int (i2 - i1)), .val (.int ((g ((nat i1))) &&& (255 : Int32))), .val (.int (f1_22_l5 i1 i2 g)), .val (.int ((g ((nat (i1 + (1 : Int32))))) &&& (255 : Int32))), .val (.int (128 : Int32)), .val (.int (128 : Int32)), .val (.int (f1_149_s0 i1 i2 g)), .val (.int (f1_186_l10 i1 i2 g)), .val (.int (f1_186_l11 i1 i2 g)), .val (.int (f1_294_s0 i1 i2 g)), .unset] [(.int (f1_313_s0 i1 i2 g))])) (fun t k => ?_) ?_
        · refine XS.istore X0.here hx rfl (hb hby d1_309) rfl (l' := #[.val (.ref o0), .val (.int i1), .val (.int i2), .val (.int (i2 - i1)), .val (.int ((g ((nat i1))) &&& (255 : Int32))), .val (.int (f1_22_l5 i1 i2 g)), .val (.int ((g ((nat (i1 + (1 : Int32))))) &&& (255 : Int32))), .val (.int (128 : Int32)), .val (.int (128 : Int32)), .val (.int (f1_149_s0 i1 i2 g)), .val (.int (f1_186_l10 i1 i2 g)), .val (.int (f1_186_l11 i1 i2 g)), .val (.int (f1_294_s0 i1 i2 g)), .unset]) rfl ?_
          show Steps p.tables e below (s₁.setTop (mkF m 311 #[.val (.ref o0), .val (.int i1), .val (.int i2), .val (.int (i2 - i1)), .val (.int ((g ((nat i1))) &&& (255 : Int32))), .val (.int (f1_22_l5 i1 i2 g)), .val (.int ((g ((nat (i1 + (1 : Int32))))) &&& (255 : Int32))), .val (.int (128 : Int32)), .val (.int (128 : Int32)), .val (.int (f1_149_s0 i1 i2 g)), .val (.int (f1_186_l10 i1 i2 g)), .val (.int (f1_186_l11 i1 i2 g)), .val (.int (f1_294_s0 i1 i2 g)), .unset] [])) _
          refine XS.iload X0.here hx rfl (hb hby d1_311) rfl ?_
          show Steps p.tables e below (s₁.setTop (mkF m 313 #[.val (.ref o0), .val (.int i1), .val (.int i2), .val (.int (i2 - i1)), .val (.int ((g ((nat i1))) &&& (255 : Int32))), .val (.int (f1_22_l5 i1 i2 g)), .val (.int ((g ((nat (i1 + (1 : Int32))))) &&& (255 : Int32))), .val (.int (128 : Int32)), .val (.int (128 : Int32)), .val (.int (f1_149_s0 i1 i2 g)), .val (.int (f1_186_l10 i1 i2 g)), .val (.int (f1_186_l11 i1 i2 g)), .val (.int (f1_294_s0 i1 i2 g)), .unset] [(.int (f1_149_s0 i1 i2 g))])) _
          by_cases hc313 : (f1_149_s0 i1 i2 g) = (0 : Int32)
          · refine XS.ifYes X0.here hx rfl (pc0 := 313) (pc' := 339) rfl (hb hby d1_313) rfl ((if0 _ _).trans (teq hc313).1) (by decide) (by decide) ?_
            show Steps p.tables e below (s₁.setTop (mkF m 339 #[.val (.ref o0), .val (.int i1), .val (.int i2), .val (.int (i2 - i1)), .val (.int ((g ((nat i1))) &&& (255 : Int32))), .val (.int (f1_22_l5 i1 i2 g)), .val (.int ((g ((nat (i1 + (1 : Int32))))) &&& (255 : Int32))), .val (.int (128 : Int32)), .val (.int (128 : Int32)), .val (.int (f1_149_s0 i1 i2 g)), .val (.int (f1_186_l10 i1 i2 g)), .val (.int (f1_186_l11 i1 i2 g)), .val (.int (f1_294_s0 i1 i2 g)), .unset] [])) _
            refine XS.iconst X0.here hx rfl (hb hby d1_339) ?_
            show Steps p.tables e below (s₁.setTop (mkF m 340 #[.val (.ref o0), .val (.int i1), .val (.int i2), .val (.int (i2 - i1)), .val (.int ((g ((nat i1))) &&& (255 : Int32))), .val (.int (f1_22_l5 i1 i2 g)), .val (.int ((g ((nat (i1 + (1 : Int32))))) &&& (255 : Int32))), .val (.int (128 : Int32)), .val (.int (128 : Int32)), .val (.int (f1_149_s0 i1 i2 g)), .val (.int (f1_186_l10 i1 i2 g)), .val (.int (f1_186_l11 i1 i2 g)), .val (.int (f1_294_s0 i1 i2 g)), .unset] [(.int (0 : Int32))])) _
            rw [show (f1_313_s0 i1 i2 g) = (0 : Int32) from (if_pos hc313)] at k
            exact k
          · refine XS.ifNo X0.here hx rfl (hb hby d1_313) rfl ((if0 _ _).trans (feq hc313).1) ?_
            show Steps p.tables e below (s₁.setTop (mkF m 316 #[.val (.ref o0), .val (.int i1), .val (.int i2), .val (.int (i2 - i1)), .val (.int ((g ((nat i1))) &&& (255 : Int32))), .val (.int (f1_22_l5 i1 i2 g)), .val (.int ((g ((nat (i1 + (1 : Int32))))) &&& (255 : Int32))), .val (.int (128 : Int32)), .val (.int (128 : Int32)), .val (.int (f1_149_s0 i1 i2 g)), .val (.int (f1_186_l10 i1 i2 g)), .val (.int (f1_186_l11 i1 i2 g)), .val (.int (f1_294_s0 i1 i2 g)), .unset] [])) _
            refine XS.iload X0.here hx rfl (hb hby d1_316) rfl ?_
            show Steps p.tables e below (s₁.setTop (mkF m 318 #[.val (.ref o0), .val (.int i1), .val (.int i2), .val (.int (i2 - i1)), .val (.int ((g ((nat i1))) &&& (255 : Int32))), .val (.int (f1_22_l5 i1 i2 g)), .val (.int ((g ((nat (i1 + (1 : Int32))))) &&& (255 : Int32))), .val (.int (128 : Int32)), .val (.int (128 : Int32)), .val (.int (f1_149_s0 i1 i2 g)), .val (.int (f1_186_l10 i1 i2 g)), .val (.int (f1_186_l11 i1 i2 g)), .val (.int (f1_294_s0 i1 i2 g)), .unset] [(.int (f1_186_l10 i1 i2 g))])) _
            refine XS.iload X0.here hx rfl (hb hby d1_318) rfl ?_
            show Steps p.tables e below (s₁.setTop (mkF m 320 #[.val (.ref o0), .val (.int i1), .val (.int i2), .val (.int (i2 - i1)), .val (.int ((g ((nat i1))) &&& (255 : Int32))), .val (.int (f1_22_l5 i1 i2 g)), .val (.int ((g ((nat (i1 + (1 : Int32))))) &&& (255 : Int32))), .val (.int (128 : Int32)), .val (.int (128 : Int32)), .val (.int (f1_149_s0 i1 i2 g)), .val (.int (f1_186_l10 i1 i2 g)), .val (.int (f1_186_l11 i1 i2 g)), .val (.int (f1_294_s0 i1 i2 g)), .unset] [(.int (f1_186_l11 i1 i2 g)), (.int (f1_186_l10 i1 i2 g))])) _
            by_cases hc320 : (f1_186_l10 i1 i2 g) < (f1_186_l11 i1 i2 g)
            · refine XS.icmpYes X0.here hx rfl (pc0 := 320) (pc' := 339) rfl (hb hby d1_320) rfl (tlt hc320).1 (by decide) (by decide) ?_
              show Steps p.tables e below (s₁.setTop (mkF m 339 #[.val (.ref o0), .val (.int i1), .val (.int i2), .val (.int (i2 - i1)), .val (.int ((g ((nat i1))) &&& (255 : Int32))), .val (.int (f1_22_l5 i1 i2 g)), .val (.int ((g ((nat (i1 + (1 : Int32))))) &&& (255 : Int32))), .val (.int (128 : Int32)), .val (.int (128 : Int32)), .val (.int (f1_149_s0 i1 i2 g)), .val (.int (f1_186_l10 i1 i2 g)), .val (.int (f1_186_l11 i1 i2 g)), .val (.int (f1_294_s0 i1 i2 g)), .unset] [])) _
              refine XS.iconst X0.here hx rfl (hb hby d1_339) ?_
              show Steps p.tables e below (s₁.setTop (mkF m 340 #[.val (.ref o0), .val (.int i1), .val (.int i2), .val (.int (i2 - i1)), .val (.int ((g ((nat i1))) &&& (255 : Int32))), .val (.int (f1_22_l5 i1 i2 g)), .val (.int ((g ((nat (i1 + (1 : Int32))))) &&& (255 : Int32))), .val (.int (128 : Int32)), .val (.int (128 : Int32)), .val (.int (f1_149_s0 i1 i2 g)), .val (.int (f1_186_l10 i1 i2 g)), .val (.int (f1_186_l11 i1 i2 g)), .val (.int (f1_294_s0 i1 i2 g)), .unset] [(.int (0 : Int32))])) _
              rw [show (f1_313_s0 i1 i2 g) = (0 : Int32) from ((if_neg hc313).trans (if_pos hc320))] at k
              exact k
            · refine XS.icmpNo X0.here hx rfl (hb hby d1_320) rfl (flt hc320).1 ?_
              show Steps p.tables e below (s₁.setTop (mkF m 323 #[.val (.ref o0), .val (.int i1), .val (.int i2), .val (.int (i2 - i1)), .val (.int ((g ((nat i1))) &&& (255 : Int32))), .val (.int (f1_22_l5 i1 i2 g)), .val (.int ((g ((nat (i1 + (1 : Int32))))) &&& (255 : Int32))), .val (.int (128 : Int32)), .val (.int (128 : Int32)), .val (.int (f1_149_s0 i1 i2 g)), .val (.int (f1_186_l10 i1 i2 g)), .val (.int (f1_186_l11 i1 i2 g)), .val (.int (f1_294_s0 i1 i2 g)), .unset] [])) _
              refine XS.iload X0.here hx rfl (hb hby d1_323) rfl ?_
              show Steps p.tables e below (s₁.setTop (mkF m 325 #[.val (.ref o0), .val (.int i1), .val (.int i2), .val (.int (i2 - i1)), .val (.int ((g ((nat i1))) &&& (255 : Int32))), .val (.int (f1_22_l5 i1 i2 g)), .val (.int ((g ((nat (i1 + (1 : Int32))))) &&& (255 : Int32))), .val (.int (128 : Int32)), .val (.int (128 : Int32)), .val (.int (f1_149_s0 i1 i2 g)), .val (.int (f1_186_l10 i1 i2 g)), .val (.int (f1_186_l11 i1 i2 g)), .val (.int (f1_294_s0 i1 i2 g)), .unset] [(.int (f1_186_l10 i1 i2 g))])) _
              refine X0.ldcInt hx hown (mvT hZ (hw _ (List.mem_of_getElem? (i := 10) rfl))) (g := (mkF m 325 #[.val (.ref o0), .val (.int i1), .val (.int i2), .val (.int (i2 - i1)), .val (.int ((g ((nat i1))) &&& (255 : Int32))), .val (.int (f1_22_l5 i1 i2 g)), .val (.int ((g ((nat (i1 + (1 : Int32))))) &&& (255 : Int32))), .val (.int (128 : Int32)), .val (.int (128 : Int32)), .val (.int (f1_149_s0 i1 i2 g)), .val (.int (f1_186_l10 i1 i2 g)), .val (.int (f1_186_l11 i1 i2 g)), .val (.int (f1_294_s0 i1 i2 g)), .unset] [(.int (f1_186_l10 i1 i2 g))])) rfl (hb hby d1_325) _ ?_
              show Steps p.tables e below (s₁.setTop (mkF m 327 #[.val (.ref o0), .val (.int i1), .val (.int i2), .val (.int (i2 - i1)), .val (.int ((g ((nat i1))) &&& (255 : Int32))), .val (.int (f1_22_l5 i1 i2 g)), .val (.int ((g ((nat (i1 + (1 : Int32))))) &&& (255 : Int32))), .val (.int (128 : Int32)), .val (.int (128 : Int32)), .val (.int (f1_149_s0 i1 i2 g)), .val (.int (f1_186_l10 i1 i2 g)), .val (.int (f1_186_l11 i1 i2 g)), .val (.int (f1_294_s0 i1 i2 g)), .unset] [(.int (1114111 : Int32)), (.int (f1_186_l10 i1 i2 g))])) _
              by_cases hc327 : (1114111 : Int32) < (f1_186_l10 i1 i2 g)
              · refine XS.icmpYes X0.here hx rfl (pc0 := 327) (pc' := 339) rfl (hb hby d1_327) rfl (tlt hc327).2.2.1 (by decide) (by decide) ?_
                show Steps p.tables e below (s₁.setTop (mkF m 339 #[.val (.ref o0), .val (.int i1), .val (.int i2), .val (.int (i2 - i1)), .val (.int ((g ((nat i1))) &&& (255 : Int32))), .val (.int (f1_22_l5 i1 i2 g)), .val (.int ((g ((nat (i1 + (1 : Int32))))) &&& (255 : Int32))), .val (.int (128 : Int32)), .val (.int (128 : Int32)), .val (.int (f1_149_s0 i1 i2 g)), .val (.int (f1_186_l10 i1 i2 g)), .val (.int (f1_186_l11 i1 i2 g)), .val (.int (f1_294_s0 i1 i2 g)), .unset] [])) _
                refine XS.iconst X0.here hx rfl (hb hby d1_339) ?_
                show Steps p.tables e below (s₁.setTop (mkF m 340 #[.val (.ref o0), .val (.int i1), .val (.int i2), .val (.int (i2 - i1)), .val (.int ((g ((nat i1))) &&& (255 : Int32))), .val (.int (f1_22_l5 i1 i2 g)), .val (.int ((g ((nat (i1 + (1 : Int32))))) &&& (255 : Int32))), .val (.int (128 : Int32)), .val (.int (128 : Int32)), .val (.int (f1_149_s0 i1 i2 g)), .val (.int (f1_186_l10 i1 i2 g)), .val (.int (f1_186_l11 i1 i2 g)), .val (.int (f1_294_s0 i1 i2 g)), .unset] [(.int (0 : Int32))])) _
                rw [show (f1_313_s0 i1 i2 g) = (0 : Int32) from ((if_neg hc313).trans ((if_neg hc320).trans (if_pos hc327)))] at k
                exact k
              · refine XS.icmpNo X0.here hx rfl (hb hby d1_327) rfl (flt hc327).2.2.1 ?_
                show Steps p.tables e below (s₁.setTop (mkF m 330 #[.val (.ref o0), .val (.int i1), .val (.int i2), .val (.int (i2 - i1)), .val (.int ((g ((nat i1))) &&& (255 : Int32))), .val (.int (f1_22_l5 i1 i2 g)), .val (.int ((g ((nat (i1 + (1 : Int32))))) &&& (255 : Int32))), .val (.int (128 : Int32)), .val (.int (128 : Int32)), .val (.int (f1_149_s0 i1 i2 g)), .val (.int (f1_186_l10 i1 i2 g)), .val (.int (f1_186_l11 i1 i2 g)), .val (.int (f1_294_s0 i1 i2 g)), .unset] [])) _
                refine XS.iload X0.here hx rfl (hb hby d1_330) rfl ?_
                show Steps p.tables e below (s₁.setTop (mkF m 332 #[.val (.ref o0), .val (.int i1), .val (.int i2), .val (.int (i2 - i1)), .val (.int ((g ((nat i1))) &&& (255 : Int32))), .val (.int (f1_22_l5 i1 i2 g)), .val (.int ((g ((nat (i1 + (1 : Int32))))) &&& (255 : Int32))), .val (.int (128 : Int32)), .val (.int (128 : Int32)), .val (.int (f1_149_s0 i1 i2 g)), .val (.int (f1_186_l10 i1 i2 g)), .val (.int (f1_186_l11 i1 i2 g)), .val (.int (f1_294_s0 i1 i2 g)), .unset] [(.int (f1_294_s0 i1 i2 g))])) _
                by_cases hc332 : (f1_294_s0 i1 i2 g) = (0 : Int32)
                · refine XS.ifNo X0.here hx rfl (hb hby d1_332) rfl ((if0 _ _).trans (teq hc332).2) ?_
                  show Steps p.tables e below (s₁.setTop (mkF m 335 #[.val (.ref o0), .val (.int i1), .val (.int i2), .val (.int (i2 - i1)), .val (.int ((g ((nat i1))) &&& (255 : Int32))), .val (.int (f1_22_l5 i1 i2 g)), .val (.int ((g ((nat (i1 + (1 : Int32))))) &&& (255 : Int32))), .val (.int (128 : Int32)), .val (.int (128 : Int32)), .val (.int (f1_149_s0 i1 i2 g)), .val (.int (f1_186_l10 i1 i2 g)), .val (.int (f1_186_l11 i1 i2 g)), .val (.int (f1_294_s0 i1 i2 g)), .unset] [])) _
                  refine XS.iconst X0.here hx rfl (hb hby d1_335) ?_
                  show Steps p.tables e below (s₁.setTop (mkF m 336 #[.val (.ref o0), .val (.int i1), .val (.int i2), .val (.int (i2 - i1)), .val (.int ((g ((nat i1))) &&& (255 : Int32))), .val (.int (f1_22_l5 i1 i2 g)), .val (.int ((g ((nat (i1 + (1 : Int32))))) &&& (255 : Int32))), .val (.int (128 : Int32)), .val (.int (128 : Int32)), .val (.int (f1_149_s0 i1 i2 g)), .val (.int (f1_186_l10 i1 i2 g)), .val (.int (f1_186_l11 i1 i2 g)), .val (.int (f1_294_s0 i1 i2 g)), .unset] [(.int (1 : Int32))])) _
                  refine XS.goto X0.here hx rfl (pc0 := 336) (pc' := 340) rfl (hb hby d1_336) (by decide) (by decide) ?_
                  show Steps p.tables e below (s₁.setTop (mkF m 340 #[.val (.ref o0), .val (.int i1), .val (.int i2), .val (.int (i2 - i1)), .val (.int ((g ((nat i1))) &&& (255 : Int32))), .val (.int (f1_22_l5 i1 i2 g)), .val (.int ((g ((nat (i1 + (1 : Int32))))) &&& (255 : Int32))), .val (.int (128 : Int32)), .val (.int (128 : Int32)), .val (.int (f1_149_s0 i1 i2 g)), .val (.int (f1_186_l10 i1 i2 g)), .val (.int (f1_186_l11 i1 i2 g)), .val (.int (f1_294_s0 i1 i2 g)), .unset] [(.int (1 : Int32))])) _
                  rw [show (f1_313_s0 i1 i2 g) = (1 : Int32) from ((if_neg hc313).trans ((if_neg hc320).trans ((if_neg hc327).trans (if_pos hc332))))] at k
                  exact k
                · refine XS.ifYes X0.here hx rfl (pc0 := 332) (pc' := 339) rfl (hb hby d1_332) rfl ((if0 _ _).trans (feq hc332).2) (by decide) (by decide) ?_
                  show Steps p.tables e below (s₁.setTop (mkF m 339 #[.val (.ref o0), .val (.int i1), .val (.int i2), .val (.int (i2 - i1)), .val (.int ((g ((nat i1))) &&& (255 : Int32))), .val (.int (f1_22_l5 i1 i2 g)), .val (.int ((g ((nat (i1 + (1 : Int32))))) &&& (255 : Int32))), .val (.int (128 : Int32)), .val (.int (128 : Int32)), .val (.int (f1_149_s0 i1 i2 g)), .val (.int (f1_186_l10 i1 i2 g)), .val (.int (f1_186_l11 i1 i2 g)), .val (.int (f1_294_s0 i1 i2 g)), .unset] [])) _
                  refine XS.iconst X0.here hx rfl (hb hby d1_339) ?_
                  show Steps p.tables e below (s₁.setTop (mkF m 340 #[.val (.ref o0), .val (.int i1), .val (.int i2), .val (.int (i2 - i1)), .val (.int ((g ((nat i1))) &&& (255 : Int32))), .val (.int (f1_22_l5 i1 i2 g)), .val (.int ((g ((nat (i1 + (1 : Int32))))) &&& (255 : Int32))), .val (.int (128 : Int32)), .val (.int (128 : Int32)), .val (.int (f1_149_s0 i1 i2 g)), .val (.int (f1_186_l10 i1 i2 g)), .val (.int (f1_186_l11 i1 i2 g)), .val (.int (f1_294_s0 i1 i2 g)), .unset] [(.int (0 : Int32))])) _
                  rw [show (f1_313_s0 i1 i2 g) = (0 : Int32) from ((if_neg hc313).trans ((if_neg hc320).trans ((if_neg hc327).trans (if_neg hc332))))] at k
                  exact k
        refine Outs.of (U' := s₁.setTop (mkF m 353 #[.val (.ref o0), .val (.int i1), .val (.int i2), .val (.int (i2 - i1)), .val (.int ((g ((nat i1))) &&& (255 : Int32))), .val (.int (f1_22_l5 i1 i2 g)), .val (.int ((g ((nat (i1 + (1 : Int32))))) &&& (255 : Int32))), .val (.int (128 : Int32)), .val (.int (128 : Int32)), .val (.int (f1_149_s0 i1 i2 g)), .val (.int (f1_186_l10 i1 i2 g)), .val (.int (f1_186_l11 i1 i2 g)), .val (.int (f1_294_s0 i1 i2 g)), .val (.int (f1_313_s0 i1 i2 g))] [(.int (f1_344_s0 i1 i2 g))])) (fun t k => ?_) ?_
        · refine XS.istore X0.here hx rfl (hb hby d1_340) rfl (l' := #[.val (.ref o0), .val (.int i1), .val (.int i2), .val (.int (i2 - i1)), .val (.int ((g ((nat i1))) &&& (255 : Int32))), .val (.int (f1_22_l5 i1 i2 g)), .val (.int ((g ((nat (i1 + (1 : Int32))))) &&& (255 : Int32))), .val (.int (128 : Int32)), .val (.int (128 : Int32)), .val (.int (f1_149_s0 i1 i2 g)), .val (.int (f1_186_l10 i1 i2 g)), .val (.int (f1_186_l11 i1 i2 g)), .val (.int (f1_294_s0 i1 i2 g)), .val (.int (f1_313_s0 i1 i2 g))]) rfl ?_
          show Steps p.tables e below (s₁.setTop (mkF m 342 #[.val (.ref o0), .val (.int i1), .val (.int i2), .val (.int (i2 - i1)), .val (.int ((g ((nat i1))) &&& (255 : Int32))), .val (.int (f1_22_l5 i1 i2 g)), .val (.int ((g ((nat (i1 + (1 : Int32))))) &&& (255 : Int32))), .val (.int (128 : Int32)), .val (.int (128 : Int32)), .val (.int (f1_149_s0 i1 i2 g)), .val (.int (f1_186_l10 i1 i2 g)), .val (.int (f1_186_l11 i1 i2 g)), .val (.int (f1_294_s0 i1 i2 g)), .val (.int (f1_313_s0 i1 i2 g))] [])) _
          refine XS.iload X0.here hx rfl (hb hby d1_342) rfl ?_
          show Steps p.tables e below (s₁.setTop (mkF m 344 #[.val (.ref o0), .val (.int i1), .val (.int i2), .val (.int (i2 - i1)), .val (.int ((g ((nat i1))) &&& (255 : Int32))), .val (.int (f1_22_l5 i1 i2 g)), .val (.int ((g ((nat (i1 + (1 : Int32))))) &&& (255 : Int32))), .val (.int (128 : Int32)), .val (.int (128 : Int32)), .val (.int (f1_149_s0 i1 i2 g)), .val (.int (f1_186_l10 i1 i2 g)), .val (.int (f1_186_l11 i1 i2 g)), .val (.int (f1_294_s0 i1 i2 g)), .val (.int (f1_313_s0 i1 i2 g))] [(.int (f1_313_s0 i1 i2 g))])) _
          by_cases hc344 : (f1_313_s0 i1 i2 g) = (0 : Int32)
          · refine XS.ifYes X0.here hx rfl (pc0 := 344) (pc' := 352) rfl (hb hby d1_344) rfl ((if0 _ _).trans (teq hc344).1) (by decide) (by decide) ?_
            show Steps p.tables e below (s₁.setTop (mkF m 352 #[.val (.ref o0), .val (.int i1), .val (.int i2), .val (.int (i2 - i1)), .val (.int ((g ((nat i1))) &&& (255 : Int32))), .val (.int (f1_22_l5 i1 i2 g)), .val (.int ((g ((nat (i1 + (1 : Int32))))) &&& (255 : Int32))), .val (.int (128 : Int32)), .val (.int (128 : Int32)), .val (.int (f1_149_s0 i1 i2 g)), .val (.int (f1_186_l10 i1 i2 g)), .val (.int (f1_186_l11 i1 i2 g)), .val (.int (f1_294_s0 i1 i2 g)), .val (.int (f1_313_s0 i1 i2 g))] [])) _
            refine XS.iconst X0.here hx rfl (hb hby d1_352) ?_
            show Steps p.tables e below (s₁.setTop (mkF m 353 #[.val (.ref o0), .val (.int i1), .val (.int i2), .val (.int (i2 - i1)), .val (.int ((g ((nat i1))) &&& (255 : Int32))), .val (.int (f1_22_l5 i1 i2 g)), .val (.int ((g ((nat (i1 + (1 : Int32))))) &&& (255 : Int32))), .val (.int (128 : Int32)), .val (.int (128 : Int32)), .val (.int (f1_149_s0 i1 i2 g)), .val (.int (f1_186_l10 i1 i2 g)), .val (.int (f1_186_l11 i1 i2 g)), .val (.int (f1_294_s0 i1 i2 g)), .val (.int (f1_313_s0 i1 i2 g))] [(.int (0 : Int32))])) _
            rw [show (f1_344_s0 i1 i2 g) = (0 : Int32) from (if_pos hc344)] at k
            exact k
          · refine XS.ifNo X0.here hx rfl (hb hby d1_344) rfl ((if0 _ _).trans (feq hc344).1) ?_
            show Steps p.tables e below (s₁.setTop (mkF m 347 #[.val (.ref o0), .val (.int i1), .val (.int i2), .val (.int (i2 - i1)), .val (.int ((g ((nat i1))) &&& (255 : Int32))), .val (.int (f1_22_l5 i1 i2 g)), .val (.int ((g ((nat (i1 + (1 : Int32))))) &&& (255 : Int32))), .val (.int (128 : Int32)), .val (.int (128 : Int32)), .val (.int (f1_149_s0 i1 i2 g)), .val (.int (f1_186_l10 i1 i2 g)), .val (.int (f1_186_l11 i1 i2 g)), .val (.int (f1_294_s0 i1 i2 g)), .val (.int (f1_313_s0 i1 i2 g))] [])) _
            refine XS.iload X0.here hx rfl (hb hby d1_347) rfl ?_
            show Steps p.tables e below (s₁.setTop (mkF m 349 #[.val (.ref o0), .val (.int i1), .val (.int i2), .val (.int (i2 - i1)), .val (.int ((g ((nat i1))) &&& (255 : Int32))), .val (.int (f1_22_l5 i1 i2 g)), .val (.int ((g ((nat (i1 + (1 : Int32))))) &&& (255 : Int32))), .val (.int (128 : Int32)), .val (.int (128 : Int32)), .val (.int (f1_149_s0 i1 i2 g)), .val (.int (f1_186_l10 i1 i2 g)), .val (.int (f1_186_l11 i1 i2 g)), .val (.int (f1_294_s0 i1 i2 g)), .val (.int (f1_313_s0 i1 i2 g))] [(.int (f1_22_l5 i1 i2 g))])) _
            refine XS.goto X0.here hx rfl (pc0 := 349) (pc' := 353) rfl (hb hby d1_349) (by decide) (by decide) ?_
            show Steps p.tables e below (s₁.setTop (mkF m 353 #[.val (.ref o0), .val (.int i1), .val (.int i2), .val (.int (i2 - i1)), .val (.int ((g ((nat i1))) &&& (255 : Int32))), .val (.int (f1_22_l5 i1 i2 g)), .val (.int ((g ((nat (i1 + (1 : Int32))))) &&& (255 : Int32))), .val (.int (128 : Int32)), .val (.int (128 : Int32)), .val (.int (f1_149_s0 i1 i2 g)), .val (.int (f1_186_l10 i1 i2 g)), .val (.int (f1_186_l11 i1 i2 g)), .val (.int (f1_294_s0 i1 i2 g)), .val (.int (f1_313_s0 i1 i2 g))] [(.int (f1_22_l5 i1 i2 g))])) _
            rw [show (f1_344_s0 i1 i2 g) = (f1_22_l5 i1 i2 g) from (if_neg hc344)] at k
            exact k
        exact Outs.retI X0 hx hret (hb hby d1_353) hlk (by decide) (by decide) e0 ⟨congrArg (fun z_ => some (Value.int z_)) (show (F_f1 i1 i2 g) = (f1_344_s0 i1 i2 g) from ((if_neg hc72).trans ((if_neg hc78).trans (if_pos hc97)))).symm, N0, rfl⟩
      · refine Outs.of (U' := s₁.setTop (mkF m 100 #[.val (.ref o0), .val (.int i1), .val (.int i2), .val (.int (i2 - i1)), .val (.int ((g ((nat i1))) &&& (255 : Int32))), .val (.int (f1_22_l5 i1 i2 g)), .val (.int ((g ((nat (i1 + (1 : Int32))))) &&& (255 : Int32))), .unset, .unset, .unset, .unset, .unset, .unset, .unset] [])) (fun t k => ?_) ?_
        · refine XS.icmpNo X0.here hx rfl (hb hby d1_97) rfl (flt hc97).1 ?_
          show Steps p.tables e below (s₁.setTop (mkF m 100 #[.val (.ref o0), .val (.int i1), .val (.int i2), .val (.int (i2 - i1)), .val (.int ((g ((nat i1))) &&& (255 : Int32))), .val (.int (f1_22_l5 i1 i2 g)), .val (.int ((g ((nat (i1 + (1 : Int32))))) &&& (255 : Int32))), .unset, .unset, .unset, .unset, .unset, .unset, .unset] [])) _
          exact k
        refine Outs.of (U' := s₁.setTop (mkF m 104 #[.val (.ref o0), .val (.int i1), .val (.int i2), .val (.int (i2 - i1)), .val (.int ((g ((nat i1))) &&& (255 : Int32))), .val (.int (f1_22_l5 i1 i2 g)), .val (.int ((g ((nat (i1 + (1 : Int32))))) &&& (255 : Int32))), .unset, .unset, .unset, .unset, .unset, .unset, .unset] [(.int (i1 + (2 : Int32))), (.ref o0)])) (fun t k => ?_) ?_
        · refine XS.aloadN X0.here hx rfl (hb hby d1_100) rfl rfl ?_
          show Steps p.tables e below (s₁.setTop (mkF m 101 #[.val (.ref o0), .val (.int i1), .val (.int i2), .val (.int (i2 - i1)), .val (.int ((g ((nat i1))) &&& (255 : Int32))), .val (.int (f1_22_l5 i1 i2 g)), .val (.int ((g ((nat (i1 + (1 : Int32))))) &&& (255 : Int32))), .unset, .unset, .unset, .unset, .unset, .unset, .unset] [(.ref o0)])) _
          refine XS.iloadN X0.here hx rfl (hb hby d1_101) rfl ?_
          show Steps p.tables e below (s₁.setTop (mkF m 102 #[.val (.ref o0), .val (.int i1), .val (.int i2), .val (.int (i2 - i1)), .val (.int ((g ((nat i1))) &&& (255 : Int32))), .val (.int (f1_22_l5 i1 i2 g)), .val (.int ((g ((nat (i1 + (1 : Int32))))) &&& (255 : Int32))), .unset, .unset, .unset, .unset, .unset, .unset, .unset] [(.int i1), (.ref o0)])) _
          refine XS.iconst X0.here hx rfl (hb hby d1_102) ?_
          show Steps p.tables e below (s₁.setTop (mkF m 103 #[.val (.ref o0), .val (.int i1), .val (.int i2), .val (.int (i2 - i1)), .val (.int ((g ((nat i1))) &&& (255 : Int32))), .val (.int (f1_22_l5 i1 i2 g)), .val (.int ((g ((nat (i1 + (1 : Int32))))) &&& (255 : Int32))), .unset, .unset, .unset, .unset, .unset, .unset, .unset] [(.int (2 : Int32)), (.int i1), (.ref o0)])) _
          refine XS.iadd X0.here hx rfl (hb hby d1_103) rfl ?_
          show Steps p.tables e below (s₁.setTop (mkF m 104 #[.val (.ref o0), .val (.int i1), .val (.int i2), .val (.int (i2 - i1)), .val (.int ((g ((nat i1))) &&& (255 : Int32))), .val (.int (f1_22_l5 i1 i2 g)), .val (.int ((g ((nat (i1 + (1 : Int32))))) &&& (255 : Int32))), .unset, .unset, .unset, .unset, .unset, .unset, .unset] [(.int (i1 + (2 : Int32))), (.ref o0)])) _
          exact k
        refine Outs.of (ldB X0 hx hZ e0 A_o0 (j := (i1 + (2 : Int32))) (k := (nat (i1 + (2 : Int32)))) (own_hk (ixr2 i1 i2 g h1 h2 hc72 hc78 hc97).1) (own_hn (ixr2 i1 i2 g h1 h2 hc72 hc78 hc97).1 (ixr2 i1 i2 g h1 h2 hc72 hc78 hc97).2) (f := (mkF m 104 #[.val (.ref o0), .val (.int i1), .val (.int i2), .val (.int (i2 - i1)), .val (.int ((g ((nat i1))) &&& (255 : Int32))), .val (.int (f1_22_l5 i1 i2 g)), .val (.int ((g ((nat (i1 + (1 : Int32))))) &&& (255 : Int32))), .unset, .unset, .unset, .unset, .unset, .unset, .unset] [(.int (i1 + (2 : Int32))), (.ref o0)])) rfl rfl (hb hby d1_104)) ?_
        show Outs p e below s _ _ _ (s₁.setTop (mkF m 105 #[.val (.ref o0), .val (.int i1), .val (.int i2), .val (.int (i2 - i1)), .val (.int ((g ((nat i1))) &&& (255 : Int32))), .val (.int (f1_22_l5 i1 i2 g)), .val (.int ((g ((nat (i1 + (1 : Int32))))) &&& (255 : Int32))), .unset, .unset, .unset, .unset, .unset, .unset, .unset] [(.int (g ((nat (i1 + (2 : Int32))))))]))
        refine Outs.of (U' := s₁.setTop (mkF m 120 #[.val (.ref o0), .val (.int i1), .val (.int i2), .val (.int (i2 - i1)), .val (.int ((g ((nat i1))) &&& (255 : Int32))), .val (.int (f1_22_l5 i1 i2 g)), .val (.int ((g ((nat (i1 + (1 : Int32))))) &&& (255 : Int32))), .val (.int ((g ((nat (i1 + (2 : Int32))))) &&& (255 : Int32))), .unset, .unset, .unset, .unset, .unset, .unset] [(.int (4 : Int32)), (.int (f1_22_l5 i1 i2 g))])) (fun t k => ?_) ?_
        · refine XS.sipush X0.here hx rfl (hb hby d1_105) ?_
          show Steps p.tables e below (s₁.setTop (mkF m 108 #[.val (.ref o0), .val (.int i1), .val (.int i2), .val (.int (i2 - i1)), .val (.int ((g ((nat i1))) &&& (255 : Int32))), .val (.int (f1_22_l5 i1 i2 g)), .val (.int ((g ((nat (i1 + (1 : Int32))))) &&& (255 : Int32))), .unset, .unset, .unset, .unset, .unset, .unset, .unset] [(.int (255 : Int32)), (.int (g ((nat (i1 + (2 : Int32))))))])) _
          refine XS.iand X0.here hx rfl (hb hby d1_108) rfl ?_
          show Steps p.tables e below (s₁.setTop (mkF m 109 #[.val (.ref o0), .val (.int i1), .val (.int i2), .val (.int (i2 - i1)), .val (.int ((g ((nat i1))) &&& (255 : Int32))), .val (.int (f1_22_l5 i1 i2 g)), .val (.int ((g ((nat (i1 + (1 : Int32))))) &&& (255 : Int32))), .unset, .unset, .unset, .unset, .unset, .unset, .unset] [(.int ((g ((nat (i1 + (2 : Int32))))) &&& (255 : Int32)))])) _
          refine XS.goto X0.here hx rfl (pc0 := 109) (pc' := 115) rfl (hb hby d1_109) (by decide) (by decide) ?_
          show Steps p.tables e below (s₁.setTop (mkF m 115 #[.val (.ref o0), .val (.int i1), .val (.int i2), .val (.int (i2 - i1)), .val (.int ((g ((nat i1))) &&& (255 : Int32))), .val (.int (f1_22_l5 i1 i2 g)), .val (.int ((g ((nat (i1 + (1 : Int32))))) &&& (255 : Int32))), .unset, .unset, .unset, .unset, .unset, .unset, .unset] [(.int ((g ((nat (i1 + (2 : Int32))))) &&& (255 : Int32)))])) _
          refine XS.istore X0.here hx rfl (hb hby d1_115) rfl (l' := #[.val (.ref o0), .val (.int i1), .val (.int i2), .val (.int (i2 - i1)), .val (.int ((g ((nat i1))) &&& (255 : Int32))), .val (.int (f1_22_l5 i1 i2 g)), .val (.int ((g ((nat (i1 + (1 : Int32))))) &&& (255 : Int32))), .val (.int ((g ((nat (i1 + (2 : Int32))))) &&& (255 : Int32))), .unset, .unset, .unset, .unset, .unset, .unset]) rfl ?_
          show Steps p.tables e below (s₁.setTop (mkF m 117 #[.val (.ref o0), .val (.int i1), .val (.int i2), .val (.int (i2 - i1)), .val (.int ((g ((nat i1))) &&& (255 : Int32))), .val (.int (f1_22_l5 i1 i2 g)), .val (.int ((g ((nat (i1 + (1 : Int32))))) &&& (255 : Int32))), .val (.int ((g ((nat (i1 + (2 : Int32))))) &&& (255 : Int32))), .unset, .unset, .unset, .unset, .unset, .unset] [])) _
          refine XS.iload X0.here hx rfl (hb hby d1_117) rfl ?_
          show Steps p.tables e below (s₁.setTop (mkF m 119 #[.val (.ref o0), .val (.int i1), .val (.int i2), .val (.int (i2 - i1)), .val (.int ((g ((nat i1))) &&& (255 : Int32))), .val (.int (f1_22_l5 i1 i2 g)), .val (.int ((g ((nat (i1 + (1 : Int32))))) &&& (255 : Int32))), .val (.int ((g ((nat (i1 + (2 : Int32))))) &&& (255 : Int32))), .unset, .unset, .unset, .unset, .unset, .unset] [(.int (f1_22_l5 i1 i2 g))])) _
          refine XS.iconst X0.here hx rfl (hb hby d1_119) ?_
          show Steps p.tables e below (s₁.setTop (mkF m 120 #[.val (.ref o0), .val (.int i1), .val (.int i2), .val (.int (i2 - i1)), .val (.int ((g ((nat i1))) &&& (255 : Int32))), .val (.int (f1_22_l5 i1 i2 g)), .val (.int ((g ((nat (i1 + (1 : Int32))))) &&& (255 : Int32))), .val (.int ((g ((nat (i1 + (2 : Int32))))) &&& (255 : Int32))), .unset, .unset, .unset, .unset, .unset, .unset] [(.int (4 : Int32)), (.int (f1_22_l5 i1 i2 g))])) _
          exact k
        by_cases hc120 : (f1_22_l5 i1 i2 g) = (4 : Int32)
        · refine Outs.of (U' := s₁.setTop (mkF m 123 #[.val (.ref o0), .val (.int i1), .val (.int i2), .val (.int (i2 - i1)), .val (.int ((g ((nat i1))) &&& (255 : Int32))), .val (.int (f1_22_l5 i1 i2 g)), .val (.int ((g ((nat (i1 + (1 : Int32))))) &&& (255 : Int32))), .val (.int ((g ((nat (i1 + (2 : Int32))))) &&& (255 : Int32))), .unset, .unset, .unset, .unset, .unset, .unset] [])) (fun t k => ?_) ?_
          · refine XS.icmpNo X0.here hx rfl (hb hby d1_120) rfl (teq hc120).2 ?_
            show Steps p.tables e below (s₁.setTop (mkF m 123 #[.val (.ref o0), .val (.int i1), .val (.int i2), .val (.int (i2 - i1)), .val (.int ((g ((nat i1))) &&& (255 : Int32))), .val (.int (f1_22_l5 i1 i2 g)), .val (.int ((g ((nat (i1 + (1 : Int32))))) &&& (255 : Int32))), .val (.int ((g ((nat (i1 + (2 : Int32))))) &&& (255 : Int32))), .unset, .unset, .unset, .unset, .unset, .unset] [])) _
            exact k
          refine Outs.of (U' := s₁.setTop (mkF m 127 #[.val (.ref o0), .val (.int i1), .val (.int i2), .val (.int (i2 - i1)), .val (.int ((g ((nat i1))) &&& (255 : Int32))), .val (.int (f1_22_l5 i1 i2 g)), .val (.int ((g ((nat (i1 + (1 : Int32))))) &&& (255 : Int32))), .val (.int ((g ((nat (i1 + (2 : Int32))))) &&& (255 : Int32))), .unset, .unset, .unset, .unset, .unset, .unset] [(.int (i1 + (3 : Int32))), (.ref o0)])) (fun t k => ?_) ?_
          · refine XS.aloadN X0.here hx rfl (hb hby d1_123) rfl rfl ?_
            show Steps p.tables e below (s₁.setTop (mkF m 124 #[.val (.ref o0), .val (.int i1), .val (.int i2), .val (.int (i2 - i1)), .val (.int ((g ((nat i1))) &&& (255 : Int32))), .val (.int (f1_22_l5 i1 i2 g)), .val (.int ((g ((nat (i1 + (1 : Int32))))) &&& (255 : Int32))), .val (.int ((g ((nat (i1 + (2 : Int32))))) &&& (255 : Int32))), .unset, .unset, .unset, .unset, .unset, .unset] [(.ref o0)])) _
            refine XS.iloadN X0.here hx rfl (hb hby d1_124) rfl ?_
            show Steps p.tables e below (s₁.setTop (mkF m 125 #[.val (.ref o0), .val (.int i1), .val (.int i2), .val (.int (i2 - i1)), .val (.int ((g ((nat i1))) &&& (255 : Int32))), .val (.int (f1_22_l5 i1 i2 g)), .val (.int ((g ((nat (i1 + (1 : Int32))))) &&& (255 : Int32))), .val (.int ((g ((nat (i1 + (2 : Int32))))) &&& (255 : Int32))), .unset, .unset, .unset, .unset, .unset, .unset] [(.int i1), (.ref o0)])) _
            refine XS.iconst X0.here hx rfl (hb hby d1_125) ?_
            show Steps p.tables e below (s₁.setTop (mkF m 126 #[.val (.ref o0), .val (.int i1), .val (.int i2), .val (.int (i2 - i1)), .val (.int ((g ((nat i1))) &&& (255 : Int32))), .val (.int (f1_22_l5 i1 i2 g)), .val (.int ((g ((nat (i1 + (1 : Int32))))) &&& (255 : Int32))), .val (.int ((g ((nat (i1 + (2 : Int32))))) &&& (255 : Int32))), .unset, .unset, .unset, .unset, .unset, .unset] [(.int (3 : Int32)), (.int i1), (.ref o0)])) _
            refine XS.iadd X0.here hx rfl (hb hby d1_126) rfl ?_
            show Steps p.tables e below (s₁.setTop (mkF m 127 #[.val (.ref o0), .val (.int i1), .val (.int i2), .val (.int (i2 - i1)), .val (.int ((g ((nat i1))) &&& (255 : Int32))), .val (.int (f1_22_l5 i1 i2 g)), .val (.int ((g ((nat (i1 + (1 : Int32))))) &&& (255 : Int32))), .val (.int ((g ((nat (i1 + (2 : Int32))))) &&& (255 : Int32))), .unset, .unset, .unset, .unset, .unset, .unset] [(.int (i1 + (3 : Int32))), (.ref o0)])) _
            exact k
          refine Outs.of (ldB X0 hx hZ e0 A_o0 (j := (i1 + (3 : Int32))) (k := (nat (i1 + (3 : Int32)))) (own_hk (ixr3 i1 i2 g h1 h2 hc72 hc78 hc120).1) (own_hn (ixr3 i1 i2 g h1 h2 hc72 hc78 hc120).1 (ixr3 i1 i2 g h1 h2 hc72 hc78 hc120).2) (f := (mkF m 127 #[.val (.ref o0), .val (.int i1), .val (.int i2), .val (.int (i2 - i1)), .val (.int ((g ((nat i1))) &&& (255 : Int32))), .val (.int (f1_22_l5 i1 i2 g)), .val (.int ((g ((nat (i1 + (1 : Int32))))) &&& (255 : Int32))), .val (.int ((g ((nat (i1 + (2 : Int32))))) &&& (255 : Int32))), .unset, .unset, .unset, .unset, .unset, .unset] [(.int (i1 + (3 : Int32))), (.ref o0)])) rfl rfl (hb hby d1_127)) ?_
          show Outs p e below s _ _ _ (s₁.setTop (mkF m 128 #[.val (.ref o0), .val (.int i1), .val (.int i2), .val (.int (i2 - i1)), .val (.int ((g ((nat i1))) &&& (255 : Int32))), .val (.int (f1_22_l5 i1 i2 g)), .val (.int ((g ((nat (i1 + (1 : Int32))))) &&& (255 : Int32))), .val (.int ((g ((nat (i1 + (2 : Int32))))) &&& (255 : Int32))), .unset, .unset, .unset, .unset, .unset, .unset] [(.int (g ((nat (i1 + (3 : Int32))))))]))
          refine Outs.of (U' := s₁.setTop (mkF m 181 #[.val (.ref o0), .val (.int i1), .val (.int i2), .val (.int (i2 - i1)), .val (.int ((g ((nat i1))) &&& (255 : Int32))), .val (.int (f1_22_l5 i1 i2 g)), .val (.int ((g ((nat (i1 + (1 : Int32))))) &&& (255 : Int32))), .val (.int ((g ((nat (i1 + (2 : Int32))))) &&& (255 : Int32))), .val (.int ((g ((nat (i1 + (3 : Int32))))) &&& (255 : Int32))), .unset, .unset, .unset, .unset, .unset] [(.int (f1_149_s0a i1 i2 g))])) (fun t k => ?_) ?_
          · refine XS.sipush X0.here hx rfl (hb hby d1_128) ?_
            show Steps p.tables e below (s₁.setTop (mkF m 131 #[.val (.ref o0), .val (.int i1), .val (.int i2), .val (.int (i2 - i1)), .val (.int ((g ((nat i1))) &&& (255 : Int32))), .val (.int (f1_22_l5 i1 i2 g)), .val (.int ((g ((nat (i1 + (1 : Int32))))) &&& (255 : Int32))), .val (.int ((g ((nat (i1 + (2 : Int32))))) &&& (255 : Int32))), .unset, .unset, .unset, .unset, .unset, .unset] [(.int (255 : Int32)), (.int (g ((nat (i1 + (3 : Int32))))))])) _
            refine XS.iand X0.here hx rfl (hb hby d1_131) rfl ?_
            show Steps p.tables e below (s₁.setTop (mkF m 132 #[.val (.ref o0), .val (.int i1), .val (.int i2), .val (.int (i2 - i1)), .val (.int ((g ((nat i1))) &&& (255 : Int32))), .val (.int (f1_22_l5 i1 i2 g)), .val (.int ((g ((nat (i1 + (1 : Int32))))) &&& (255 : Int32))), .val (.int ((g ((nat (i1 + (2 : Int32))))) &&& (255 : Int32))), .unset, .unset, .unset, .unset, .unset, .unset] [(.int ((g ((nat (i1 + (3 : Int32))))) &&& (255 : Int32)))])) _
            refine XS.goto X0.here hx rfl (pc0 := 132) (pc' := 138) rfl (hb hby d1_132) (by decide) (by decide) ?_
            show Steps p.tables e below (s₁.setTop (mkF m 138 #[.val (.ref o0), .val (.int i1), .val (.int i2), .val (.int (i2 - i1)), .val (.int ((g ((nat i1))) &&& (255 : Int32))), .val (.int (f1_22_l5 i1 i2 g)), .val (.int ((g ((nat (i1 + (1 : Int32))))) &&& (255 : Int32))), .val (.int ((g ((nat (i1 + (2 : Int32))))) &&& (255 : Int32))), .unset, .unset, .unset, .unset, .unset, .unset] [(.int ((g ((nat (i1 + (3 : Int32))))) &&& (255 : Int32)))])) _
            refine XS.istore X0.here hx rfl (hb hby d1_138) rfl (l' := #[.val (.ref o0), .val (.int i1), .val (.int i2), .val (.int (i2 - i1)), .val (.int ((g ((nat i1))) &&& (255 : Int32))), .val (.int (f1_22_l5 i1 i2 g)), .val (.int ((g ((nat (i1 + (1 : Int32))))) &&& (255 : Int32))), .val (.int ((g ((nat (i1 + (2 : Int32))))) &&& (255 : Int32))), .val (.int ((g ((nat (i1 + (3 : Int32))))) &&& (255 : Int32))), .unset, .unset, .unset, .unset, .unset]) rfl ?_
            show Steps p.tables e below (s₁.setTop (mkF m 140 #[.val (.ref o0), .val (.int i1), .val (.int i2), .val (.int (i2 - i1)), .val (.int ((g ((nat i1))) &&& (255 : Int32))), .val (.int (f1_22_l5 i1 i2 g)), .val (.int ((g ((nat (i1 + (1 : Int32))))) &&& (255 : Int32))), .val (.int ((g ((nat (i1 + (2 : Int32))))) &&& (255 : Int32))), .val (.int ((g ((nat (i1 + (3 : Int32))))) &&& (255 : Int32))), .unset, .unset, .unset, .unset, .unset] [])) _
            refine XS.iload X0.here hx rfl (hb hby d1_140) rfl ?_
            show Steps p.tables e below (s₁.setTop (mkF m 142 #[.val (.ref o0), .val (.int i1), .val (.int i2), .val (.int (i2 - i1)), .val (.int ((g ((nat i1))) &&& (255 : Int32))), .val (.int (f1_22_l5 i1 i2 g)), .val (.int ((g ((nat (i1 + (1 : Int32))))) &&& (255 : Int32))), .val (.int ((g ((nat (i1 + (2 : Int32))))) &&& (255 : Int32))), .val (.int ((g ((nat (i1 + (3 : Int32))))) &&& (255 : Int32))), .unset, .unset, .unset, .unset, .unset] [(.int ((g ((nat (i1 + (1 : Int32))))) &&& (255 : Int32)))])) _
            refine XS.sipush X0.here hx rfl (hb hby d1_142) ?_
            show Steps p.tables e below (s₁.setTop (mkF m 145 #[.val (.ref o0), .val (.int i1), .val (.int i2), .val (.int (i2 - i1)), .val (.int ((g ((nat i1))) &&& (255 : Int32))), .val (.int (f1_22_l5 i1 i2 g)), .val (.int ((g ((nat (i1 + (1 : Int32))))) &&& (255 : Int32))), .val (.int ((g ((nat (i1 + (2 : Int32))))) &&& (255 : Int32))), .val (.int ((g ((nat (i1 + (3 : Int32))))) &&& (255 : Int32))), .unset, .unset, .unset, .unset, .unset] [(.int (192 : Int32)), (.int ((g ((nat (i1 + (1 : Int32))))) &&& (255 : Int32)))])) _
            refine XS.iand X0.here hx rfl (hb hby d1_145) rfl ?_
            show Steps p.tables e below (s₁.setTop (mkF m 146 #[.val (.ref o0), .val (.int i1), .val (.int i2), .val (.int (i2 - i1)), .val (.int ((g ((nat i1))) &&& (255 : Int32))), .val (.int (f1_22_l5 i1 i2 g)), .val (.int ((g ((nat (i1 + (1 : Int32))))) &&& (255 : Int32))), .val (.int ((g ((nat (i1 + (2 : Int32))))) &&& (255 : Int32))), .val (.int ((g ((nat (i1 + (3 : Int32))))) &&& (255 : Int32))), .unset, .unset, .unset, .unset, .unset] [(.int (((g ((nat (i1 + (1 : Int32))))) &&& (255 : Int32)) &&& (192 : Int32)))])) _
            refine XS.sipush X0.here hx rfl (hb hby d1_146) ?_
            show Steps p.tables e below (s₁.setTop (mkF m 149 #[.val (.ref o0), .val (.int i1), .val (.int i2), .val (.int (i2 - i1)), .val (.int ((g ((nat i1))) &&& (255 : Int32))), .val (.int (f1_22_l5 i1 i2 g)), .val (.int ((g ((nat (i1 + (1 : Int32))))) &&& (255 : Int32))), .val (.int ((g ((nat (i1 + (2 : Int32))))) &&& (255 : Int32))), .val (.int ((g ((nat (i1 + (3 : Int32))))) &&& (255 : Int32))), .unset, .unset, .unset, .unset, .unset] [(.int (128 : Int32)), (.int (((g ((nat (i1 + (1 : Int32))))) &&& (255 : Int32)) &&& (192 : Int32)))])) _
            by_cases hc149 : (((g ((nat (i1 + (1 : Int32))))) &&& (255 : Int32)) &&& (192 : Int32)) = (128 : Int32)
            · refine XS.icmpNo X0.here hx rfl (hb hby d1_149) rfl (teq hc149).2 ?_
              show Steps p.tables e below (s₁.setTop (mkF m 152 #[.val (.ref o0), .val (.int i1), .val (.int i2), .val (.int (i2 - i1)), .val (.int ((g ((nat i1))) &&& (255 : Int32))), .val (.int (f1_22_l5 i1 i2 g)), .val (.int ((g ((nat (i1 + (1 : Int32))))) &&& (255 : Int32))), .val (.int ((g ((nat (i1 + (2 : Int32))))) &&& (255 : Int32))), .val (.int ((g ((nat (i1 + (3 : Int32))))) &&& (255 : Int32))), .unset, .unset, .unset, .unset, .unset] [])) _
              refine XS.iload X0.here hx rfl (hb hby d1_152) rfl ?_
              show Steps p.tables e below (s₁.setTop (mkF m 154 #[.val (.ref o0), .val (.int i1), .val (.int i2), .val (.int (i2 - i1)), .val (.int ((g ((nat i1))) &&& (255 : Int32))), .val (.int (f1_22_l5 i1 i2 g)), .val (.int ((g ((nat (i1 + (1 : Int32))))) &&& (255 : Int32))), .val (.int ((g ((nat (i1 + (2 : Int32))))) &&& (255 : Int32))), .val (.int ((g ((nat (i1 + (3 : Int32))))) &&& (255 : Int32))), .unset, .unset, .unset, .unset, .unset] [(.int ((g ((nat (i1 + (2 : Int32))))) &&& (255 : Int32)))])) _
              refine XS.sipush X0.here hx rfl (hb hby d1_154) ?_
              show Steps p.tables e below (s₁.setTop (mkF m 157 #[.val (.ref o0), .val (.int i1), .val (.int i2), .val (.int (i2 - i1)), .val (.int ((g ((nat i1))) &&& (255 : Int32))), .val (.int (f1_22_l5 i1 i2 g)), .val (.int ((g ((nat (i1 + (1 : Int32))))) &&& (255 : Int32))), .val (.int ((g ((nat (i1 + (2 : Int32))))) &&& (255 : Int32))), .val (.int ((g ((nat (i1 + (3 : Int32))))) &&& (255 : Int32))), .unset, .unset, .unset, .unset, .unset] [(.int (192 : Int32)), (.int ((g ((nat (i1 + (2 : Int32))))) &&& (255 : Int32)))])) _
              refine XS.iand X0.here hx rfl (hb hby d1_157) rfl ?_
              show Steps p.tables e below (s₁.setTop (mkF m 158 #[.val (.ref o0), .val (.int i1), .val (.int i2), .val (.int (i2 - i1)), .val (.int ((g ((nat i1))) &&& (255 : Int32))), .val (.int (f1_22_l5 i1 i2 g)), .val (.int ((g ((nat (i1 + (1 : Int32))))) &&& (255 : Int32))), .val (.int ((g ((nat (i1 + (2 : Int32))))) &&& (255 : Int32))), .val (.int ((g ((nat (i1 + (3 : Int32))))) &&& (255 : Int32))), .unset, .unset, .unset, .unset, .unset] [(.int (((g ((nat (i1 + (2 : Int32))))) &&& (255 : Int32)) &&& (192 : Int32)))])) _
              refine XS.sipush X0.here hx rfl (hb hby d1_158) ?_
              show Steps p.tables e below (s₁.setTop (mkF m 161 #[.val (.ref o0), .val (.int i1), .val (.int i2), .val (.int (i2 - i1)), .val (.int ((g ((nat i1))) &&& (255 : Int32))), .val (.int (f1_22_l5 i1 i2 g)), .val (.int ((g ((nat (i1 + (1 : Int32))))) &&& (255 : Int32))), .val (.int ((g ((nat (i1 + (2 : Int32))))) &&& (255 : Int32))), .val (.int ((g ((nat (i1 + (3 : Int32))))) &&& (255 : Int32))), .unset, .unset, .unset, .unset, .unset] [(.int (128 : Int32)), (.int (((g ((nat (i1 + (2 : Int32))))) &&& (255 : Int32)) &&& (192 : Int32)))])) _
              by_cases hc161 : (((g ((nat (i1 + (2 : Int32))))) &&& (255 : Int32)) &&& (192 : Int32)) = (128 : Int32)
              · refine XS.icmpNo X0.here hx rfl (hb hby d1_161) rfl (teq hc161).2 ?_
                show Steps p.tables e below (s₁.setTop (mkF m 164 #[.val (.ref o0), .val (.int i1), .val (.int i2), .val (.int (i2 - i1)), .val (.int ((g ((nat i1))) &&& (255 : Int32))), .val (.int (f1_22_l5 i1 i2 g)), .val (.int ((g ((nat (i1 + (1 : Int32))))) &&& (255 : Int32))), .val (.int ((g ((nat (i1 + (2 : Int32))))) &&& (255 : Int32))), .val (.int ((g ((nat (i1 + (3 : Int32))))) &&& (255 : Int32))), .unset, .unset, .unset, .unset, .unset] [])) _
                refine XS.iload X0.here hx rfl (hb hby d1_164) rfl ?_
                show Steps p.tables e below (s₁.setTop (mkF m 166 #[.val (.ref o0), .val (.int i1), .val (.int i2), .val (.int (i2 - i1)), .val (.int ((g ((nat i1))) &&& (255 : Int32))), .val (.int (f1_22_l5 i1 i2 g)), .val (.int ((g ((nat (i1 + (1 : Int32))))) &&& (255 : Int32))), .val (.int ((g ((nat (i1 + (2 : Int32))))) &&& (255 : Int32))), .val (.int ((g ((nat (i1 + (3 : Int32))))) &&& (255 : Int32))), .unset, .unset, .unset, .unset, .unset] [(.int ((g ((nat (i1 + (3 : Int32))))) &&& (255 : Int32)))])) _
                refine XS.sipush X0.here hx rfl (hb hby d1_166) ?_
                show Steps p.tables e below (s₁.setTop (mkF m 169 #[.val (.ref o0), .val (.int i1), .val (.int i2), .val (.int (i2 - i1)), .val (.int ((g ((nat i1))) &&& (255 : Int32))), .val (.int (f1_22_l5 i1 i2 g)), .val (.int ((g ((nat (i1 + (1 : Int32))))) &&& (255 : Int32))), .val (.int ((g ((nat (i1 + (2 : Int32))))) &&& (255 : Int32))), .val (.int ((g ((nat (i1 + (3 : Int32))))) &&& (255 : Int32))), .unset, .unset, .unset, .unset, .unset] [(.int (192 : Int32)), (.int ((g ((nat (i1 + (3 : Int32))))) &&& (255 : Int32)))])) _
                refine XS.iand X0.here hx rfl (hb hby d1_169) rfl ?_
                show Steps p.tables e below (s₁.setTop (mkF m 170 #[.val (.ref o0), .val (.int i1), .val (.int i2), .val (.int (i2 - i1)), .val (.int ((g ((nat i1))) &&& (255 : Int32))), .val (.int (f1_22_l5 i1 i2 g)), .val (.int ((g ((nat (i1 + (1 : Int32))))) &&& (255 : Int32))), .val (.int ((g ((nat (i1 + (2 : Int32))))) &&& (255 : Int32))), .val (.int ((g ((nat (i1 + (3 : Int32))))) &&& (255 : Int32))), .unset, .unset, .unset, .unset, .unset] [(.int (((g ((nat (i1 + (3 : Int32))))) &&& (255 : Int32)) &&& (192 : Int32)))])) _
                refine XS.sipush X0.here hx rfl (hb hby d1_170) ?_
                show Steps p.tables e below (s₁.setTop (mkF m 173 #[.val (.ref o0), .val (.int i1), .val (.int i2), .val (.int (i2 - i1)), .val (.int ((g ((nat i1))) &&& (255 : Int32))), .val (.int (f1_22_l5 i1 i2 g)), .val (.int ((g ((nat (i1 + (1 : Int32))))) &&& (255 : Int32))), .val (.int ((g ((nat (i1 + (2 : Int32))))) &&& (255 : Int32))), .val (.int ((g ((nat (i1 + (3 : Int32))))) &&& (255 : Int32))), .unset, .unset, .unset, .unset, .unset] [(.int (128 : Int32)), (.int (((g ((nat (i1 + (3 : Int32))))) &&& (255 : Int32)) &&& (192 : Int32)))])) _
                by_cases hc173 : (((g ((nat (i1 + (3 : Int32))))) &&& (255 : Int32)) &&& (192 : Int32)) = (128 : Int32)
                · refine XS.icmpNo X0.here hx rfl (hb hby d1_173) rfl (teq hc173).2 ?_
                  show Steps p.tables e below (s₁.setTop (mkF m 176 #[.val (.ref o0), .val (.int i1), .val (.int i2), .val (.int (i2 - i1)), .val (.int ((g ((nat i1))) &&& (255 : Int32))), .val (.int (f1_22_l5 i1 i2 g)), .val (.int ((g ((nat (i1 + (1 : Int32))))) &&& (255 : Int32))), .val (.int ((g ((nat (i1 + (2 : Int32))))) &&& (255 : Int32))), .val (.int ((g ((nat (i1 + (3 : Int32))))) &&& (255 : Int32))), .unset, .unset, .unset, .unset, .unset] [])) _
                  refine XS.iconst X0.here hx rfl (hb hby d1_176) ?_
                  show Steps p.tables e below (s₁.setTop (mkF m 177 #[.val (.ref o0), .val (.int i1), .val (.int i2), .val (.int (i2 - i1)), .val (.int ((g ((nat i1))) &&& (255 : Int32))), .val (.int (f1_22_l5 i1 i2 g)), .val (.int ((g ((nat (i1 + (1 : Int32))))) &&& (255 : Int32))), .val (.int ((g ((nat (i1 + (2 : Int32))))) &&& (255 : Int32))), .val (.int ((g ((nat (i1 + (3 : Int32))))) &&& (255 : Int32))), .unset, .unset, .unset, .unset, .unset] [(.int (1 : Int32))])) _
                  refine XS.goto X0.here hx rfl (pc0 := 177) (pc' := 181) rfl (hb hby d1_177) (by decide) (by decide) ?_
                  show Steps p.tables e below (s₁.setTop (mkF m 181 #[.val (.ref o0), .val (.int i1), .val (.int i2), .val (.int (i2 - i1)), .val (.int ((g ((nat i1))) &&& (255 : Int32))), .val (.int (f1_22_l5 i1 i2 g)), .val (.int ((g ((nat (i1 + (1 : Int32))))) &&& (255 : Int32))), .val (.int ((g ((nat (i1 + (2 : Int32))))) &&& (255 : Int32))), .val (.int ((g ((nat (i1 + (3 : Int32))))) &&& (255 : Int32))), .unset, .unset, .unset, .unset, .unset] [(.int (1 : Int32))])) _
                  rw [show (f1_149_s0a i1 i2 g) = (1 : Int32) from ((if_pos hc149).trans ((if_pos hc161).trans (if_pos hc173)))] at k
                  exact k
                · refine XS.icmpYes X0.here hx rfl (pc0 := 173) (pc' := 180) rfl (hb hby d1_173) rfl (feq hc173).2 (by decide) (by decide) ?_
                  show Steps p.tables e below (s₁.setTop (mkF m 180 #[.val (.ref o0), .val (.int i1), .val (.int i2), .val (.int (i2 - i1)), .val (.int ((g ((nat i1))) &&& (255 : Int32))), .val (.int (f1_22_l5 i1 i2 g)), .val (.int ((g ((nat (i1 + (1 : Int32))))) &&& (255 : Int32))), .val (.int ((g ((nat (i1 + (2 : Int32))))) &&& (255 : Int32))), .val (.int ((g ((nat (i1 + (3 : Int32))))) &&& (255 : Int32))), .unset, .unset, .unset, .unset, .unset] [])) _
                  refine XS.iconst X0.here hx rfl (hb hby d1_180) ?_
                  show Steps p.tables e below (s₁.setTop (mkF m 181 #[.val (.ref o0), .val (.int i1), .val (.int i2), .val (.int (i2 - i1)), .val (.int ((g ((nat i1))) &&& (255 : Int32))), .val (.int (f1_22_l5 i1 i2 g)), .val (.int ((g ((nat (i1 + (1 : Int32))))) &&& (255 : Int32))), .val (.int ((g ((nat (i1 + (2 : Int32))))) &&& (255 : Int32))), .val (.int ((g ((nat (i1 + (3 : Int32))))) &&& (255 : Int32))), .unset, .unset, .unset, .unset, .unset] [(.int (0 : Int32))])) _
                  rw [show (f1_149_s0a i1 i2 g) = (0 : Int32) from ((if_pos hc149).trans ((if_pos hc161).trans (if_neg hc173)))] at k
                  exact k
              · refine XS.icmpYes X0.here hx rfl (pc0 := 161) (pc' := 180) rfl (hb hby d1_161) rfl (feq hc161).2 (by decide) (by decide) ?_
                show Steps p.tables e below (s₁.setTop (mkF m 180 #[.val (.ref o0), .val (.int i1), .val (.int i2), .val (.int (i2 - i1)), .val (.int ((g ((nat i1))) &&& (255 : Int32))), .val (.int (f1_22_l5 i1 i2 g)), .val (.int ((g ((nat (i1 + (1 : Int32))))) &&& (255 : Int32))), .val (.int ((g ((nat (i1 + (2 : Int32))))) &&& (255 : Int32))), .val (.int ((g ((nat (i1 + (3 : Int32))))) &&& (255 : Int32))), .unset, .unset, .unset, .unset, .unset] [])) _
                refine XS.iconst X0.here hx rfl (hb hby d1_180) ?_
                show Steps p.tables e below (s₁.setTop (mkF m 181 #[.val (.ref o0), .val (.int i1), .val (.int i2), .val (.int (i2 - i1)), .val (.int ((g ((nat i1))) &&& (255 : Int32))), .val (.int (f1_22_l5 i1 i2 g)), .val (.int ((g ((nat (i1 + (1 : Int32))))) &&& (255 : Int32))), .val (.int ((g ((nat (i1 + (2 : Int32))))) &&& (255 : Int32))), .val (.int ((g ((nat (i1 + (3 : Int32))))) &&& (255 : Int32))), .unset, .unset, .unset, .unset, .unset] [(.int (0 : Int32))])) _
                rw [show (f1_149_s0a i1 i2 g) = (0 : Int32) from ((if_pos hc149).trans (if_neg hc161))] at k
                exact k
            · refine XS.icmpYes X0.here hx rfl (pc0 := 149) (pc' := 180) rfl (hb hby d1_149) rfl (feq hc149).2 (by decide) (by decide) ?_
              show Steps p.tables e below (s₁.setTop (mkF m 180 #[.val (.ref o0), .val (.int i1), .val (.int i2), .val (.int (i2 - i1)), .val (.int ((g ((nat i1))) &&& (255 : Int32))), .val (.int (f1_22_l5 i1 i2 g)), .val (.int ((g ((nat (i1 + (1 : Int32))))) &&& (255 : Int32))), .val (.int ((g ((nat (i1 + (2 : Int32))))) &&& (255 : Int32))), .val (.int ((g ((nat (i1 + (3 : Int32))))) &&& (255 : Int32))), .unset, .unset, .unset, .unset, .unset] [])) _
              refine XS.iconst X0.here hx rfl (hb hby d1_180) ?_
              show Steps p.tables e below (s₁.setTop (mkF m 181 #[.val (.ref o0), .val (.int i1), .val (.int i2), .val (.int (i2 - i1)), .val (.int ((g ((nat i1))) &&& (255 : Int32))), .val (.int (f1_22_l5 i1 i2 g)), .val (.int ((g ((nat (i1 + (1 : Int32))))) &&& (255 : Int32))), .val (.int ((g ((nat (i1 + (2 : Int32))))) &&& (255 : Int32))), .val (.int ((g ((nat (i1 + (3 : Int32))))) &&& (255 : Int32))), .unset, .unset, .unset, .unset, .unset] [(.int (0 : Int32))])) _
              rw [show (f1_149_s0a i1 i2 g) = (0 : Int32) from (if_neg hc149)] at k
              exact k
          refine Outs.of (U' := s₁.setTop (mkF m 290 #[.val (.ref o0), .val (.int i1), .val (.int i2), .val (.int (i2 - i1)), .val (.int ((g ((nat i1))) &&& (255 : Int32))), .val (.int (f1_22_l5 i1 i2 g)), .val (.int ((g ((nat (i1 + (1 : Int32))))) &&& (255 : Int32))), .val (.int ((g ((nat (i1 + (2 : Int32))))) &&& (255 : Int32))), .val (.int ((g ((nat (i1 + (3 : Int32))))) &&& (255 : Int32))), .val (.int (f1_149_s0a i1 i2 g)), .val (.int (f1_186_l10a i1 i2 g)), .val (.int (f1_186_l11 i1 i2 g)), .unset, .unset] [])) (fun t k => ?_) ?_
          · refine XS.istore X0.here hx rfl (hb hby d1_181) rfl (l' := #[.val (.ref o0), .val (.int i1), .val (.int i2), .val (.int (i2 - i1)), .val (.int ((g ((nat i1))) &&& (255 : Int32))), .val (.int (f1_22_l5 i1 i2 g)), .val (.int ((g ((nat (i1 + (1 : Int32))))) &&& (255 : Int32))), .val (.int ((g ((nat (i1 + (2 : Int32))))) &&& (255 : Int32))), .val (.int ((g ((nat (i1 + (3 : Int32))))) &&& (255 : Int32))), .val (.int (f1_149_s0a i1 i2 g)), .unset, .unset, .unset, .unset]) rfl ?_
            show Steps p.tables e below (s₁.setTop (mkF m 183 #[.val (.ref o0), .val (.int i1), .val (.int i2), .val (.int (i2 - i1)), .val (.int ((g ((nat i1))) &&& (255 : Int32))), .val (.int (f1_22_l5 i1 i2 g)), .val (.int ((g ((nat (i1 + (1 : Int32))))) &&& (255 : Int32))), .val (.int ((g ((nat (i1 + (2 : Int32))))) &&& (255 : Int32))), .val (.int ((g ((nat (i1 + (3 : Int32))))) &&& (255 : Int32))), .val (.int (f1_149_s0a i1 i2 g)), .unset, .unset, .unset, .unset] [])) _
            refine XS.iload X0.here hx rfl (hb hby d1_183) rfl ?_
            show Steps p.tables e below (s₁.setTop (mkF m 185 #[.val (.ref o0), .val (.int i1), .val (.int i2), .val (.int (i2 - i1)), .val (.int ((g ((nat i1))) &&& (255 : Int32))), .val (.int (f1_22_l5 i1 i2 g)), .val (.int ((g ((nat (i1 + (1 : Int32))))) &&& (255 : Int32))), .val (.int ((g ((nat (i1 + (2 : Int32))))) &&& (255 : Int32))), .val (.int ((g ((nat (i1 + (3 : Int32))))) &&& (255 : Int32))), .val (.int (f1_149_s0a i1 i2 g)), .unset, .unset, .unset, .unset] [(.int (f1_22_l5 i1 i2 g))])) _
            refine XS.iconst X0.here hx rfl (hb hby d1_185) ?_
            show Steps p.tables e below (s₁.setTop (mkF m 186 #[.val (.ref o0), .val (.int i1), .val (.int i2), .val (.int (i2 - i1)), .val (.int ((g ((nat i1))) &&& (255 : Int32))), .val (.int (f1_22_l5 i1 i2 g)), .val (.int ((g ((nat (i1 + (1 : Int32))))) &&& (255 : Int32))), .val (.int ((g ((nat (i1 + (2 : Int32))))) &&& (255 : Int32))), .val (.int ((g ((nat (i1 + (3 : Int32))))) &&& (255 : Int32))), .val (.int (f1_149_s0a i1 i2 g)), .unset, .unset, .unset, .unset] [(.int (2 : Int32)), (.int (f1_22_l5 i1 i2 g))])) _
            by_cases hc186 : (f1_22_l5 i1 i2 g) = (2 : Int32)
            · refine XS.icmpNo X0.here hx rfl (hb hby d1_186) rfl (teq hc186).2 ?_
              show Steps p.tables e below (s₁.setTop (mkF m 189 #[.val (.ref o0), .val (.int i1), .val (.int i2), .val (.int (i2 - i1)), .val (.int ((g ((nat i1))) &&& (255 : Int32))), .val (.int (f1_22_l5 i1 i2 g)), .val (.int ((g ((nat (i1 + (1 : Int32))))) &&& (255 : Int32))), .val (.int ((g ((nat (i1 + (2 : Int32))))) &&& (255 : Int32))), .val (.int ((g ((nat (i1 + (3 : Int32))))) &&& (255 : Int32))), .val (.int (f1_149_s0a i1 i2 g)), .unset, .unset, .unset, .unset] [])) _
              refine XS.iload X0.here hx rfl (hb hby d1_189) rfl ?_
              show Steps p.tables e below (s₁.setTop (mkF m 191 #[.val (.ref o0), .val (.int i1), .val (.int i2), .val (.int (i2 - i1)), .val (.int ((g ((nat i1))) &&& (255 : Int32))), .val (.int (f1_22_l5 i1 i2 g)), .val (.int ((g ((nat (i1 + (1 : Int32))))) &&& (255 : Int32))), .val (.int ((g ((nat (i1 + (2 : Int32))))) &&& (255 : Int32))), .val (.int ((g ((nat (i1 + (3 : Int32))))) &&& (255 : Int32))), .val (.int (f1_149_s0a i1 i2 g)), .unset, .unset, .unset, .unset] [(.int ((g ((nat i1))) &&& (255 : Int32)))])) _
              refine XS.bipush X0.here hx rfl (hb hby d1_191) ?_
              show Steps p.tables e below (s₁.setTop (mkF m 193 #[.val (.ref o0), .val (.int i1), .val (.int i2), .val (.int (i2 - i1)), .val (.int ((g ((nat i1))) &&& (255 : Int32))), .val (.int (f1_22_l5 i1 i2 g)), .val (.int ((g ((nat (i1 + (1 : Int32))))) &&& (255 : Int32))), .val (.int ((g ((nat (i1 + (2 : Int32))))) &&& (255 : Int32))), .val (.int ((g ((nat (i1 + (3 : Int32))))) &&& (255 : Int32))), .val (.int (f1_149_s0a i1 i2 g)), .unset, .unset, .unset, .unset] [(.int (31 : Int32)), (.int ((g ((nat i1))) &&& (255 : Int32)))])) _
              refine XS.iand X0.here hx rfl (hb hby d1_193) rfl ?_
              show Steps p.tables e below (s₁.setTop (mkF m 194 #[.val (.ref o0), .val (.int i1), .val (.int i2), .val (.int (i2 - i1)), .val (.int ((g ((nat i1))) &&& (255 : Int32))), .val (.int (f1_22_l5 i1 i2 g)), .val (.int ((g ((nat (i1 + (1 : Int32))))) &&& (255 : Int32))), .val (.int ((g ((nat (i1 + (2 : Int32))))) &&& (255 : Int32))), .val (.int ((g ((nat (i1 + (3 : Int32))))) &&& (255 : Int32))), .val (.int (f1_149_s0a i1 i2 g)), .unset, .unset, .unset, .unset] [(.int (((g ((nat i1))) &&& (255 : Int32)) &&& (31 : Int32)))])) _
              refine XS.bipush X0.here hx rfl (hb hby d1_194) ?_
              show Steps p.tables e below (s₁.setTop (mkF m 196 #[.val (.ref o0), .val (.int i1), .val (.int i2), .val (.int (i2 - i1)), .val (.int ((g ((nat i1))) &&& (255 : Int32))), .val (.int (f1_22_l5 i1 i2 g)), .val (.int ((g ((nat (i1 + (1 : Int32))))) &&& (255 : Int32))), .val (.int ((g ((nat (i1 + (2 : Int32))))) &&& (255 : Int32))), .val (.int ((g ((nat (i1 + (3 : Int32))))) &&& (255 : Int32))), .val (.int (f1_149_s0a i1 i2 g)), .unset, .unset, .unset, .unset] [(.int (6 : Int32)), (.int (((g ((nat i1))) &&& (255 : Int32)) &&& (31 : Int32)))])) _
              refine XS.ishl X0.here hx rfl (hb hby d1_196) rfl ?_
              show Steps p.tables e below (s₁.setTop (mkF m 197 #[.val (.ref o0), .val (.int i1), .val (.int i2), .val (.int (i2 - i1)), .val (.int ((g ((nat i1))) &&& (255 : Int32))), .val (.int (f1_22_l5 i1 i2 g)), .val (.int ((g ((nat (i1 + (1 : Int32))))) &&& (255 : Int32))), .val (.int ((g ((nat (i1 + (2 : Int32))))) &&& (255 : Int32))), .val (.int ((g ((nat (i1 + (3 : Int32))))) &&& (255 : Int32))), .val (.int (f1_149_s0a i1 i2 g)), .unset, .unset, .unset, .unset] [(.int ((((g ((nat i1))) &&& (255 : Int32)) &&& (31 : Int32)) <<< ((6 : Int32) &&& 31)))])) _
              refine XS.iload X0.here hx rfl (hb hby d1_197) rfl ?_
              show Steps p.tables e below (s₁.setTop (mkF m 199 #[.val (.ref o0), .val (.int i1), .val (.int i2), .val (.int (i2 - i1)), .val (.int ((g ((nat i1))) &&& (255 : Int32))), .val (.int (f1_22_l5 i1 i2 g)), .val (.int ((g ((nat (i1 + (1 : Int32))))) &&& (255 : Int32))), .val (.int ((g ((nat (i1 + (2 : Int32))))) &&& (255 : Int32))), .val (.int ((g ((nat (i1 + (3 : Int32))))) &&& (255 : Int32))), .val (.int (f1_149_s0a i1 i2 g)), .unset, .unset, .unset, .unset] [(.int ((g ((nat (i1 + (1 : Int32))))) &&& (255 : Int32))), (.int ((((g ((nat i1))) &&& (255 : Int32)) &&& (31 : Int32)) <<< ((6 : Int32) &&& 31)))])) _
              refine XS.bipush X0.here hx rfl (hb hby d1_199) ?_
              show Steps p.tables e below (s₁.setTop (mkF m 201 #[.val (.ref o0), .val (.int i1), .val (.int i2), .val (.int (i2 - i1)), .val (.int ((g ((nat i1))) &&& (255 : Int32))), .val (.int (f1_22_l5 i1 i2 g)), .val (.int ((g ((nat (i1 + (1 : Int32))))) &&& (255 : Int32))), .val (.int ((g ((nat (i1 + (2 : Int32))))) &&& (255 : Int32))), .val (.int ((g ((nat (i1 + (3 : Int32))))) &&& (255 : Int32))), .val (.int (f1_149_s0a i1 i2 g)), .unset, .unset, .unset, .unset] [(.int (63 : Int32)), (.int ((g ((nat (i1 + (1 : Int32))))) &&& (255 : Int32))), (.int ((((g ((nat i1))) &&& (255 : Int32)) &&& (31 : Int32)) <<< ((6 : Int32) &&& 31)))])) _
              refine XS.iand X0.here hx rfl (hb hby d1_201) rfl ?_
              show Steps p.tables e below (s₁.setTop (mkF m 202 #[.val (.ref o0), .val (.int i1), .val (.int i2), .val (.int (i2 - i1)), .val (.int ((g ((nat i1))) &&& (255 : Int32))), .val (.int (f1_22_l5 i1 i2 g)), .val (.int ((g ((nat (i1 + (1 : Int32))))) &&& (255 : Int32))), .val (.int ((g ((nat (i1 + (2 : Int32))))) &&& (255 : Int32))), .val (.int ((g ((nat (i1 + (3 : Int32))))) &&& (255 : Int32))), .val (.int (f1_149_s0a i1 i2 g)), .unset, .unset, .unset, .unset] [(.int (((g ((nat (i1 + (1 : Int32))))) &&& (255 : Int32)) &&& (63 : Int32))), (.int ((((g ((nat i1))) &&& (255 : Int32)) &&& (31 : Int32)) <<< ((6 : Int32) &&& 31)))])) _
              refine XS.ior X0.here hx rfl (hb hby d1_202) rfl ?_
              show Steps p.tables e below (s₁.setTop (mkF m 203 #[.val (.ref o0), .val (.int i1), .val (.int i2), .val (.int (i2 - i1)), .val (.int ((g ((nat i1))) &&& (255 : Int32))), .val (.int (f1_22_l5 i1 i2 g)), .val (.int ((g ((nat (i1 + (1 : Int32))))) &&& (255 : Int32))), .val (.int ((g ((nat (i1 + (2 : Int32))))) &&& (255 : Int32))), .val (.int ((g ((nat (i1 + (3 : Int32))))) &&& (255 : Int32))), .val (.int (f1_149_s0a i1 i2 g)), .unset, .unset, .unset, .unset] [(.int (((((g ((nat i1))) &&& (255 : Int32)) &&& (31 : Int32)) <<< ((6 : Int32) &&& 31)) ||| (((g ((nat (i1 + (1 : Int32))))) &&& (255 : Int32)) &&& (63 : Int32))))])) _
              refine XS.istore X0.here hx rfl (hb hby d1_203) rfl (l' := #[.val (.ref o0), .val (.int i1), .val (.int i2), .val (.int (i2 - i1)), .val (.int ((g ((nat i1))) &&& (255 : Int32))), .val (.int (f1_22_l5 i1 i2 g)), .val (.int ((g ((nat (i1 + (1 : Int32))))) &&& (255 : Int32))), .val (.int ((g ((nat (i1 + (2 : Int32))))) &&& (255 : Int32))), .val (.int ((g ((nat (i1 + (3 : Int32))))) &&& (255 : Int32))), .val (.int (f1_149_s0a i1 i2 g)), .val (.int (f1_v203 i1 i2 g)), .unset, .unset, .unset]) rfl ?_
              show Steps p.tables e below (s₁.setTop (mkF m 205 #[.val (.ref o0), .val (.int i1), .val (.int i2), .val (.int (i2 - i1)), .val (.int ((g ((nat i1))) &&& (255 : Int32))), .val (.int (f1_22_l5 i1 i2 g)), .val (.int ((g ((nat (i1 + (1 : Int32))))) &&& (255 : Int32))), .val (.int ((g ((nat (i1 + (2 : Int32))))) &&& (255 : Int32))), .val (.int ((g ((nat (i1 + (3 : Int32))))) &&& (255 : Int32))), .val (.int (f1_149_s0a i1 i2 g)), .val (.int (f1_v203 i1 i2 g)), .unset, .unset, .unset] [])) _
              refine XS.sipush X0.here hx rfl (hb hby d1_205) ?_
              show Steps p.tables e below (s₁.setTop (mkF m 208 #[.val (.ref o0), .val (.int i1), .val (.int i2), .val (.int (i2 - i1)), .val (.int ((g ((nat i1))) &&& (255 : Int32))), .val (.int (f1_22_l5 i1 i2 g)), .val (.int ((g ((nat (i1 + (1 : Int32))))) &&& (255 : Int32))), .val (.int ((g ((nat (i1 + (2 : Int32))))) &&& (255 : Int32))), .val (.int ((g ((nat (i1 + (3 : Int32))))) &&& (255 : Int32))), .val (.int (f1_149_s0a i1 i2 g)), .val (.int (f1_v203 i1 i2 g)), .unset, .unset, .unset] [(.int (128 : Int32))])) _
              refine XS.istore X0.here hx rfl (hb hby d1_208) rfl (l' := #[.val (.ref o0), .val (.int i1), .val (.int i2), .val (.int (i2 - i1)), .val (.int ((g ((nat i1))) &&& (255 : Int32))), .val (.int (f1_22_l5 i1 i2 g)), .val (.int ((g ((nat (i1 + (1 : Int32))))) &&& (255 : Int32))), .val (.int ((g ((nat (i1 + (2 : Int32))))) &&& (255 : Int32))), .val (.int ((g ((nat (i1 + (3 : Int32))))) &&& (255 : Int32))), .val (.int (f1_149_s0a i1 i2 g)), .val (.int (f1_v203 i1 i2 g)), .val (.int (128 : Int32)), .unset, .unset]) rfl ?_
              show Steps p.tables e below (s₁.setTop (mkF m 210 #[.val (.ref o0), .val (.int i1), .val (.int i2), .val (.int (i2 - i1)), .val (.int ((g ((nat i1))) &&& (255 : Int32))), .val (.int (f1_22_l5 i1 i2 g)), .val (.int ((g ((nat (i1 + (1 : Int32))))) &&& (255 : Int32))), .val (.int ((g ((nat (i1 + (2 : Int32))))) &&& (255 : Int32))), .val (.int ((g ((nat (i1 + (3 : Int32))))) &&& (255 : Int32))), .val (.int (f1_149_s0a i1 i2 g)), .val (.int (f1_v203 i1 i2 g)), .val (.int (128 : Int32)), .unset, .unset] [])) _
              refine XS.goto X0.here hx rfl (pc0 := 210) (pc' := 290) rfl (hb hby d1_210) (by decide) (by decide) ?_
              show Steps p.tables e below (s₁.setTop (mkF m 290 #[.val (.ref o0), .val (.int i1), .val (.int i2), .val (.int (i2 - i1)), .val (.int ((g ((nat i1))) &&& (255 : Int32))), .val (.int (f1_22_l5 i1 i2 g)), .val (.int ((g ((nat (i1 + (1 : Int32))))) &&& (255 : Int32))), .val (.int ((g ((nat (i1 + (2 : Int32))))) &&& (255 : Int32))), .val (.int ((g ((nat (i1 + (3 : Int32))))) &&& (255 : Int32))), .val (.int (f1_149_s0a i1 i2 g)), .val (.int (f1_v203 i1 i2 g)), .val (.int (128 : Int32)), .unset, .unset] [])) _
              rw [show (f1_186_l10a i1 i2 g) = (f1_v203 i1 i2 g) from (if_pos hc186), show (f1_186_l11 i1 i2 g) = (128 : Int32) from (if_pos hc186)] at k
              exact k
            · refine XS.icmpYes X0.here hx rfl (pc0 := 186) (pc' := 213) rfl (hb hby d1_186) rfl (feq hc186).2 (by decide) (by decide) ?_
              show Steps p.tables e below (s₁.setTop (mkF m 213 #[.val (.ref o0), .val (.int i1), .val (.int i2), .val (.int (i2 - i1)), .val (.int ((g ((nat i1))) &&& (255 : Int32))), .val (.int (f1_22_l5 i1 i2 g)), .val (.int ((g ((nat (i1 + (1 : Int32))))) &&& (255 : Int32))), .val (.int ((g ((nat (i1 + (2 : Int32))))) &&& (255 : Int32))), .val (.int ((g ((nat (i1 + (3 : Int32))))) &&& (255 : Int32))), .val (.int (f1_149_s0a i1 i2 g)), .unset, .unset, .unset, .unset] [])) _
              refine XS.iload X0.here hx rfl (hb hby d1_213) rfl ?_
              show Steps p.tables e below (s₁.setTop (mkF m 215 #[.val (.ref o0), .val (.int i1), .val (.int i2), .val (.int (i2 - i1)), .val (.int ((g ((nat i1))) &&& (255 : Int32))), .val (.int (f1_22_l5 i1 i2 g)), .val (.int ((g ((nat (i1 + (1 : Int32))))) &&& (255 : Int32))), .val (.int ((g ((nat (i1 + (2 : Int32))))) &&& (255 : Int32))), .val (.int ((g ((nat (i1 + (3 : Int32))))) &&& (255 : Int32))), .val (.int (f1_149_s0a i1 i2 g)), .unset, .unset, .unset, .unset] [(.int (f1_22_l5 i1 i2 g))])) _
              refine XS.iconst X0.here hx rfl (hb hby d1_215) ?_
              show Steps p.tables e below (s₁.setTop (mkF m 216 #[.val (.ref o0), .val (.int i1), .val (.int i2), .val (.int (i2 - i1)), .val (.int ((g ((nat i1))) &&& (255 : Int32))), .val (.int (f1_22_l5 i1 i2 g)), .val (.int ((g ((nat (i1 + (1 : Int32))))) &&& (255 : Int32))), .val (.int ((g ((nat (i1 + (2 : Int32))))) &&& (255 : Int32))), .val (.int ((g ((nat (i1 + (3 : Int32))))) &&& (255 : Int32))), .val (.int (f1_149_s0a i1 i2 g)), .unset, .unset, .unset, .unset] [(.int (3 : Int32)), (.int (f1_22_l5 i1 i2 g))])) _
              by_cases hc216 : (f1_22_l5 i1 i2 g) = (3 : Int32)
              · refine XS.icmpNo X0.here hx rfl (hb hby d1_216) rfl (teq hc216).2 ?_
                show Steps p.tables e below (s₁.setTop (mkF m 219 #[.val (.ref o0), .val (.int i1), .val (.int i2), .val (.int (i2 - i1)), .val (.int ((g ((nat i1))) &&& (255 : Int32))), .val (.int (f1_22_l5 i1 i2 g)), .val (.int ((g ((nat (i1 + (1 : Int32))))) &&& (255 : Int32))), .val (.int ((g ((nat (i1 + (2 : Int32))))) &&& (255 : Int32))), .val (.int ((g ((nat (i1 + (3 : Int32))))) &&& (255 : Int32))), .val (.int (f1_149_s0a i1 i2 g)), .unset, .unset, .unset, .unset] [])) _
                refine XS.iload X0.here hx rfl (hb hby d1_219) rfl ?_
                show Steps p.tables e below (s₁.setTop (mkF m 221 #[.val (.ref o0), .val (.int i1), .val (.int i2), .val (.int (i2 - i1)), .val (.int ((g ((nat i1))) &&& (255 : Int32))), .val (.int (f1_22_l5 i1 i2 g)), .val (.int ((g ((nat (i1 + (1 : Int32))))) &&& (255 : Int32))), .val (.int ((g ((nat (i1 + (2 : Int32))))) &&& (255 : Int32))), .val (.int ((g ((nat (i1 + (3 : Int32))))) &&& (255 : Int32))), .val (.int (f1_149_s0a i1 i2 g)), .unset, .unset, .unset, .unset] [(.int ((g ((nat i1))) &&& (255 : Int32)))])) _
                refine XS.bipush X0.here hx rfl (hb hby d1_221) ?_
                show Steps p.tables e below (s₁.setTop (mkF m 223 #[.val (.ref o0), .val (.int i1), .val (.int i2), .val (.int (i2 - i1)), .val (.int ((g ((nat i1))) &&& (255 : Int32))), .val (.int (f1_22_l5 i1 i2 g)), .val (.int ((g ((nat (i1 + (1 : Int32))))) &&& (255 : Int32))), .val (.int ((g ((nat (i1 + (2 : Int32))))) &&& (255 : Int32))), .val (.int ((g ((nat (i1 + (3 : Int32))))) &&& (255 : Int32))), .val (.int (f1_149_s0a i1 i2 g)), .unset, .unset, .unset, .unset] [(.int (15 : Int32)), (.int ((g ((nat i1))) &&& (255 : Int32)))])) _
                refine XS.iand X0.here hx rfl (hb hby d1_223) rfl ?_
                show Steps p.tables e below (s₁.setTop (mkF m 224 #[.val (.ref o0), .val (.int i1), .val (.int i2), .val (.int (i2 - i1)), .val (.int ((g ((nat i1))) &&& (255 : Int32))), .val (.int (f1_22_l5 i1 i2 g)), .val (.int ((g ((nat (i1 + (1 : Int32))))) &&& (255 : Int32))), .val (.int ((g ((nat (i1 + (2 : Int32))))) &&& (255 : Int32))), .val (.int ((g ((nat (i1 + (3 : Int32))))) &&& (255 : Int32))), .val (.int (f1_149_s0a i1 i2 g)), .unset, .unset, .unset, .unset] [(.int (((g ((nat i1))) &&& (255 : Int32)) &&& (15 : Int32)))])) _
                refine XS.bipush X0.here hx rfl (hb hby d1_224) ?_
                show Steps p.tables e below (s₁.setTop (mkF m 226 #[.val (.ref o0), .val (.int i1), .val (.int i2), .val (.int (i2 - i1)), .val (.int ((g ((nat i1))) &&& (255 : Int32))), .val (.int (f1_22_l5 i1 i2 g)), .val (.int ((g ((nat (i1 + (1 : Int32))))) &&& (255 : Int32))), .val (.int ((g ((nat (i1 + (2 : Int32))))) &&& (255 : Int32))), .val (.int ((g ((nat (i1 + (3 : Int32))))) &&& (255 : Int32))), .val (.int (f1_149_s0a i1 i2 g)), .unset, .unset, .unset, .unset] [(.int (12 : Int32)), (.int (((g ((nat i1))) &&& (255 : Int32)) &&& (15 : Int32)))])) _
                refine XS.ishl X0.here hx rfl (hb hby d1_226) rfl ?_
                show Steps p.tables e below (s₁.setTop (mkF m 227 #[.val (.ref o0), .val (.int i1), .val (.int i2), .val (.int (i2 - i1)), .val (.int ((g ((nat i1))) &&& (255 : Int32))), .val (.int (f1_22_l5 i1 i2 g)), .val (.int ((g ((nat (i1 + (1 : Int32))))) &&& (255 : Int32))), .val (.int ((g ((nat (i1 + (2 : Int32))))) &&& (255 : Int32))), .val (.int ((g ((nat (i1 + (3 : Int32))))) &&& (255 : Int32))), .val (.int (f1_149_s0a i1 i2 g)), .unset, .unset, .unset, .unset] [(.int ((((g ((nat i1))) &&& (255 : Int32)) &&& (15 : Int32)) <<< ((12 : Int32) &&& 31)))])) _
                refine XS.iload X0.here hx rfl (hb hby d1_227) rfl ?_
                show Steps p.tables e below (s₁.setTop (mkF m 229 #[.val (.ref o0), .val (.int i1), .val (.int i2), .val (.int (i2 - i1)), .val (.int ((g ((nat i1))) &&& (255 : Int32))), .val (.int (f1_22_l5 i1 i2 g)), .val (.int ((g ((nat (i1 + (1 : Int32))))) &&& (255 : Int32))), .val (.int ((g ((nat (i1 + (2 : Int32))))) &&& (255 : Int32))), .val (.int ((g ((nat (i1 + (3 : Int32))))) &&& (255 : Int32))), .val (.int (f1_149_s0a i1 i2 g)), .unset, .unset, .unset, .unset] [(.int ((g ((nat (i1 + (1 : Int32))))) &&& (255 : Int32))), (.int ((((g ((nat i1))) &&& (255 : Int32)) &&& (15 : Int32)) <<< ((12 : Int32) &&& 31)))])) _
                refine XS.bipush X0.here hx rfl (hb hby d1_229) ?_
                show Steps p.tables e below (s₁.setTop (mkF m 231 #[.val (.ref o0), .val (.int i1), .val (.int i2), .val (.int (i2 - i1)), .val (.int ((g ((nat i1))) &&& (255 : Int32))), .val (.int (f1_22_l5 i1 i2 g)), .val (.int ((g ((nat (i1 + (1 : Int32))))) &&& (255 : Int32))), .val (.int ((g ((nat (i1 + (2 : Int32))))) &&& (255 : Int32))), .val (.int ((g ((nat (i1 + (3 : Int32))))) &&& (255 : Int32))), .val (.int (f1_149_s0a i1 i2 g)), .unset, .unset, .unset, .unset] [(.int (63 : Int32)), (.int ((g ((nat (i1 + (1 : Int32))))) &&& (255 : Int32))), (.int ((((g ((nat i1))) &&& (255 : Int32)) &&& (15 : Int32)) <<< ((12 : Int32) &&& 31)))])) _
                refine XS.iand X0.here hx rfl (hb hby d1_231) rfl ?_
                show Steps p.tables e below (s₁.setTop (mkF m 232 #[.val (.ref o0), .val (.int i1), .val (.int i2), .val (.int (i2 - i1)), .val (.int ((g ((nat i1))) &&& (255 : Int32))), .val (.int (f1_22_l5 i1 i2 g)), .val (.int ((g ((nat (i1 + (1 : Int32))))) &&& (255 : Int32))), .val (.int ((g ((nat (i1 + (2 : Int32))))) &&& (255 : Int32))), .val (.int ((g ((nat (i1 + (3 : Int32))))) &&& (255 : Int32))), .val (.int (f1_149_s0a i1 i2 g)), .unset, .unset, .unset, .unset] [(.int (((g ((nat (i1 + (1 : Int32))))) &&& (255 : Int32)) &&& (63 : Int32))), (.int ((((g ((nat i1))) &&& (255 : Int32)) &&& (15 : Int32)) <<< ((12 : Int32) &&& 31)))])) _
                refine XS.bipush X0.here hx rfl (hb hby d1_232) ?_
                show Steps p.tables e below (s₁.setTop (mkF m 234 #[.val (.ref o0), .val (.int i1), .val (.int i2), .val (.int (i2 - i1)), .val (.int ((g ((nat i1))) &&& (255 : Int32))), .val (.int (f1_22_l5 i1 i2 g)), .val (.int ((g ((nat (i1 + (1 : Int32))))) &&& (255 : Int32))), .val (.int ((g ((nat (i1 + (2 : Int32))))) &&& (255 : Int32))), .val (.int ((g ((nat (i1 + (3 : Int32))))) &&& (255 : Int32))), .val (.int (f1_149_s0a i1 i2 g)), .unset, .unset, .unset, .unset] [(.int (6 : Int32)), (.int (((g ((nat (i1 + (1 : Int32))))) &&& (255 : Int32)) &&& (63 : Int32))), (.int ((((g ((nat i1))) &&& (255 : Int32)) &&& (15 : Int32)) <<< ((12 : Int32) &&& 31)))])) _
                refine XS.ishl X0.here hx rfl (hb hby d1_234) rfl ?_
                show Steps p.tables e below (s₁.setTop (mkF m 235 #[.val (.ref o0), .val (.int i1), .val (.int i2), .val (.int (i2 - i1)), .val (.int ((g ((nat i1))) &&& (255 : Int32))), .val (.int (f1_22_l5 i1 i2 g)), .val (.int ((g ((nat (i1 + (1 : Int32))))) &&& (255 : Int32))), .val (.int ((g ((nat (i1 + (2 : Int32))))) &&& (255 : Int32))), .val (.int ((g ((nat (i1 + (3 : Int32))))) &&& (255 : Int32))), .val (.int (f1_149_s0a i1 i2 g)), .unset, .unset, .unset, .unset] [(.int ((((g ((nat (i1 + (1 : Int32))))) &&& (255 : Int32)) &&& (63 : Int32)) <<< ((6 : Int32) &&& 31))), (.int ((((g ((nat i1))) &&& (255 : Int32)) &&& (15 : Int32)) <<< ((12 : Int32) &&& 31)))])) _
                refine XS.ior X0.here hx rfl (hb hby d1_235) rfl ?_
                show Steps p.tables e below (s₁.setTop (mkF m 236 #[.val (.ref o0), .val (.int i1), .val (.int i2), .val (.int (i2 - i1)), .val (.int ((g ((nat i1))) &&& (255 : Int32))), .val (.int (f1_22_l5 i1 i2 g)), .val (.int ((g ((nat (i1 + (1 : Int32))))) &&& (255 : Int32))), .val (.int ((g ((nat (i1 + (2 : Int32))))) &&& (255 : Int32))), .val (.int ((g ((nat (i1 + (3 : Int32))))) &&& (255 : Int32))), .val (.int (f1_149_s0a i1 i2 g)), .unset, .unset, .unset, .unset] [(.int (((((g ((nat i1))) &&& (255 : Int32)) &&& (15 : Int32)) <<< ((12 : Int32) &&& 31)) ||| ((((g ((nat (i1 + (1 : Int32))))) &&& (255 : Int32)) &&& (63 : Int32)) <<< ((6 : Int32) &&& 31))))])) _
                refine XS.iload X0.here hx rfl (hb hby d1_236) rfl ?_
                show Steps p.tables e below (s₁.setTop (mkF m 238 #[.val (.ref o0), .val (.int i1), .val (.int i2), .val (.int (i2 - i1)), .val (.int ((g ((nat i1))) &&& (255 : Int32))), .val (.int (f1_22_l5 i1 i2 g)), .val (.int ((g ((nat (i1 + (1 : Int32))))) &&& (255 : Int32))), .val (.int ((g ((nat (i1 + (2 : Int32))))) &&& (255 : Int32))), .val (.int ((g ((nat (i1 + (3 : Int32))))) &&& (255 : Int32))), .val (.int (f1_149_s0a i1 i2 g)), .unset, .unset, .unset, .unset] [(.int ((g ((nat (i1 + (2 : Int32))))) &&& (255 : Int32))), (.int (((((g ((nat i1))) &&& (255 : Int32)) &&& (15 : Int32)) <<< ((12 : Int32) &&& 31)) ||| ((((g ((nat (i1 + (1 : Int32))))) &&& (255 : Int32)) &&& (63 : Int32)) <<< ((6 : Int32) &&& 31))))])) _
                refine XS.bipush X0.here hx rfl (hb hby d1_238) ?_
                show Steps p.tables e below (s₁.setTop (mkF m 240 #[.val (.ref o0), .val (.int i1), .val (.int i2), .val (.int (i2 - i1)), .val (.int ((g ((nat i1))) &&& (255 : Int32))), .val (.int (f1_22_l5 i1 i2 g)), .val (.int ((g ((nat (i1 + (1 : Int32))))) &&& (255 : Int32))), .val (.int ((g ((nat (i1 + (2 : Int32))))) &&& (255 : Int32))), .val (.int ((g ((nat (i1 + (3 : Int32))))) &&& (255 : Int32))), .val (.int (f1_149_s0a i1 i2 g)), .unset, .unset, .unset, .unset] [(.int (63 : Int32)), (.int ((g ((nat (i1 + (2 : Int32))))) &&& (255 : Int32))), (.int (((((g ((nat i1))) &&& (255 : Int32)) &&& (15 : Int32)) <<< ((12 : Int32) &&& 31)) ||| ((((g ((nat (i1 + (1 : Int32))))) &&& (255 : Int32)) &&& (63 : Int32)) <<< ((6 : Int32) &&& 31))))])) _
                refine XS.iand X0.here hx rfl (hb hby d1_240) rfl ?_
                show Steps p.tables e below (s₁.setTop (mkF m 241 #[.val (.ref o0), .val (.int i1), .val (.int i2), .val (.int (i2 - i1)), .val (.int ((g ((nat i1))) &&& (255 : Int32))), .val (.int (f1_22_l5 i1 i2 g)), .val (.int ((g ((nat (i1 + (1 : Int32))))) &&& (255 : Int32))), .val (.int ((g ((nat (i1 + (2 : Int32))))) &&& (255 : Int32))), .val (.int ((g ((nat (i1 + (3 : Int32))))) &&& (255 : Int32))), .val (.int (f1_149_s0a i1 i2 g)), .unset, .unset, .unset, .unset] [(.int (((g ((nat (i1 + (2 : Int32))))) &&& (255 : Int32)) &&& (63 : Int32))), (.int (((((g ((nat i1))) &&& (255 : Int32)) &&& (15 : Int32)) <<< ((12 : Int32) &&& 31)) ||| ((((g ((nat (i1 + (1 : Int32))))) &&& (255 : Int32)) &&& (63 : Int32)) <<< ((6 : Int32) &&& 31))))])) _
                refine XS.ior X0.here hx rfl (hb hby d1_241) rfl ?_
                show Steps p.tables e below (s₁.setTop (mkF m 242 #[.val (.ref o0), .val (.int i1), .val (.int i2), .val (.int (i2 - i1)), .val (.int ((g ((nat i1))) &&& (255 : Int32))), .val (.int (f1_22_l5 i1 i2 g)), .val (.int ((g ((nat (i1 + (1 : Int32))))) &&& (255 : Int32))), .val (.int ((g ((nat (i1 + (2 : Int32))))) &&& (255 : Int32))), .val (.int ((g ((nat (i1 + (3 : Int32))))) &&& (255 : Int32))), .val (.int (f1_149_s0a i1 i2 g)), .unset, .unset, .unset, .unset] [(.int ((((((g ((nat i1))) &&& (255 : Int32)) &&& (15 : Int32)) <<< ((12 : Int32) &&& 31)) ||| ((((g ((nat (i1 + (1 : Int32))))) &&& (255 : Int32)) &&& (63 : Int32)) <<< ((6 : Int32) &&& 31))) ||| (((g ((nat (i1 + (2 : Int32))))) &&& (255 : Int32)) &&& (63 : Int32))))])) _
                refine XS.istore X0.here hx rfl (hb hby d1_242) rfl (l' := #[.val (.ref o0), .val (.int i1), .val (.int i2), .val (.int (i2 - i1)), .val (.int ((g ((nat i1))) &&& (255 : Int32))), .val (.int (f1_22_l5 i1 i2 g)), .val (.int ((g ((nat (i1 + (1 : Int32))))) &&& (255 : Int32))), .val (.int ((g ((nat (i1 + (2 : Int32))))) &&& (255 : Int32))), .val (.int ((g ((nat (i1 + (3 : Int32))))) &&& (255 : Int32))), .val (.int (f1_149_s0a i1 i2 g)), .val (.int (f1_v242a i1 i2 g)), .unset, .unset, .unset]) rfl ?_
                show Steps p.tables e below (s₁.setTop (mkF m 244 #[.val (.ref o0), .val (.int i1), .val (.int i2), .val (.int (i2 - i1)), .val (.int ((g ((nat i1))) &&& (255 : Int32))), .val (.int (f1_22_l5 i1 i2 g)), .val (.int ((g ((nat (i1 + (1 : Int32))))) &&& (255 : Int32))), .val (.int ((g ((nat (i1 + (2 : Int32))))) &&& (255 : Int32))), .val (.int ((g ((nat (i1 + (3 : Int32))))) &&& (255 : Int32))), .val (.int (f1_149_s0a i1 i2 g)), .val (.int (f1_v242a i1 i2 g)), .unset, .unset, .unset] [])) _
                refine XS.sipush X0.here hx rfl (hb hby d1_244) ?_
                show Steps p.tables e below (s₁.setTop (mkF m 247 #[.val (.ref o0), .val (.int i1), .val (.int i2), .val (.int (i2 - i1)), .val (.int ((g ((nat i1))) &&& (255 : Int32))), .val (.int (f1_22_l5 i1 i2 g)), .val (.int ((g ((nat (i1 + (1 : Int32))))) &&& (255 : Int32))), .val (.int ((g ((nat (i1 + (2 : Int32))))) &&& (255 : Int32))), .val (.int ((g ((nat (i1 + (3 : Int32))))) &&& (255 : Int32))), .val (.int (f1_149_s0a i1 i2 g)), .val (.int (f1_v242a i1 i2 g)), .unset, .unset, .unset] [(.int (2048 : Int32))])) _
                refine XS.istore X0.here hx rfl (hb hby d1_247) rfl (l' := #[.val (.ref o0), .val (.int i1), .val (.int i2), .val (.int (i2 - i1)), .val (.int ((g ((nat i1))) &&& (255 : Int32))), .val (.int (f1_22_l5 i1 i2 g)), .val (.int ((g ((nat (i1 + (1 : Int32))))) &&& (255 : Int32))), .val (.int ((g ((nat (i1 + (2 : Int32))))) &&& (255 : Int32))), .val (.int ((g ((nat (i1 + (3 : Int32))))) &&& (255 : Int32))), .val (.int (f1_149_s0a i1 i2 g)), .val (.int (f1_v242a i1 i2 g)), .val (.int (2048 : Int32)), .unset, .unset]) rfl ?_
                show Steps p.tables e below (s₁.setTop (mkF m 249 #[.val (.ref o0), .val (.int i1), .val (.int i2), .val (.int (i2 - i1)), .val (.int ((g ((nat i1))) &&& (255 : Int32))), .val (.int (f1_22_l5 i1 i2 g)), .val (.int ((g ((nat (i1 + (1 : Int32))))) &&& (255 : Int32))), .val (.int ((g ((nat (i1 + (2 : Int32))))) &&& (255 : Int32))), .val (.int ((g ((nat (i1 + (3 : Int32))))) &&& (255 : Int32))), .val (.int (f1_149_s0a i1 i2 g)), .val (.int (f1_v242a i1 i2 g)), .val (.int (2048 : Int32)), .unset, .unset] [])) _
                refine XS.goto X0.here hx rfl (pc0 := 249) (pc' := 290) rfl (hb hby d1_249) (by decide) (by decide) ?_
                show Steps p.tables e below (s₁.setTop (mkF m 290 #[.val (.ref o0), .val (.int i1), .val (.int i2), .val (.int (i2 - i1)), .val (.int ((g ((nat i1))) &&& (255 : Int32))), .val (.int (f1_22_l5 i1 i2 g)), .val (.int ((g ((nat (i1 + (1 : Int32))))) &&& (255 : Int32))), .val (.int ((g ((nat (i1 + (2 : Int32))))) &&& (255 : Int32))), .val (.int ((g ((nat (i1 + (3 : Int32))))) &&& (255 : Int32))), .val (.int (f1_149_s0a i1 i2 g)), .val (.int (f1_v242a i1 i2 g)), .val (.int (2048 : Int32)), .unset, .unset] [])) _
                rw [show (f1_186_l10a i1 i2 g) = (f1_v242a i1 i2 g) from ((if_neg hc186).trans (if_pos hc216)), show (f1_186_l11 i1 i2 g) = (2048 : Int32) from ((if_neg hc186).trans (if_pos hc216))] at k
                exact k
              · refine XS.icmpYes X0.here hx rfl (pc0 := 216) (pc' := 252) rfl (hb hby d1_216) rfl (feq hc216).2 (by decide) (by decide) ?_
                show Steps p.tables e below (s₁.setTop (mkF m 252 #[.val (.ref o0), .val (.int i1), .val (.int i2), .val (.int (i2 - i1)), .val (.int ((g ((nat i1))) &&& (255 : Int32))), .val (.int (f1_22_l5 i1 i2 g)), .val (.int ((g ((nat (i1 + (1 : Int32))))) &&& (255 : Int32))), .val (.int ((g ((nat (i1 + (2 : Int32))))) &&& (255 : Int32))), .val (.int ((g ((nat (i1 + (3 : Int32))))) &&& (255 : Int32))), .val (.int (f1_149_s0a i1 i2 g)), .unset, .unset, .unset, .unset] [])) _
                refine XS.iload X0.here hx rfl (hb hby d1_252) rfl ?_
                show Steps p.tables e below (s₁.setTop (mkF m 254 #[.val (.ref o0), .val (.int i1), .val (.int i2), .val (.int (i2 - i1)), .val (.int ((g ((nat i1))) &&& (255 : Int32))), .val (.int (f1_22_l5 i1 i2 g)), .val (.int ((g ((nat (i1 + (1 : Int32))))) &&& (255 : Int32))), .val (.int ((g ((nat (i1 + (2 : Int32))))) &&& (255 : Int32))), .val (.int ((g ((nat (i1 + (3 : Int32))))) &&& (255 : Int32))), .val (.int (f1_149_s0a i1 i2 g)), .unset, .unset, .unset, .unset] [(.int ((g ((nat i1))) &&& (255 : Int32)))])) _
                refine XS.bipush X0.here hx rfl (hb hby d1_254) ?_
                show Steps p.tables e below (s₁.setTop (mkF m 256 #[.val (.ref o0), .val (.int i1), .val (.int i2), .val (.int (i2 - i1)), .val (.int ((g ((nat i1))) &&& (255 : Int32))), .val (.int (f1_22_l5 i1 i2 g)), .val (.int ((g ((nat (i1 + (1 : Int32))))) &&& (255 : Int32))), .val (.int ((g ((nat (i1 + (2 : Int32))))) &&& (255 : Int32))), .val (.int ((g ((nat (i1 + (3 : Int32))))) &&& (255 : Int32))), .val (.int (f1_149_s0a i1 i2 g)), .unset, .unset, .unset, .unset] [(.int (7 : Int32)), (.int ((g ((nat i1))) &&& (255 : Int32)))])) _
                refine XS.iand X0.here hx rfl (hb hby d1_256) rfl ?_
                show Steps p.tables e below (s₁.setTop (mkF m 257 #[.val (.ref o0), .val (.int i1), .val (.int i2), .val (.int (i2 - i1)), .val (.int ((g ((nat i1))) &&& (255 : Int32))), .val (.int (f1_22_l5 i1 i2 g)), .val (.int ((g ((nat (i1 + (1 : Int32))))) &&& (255 : Int32))), .val (.int ((g ((nat (i1 + (2 : Int32))))) &&& (255 : Int32))), .val (.int ((g ((nat (i1 + (3 : Int32))))) &&& (255 : Int32))), .val (.int (f1_149_s0a i1 i2 g)), .unset, .unset, .unset, .unset] [(.int (((g ((nat i1))) &&& (255 : Int32)) &&& (7 : Int32)))])) _
                refine XS.bipush X0.here hx rfl (hb hby d1_257) ?_
                show Steps p.tables e below (s₁.setTop (mkF m 259 #[.val (.ref o0), .val (.int i1), .val (.int i2), .val (.int (i2 - i1)), .val (.int ((g ((nat i1))) &&& (255 : Int32))), .val (.int (f1_22_l5 i1 i2 g)), .val (.int ((g ((nat (i1 + (1 : Int32))))) &&& (255 : Int32))), .val (.int ((g ((nat (i1 + (2 : Int32))))) &&& (255 : Int32))), .val (.int ((g ((nat (i1 + (3 : Int32))))) &&& (255 : Int32))), .val (.int (f1_149_s0a i1 i2 g)), .unset, .unset, .unset, .unset] [(.int (18 : Int32)), (.int (((g ((nat i1))) &&& (255 : Int32)) &&& (7 : Int32)))])) _
                refine XS.ishl X0.here hx rfl (hb hby d1_259) rfl ?_
                show Steps p.tables e below (s₁.setTop (mkF m 260 #[.val (.ref o0), .val (.int i1), .val (.int i2), .val (.int (i2 - i1)), .val (.int ((g ((nat i1))) &&& (255 : Int32))), .val (.int (f1_22_l5 i1 i2 g)), .val (.int ((g ((nat (i1 + (1 : Int32))))) &&& (255 : Int32))), .val (.int ((g ((nat (i1 + (2 : Int32))))) &&& (255 : Int32))), .val (.int ((g ((nat (i1 + (3 : Int32))))) &&& (255 : Int32))), .val (.int (f1_149_s0a i1 i2 g)), .unset, .unset, .unset, .unset] [(.int ((((g ((nat i1))) &&& (255 : Int32)) &&& (7 : Int32)) <<< ((18 : Int32) &&& 31)))])) _
                refine XS.iload X0.here hx rfl (hb hby d1_260) rfl ?_
                show Steps p.tables e below (s₁.setTop (mkF m 262 #[.val (.ref o0), .val (.int i1), .val (.int i2), .val (.int (i2 - i1)), .val (.int ((g ((nat i1))) &&& (255 : Int32))), .val (.int (f1_22_l5 i1 i2 g)), .val (.int ((g ((nat (i1 + (1 : Int32))))) &&& (255 : Int32))), .val (.int ((g ((nat (i1 + (2 : Int32))))) &&& (255 : Int32))), .val (.int ((g ((nat (i1 + (3 : Int32))))) &&& (255 : Int32))), .val (.int (f1_149_s0a i1 i2 g)), .unset, .unset, .unset, .unset] [(.int ((g ((nat (i1 + (1 : Int32))))) &&& (255 : Int32))), (.int ((((g ((nat i1))) &&& (255 : Int32)) &&& (7 : Int32)) <<< ((18 : Int32) &&& 31)))])) _
                refine XS.bipush X0.here hx rfl (hb hby d1_262) ?_
                show Steps p.tables e below (s₁.setTop (mkF m 264 #[.val (.ref o0), .val (.int i1), .val (.int i2), .val (.int (i2 - i1)), .val (.int ((g ((nat i1))) &&& (255 : Int32))), .val (.int (f1_22_l5 i1 i2 g)), .val (.int ((g ((nat (i1 + (1 : Int32))))) &&& (255 : Int32))), .val (.int ((g ((nat (i1 + (2 : Int32))))) &&& (255 : Int32))), .val (.int ((g ((nat (i1 + (3 : Int32))))) &&& (255 : Int32))), .val (.int (f1_149_s0a i1 i2 g)), .unset, .unset, .unset, .unset] [(.int (63 : Int32)), (.int ((g ((nat (i1 + (1 : Int32))))) &&& (255 : Int32))), (.int ((((g ((nat i1))) &&& (255 : Int32)) &&& (7 : Int32)) <<< ((18 : Int32) &&& 31)))])) _
                refine XS.iand X0.here hx rfl (hb hby d1_264) rfl ?_
                show Steps p.tables e below (s₁.setTop (mkF m 265 #[.val (.ref o0), .val (.int i1), .val (.int i2), .val (.int (i2 - i1)), .val (.int ((g ((nat i1))) &&& (255 : Int32))), .val (.int (f1_22_l5 i1 i2 g)), .val (.int ((g ((nat (i1 + (1 : Int32))))) &&& (255 : Int32))), .val (.int ((g ((nat (i1 + (2 : Int32))))) &&& (255 : Int32))), .val (.int ((g ((nat (i1 + (3 : Int32))))) &&& (255 : Int32))), .val (.int (f1_149_s0a i1 i2 g)), .unset, .unset, .unset, .unset] [(.int (((g ((nat (i1 + (1 : Int32))))) &&& (255 : Int32)) &&& (63 : Int32))), (.int ((((g ((nat i1))) &&& (255 : Int32)) &&& (7 : Int32)) <<< ((18 : Int32) &&& 31)))])) _
                refine XS.bipush X0.here hx rfl (hb hby d1_265) ?_
                show Steps p.tables e below (s₁.setTop (mkF m 267 #[.val (.ref o0), .val (.int i1), .val (.int i2), .val (.int (i2 - i1)), .val (.int ((g ((nat i1))) &&& (255 : Int32))), .val (.int (f1_22_l5 i1 i2 g)), .val (.int ((g ((nat (i1 + (1 : Int32))))) &&& (255 : Int32))), .val (.int ((g ((nat (i1 + (2 : Int32))))) &&& (255 : Int32))), .val (.int ((g ((nat (i1 + (3 : Int32))))) &&& (255 : Int32))), .val (.int (f1_149_s0a i1 i2 g)), .unset, .unset, .unset, .unset] [(.int (12 : Int32)), (.int (((g ((nat (i1 + (1 : Int32))))) &&& (255 : Int32)) &&& (63 : Int32))), (.int ((((g ((nat i1))) &&& (255 : Int32)) &&& (7 : Int32)) <<< ((18 : Int32) &&& 31)))])) _
                refine XS.ishl X0.here hx rfl (hb hby d1_267) rfl ?_
                show Steps p.tables e below (s₁.setTop (mkF m 268 #[.val (.ref o0), .val (.int i1), .val (.int i2), .val (.int (i2 - i1)), .val (.int ((g ((nat i1))) &&& (255 : Int32))), .val (.int (f1_22_l5 i1 i2 g)), .val (.int ((g ((nat (i1 + (1 : Int32))))) &&& (255 : Int32))), .val (.int ((g ((nat (i1 + (2 : Int32))))) &&& (255 : Int32))), .val (.int ((g ((nat (i1 + (3 : Int32))))) &&& (255 : Int32))), .val (.int (f1_149_s0a i1 i2 g)), .unset, .unset, .unset, .unset] [(.int ((((g ((nat (i1 + (1 : Int32))))) &&& (255 : Int32)) &&& (63 : Int32)) <<< ((12 : Int32) &&& 31))), (.int ((((g ((nat i1))) &&& (255 : Int32)) &&& (7 : Int32)) <<< ((18 : Int32) &&& 31)))])) _
                refine XS.ior X0.here hx rfl (hb hby d1_268) rfl ?_
                show Steps p.tables e below (s₁.setTop (mkF m 269 #[.val (.ref o0), .val (.int i1), .val (.int i2), .val (.int (i2 - i1)), .val (.int ((g ((nat i1))) &&& (255 : Int32))), .val (.int (f1_22_l5 i1 i2 g)), .val (.int ((g ((nat (i1 + (1 : Int32))))) &&& (255 : Int32))), .val (.int ((g ((nat (i1 + (2 : Int32))))) &&& (255 : Int32))), .val (.int ((g ((nat (i1 + (3 : Int32))))) &&& (255 : Int32))), .val (.int (f1_149_s0a i1 i2 g)), .unset, .unset, .unset, .unset] [(.int (((((g ((nat i1))) &&& (255 : Int32)) &&& (7 : Int32)) <<< ((18 : Int32) &&& 31)) ||| ((((g ((nat (i1 + (1 : Int32))))) &&& (255 : Int32)) &&& (63 : Int32)) <<< ((12 : Int32) &&& 31))))])) _
                refine XS.iload X0.here hx rfl (hb hby d1_269) rfl ?_
                show Steps p.tables e below (s₁.setTop (mkF m 271 #[.val (.ref o0), .val (.int i1), .val (.int i2), .val (.int (i2 - i1)), .val (.int ((g ((nat i1))) &&& (255 : Int32))), .val (.int (f1_22_l5 i1 i2 g)), .val (.int ((g ((nat (i1 + (1 : Int32))))) &&& (255 : Int32))), .val (.int ((g ((nat (i1 + (2 : Int32))))) &&& (255 : Int32))), .val (.int ((g ((nat (i1 + (3 : Int32))))) &&& (255 : Int32))), .val (.int (f1_149_s0a i1 i2 g)), .unset, .unset, .unset, .unset] [(.int ((g ((nat (i1 + (2 : Int32))))) &&& (255 : Int32))), (.int (((((g ((nat i1))) &&& (255 : Int32)) &&& (7 : Int32)) <<< ((18 : Int32) &&& 31)) ||| ((((g ((nat (i1 + (1 : Int32))))) &&& (255 : Int32)) &&& (63 : Int32)) <<< ((12 : Int32) &&& 31))))])) _
                refine XS.bipush X0.here hx rfl (hb hby d1_271) ?_
                show Steps p.tables e below (s₁.setTop (mkF m 273 #[.val (.ref o0), .val (.int i1), .val (.int i2), .val (.int (i2 - i1)), .val (.int ((g ((nat i1))) &&& (255 : Int32))), .val (.int (f1_22_l5 i1 i2 g)), .val (.int ((g ((nat (i1 + (1 : Int32))))) &&& (255 : Int32))), .val (.int ((g ((nat (i1 + (2 : Int32))))) &&& (255 : Int32))), .val (.int ((g ((nat (i1 + (3 : Int32))))) &&& (255 : Int32))), .val (.int (f1_149_s0a i1 i2 g)), .unset, .unset, .unset, .unset] [(.int (63 : Int32)), (.int ((g ((nat (i1 + (2 : Int32))))) &&& (255 : Int32))), (.int (((((g ((nat i1))) &&& (255 : Int32)) &&& (7 : Int32)) <<< ((18 : Int32) &&& 31)) ||| ((((g ((nat (i1 + (1 : Int32))))) &&& (255 : Int32)) &&& (63 : Int32)) <<< ((12 : Int32) &&& 31))))])) _
                refine XS.iand X0.here hx rfl (hb hby d1_273) rfl ?_
                show Steps p.tables e below (s₁.setTop (mkF m 274 #[.val (.ref o0), .val (.int i1), .val (.int i2), .val (.int (i2 - i1)), .val (.int ((g ((nat i1))) &&& (255 : Int32))), .val (.int (f1_22_l5 i1 i2 g)), .val (.int ((g ((nat (i1 + (1 : Int32))))) &&& (255 : Int32))), .val (.int ((g ((nat (i1 + (2 : Int32))))) &&& (255 : Int32))), .val (.int ((g ((nat (i1 + (3 : Int32))))) &&& (255 : Int32))), .val (.int (f1_149_s0a i1 i2 g)), .unset, .unset, .unset, .unset] [(.int (((g ((nat (i1 + (2 : Int32))))) &&& (255 : Int32)) &&& (63 : Int32))), (.int (((((g ((nat i1))) &&& (255 : Int32)) &&& (7 : Int32)) <<< ((18 : Int32) &&& 31)) ||| ((((g ((nat (i1 + (1 : Int32))))) &&& (255 : Int32)) &&& (63 : Int32)) <<< ((12 : Int32) &&& 31))))])) _
                refine XS.bipush X0.here hx rfl (hb hby d1_274) ?_
                show Steps p.tables e below (s₁.setTop (mkF m 276 #[.val (.ref o0), .val (.int i1), .val (.int i2), .val (.int (i2 - i1)), .val (.int ((g ((nat i1))) &&& (255 : Int32))), .val (.int (f1_22_l5 i1 i2 g)), .val (.int ((g ((nat (i1 + (1 : Int32))))) &&& (255 : Int32))), .val (.int ((g ((nat (i1 + (2 : Int32))))) &&& (255 : Int32))), .val (.int ((g ((nat (i1 + (3 : Int32))))) &&& (255 : Int32))), .val (.int (f1_149_s0a i1 i2 g)), .unset, .unset, .unset, .unset] [(.int (6 : Int32)), (.int (((g ((nat (i1 + (2 : Int32))))) &&& (255 : Int32)) &&& (63 : Int32))), (.int (((((g ((nat i1))) &&& (255 : Int32)) &&& (7 : Int32)) <<< ((18 : Int32) &&& 31)) ||| ((((g ((nat (i1 + (1 : Int32))))) &&& (255 : Int32)) &&& (63 : Int32)) <<< ((12 : Int32) &&& 31))))])) _
                refine XS.ishl X0.here hx rfl (hb hby d1_276) rfl ?_
                show Steps p.tables e below (s₁.setTop (mkF m 277 #[.val (.ref o0), .val (.int i1), .val (.int i2), .val (.int (i2 - i1)), .val (.int ((g ((nat i1))) &&& (255 : Int32))), .val (.int (f1_22_l5 i1 i2 g)), .val (.int ((g ((nat (i1 + (1 : Int32))))) &&& (255 : Int32))), .val (.int ((g ((nat (i1 + (2 : Int32))))) &&& (255 : Int32))), .val (.int ((g ((nat (i1 + (3 : Int32))))) &&& (255 : Int32))), .val (.int (f1_149_s0a i1 i2 g)), .unset, .unset, .unset, .unset] [(.int ((((g ((nat (i1 + (2 : Int32))))) &&& (255 : Int32)) &&& (63 : Int32)) <<< ((6 : Int32) &&& 31))), (.int (((((g ((nat i1))) &&& (255 : Int32)) &&& (7 : Int32)) <<< ((18 : Int32) &&& 31)) ||| ((((g ((nat (i1 + (1 : Int32))))) &&& (255 : Int32)) &&& (63 : Int32)) <<< ((12 : Int32) &&& 31))))])) _
                refine XS.ior X0.here hx rfl (hb hby d1_277) rfl ?_
                show Steps p.tables e below (s₁.setTop (mkF m 278 #[.val (.ref o0), .val (.int i1), .val (.int i2), .val (.int (i2 - i1)), .val (.int ((g ((nat i1))) &&& (255 : Int32))), .val (.int (f1_22_l5 i1 i2 g)), .val (.int ((g ((nat (i1 + (1 : Int32))))) &&& (255 : Int32))), .val (.int ((g ((nat (i1 + (2 : Int32))))) &&& (255 : Int32))), .val (.int ((g ((nat (i1 + (3 : Int32))))) &&& (255 : Int32))), .val (.int (f1_149_s0a i1 i2 g)), .unset, .unset, .unset, .unset] [(.int ((((((g ((nat i1))) &&& (255 : Int32)) &&& (7 : Int32)) <<< ((18 : Int32) &&& 31)) ||| ((((g ((nat (i1 + (1 : Int32))))) &&& (255 : Int32)) &&& (63 : Int32)) <<< ((12 : Int32) &&& 31))) ||| ((((g ((nat (i1 + (2 : Int32))))) &&& (255 : Int32)) &&& (63 : Int32)) <<< ((6 : Int32) &&& 31))))])) _
                refine XS.iload X0.here hx rfl (hb hby d1_278) rfl ?_
                show Steps p.tables e below (s₁.setTop (mkF m 280 #[.val (.ref o0), .val (.int i1), .val (.int i2), .val (.int (i2 - i1)), .val (.int ((g ((nat i1))) &&& (255 : Int32))), .val (.int (f1_22_l5 i1 i2 g)), .val (.int ((g ((nat (i1 + (1 : Int32))))) &&& (255 : Int32))), .val (.int ((g ((nat (i1 + (2 : Int32))))) &&& (255 : Int32))), .val (.int ((g ((nat (i1 + (3 : Int32))))) &&& (255 : Int32))), .val (.int (f1_149_s0a i1 i2 g)), .unset, .unset, .unset, .unset] [(.int ((g ((nat (i1 + (3 : Int32))))) &&& (255 : Int32))), (.int ((((((g ((nat i1))) &&& (255 : Int32)) &&& (7 : Int32)) <<< ((18 : Int32) &&& 31)) ||| ((((g ((nat (i1 + (1 : Int32))))) &&& (255 : Int32)) &&& (63 : Int32)) <<< ((12 : Int32) &&& 31))) ||| ((((g ((nat (i1 + (2 : Int32))))) &&& (255 : Int32)) &&& (63 : Int32)) <<< ((6 : Int32) &&& 31))))])) _
                refine XS.bipush X0.here hx rfl (hb hby d1_280) ?_
                show Steps p.tables e below (s₁.setTop (mkF m 282 #[.val (.ref o0), .val (.int i1), .val (.int i2), .val (.int (i2 - i1)), .val (.int ((g ((nat i1))) &&& (255 : Int32))), .val (.int (f1_22_l5 i1 i2 g)), .val (.int ((g ((nat (i1 + (1 : Int32))))) &&& (255 : Int32))), .val (.int ((g ((nat (i1 + (2 : Int32))))) &&& (255 : Int32))), .val (.int ((g ((nat (i1 + (3 : Int32))))) &&& (255 : Int32))), .val (.int (f1_149_s0a i1 i2 g)), .unset, .unset, .unset, .unset] [(.int (63 : Int32)), (.int ((g ((nat (i1 + (3 : Int32))))) &&& (255 : Int32))), (.int ((((((g ((nat i1))) &&& (255 : Int32)) &&& (7 : Int32)) <<< ((18 : Int32) &&& 31)) ||| ((((g ((nat (i1 + (1 : Int32))))) &&& (255 : Int32)) &&& (63 : Int32)) <<< ((12 : Int32) &&& 31))) ||| ((((g ((nat (i1 + (2 : Int32))))) &&& (255 : Int32)) &&& (63 : Int32)) <<< ((6 : Int32) &&& 31))))])) _
                refine XS.iand X0.here hx rfl (hb hby d1_282) rfl ?_
                show Steps p.tables e below (s₁.setTop (mkF m 283 #[.val (.ref o0), .val (.int i1), .val (.int i2), .val (.int (i2 - i1)), .val (.int ((g ((nat i1))) &&& (255 : Int32))), .val (.int (f1_22_l5 i1 i2 g)), .val (.int ((g ((nat (i1 + (1 : Int32))))) &&& (255 : Int32))), .val (.int ((g ((nat (i1 + (2 : Int32))))) &&& (255 : Int32))), .val (.int ((g ((nat (i1 + (3 : Int32))))) &&& (255 : Int32))), .val (.int (f1_149_s0a i1 i2 g)), .unset, .unset, .unset, .unset] [(.int (((g ((nat (i1 + (3 : Int32))))) &&& (255 : Int32)) &&& (63 : Int32))), (.int ((((((g ((nat i1))) &&& (255 : Int32)) &&& (7 : Int32)) <<< ((18 : Int32) &&& 31)) ||| ((((g ((nat (i1 + (1 : Int32))))) &&& (255 : Int32)) &&& (63 : Int32)) <<< ((12 : Int32) &&& 31))) ||| ((((g ((nat (i1 + (2 : Int32))))) &&& (255 : Int32)) &&& (63 : Int32)) <<< ((6 : Int32) &&& 31))))])) _
                refine XS.ior X0.here hx rfl (hb hby d1_283) rfl ?_
                show Steps p.tables e below (s₁.setTop (mkF m 284 #[.val (.ref o0), .val (.int i1), .val (.int i2), .val (.int (i2 - i1)), .val (.int ((g ((nat i1))) &&& (255 : Int32))), .val (.int (f1_22_l5 i1 i2 g)), .val (.int ((g ((nat (i1 + (1 : Int32))))) &&& (255 : Int32))), .val (.int ((g ((nat (i1 + (2 : Int32))))) &&& (255 : Int32))), .val (.int ((g ((nat (i1 + (3 : Int32))))) &&& (255 : Int32))), .val (.int (f1_149_s0a i1 i2 g)), .unset, .unset, .unset, .unset] [(.int (((((((g ((nat i1))) &&& (255 : Int32)) &&& (7 : Int32)) <<< ((18 : Int32) &&& 31)) ||| ((((g ((nat (i1 + (1 : Int32))))) &&& (255 : Int32)) &&& (63 : Int32)) <<< ((12 : Int32) &&& 31))) ||| ((((g ((nat (i1 + (2 : Int32))))) &&& (255 : Int32)) &&& (63 : Int32)) <<< ((6 : Int32) &&& 31))) ||| (((g ((nat (i1 + (3 : Int32))))) &&& (255 : Int32)) &&& (63 : Int32))))])) _
                refine XS.istore X0.here hx rfl (hb hby d1_284) rfl (l' := #[.val (.ref o0), .val (.int i1), .val (.int i2), .val (.int (i2 - i1)), .val (.int ((g ((nat i1))) &&& (255 : Int32))), .val (.int (f1_22_l5 i1 i2 g)), .val (.int ((g ((nat (i1 + (1 : Int32))))) &&& (255 : Int32))), .val (.int ((g ((nat (i1 + (2 : Int32))))) &&& (255 : Int32))), .val (.int ((g ((nat (i1 + (3 : Int32))))) &&& (255 : Int32))), .val (.int (f1_149_s0a i1 i2 g)), .val (.int (f1_v284a i1 i2 g)), .unset, .unset, .unset]) rfl ?_
                show Steps p.tables e below (s₁.setTop (mkF m 286 #[.val (.ref o0), .val (.int i1), .val (.int i2), .val (.int (i2 - i1)), .val (.int ((g ((nat i1))) &&& (255 : Int32))), .val (.int (f1_22_l5 i1 i2 g)), .val (.int ((g ((nat (i1 + (1 : Int32))))) &&& (255 : Int32))), .val (.int ((g ((nat (i1 + (2 : Int32))))) &&& (255 : Int32))), .val (.int ((g ((nat (i1 + (3 : Int32))))) &&& (255 : Int32))), .val (.int (f1_149_s0a i1 i2 g)), .val (.int (f1_v284a i1 i2 g)), .unset, .unset, .unset] [])) _
                refine X0.ldcInt hx hown (mvT hZ (hw _ (List.mem_of_getElem? (i := 12) rfl))) (g := (mkF m 286 #[.val (.ref o0), .val (.int i1), .val (.int i2), .val (.int (i2 - i1)), .val (.int ((g ((nat i1))) &&& (255 : Int32))), .val (.int (f1_22_l5 i1 i2 g)), .val (.int ((g ((nat (i1 + (1 : Int32))))) &&& (255 : Int32))), .val (.int ((g ((nat (i1 + (2 : Int32))))) &&& (255 : Int32))), .val (.int ((g ((nat (i1 + (3 : Int32))))) &&& (255 : Int32))), .val (.int (f1_149_s0a i1 i2 g)), .val (.int (f1_v284a i1 i2 g)), .unset, .unset, .unset] [])) rfl (hb hby d1_286) _ ?_
                show Steps p.tables e below (s₁.setTop (mkF m 288 #[.val (.ref o0), .val (.int i1), .val (.int i2), .val (.int (i2 - i1)), .val (.int ((g ((nat i1))) &&& (255 : Int32))), .val (.int (f1_22_l5 i1 i2 g)), .val (.int ((g ((nat (i1 + (1 : Int32))))) &&& (255 : Int32))), .val (.int ((g ((nat (i1 + (2 : Int32))))) &&& (255 : Int32))), .val (.int ((g ((nat (i1 + (3 : Int32))))) &&& (255 : Int32))), .val (.int (f1_149_s0a i1 i2 g)), .val (.int (f1_v284a i1 i2 g)), .unset, .unset, .unset] [(.int (65536 : Int32))])) _
                refine XS.istore X0.here hx rfl (hb hby d1_288) rfl (l' := #[.val (.ref o0), .val (.int i1), .val (.int i2), .val (.int (i2 - i1)), .val (.int ((g ((nat i1))) &&& (255 : Int32))), .val (.int (f1_22_l5 i1 i2 g)), .val (.int ((g ((nat (i1 + (1 : Int32))))) &&& (255 : Int32))), .val (.int ((g ((nat (i1 + (2 : Int32))))) &&& (255 : Int32))), .val (.int ((g ((nat (i1 + (3 : Int32))))) &&& (255 : Int32))), .val (.int (f1_149_s0a i1 i2 g)), .val (.int (f1_v284a i1 i2 g)), .val (.int (65536 : Int32)), .unset, .unset]) rfl ?_
                show Steps p.tables e below (s₁.setTop (mkF m 290 #[.val (.ref o0), .val (.int i1), .val (.int i2), .val (.int (i2 - i1)), .val (.int ((g ((nat i1))) &&& (255 : Int32))), .val (.int (f1_22_l5 i1 i2 g)), .val (.int ((g ((nat (i1 + (1 : Int32))))) &&& (255 : Int32))), .val (.int ((g ((nat (i1 + (2 : Int32))))) &&& (255 : Int32))), .val (.int ((g ((nat (i1 + (3 : Int32))))) &&& (255 : Int32))), .val (.int (f1_149_s0a i1 i2 g)), .val (.int (f1_v284a i1 i2 g)), .val (.int (65536 : Int32)), .unset, .unset] [])) _
                rw [show (f1_186_l10a i1 i2 g) = (f1_v284a i1 i2 g) from ((if_neg hc186).trans (if_neg hc216)), show (f1_186_l11 i1 i2 g) = (65536 : Int32) from ((if_neg hc186).trans (if_neg hc216))] at k
                exact k
          refine Outs.of (U' := s₁.setTop (mkF m 309 #[.val (.ref o0), .val (.int i1), .val (.int i2), .val (.int (i2 - i1)), .val (.int ((g ((nat i1))) &&& (255 : Int32))), .val (.int (f1_22_l5 i1 i2 g)), .val (.int ((g ((nat (i1 + (1 : Int32))))) &&& (255 : Int32))), .val (.int ((g ((nat (i1 + (2 : Int32))))) &&& (255 : Int32))), .val (.int ((g ((nat (i1 + (3 : Int32))))) &&& (255 : Int32))), .val (.int (f1_149_s0a i1 i2 g)), .val (.int (f1_186_l10a i1 i2 g)), .val (.int (f1_186_l11 i1 i2 g)), .unset, .unset] [(.int (f1_294_s0a i1 i2 g))])) (fun t k => ?_) ?_
          · refine XS.iload X0.here hx rfl (hb hby d1_290) rfl ?_
            show Steps p.tables e below (s₁.setTop (mkF m 292 #[.val (.ref o0), .val (.int i1), .val (.int i2), .val (.int (i2 - i1)), .val (.int ((g ((nat i1))) &&& (255 : Int32))), .val (.int (f1_22_l5 i1 i2 g)), .val (.int ((g ((nat (i1 + (1 : Int32))))) &&& (255 : Int32))), .val (.int ((g ((nat (i1 + (2 : Int32))))) &&& (255 : Int32))), .val (.int ((g ((nat (i1 + (3 : Int32))))) &&& (255 : Int32))), .val (.int (f1_149_s0a i1 i2 g)), .val (.int (f1_186_l10a i1 i2 g)), .val (.int (f1_186_l11 i1 i2 g)), .unset, .unset] [(.int (f1_186_l10a i1 i2 g))])) _
            refine X0.ldcInt hx hown (mvT hZ (hw _ (List.mem_of_getElem? (i := 9) rfl))) (g := (mkF m 292 #[.val (.ref o0), .val (.int i1), .val (.int i2), .val (.int (i2 - i1)), .val (.int ((g ((nat i1))) &&& (255 : Int32))), .val (.int (f1_22_l5 i1 i2 g)), .val (.int ((g ((nat (i1 + (1 : Int32))))) &&& (255 : Int32))), .val (.int ((g ((nat (i1 + (2 : Int32))))) &&& (255 : Int32))), .val (.int ((g ((nat (i1 + (3 : Int32))))) &&& (255 : Int32))), .val (.int (f1_149_s0a i1 i2 g)), .val (.int (f1_186_l10a i1 i2 g)), .val (.int (f1_186_l11 i1 i2 g)), .unset, .unset] [(.int (f1_186_l10a i1 i2 g))])) rfl (hb hby d1_292) _ ?_
            show Steps p.tables e below (s₁.setTop (mkF m 294 #[.val (.ref o0), .val (.int i1), .val (.int i2), .val (.int (i2 - i1)), .val (.int ((g ((nat i1))) &&& (255 : Int32))), .val (.int (f1_22_l5 i1 i2 g)), .val (.int ((g ((nat (i1 + (1 : Int32))))) &&& (255 : Int32))), .val (.int ((g ((nat (i1 + (2 : Int32))))) &&& (255 : Int32))), .val (.int ((g ((nat (i1 + (3 : Int32))))) &&& (255 : Int32))), .val (.int (f1_149_s0a i1 i2 g)), .val (.int (f1_186_l10a i1 i2 g)), .val (.int (f1_186_l11 i1 i2 g)), .unset, .unset] [(.int (55296 : Int32)), (.int (f1_186_l10a i1 i2 g))])) _
            by_cases hc294 : (f1_186_l10a i1 i2 g) < (55296 : Int32)
            · refine XS.icmpYes X0.here hx rfl (pc0 := 294) (pc' := 308) rfl (hb hby d1_294) rfl (tlt hc294).1 (by decide) (by decide) ?_
              show Steps p.tables e below (s₁.setTop (mkF m 308 #[.val (.ref o0), .val (.int i1), .val (.int i2), .val (.int (i2 - i1)), .val (.int ((g ((nat i1))) &&& (255 : Int32))), .val (.int (f1_22_l5 i1 i2 g)), .val (.int ((g ((nat (i1 + (1 : Int32))))) &&& (255 : Int32))), .val (.int ((g ((nat (i1 + (2 : Int32))))) &&& (255 : Int32))), .val (.int ((g ((nat (i1 + (3 : Int32))))) &&& (255 : Int32))), .val (.int (f1_149_s0a i1 i2 g)), .val (.int (f1_186_l10a i1 i2 g)), .val (.int (f1_186_l11 i1 i2 g)), .unset, .unset] [])) _
              refine XS.iconst X0.here hx rfl (hb hby d1_308) ?_
              show Steps p.tables e below (s₁.setTop (mkF m 309 #[.val (.ref o0), .val (.int i1), .val (.int i2), .val (.int (i2 - i1)), .val (.int ((g ((nat i1))) &&& (255 : Int32))), .val (.int (f1_22_l5 i1 i2 g)), .val (.int ((g ((nat (i1 + (1 : Int32))))) &&& (255 : Int32))), .val (.int ((g ((nat (i1 + (2 : Int32))))) &&& (255 : Int32))), .val (.int ((g ((nat (i1 + (3 : Int32))))) &&& (255 : Int32))), .val (.int (f1_149_s0a i1 i2 g)), .val (.int (f1_186_l10a i1 i2 g)), .val (.int (f1_186_l11 i1 i2 g)), .unset, .unset] [(.int (0 : Int32))])) _
              rw [show (f1_294_s0a i1 i2 g) = (0 : Int32) from (if_pos hc294)] at k
              exact k
            · refine XS.icmpNo X0.here hx rfl (hb hby d1_294) rfl (flt hc294).1 ?_
              show Steps p.tables e below (s₁.setTop (mkF m 297 #[.val (.ref o0), .val (.int i1), .val (.int i2), .val (.int (i2 - i1)), .val (.int ((g ((nat i1))) &&& (255 : Int32))), .val (.int (f1_22_l5 i1 i2 g)), .val (.int ((g ((nat (i1 + (1 : Int32))))) &&& (255 : Int32))), .val (.int ((g ((nat (i1 + (2 : Int32))))) &&& (255 : Int32))), .val (.int ((g ((nat (i1 + (3 : Int32))))) &&& (255 : Int32))), .val (.int (f1_149_s0a i1 i2 g)), .val (.int (f1_186_l10a i1 i2 g)), .val (.int (f1_186_l11 i1 i2 g)), .unset, .unset] [])) _
              refine XS.iload X0.here hx rfl (hb hby d1_297) rfl ?_
              show Steps p.tables e below (s₁.setTop (mkF m 299 #[.val (.ref o0), .val (.int i1), .val (.int i2), .val (.int (i2 - i1)), .val (.int ((g ((nat i1))) &&& (255 : Int32))), .val (.int (f1_22_l5 i1 i2 g)), .val (.int ((g ((nat (i1 + (1 : Int32))))) &&& (255 : Int32))), .val (.int ((g ((nat (i1 + (2 : Int32))))) &&& (255 : Int32))), .val (.int ((g ((nat (i1 + (3 : Int32))))) &&& (255 : Int32))), .val (.int (f1_149_s0a i1 i2 g)), .val (.int (f1_186_l10a i1 i2 g)), .val (.int (f1_186_l11 i1 i2 g)), .unset, .unset] [(.int (f1_186_l10a i1 i2 g))])) _
              refine X0.ldcInt hx hown (mvT hZ (hw _ (List.mem_of_getElem? (i := 11) rfl))) (g := (mkF m 299 #[.val (.ref o0), .val (.int i1), .val (.int i2), .val (.int (i2 - i1)), .val (.int ((g ((nat i1))) &&& (255 : Int32))), .val (.int (f1_22_l5 i1 i2 g)), .val (.int ((g ((nat (i1 + (1 : Int32))))) &&& (255 : Int32))), .val (.int ((g ((nat (i1 + (2 : Int32))))) &&& (255 : Int32))), .val (.int ((g ((nat (i1 + (3 : Int32))))) &&& (255 : Int32))), .val (.int (f1_149_s0a i1 i2 g)), .val (.int (f1_186_l10a i1 i2 g)), .val (.int (f1_186_l11 i1 i2 g)), .unset, .unset] [(.int (f1_186_l10a i1 i2 g))])) rfl (hb hby d1_299) _ ?_
              show Steps p.tables e below (s₁.setTop (mkF m 301 #[.val (.ref o0), .val (.int i1), .val (.int i2), .val (.int (i2 - i1)), .val (.int ((g ((nat i1))) &&& (255 : Int32))), .val (.int (f1_22_l5 i1 i2 g)), .val (.int ((g ((nat (i1 + (1 : Int32))))) &&& (255 : Int32))), .val (.int ((g ((nat (i1 + (2 : Int32))))) &&& (255 : Int32))), .val (.int ((g ((nat (i1 + (3 : Int32))))) &&& (255 : Int32))), .val (.int (f1_149_s0a i1 i2 g)), .val (.int (f1_186_l10a i1 i2 g)), .val (.int (f1_186_l11 i1 i2 g)), .unset, .unset] [(.int (57343 : Int32)), (.int (f1_186_l10a i1 i2 g))])) _
              by_cases hc301 : (57343 : Int32) < (f1_186_l10a i1 i2 g)
              · refine XS.icmpYes X0.here hx rfl (pc0 := 301) (pc' := 308) rfl (hb hby d1_301) rfl (tlt hc301).2.2.1 (by decide) (by decide) ?_
                show Steps p.tables e below (s₁.setTop (mkF m 308 #[.val (.ref o0), .val (.int i1), .val (.int i2), .val (.int (i2 - i1)), .val (.int ((g ((nat i1))) &&& (255 : Int32))), .val (.int (f1_22_l5 i1 i2 g)), .val (.int ((g ((nat (i1 + (1 : Int32))))) &&& (255 : Int32))), .val (.int ((g ((nat (i1 + (2 : Int32))))) &&& (255 : Int32))), .val (.int ((g ((nat (i1 + (3 : Int32))))) &&& (255 : Int32))), .val (.int (f1_149_s0a i1 i2 g)), .val (.int (f1_186_l10a i1 i2 g)), .val (.int (f1_186_l11 i1 i2 g)), .unset, .unset] [])) _
                refine XS.iconst X0.here hx rfl (hb hby d1_308) ?_
                show Steps p.tables e below (s₁.setTop (mkF m 309 #[.val (.ref o0), .val (.int i1), .val (.int i2), .val (.int (i2 - i1)), .val (.int ((g ((nat i1))) &&& (255 : Int32))), .val (.int (f1_22_l5 i1 i2 g)), .val (.int ((g ((nat (i1 + (1 : Int32))))) &&& (255 : Int32))), .val (.int ((g ((nat (i1 + (2 : Int32))))) &&& (255 : Int32))), .val (.int ((g ((nat (i1 + (3 : Int32))))) &&& (255 : Int32))), .val (.int (f1_149_s0a i1 i2 g)), .val (.int (f1_186_l10a i1 i2 g)), .val (.int (f1_186_l11 i1 i2 g)), .unset, .unset] [(.int (0 : Int32))])) _
                rw [show (f1_294_s0a i1 i2 g) = (0 : Int32) from ((if_neg hc294).trans (if_pos hc301))] at k
                exact k
              · refine XS.icmpNo X0.here hx rfl (hb hby d1_301) rfl (flt hc301).2.2.1 ?_
                show Steps p.tables e below (s₁.setTop (mkF m 304 #[.val (.ref o0), .val (.int i1), .val (.int i2), .val (.int (i2 - i1)), .val (.int ((g ((nat i1))) &&& (255 : Int32))), .val (.int (f1_22_l5 i1 i2 g)), .val (.int ((g ((nat (i1 + (1 : Int32))))) &&& (255 : Int32))), .val (.int ((g ((nat (i1 + (2 : Int32))))) &&& (255 : Int32))), .val (.int ((g ((nat (i1 + (3 : Int32))))) &&& (255 : Int32))), .val (.int (f1_149_s0a i1 i2 g)), .val (.int (f1_186_l10a i1 i2 g)), .val (.int (f1_186_l11 i1 i2 g)), .unset, .unset] [])) _
                refine XS.iconst X0.here hx rfl (hb hby d1_304) ?_
                show Steps p.tables e below (s₁.setTop (mkF m 305 #[.val (.ref o0), .val (.int i1), .val (.int i2), .val (.int (i2 - i1)), .val (.int ((g ((nat i1))) &&& (255 : Int32))), .val (.int (f1_22_l5 i1 i2 g)), .val (.int ((g ((nat (i1 + (1 : Int32))))) &&& (255 : Int32))), .val (.int ((g ((nat (i1 + (2 : Int32))))) &&& (255 : Int32))), .val (.int ((g ((nat (i1 + (3 : Int32))))) &&& (255 : Int32))), .val (.int (f1_149_s0a i1 i2 g)), .val (.int (f1_186_l10a i1 i2 g)), .val (.int (f1_186_l11 i1 i2 g)), .unset, .unset] [(.int (1 : Int32))])) _
                refine XS.goto X0.here hx rfl (pc0 := 305) (pc' := 309) rfl (hb hby d1_305) (by decide) (by decide) ?_
                show Steps p.tables e below (s₁.setTop (mkF m 309 #[.val (.ref o0), .val (.int i1), .val (.int i2), .val (.int (i2 - i1)), .val (.int ((g ((nat i1))) &&& (255 : Int32))), .val (.int (f1_22_l5 i1 i2 g)), .val (.int ((g ((nat (i1 + (1 : Int32))))) &&& (255 : Int32))), .val (.int ((g ((nat (i1 + (2 : Int32))))) &&& (255 : Int32))), .val (.int ((g ((nat (i1 + (3 : Int32))))) &&& (255 : Int32))), .val (.int (f1_149_s0a i1 i2 g)), .val (.int (f1_186_l10a i1 i2 g)), .val (.int (f1_186_l11 i1 i2 g)), .unset, .unset] [(.int (1 : Int32))])) _
                rw [show (f1_294_s0a i1 i2 g) = (1 : Int32) from ((if_neg hc294).trans (if_neg hc301))] at k
                exact k
          refine Outs.of (U' := s₁.setTop (mkF m 340 #[.val (.ref o0), .val (.int i1), .val (.int i2), .val (.int (i2 - i1)), .val (.int ((g ((nat i1))) &&& (255 : Int32))), .val (.int (f1_22_l5 i1 i2 g)), .val (.int ((g ((nat (i1 + (1 : Int32))))) &&& (255 : Int32))), .val (.int ((g ((nat (i1 + (2 : Int32))))) &&& (255 : Int32))), .val (.int ((g ((nat (i1 + (3 : Int32))))) &&& (255 : Int32))), .val (.int (f1_149_s0a i1 i2 g)), .val (.int (f1_186_l10a i1 i2 g)), .val (.int (f1_186_l11 i1 i2 g)), .val (.int (f1_294_s0a i1 i2 g)), .unset] [(.int (f1_313_s0a i1 i2 g))])) (fun t k => ?_) ?_
          · refine XS.istore X0.here hx rfl (hb hby d1_309) rfl (l' := #[.val (.ref o0), .val (.int i1), .val (.int i2), .val (.int (i2 - i1)), .val (.int ((g ((nat i1))) &&& (255 : Int32))), .val (.int (f1_22_l5 i1 i2 g)), .val (.int ((g ((nat (i1 + (1 : Int32))))) &&& (255 : Int32))), .val (.int ((g ((nat (i1 + (2 : Int32))))) &&& (255 : Int32))), .val (.int ((g ((nat (i1 + (3 : Int32))))) &&& (255 : Int32))), .val (.int (f1_149_s0a i1 i2 g)), .val (.int (f1_186_l10a i1 i2 g)), .val (.int (f1_186_l11 i1 i2 g)), .val (.int (f1_294_s0a i1 i2 g)), .unset]) rfl ?_
            show Steps p.tables e below (s₁.setTop (mkF m 311 #[.val (.ref o0), .val (.int i1), .val (.int i2), .val (.int (i2 - i1)), .val (.int ((g ((nat i1))) &&& (255 : Int32))), .val (.int (f1_22_l5 i1 i2 g)), .val (.int ((g ((nat (i1 + (1 : Int32))))) &&& (255 : Int32))), .val (.int ((g ((nat (i1 + (2 : Int32))))) &&& (255 : Int32))), .val (.int ((g ((nat (i1 + (3 : Int32))))) &&& (255 : Int32))), .val (.int (f1_149_s0a i1 i2 g)), .val (.int (f1_186_l10a i1 i2 g)), .val (.int (f1_186_l11 i1 i2 g)), .val (.int (f1_294_s0a i1 i2 g)), .unset] [])) _
            refine XS.iload X0.here hx rfl (hb hby d1_311) rfl ?_
            show Steps p.tables e below (s₁.setTop (mkF m 313 #[.val (.ref o0), .val (.int i1), .val (.int i2), .val (.int (i2 - i1)), .val (.int ((g ((nat i1))) &&& (255 : Int32))), .val (.int (f1_22_l5 i1 i2 g)), .val (.int ((g ((nat (i1 + (1 : Int32))))) &&& (255 : Int32))), .val (.int ((g ((nat (i1 + (2 : Int32))))) &&& (255 : Int32))), .val (.int ((g ((nat (i1 + (3 : Int32))))) &&& (255 : Int32))), .val (.int (f1_149_s0a i1 i2 g)), .val (.int (f1_186_l10a i1 i2 g)), .val (.int (f1_186_l11 i1 i2 g)), .val (.int (f1_294_s0a i1 i2 g)), .unset] [(.int (f1_149_s0a i1 i2 g))])) _
            by_cases hc313 : (f1_149_s0a i1 i2 g) = (0 : Int32)
            · refine XS.ifYes X0.here hx rfl (pc0 := 313) (pc' := 339) rfl (hb hby d1_313) rfl ((if0 _ _).trans (teq hc313).1) (by decide) (by decide) ?_
              show Steps p.tables e below (s₁.setTop (mkF m 339 #[.val (.ref o0), .val (.int i1), .val (.int i2), .val (.int (i2 - i1)), .val (.int ((g ((nat i1))) &&& (255 : Int32))), .val (.int (f1_22_l5 i1 i2 g)), .val (.int ((g ((nat (i1 + (1 : Int32))))) &&& (255 : Int32))), .val (.int ((g ((nat (i1 + (2 : Int32))))) &&& (255 : Int32))), .val (.int ((g ((nat (i1 + (3 : Int32))))) &&& (255 : Int32))), .val (.int (f1_149_s0a i1 i2 g)), .val (.int (f1_186_l10a i1 i2 g)), .val (.int (f1_186_l11 i1 i2 g)), .val (.int (f1_294_s0a i1 i2 g)), .unset] [])) _
              refine XS.iconst X0.here hx rfl (hb hby d1_339) ?_
              show Steps p.tables e below (s₁.setTop (mkF m 340 #[.val (.ref o0), .val (.int i1), .val (.int i2), .val (.int (i2 - i1)), .val (.int ((g ((nat i1))) &&& (255 : Int32))), .val (.int (f1_22_l5 i1 i2 g)), .val (.int ((g ((nat (i1 + (1 : Int32))))) &&& (255 : Int32))), .val (.int ((g ((nat (i1 + (2 : Int32))))) &&& (255 : Int32))), .val (.int ((g ((nat (i1 + (3 : Int32))))) &&& (255 : Int32))), .val (.int (f1_149_s0a i1 i2 g)), .val (.int (f1_186_l10a i1 i2 g)), .val (.int (f1_186_l11 i1 i2 g)), .val (.int (f1_294_s0a i1 i2 g)), .unset] [(.int (0 : Int32))])) _
              rw [show (f1_313_s0a i1 i2 g) = (0 : Int32) from (if_pos hc313)] at k
              exact k
            · refine XS.ifNo X0.here hx rfl (hb hby d1_313) rfl ((if0 _ _).trans (feq hc313).1) ?_
              show Steps p.tables e below (s₁.setTop (mkF m 316 #[.val (.ref o0), .val (.int i1), .val (.int i2), .val (.int (i2 - i1)), .val (.int ((g ((nat i1))) &&& (255 : Int32))), .val (.int (f1_22_l5 i1 i2 g)), .val (.int ((g ((nat (i1 + (1 : Int32))))) &&& (255 : Int32))), .val (.int ((g ((nat (i1 + (2 : Int32))))) &&& (255 : Int32))), .val (.int ((g ((nat (i1 + (3 : Int32))))) &&& (255 : Int32))), .val (.int (f1_149_s0a i1 i2 g)), .val (.int (f1_186_l10a i1 i2 g)), .val (.int (f1_186_l11 i1 i2 g)), .val (.int (f1_294_s0a i1 i2 g)), .unset] [])) _
              refine XS.iload X0.here hx rfl (hb hby d1_316) rfl ?_
              show Steps p.tables e below (s₁.setTop (mkF m 318 #[.val (.ref o0), .val (.int i1), .val (.int i2), .val (.int (i2 - i1)), .val (.int ((g ((nat i1))) &&& (255 : Int32))), .val (.int (f1_22_l5 i1 i2 g)), .val (.int ((g ((nat (i1 + (1 : Int32))))) &&& (255 : Int32))), .val (.int ((g ((nat (i1 + (2 : Int32))))) &&& (255 : Int32))), .val (.int ((g ((nat (i1 + (3 : Int32))))) &&& (255 : Int32))), .val (.int (f1_149_s0a i1 i2 g)), .val (.int (f1_186_l10a i1 i2 g)), .val (.int (f1_186_l11 i1 i2 g)), .val (.int (f1_294_s0a i1 i2 g)), .unset] [(.int (f1_186_l10a i1 i2 g))])) _
              refine XS.iload X0.here hx rfl (hb hby d1_318) rfl ?_
              show Steps p.tables e below (s₁.setTop (mkF m 320 #[.val (.ref o0), .val (.int i1), .val (.int i2), .val (.int (i2 - i1)), .val (.int ((g ((nat i1))) &&& (255 : Int32))), .val (.int (f1_22_l5 i1 i2 g)), .val (.int ((g ((nat (i1 + (1 : Int32))))) &&& (255 : Int32))), .val (.int ((g ((nat (i1 + (2 : Int32))))) &&& (255 : Int32))), .val (.int ((g ((nat (i1 + (3 : Int32))))) &&& (255 : Int32))), .val (.int (f1_149_s0a i1 i2 g)), .val (.int (f1_186_l10a i1 i2 g)), .val (.int (f1_186_l11 i1 i2 g)), .val (.int (f1_294_s0a i1 i2 g)), .unset] [(.int (f1_186_l11 i1 i2 g)), (.int (f1_186_l10a i1 i2 g))])) _
              by_cases hc320 : (f1_186_l10a i1 i2 g) < (f1_186_l11 i1 i2 g)
              · refine XS.icmpYes X0.here hx rfl (pc0 := 320) (pc' := 339) rfl (hb hby d1_320) rfl (tlt hc320).1 (by decide) (by decide) ?_
                show Steps p.tables e below (s₁.setTop (mkF m 339 #[.val (.ref o0), .val (.int i1), .val (.int i2), .val (.int (i2 - i1)), .val (.int ((g ((nat i1))) &&& (255 : Int32))), .val (.int (f1_22_l5 i1 i2 g)), .val (.int ((g ((nat (i1 + (1 : Int32))))) &&& (255 : Int32))), .val (.int ((g ((nat (i1 + (2 : Int32))))) &&& (255 : Int32))), .val (.int ((g ((nat (i1 + (3 : Int32))))) &&& (255 : Int32))), .val (.int (f1_149_s0a i1 i2 g)), .val (.int (f1_186_l10a i1 i2 g)), .val (.int (f1_186_l11 i1 i2 g)), .val (.int (f1_294_s0a i1 i2 g)), .unset] [])) _
                refine XS.iconst X0.here hx rfl (hb hby d1_339) ?_
                show Steps p.tables e below (s₁.setTop (mkF m 340 #[.val (.ref o0), .val (.int i1), .val (.int i2), .val (.int (i2 - i1)), .val (.int ((g ((nat i1))) &&& (255 : Int32))), .val (.int (f1_22_l5 i1 i2 g)), .val (.int ((g ((nat (i1 + (1 : Int32))))) &&& (255 : Int32))), .val (.int ((g ((nat (i1 + (2 : Int32))))) &&& (255 : Int32))), .val (.int ((g ((nat (i1 + (3 : Int32))))) &&& (255 : Int32))), .val (.int (f1_149_s0a i1 i2 g)), .val (.int (f1_186_l10a i1 i2 g)), .val (.int (f1_186_l11 i1 i2 g)), .val (.int (f1_294_s0a i1 i2 g)), .unset] [(.int (0 : Int32))])) _
                rw [show (f1_313_s0a i1 i2 g) = (0 : Int32) from ((if_neg hc313).trans (if_pos hc320))] at k
                exact k
              · refine XS.icmpNo X0.here hx rfl (hb hby d1_320) rfl (flt hc320).1 ?_
                show Steps p.tables e below (s₁.setTop (mkF m 323 #[.val (.ref o0), .val (.int i1), .val (.int i2), .val (.int (i2 - i1)), .val (.int ((g ((nat i1))) &&& (255 : Int32))), .val (.int (f1_22_l5 i1 i2 g)), .val (.int ((g ((nat (i1 + (1 : Int32))))) &&& (255 : Int32))), .val (.int ((g ((nat (i1 + (2 : Int32))))) &&& (255 : Int32))), .val (.int ((g ((nat (i1 + (3 : Int32))))) &&& (255 : Int32))), .val (.int (f1_149_s0a i1 i2 g)), .val (.int (f1_186_l10a i1 i2 g)), .val (.int (f1_186_l11 i1 i2 g)), .val (.int (f1_294_s0a i1 i2 g)), .unset] [])) _
                refine XS.iload X0.here hx rfl (hb hby d1_323) rfl ?_
                show Steps p.tables e below (s₁.setTop (mkF m 325 #[.val (.ref o0), .val (.int i1), .val (.int i2), .val (.int (i2 - i1)), .val (.int ((g ((nat i1))) &&& (255 : Int32))), .val (.int (f1_22_l5 i1 i2 g)), .val (.int ((g ((nat (i1 + (1 : Int32))))) &&& (255 : Int32))), .val (.int ((g ((nat (i1 + (2 : Int32))))) &&& (255 : Int32))), .val (.int ((g ((nat (i1 + (3 : Int32))))) &&& (255 : Int32))), .val (.int (f1_149_s0a i1 i2 g)), .val (.int (f1_186_l10a i1 i2 g)), .val (.int (f1_186_l11 i1 i2 g)), .val (.int (f1_294_s0a i1 i2 g)), .unset] [(.int (f1_186_l10a i1 i2 g))])) _
                refine X0.ldcInt hx hown (mvT hZ (hw _ (List.mem_of_getElem? (i := 10) rfl))) (g := (mkF m 325 #[.val (.ref o0), .val (.int i1), .val (.int i2), .val (.int (i2 - i1)), .val (.int ((g ((nat i1))) &&& (255 : Int32))), .val (.int (f1_22_l5 i1 i2 g)), .val (.int ((g ((nat (i1 + (1 : Int32))))) &&& (255 : Int32))), .val (.int ((g ((nat (i1 + (2 : Int32))))) &&& (255 : Int32))), .val (.int ((g ((nat (i1 + (3 : Int32))))) &&& (255 : Int32))), .val (.int (f1_149_s0a i1 i2 g)), .val (.int (f1_186_l10a i1 i2 g)), .val (.int (f1_186_l11 i1 i2 g)), .val (.int (f1_294_s0a i1 i2 g)), .unset] [(.int (f1_186_l10a i1 i2 g))])) rfl (hb hby d1_325) _ ?_
                show Steps p.tables e below (s₁.setTop (mkF m 327 #[.val (.ref o0), .val (.int i1), .val (.int i2), .val (.int (i2 - i1)), .val (.int ((g ((nat i1))) &&& (255 : Int32))), .val (.int (f1_22_l5 i1 i2 g)), .val (.int ((g ((nat (i1 + (1 : Int32))))) &&& (255 : Int32))), .val (.int ((g ((nat (i1 + (2 : Int32))))) &&& (255 : Int32))), .val (.int ((g ((nat (i1 + (3 : Int32))))) &&& (255 : Int32))), .val (.int (f1_149_s0a i1 i2 g)), .val (.int (f1_186_l10a i1 i2 g)), .val (.int (f1_186_l11 i1 i2 g)), .val (.int (f1_294_s0a i1 i2 g)), .unset] [(.int (1114111 : Int32)), (.int (f1_186_l10a i1 i2 g))])) _
                by_cases hc327 : (1114111 : Int32) < (f1_186_l10a i1 i2 g)
                · refine XS.icmpYes X0.here hx rfl (pc0 := 327) (pc' := 339) rfl (hb hby d1_327) rfl (tlt hc327).2.2.1 (by decide) (by decide) ?_
                  show Steps p.tables e below (s₁.setTop (mkF m 339 #[.val (.ref o0), .val (.int i1), .val (.int i2), .val (.int (i2 - i1)), .val (.int ((g ((nat i1))) &&& (255 : Int32))), .val (.int (f1_22_l5 i1 i2 g)), .val (.int ((g ((nat (i1 + (1 : Int32))))) &&& (255 : Int32))), .val (.int ((g ((nat (i1 + (2 : Int32))))) &&& (255 : Int32))), .val (.int ((g ((nat (i1 + (3 : Int32))))) &&& (255 : Int32))), .val (.int (f1_149_s0a i1 i2 g)), .val (.int (f1_186_l10a i1 i2 g)), .val (.int (f1_186_l11 i1 i2 g)), .val (.int (f1_294_s0a i1 i2 g)), .unset] [])) _
                  refine XS.iconst X0.here hx rfl (hb hby d1_339) ?_
                  show Steps p.tables e below (s₁.setTop (mkF m 340 #[.val (.ref o0), .val (.int i1), .val (.int i2), .val (.int (i2 - i1)), .val (.int ((g ((nat i1))) &&& (255 : Int32))), .val (.int (f1_22_l5 i1 i2 g)), .val (.int ((g ((nat (i1 + (1 : Int32))))) &&& (255 : Int32))), .val (.int ((g ((nat (i1 + (2 : Int32))))) &&& (255 : Int32))), .val (.int ((g ((nat (i1 + (3 : Int32))))) &&& (255 : Int32))), .val (.int (f1_149_s0a i1 i2 g)), .val (.int (f1_186_l10a i1 i2 g)), .val (.int (f1_186_l11 i1 i2 g)), .val (.int (f1_294_s0a i1 i2 g)), .unset] [(.int (0 : Int32))])) _
                  rw [show (f1_313_s0a i1 i2 g) = (0 : Int32) from ((if_neg hc313).trans ((if_neg hc320).trans (if_pos hc327)))] at k
                  exact k
                · refine XS.icmpNo X0.here hx rfl (hb hby d1_327) rfl (flt hc327).2.2.1 ?_
                  show Steps p.tables e below (s₁.setTop (mkF m 330 #[.val (.ref o0), .val (.int i1), .val (.int i2), .val (.int (i2 - i1)), .val (.int ((g ((nat i1))) &&& (255 : Int32))), .val (.int (f1_22_l5 i1 i2 g)), .val (.int ((g ((nat (i1 + (1 : Int32))))) &&& (255 : Int32))), .val (.int ((g ((nat (i1 + (2 : Int32))))) &&& (255 : Int32))), .val (.int ((g ((nat (i1 + (3 : Int32))))) &&& (255 : Int32))), .val (.int (f1_149_s0a i1 i2 g)), .val (.int (f1_186_l10a i1 i2 g)), .val (.int (f1_186_l11 i1 i2 g)), .val (.int (f1_294_s0a i1 i2 g)), .unset] [])) _
                  refine XS.iload X0.here hx rfl (hb hby d1_330) rfl ?_
                  show Steps p.tables e below (s₁.setTop (mkF m 332 #[.val (.ref o0), .val (.int i1), .val (.int i2), .val (.int (i2 - i1)), .val (.int ((g ((nat i1))) &&& (255 : Int32))), .val (.int (f1_22_l5 i1 i2 g)), .val (.int ((g ((nat (i1 + (1 : Int32))))) &&& (255 : Int32))), .val (.int ((g ((nat (i1 + (2 : Int32))))) &&& (255 : Int32))), .val (.int ((g ((nat (i1 + (3 : Int32))))) &&& (255 : Int32))), .val (.int (f1_149_s0a i1 i2 g)), .val (.int (f1_186_l10a i1 i2 g)), .val (.int (f1_186_l11 i1 i2 g)), .val (.int (f1_294_s0a i1 i2 g)), .unset] [(.int (f1_294_s0a i1 i2 g))])) _
                  by_cases hc332 : (f1_294_s0a i1 i2 g) = (0 : Int32)
                  · refine XS.ifNo X0.here hx rfl (hb hby d1_332) rfl ((if0 _ _).trans (teq hc332).2) ?_
                    show Steps p.tables e below (s₁.setTop (mkF m 335 #[.val (.ref o0), .val (.int i1), .val (.int i2), .val (.int (i2 - i1)), .val (.int ((g ((nat i1))) &&& (255 : Int32))), .val (.int (f1_22_l5 i1 i2 g)), .val (.int ((g ((nat (i1 + (1 : Int32))))) &&& (255 : Int32))), .val (.int ((g ((nat (i1 + (2 : Int32))))) &&& (255 : Int32))), .val (.int ((g ((nat (i1 + (3 : Int32))))) &&& (255 : Int32))), .val (.int (f1_149_s0a i1 i2 g)), .val (.int (f1_186_l10a i1 i2 g)), .val (.int (f1_186_l11 i1 i2 g)), .val (.int (f1_294_s0a i1 i2 g)), .unset] [])) _
                    refine XS.iconst X0.here hx rfl (hb hby d1_335) ?_
                    show Steps p.tables e below (s₁.setTop (mkF m 336 #[.val (.ref o0), .val (.int i1), .val (.int i2), .val (.int (i2 - i1)), .val (.int ((g ((nat i1))) &&& (255 : Int32))), .val (.int (f1_22_l5 i1 i2 g)), .val (.int ((g ((nat (i1 + (1 : Int32))))) &&& (255 : Int32))), .val (.int ((g ((nat (i1 + (2 : Int32))))) &&& (255 : Int32))), .val (.int ((g ((nat (i1 + (3 : Int32))))) &&& (255 : Int32))), .val (.int (f1_149_s0a i1 i2 g)), .val (.int (f1_186_l10a i1 i2 g)), .val (.int (f1_186_l11 i1 i2 g)), .val (.int (f1_294_s0a i1 i2 g)), .unset] [(.int (1 : Int32))])) _
                    refine XS.goto X0.here hx rfl (pc0 := 336) (pc' := 340) rfl (hb hby d1_336) (by decide) (by decide) ?_
                    show Steps p.tables e below (s₁.setTop (mkF m 340 #[.val (.ref o0), .val (.int i1), .val (.int i2), .val (.int (i2 - i1)), .val (.int ((g ((nat i1))) &&& (255 : Int32))), .val (.int (f1_22_l5 i1 i2 g)), .val (.int ((g ((nat (i1 + (1 : Int32))))) &&& (255 : Int32))), .val (.int ((g ((nat (i1 + (2 : Int32))))) &&& (255 : Int32))), .val (.int ((g ((nat (i1 + (3 : Int32))))) &&& (255 : Int32))), .val (.int (f1_149_s0a i1 i2 g)), .val (.int (f1_186_l10a i1 i2 g)), .val (.int (f1_186_l11 i1 i2 g)), .val (.int (f1_294_s0a i1 i2 g)), .unset] [(.int (1 : Int32))])) _
                    rw [show (f1_313_s0a i1 i2 g) = (1 : Int32) from ((if_neg hc313).trans ((if_neg hc320).trans ((if_neg hc327).trans (if_pos hc332))))] at k
                    exact k
                  · refine XS.ifYes X0.here hx rfl (pc0 := 332) (pc' := 339) rfl (hb hby d1_332) rfl ((if0 _ _).trans (feq hc332).2) (by decide) (by decide) ?_
                    show Steps p.tables e below (s₁.setTop (mkF m 339 #[.val (.ref o0), .val (.int i1), .val (.int i2), .val (.int (i2 - i1)), .val (.int ((g ((nat i1))) &&& (255 : Int32))), .val (.int (f1_22_l5 i1 i2 g)), .val (.int ((g ((nat (i1 + (1 : Int32))))) &&& (255 : Int32))), .val (.int ((g ((nat (i1 + (2 : Int32))))) &&& (255 : Int32))), .val (.int ((g ((nat (i1 + (3 : Int32))))) &&& (255 : Int32))), .val (.int (f1_149_s0a i1 i2 g)), .val (.int (f1_186_l10a i1 i2 g)), .val (.int (f1_186_l11 i1 i2 g)), .val (.int (f1_294_s0a i1 i2 g)), .unset] [])) _
                    refine XS.iconst X0.here hx rfl (hb hby d1_339) ?_
                    show Steps p.tables e below (s₁.setTop (mkF m 340 #[.val (.ref o0), .val (.int i1), .val (.int i2), .val (.int (i2 - i1)), .val (.int ((g ((nat i1))) &&& (255 : Int32))), .val (.int (f1_22_l5 i1 i2 g)), .val (.int ((g ((nat (i1 + (1 : Int32))))) &&& (255 : Int32))), .val (.int ((g ((nat (i1 + (2 : Int32))))) &&& (255 : Int32))), .val (.int ((g ((nat (i1 + (3 : Int32))))) &&& (255 : Int32))), .val (.int (f1_149_s0a i1 i2 g)), .val (.int (f1_186_l10a i1 i2 g)), .val (.int (f1_186_l11 i1 i2 g)), .val (.int (f1_294_s0a i1 i2 g)), .unset] [(.int (0 : Int32))])) _
                    rw [show (f1_313_s0a i1 i2 g) = (0 : Int32) from ((if_neg hc313).trans ((if_neg hc320).trans ((if_neg hc327).trans (if_neg hc332))))] at k
                    exact k
          refine Outs.of (U' := s₁.setTop (mkF m 353 #[.val (.ref o0), .val (.int i1), .val (.int i2), .val (.int (i2 - i1)), .val (.int ((g ((nat i1))) &&& (255 : Int32))), .val (.int (f1_22_l5 i1 i2 g)), .val (.int ((g ((nat (i1 + (1 : Int32))))) &&& (255 : Int32))), .val (.int ((g ((nat (i1 + (2 : Int32))))) &&& (255 : Int32))), .val (.int ((g ((nat (i1 + (3 : Int32))))) &&& (255 : Int32))), .val (.int (f1_149_s0a i1 i2 g)), .val (.int (f1_186_l10a i1 i2 g)), .val (.int (f1_186_l11 i1 i2 g)), .val (.int (f1_294_s0a i1 i2 g)), .val (.int (f1_313_s0a i1 i2 g))] [(.int (f1_344_s0a i1 i2 g))])) (fun t k => ?_) ?_
          · refine XS.istore X0.here hx rfl (hb hby d1_340) rfl (l' := #[.val (.ref o0), .val (.int i1), .val (.int i2), .val (.int (i2 - i1)), .val (.int ((g ((nat i1))) &&& (255 : Int32))), .val (.int (f1_22_l5 i1 i2 g)), .val (.int ((g ((nat (i1 + (1 : Int32))))) &&& (255 : Int32))), .val (.int ((g ((nat (i1 + (2 : Int32))))) &&& (255 : Int32))), .val (.int ((g ((nat (i1 + (3 : Int32))))) &&& (255 : Int32))), .val (.int (f1_149_s0a i1 i2 g)), .val (.int (f1_186_l10a i1 i2 g)), .val (.int (f1_186_l11 i1 i2 g)), .val (.int (f1_294_s0a i1 i2 g)), .val (.int (f1_313_s0a i1 i2 g))]) rfl ?_
            show Steps p.tables e below (s₁.setTop (mkF m 342 #[.val (.ref o0), .val (.int i1), .val (.int i2), .val (.int (i2 - i1)), .val (.int ((g ((nat i1))) &&& (255 : Int32))), .val (.int (f1_22_l5 i1 i2 g)), .val (.int ((g ((nat (i1 + (1 : Int32))))) &&& (255 : Int32))), .val (.int ((g ((nat (i1 + (2 : Int32))))) &&& (255 : Int32))), .val (.int ((g ((nat (i1 + (3 : Int32))))) &&& (255 : Int32))), .val (.int (f1_149_s0a i1 i2 g)), .val (.int (f1_186_l10a i1 i2 g)), .val (.int (f1_186_l11 i1 i2 g)), .val (.int (f1_294_s0a i1 i2 g)), .val (.int (f1_313_s0a i1 i2 g))] [])) _
            refine XS.iload X0.here hx rfl (hb hby d1_342) rfl ?_
            show Steps p.tables e below (s₁.setTop (mkF m 344 #[.val (.ref o0), .val (.int i1), .val (.int i2), .val (.int (i2 - i1)), .val (.int ((g ((nat i1))) &&& (255 : Int32))), .val (.int (f1_22_l5 i1 i2 g)), .val (.int ((g ((nat (i1 + (1 : Int32))))) &&& (255 : Int32))), .val (.int ((g ((nat (i1 + (2 : Int32))))) &&& (255 : Int32))), .val (.int ((g ((nat (i1 + (3 : Int32))))) &&& (255 : Int32))), .val (.int (f1_149_s0a i1 i2 g)), .val (.int (f1_186_l10a i1 i2 g)), .val (.int (f1_186_l11 i1 i2 g)), .val (.int (f1_294_s0a i1 i2 g)), .val (.int (f1_313_s0a i1 i2 g))] [(.int (f1_313_s0a i1 i2 g))])) _
            by_cases hc344 : (f1_313_s0a i1 i2 g) = (0 : Int32)
            · refine XS.ifYes X0.here hx rfl (pc0 := 344) (pc' := 352) rfl (hb hby d1_344) rfl ((if0 _ _).trans (teq hc344).1) (by decide) (by decide) ?_
              show Steps p.tables e below (s₁.setTop (mkF m 352 #[.val (.ref o0), .val (.int i1), .val (.int i2), .val (.int (i2 - i1)), .val (.int ((g ((nat i1))) &&& (255 : Int32))), .val (.int (f1_22_l5 i1 i2 g)), .val (.int ((g ((nat (i1 + (1 : Int32))))) &&& (255 : Int32))), .val (.int ((g ((nat (i1 + (2 : Int32))))) &&& (255 : Int32))), .val (.int ((g ((nat (i1 + (3 : Int32))))) &&& (255 : Int32))), .val (.int (f1_149_s0a i1 i2 g)), .val (.int (f1_186_l10a i1 i2 g)), .val (.int (f1_186_l11 i1 i2 g)), .val (.int (f1_294_s0a i1 i2 g)), .val (.int (f1_313_s0a i1 i2 g))] [])) _
              refine XS.iconst X0.here hx rfl (hb hby d1_352) ?_
              show Steps p.tables e below (s₁.setTop (mkF m 353 #[.val (.ref o0), .val (.int i1), .val (.int i2), .val (.int (i2 - i1)), .val (.int ((g ((nat i1))) &&& (255 : Int32))), .val (.int (f1_22_l5 i1 i2 g)), .val (.int ((g ((nat (i1 + (1 : Int32))))) &&& (255 : Int32))), .val (.int ((g ((nat (i1 + (2 : Int32))))) &&& (255 : Int32))), .val (.int ((g ((nat (i1 + (3 : Int32))))) &&& (255 : Int32))), .val (.int (f1_149_s0a i1 i2 g)), .val (.int (f1_186_l10a i1 i2 g)), .val (.int (f1_186_l11 i1 i2 g)), .val (.int (f1_294_s0a i1 i2 g)), .val (.int (f1_313_s0a i1 i2 g))] [(.int (0 : Int32))])) _
              rw [show (f1_344_s0a i1 i2 g) = (0 : Int32) from (if_pos hc344)] at k
              exact k
            · refine XS.ifNo X0.here hx rfl (hb hby d1_344) rfl ((if0 _ _).trans (feq hc344).1) ?_
              show Steps p.tables e below (s₁.setTop (mkF m 347 #[.val (.ref o0), .val (.int i1), .val (.int i2), .val (.int (i2 - i1)), .val (.int ((g ((nat i1))) &&& (255 : Int32))), .val (.int (f1_22_l5 i1 i2 g)), .val (.int ((g ((nat (i1 + (1 : Int32))))) &&& (255 : Int32))), .val (.int ((g ((nat (i1 + (2 : Int32))))) &&& (255 : Int32))), .val (.int ((g ((nat (i1 + (3 : Int32))))) &&& (255 : Int32))), .val (.int (f1_149_s0a i1 i2 g)), .val (.int (f1_186_l10a i1 i2 g)), .val (.int (f1_186_l11 i1 i2 g)), .val (.int (f1_294_s0a i1 i2 g)), .val (.int (f1_313_s0a i1 i2 g))] [])) _
              refine XS.iload X0.here hx rfl (hb hby d1_347) rfl ?_
              show Steps p.tables e below (s₁.setTop (mkF m 349 #[.val (.ref o0), .val (.int i1), .val (.int i2), .val (.int (i2 - i1)), .val (.int ((g ((nat i1))) &&& (255 : Int32))), .val (.int (f1_22_l5 i1 i2 g)), .val (.int ((g ((nat (i1 + (1 : Int32))))) &&& (255 : Int32))), .val (.int ((g ((nat (i1 + (2 : Int32))))) &&& (255 : Int32))), .val (.int ((g ((nat (i1 + (3 : Int32))))) &&& (255 : Int32))), .val (.int (f1_149_s0a i1 i2 g)), .val (.int (f1_186_l10a i1 i2 g)), .val (.int (f1_186_l11 i1 i2 g)), .val (.int (f1_294_s0a i1 i2 g)), .val (.int (f1_313_s0a i1 i2 g))] [(.int (f1_22_l5 i1 i2 g))])) _
              refine XS.goto X0.here hx rfl (pc0 := 349) (pc' := 353) rfl (hb hby d1_349) (by decide) (by decide) ?_
              show Steps p.tables e below (s₁.setTop (mkF m 353 #[.val (.ref o0), .val (.int i1), .val (.int i2), .val (.int (i2 - i1)), .val (.int ((g ((nat i1))) &&& (255 : Int32))), .val (.int (f1_22_l5 i1 i2 g)), .val (.int ((g ((nat (i1 + (1 : Int32))))) &&& (255 : Int32))), .val (.int ((g ((nat (i1 + (2 : Int32))))) &&& (255 : Int32))), .val (.int ((g ((nat (i1 + (3 : Int32))))) &&& (255 : Int32))), .val (.int (f1_149_s0a i1 i2 g)), .val (.int (f1_186_l10a i1 i2 g)), .val (.int (f1_186_l11 i1 i2 g)), .val (.int (f1_294_s0a i1 i2 g)), .val (.int (f1_313_s0a i1 i2 g))] [(.int (f1_22_l5 i1 i2 g))])) _
              rw [show (f1_344_s0a i1 i2 g) = (f1_22_l5 i1 i2 g) from (if_neg hc344)] at k
              exact k
          exact Outs.retI X0 hx hret (hb hby d1_353) hlk (by decide) (by decide) e0 ⟨congrArg (fun z_ => some (Value.int z_)) (show (F_f1 i1 i2 g) = (f1_344_s0a i1 i2 g) from ((if_neg hc72).trans ((if_neg hc78).trans ((if_neg hc97).trans (if_pos hc120))))).symm, N0, rfl⟩
        · refine Outs.of (U' := s₁.setTop (mkF m 135 #[.val (.ref o0), .val (.int i1), .val (.int i2), .val (.int (i2 - i1)), .val (.int ((g ((nat i1))) &&& (255 : Int32))), .val (.int (f1_22_l5 i1 i2 g)), .val (.int ((g ((nat (i1 + (1 : Int32))))) &&& (255 : Int32))), .val (.int ((g ((nat (i1 + (2 : Int32))))) &&& (255 : Int32))), .unset, .unset, .unset, .unset, .unset, .unset] [])) (fun t k => ?_) ?_
          · refine XS.icmpYes X0.here hx rfl (pc0 := 120) (pc' := 135) rfl (hb hby d1_120) rfl (feq hc120).2 (by decide) (by decide) ?_
            show Steps p.tables e below (s₁.setTop (mkF m 135 #[.val (.ref o0), .val (.int i1), .val (.int i2), .val (.int (i2 - i1)), .val (.int ((g ((nat i1))) &&& (255 : Int32))), .val (.int (f1_22_l5 i1 i2 g)), .val (.int ((g ((nat (i1 + (1 : Int32))))) &&& (255 : Int32))), .val (.int ((g ((nat (i1 + (2 : Int32))))) &&& (255 : Int32))), .unset, .unset, .unset, .unset, .unset, .unset] [])) _
            exact k
          refine Outs.of (U' := s₁.setTop (mkF m 181 #[.val (.ref o0), .val (.int i1), .val (.int i2), .val (.int (i2 - i1)), .val (.int ((g ((nat i1))) &&& (255 : Int32))), .val (.int (f1_22_l5 i1 i2 g)), .val (.int ((g ((nat (i1 + (1 : Int32))))) &&& (255 : Int32))), .val (.int ((g ((nat (i1 + (2 : Int32))))) &&& (255 : Int32))), .val (.int (128 : Int32)), .unset, .unset, .unset, .unset, .unset] [(.int (f1_149_s0b i1 i2 g))])) (fun t k => ?_) ?_
          · refine XS.sipush X0.here hx rfl (hb hby d1_135) ?_
            show Steps p.tables e below (s₁.setTop (mkF m 138 #[.val (.ref o0), .val (.int i1), .val (.int i2), .val (.int (i2 - i1)), .val (.int ((g ((nat i1))) &&& (255 : Int32))), .val (.int (f1_22_l5 i1 i2 g)), .val (.int ((g ((nat (i1 + (1 : Int32))))) &&& (255 : Int32))), .val (.int ((g ((nat (i1 + (2 : Int32))))) &&& (255 : Int32))), .unset, .unset, .unset, .unset, .unset, .unset] [(.int (128 : Int32))])) _
            refine XS.istore X0.here hx rfl (hb hby d1_138) rfl (l' := #[.val (.ref o0), .val (.int i1), .val (.int i2), .val (.int (i2 - i1)), .val (.int ((g ((nat i1))) &&& (255 : Int32))), .val (.int (f1_22_l5 i1 i2 g)), .val (.int ((g ((nat (i1 + (1 : Int32))))) &&& (255 : Int32))), .val (.int ((g ((nat (i1 + (2 : Int32))))) &&& (255 : Int32))), .val (.int (128 : Int32)), .unset, .unset, .unset, .unset, .unset]) rfl ?_
            show Steps p.tables e below (s₁.setTop (mkF m 140 #[.val (.ref o0), .val (.int i1), .val (.int i2), .val (.int (i2 - i1)), .val (.int ((g ((nat i1))) &&& (255 : Int32))), .val (.int (f1_22_l5 i1 i2 g)), .val (.int ((g ((nat (i1 + (1 : Int32))))) &&& (255 : Int32))), .val (.int ((g ((nat (i1 + (2 : Int32))))) &&& (255 : Int32))), .val (.int (128 : Int32)), .unset, .unset, .unset, .unset, .unset] [])) _
            refine XS.iload X0.here hx rfl (hb hby d1_140) rfl ?_
            show Steps p.tables e below (s₁.setTop (mkF m 142 #[.val (.ref o0), .val (.int i1), .val (.int i2), .val (.int (i2 - i1)), .val (.int ((g ((nat i1))) &&& (255 : Int32))), .val (.int (f1_22_l5 i1 i2 g)), .val (.int ((g ((nat (i1 + (1 : Int32))))) &&& (255 : Int32))), .val (.int ((g ((nat (i1 + (2 : Int32))))) &&& (255 : Int32))), .val (.int (128 : Int32)), .unset, .unset, .unset, .unset, .unset] [(.int ((g ((nat (i1 + (1 : Int32))))) &&& (255 : Int32)))])) _
            refine XS.sipush X0.here hx rfl (hb hby d1_142) ?_
            show Steps p.tables e below (s₁.setTop (mkF m 145 #[.val (.ref o0), .val (.int i1), .val (.int i2), .val (.int (i2 - i1)), .val (.int ((g ((nat i1))) &&& (255 : Int32))), .val (.int (f1_22_l5 i1 i2 g)), .val (.int ((g ((nat (i1 + (1 : Int32))))) &&& (255 : Int32))), .val (.int ((g ((nat (i1 + (2 : Int32))))) &&& (255 : Int32))), .val (.int (128 : Int32)), .unset, .unset, .unset, .unset, .unset] [(.int (192 : Int32)), (.int ((g ((nat (i1 + (1 : Int32))))) &&& (255 : Int32)))])) _
            refine XS.iand X0.here hx rfl (hb hby d1_145) rfl ?_
            show Steps p.tables e below (s₁.setTop (mkF m 146 #[.val (.ref o0), .val (.int i1), .val (.int i2), .val (.int (i2 - i1)), .val (.int ((g ((nat i1))) &&& (255 : Int32))), .val (.int (f1_22_l5 i1 i2 g)), .val (.int ((g ((nat (i1 + (1 : Int32))))) &&& (255 : Int32))), .val (.int ((g ((nat (i1 + (2 : Int32))))) &&& (255 : Int32))), .val (.int (128 : Int32)), .unset, .unset, .unset, .unset, .unset] [(.int (((g ((nat (i1 + (1 : Int32))))) &&& (255 : Int32)) &&& (192 : Int32)))])) _
            refine XS.sipush X0.here hx rfl (hb hby d1_146) ?_
            show Steps p.tables e below (s₁.setTop (mkF m 149 #[.val (.ref o0), .val (.int i1), .val (.int i2), .val (.int (i2 - i1)), .val (.int ((g ((nat i1))) &&& (255 : Int32))), .val (.int (f1_22_l5 i1 i2 g)), .val (.int ((g ((nat (i1 + (1 : Int32))))) &&& (255 : Int32))), .val (.int ((g ((nat (i1 + (2 : Int32))))) &&& (255 : Int32))), .val (.int (128 : Int32)), .unset, .unset, .unset, .unset, .unset] [(.int (128 : Int32)), (.int (((g ((nat (i1 + (1 : Int32))))) &&& (255 : Int32)) &&& (192 : Int32)))])) _
            by_cases hc149 : (((g ((nat (i1 + (1 : Int32))))) &&& (255 : Int32)) &&& (192 : Int32)) = (128 : Int32)
            · refine XS.icmpNo X0.here hx rfl (hb hby d1_149) rfl (teq hc149).2 ?_
              show Steps p.tables e below (s₁.setTop (mkF m 152 #[.val (.ref o0), .val (.int i1), .val (.int i2), .val (.int (i2 - i1)), .val (.int ((g ((nat i1))) &&& (255 : Int32))), .val (.int (f1_22_l5 i1 i2 g)), .val (.int ((g ((nat (i1 + (1 : Int32))))) &&& (255 : Int32))), .val (.int ((g ((nat (i1 + (2 : Int32))))) &&& (255 : Int32))), .val (.int (128 : Int32)), .unset, .unset, .unset, .unset, .unset] [])) _
              refine XS.iload X0.here hx rfl (hb hby d1_152) rfl ?_
              show Steps p.tables e below (s₁.setTop (mkF m 154 #[.val (.ref o0), .val (.int i1), .val (.int i2), .val (.int (i2 - i1)), .val (.int ((g ((nat i1))) &&& (255 : Int32))), .val (.int (f1_22_l5 i1 i2 g)), .val (.int ((g ((nat (i1 + (1 : Int32))))) &&& (255 : Int32))), .val (.int ((g ((nat (i1 + (2 : Int32))))) &&& (255 : Int32))), .val (.int (128 : Int32)), .unset, .unset, .unset, .unset, .unset] [(.int ((g ((nat (i1 + (2 : Int32))))) &&& (255 : Int32)))])) _
              refine XS.sipush X0.here hx rfl (hb hby d1_154) ?_
              show Steps p.tables e below (s₁.setTop (mkF m 157 #[.val (.ref o0), .val (.int i1), .val (.int i2), .val (.int (i2 - i1)), .val (.int ((g ((nat i1))) &&& (255 : Int32))), .val (.int (f1_22_l5 i1 i2 g)), .val (.int ((g ((nat (i1 + (1 : Int32))))) &&& (255 : Int32))), .val (.int ((g ((nat (i1 + (2 : Int32))))) &&& (255 : Int32))), .val (.int (128 : Int32)), .unset, .unset, .unset, .unset, .unset] [(.int (192 : Int32)), (.int ((g ((nat (i1 + (2 : Int32))))) &&& (255 : Int32)))])) _
              refine XS.iand X0.here hx rfl (hb hby d1_157) rfl ?_
              show Steps p.tables e below (s₁.setTop (mkF m 158 #[.val (.ref o0), .val (.int i1), .val (.int i2), .val (.int (i2 - i1)), .val (.int ((g ((nat i1))) &&& (255 : Int32))), .val (.int (f1_22_l5 i1 i2 g)), .val (.int ((g ((nat (i1 + (1 : Int32))))) &&& (255 : Int32))), .val (.int ((g ((nat (i1 + (2 : Int32))))) &&& (255 : Int32))), .val (.int (128 : Int32)), .unset, .unset, .unset, .unset, .unset] [(.int (((g ((nat (i1 + (2 : Int32))))) &&& (255 : Int32)) &&& (192 : Int32)))])) _
              refine XS.sipush X0.here hx rfl (hb hby d1_158) ?_
              show Steps p.tables e below (s₁.setTop (mkF m 161 #[.val (.ref o0), .val (.int i1), .val (.int i2), .val (.int (i2 - i1)), .val (.int ((g ((nat i1))) &&& (255 : Int32))), .val (.int (f1_22_l5 i1 i2 g)), .val (.int ((g ((nat (i1 + (1 : Int32))))) &&& (255 : Int32))), .val (.int ((g ((nat (i1 + (2 : Int32))))) &&& (255 : Int32))), .val (.int (128 : Int32)), .unset, .unset, .unset, .unset, .unset] [(.int (128 : Int32)), (.int (((g ((nat (i1 + (2 : Int32))))) &&& (255 : Int32)) &&& (192 : Int32)))])) _
              by_cases hc161 : (((g ((nat (i1 + (2 : Int32))))) &&& (255 : Int32)) &&& (192 : Int32)) = (128 : Int32)
              · refine XS.icmpNo X0.here hx rfl (hb hby d1_161) rfl (teq hc161).2 ?_
                show Steps p.tables e below (s₁.setTop (mkF m 164 #[.val (.ref o0), .val (.int i1), .val (.int i2), .val (.int (i2 - i1)), .val (.int ((g ((nat i1))) &&& (255 : Int32))), .val (.int (f1_22_l5 i1 i2 g)), .val (.int ((g ((nat (i1 + (1 : Int32))))) &&& (255 : Int32))), .val (.int ((g ((nat (i1 + (2 : Int32))))) &&& (255 : Int32))), .val (.int (128 : Int32)), .unset, .unset, .unset, .unset, .unset] [])) _
                refine XS.iload X0.here hx rfl (hb hby d1_164) rfl ?_
                show Steps p.tables e below (s₁.setTop (mkF m 166 #[.val (.ref o0), .val (.int i1), .val (.int i2), .val (.int (i2 - i1)), .val (.int ((g ((nat i1))) &&& (255 : Int32))), .val (.int (f1_22_l5 i1 i2 g)), .val (.int ((g ((nat (i1 + (1 : Int32))))) &&& (255 : Int32))), .val (.int ((g ((nat (i1 + (2 : Int32))))) &&& (255 : Int32))), .val (.int (128 : Int32)), .unset, .unset, .unset, .unset, .unset] [(.int (128 : Int32))])) _
                refine XS.sipush X0.here hx rfl (hb hby d1_166) ?_
                show Steps p.tables e below (s₁.setTop (mkF m 169 #[.val (.ref o0), .val (.int i1), .val (.int i2), .val (.int (i2 - i1)), .val (.int ((g ((nat i1))) &&& (255 : Int32))), .val (.int (f1_22_l5 i1 i2 g)), .val (.int ((g ((nat (i1 + (1 : Int32))))) &&& (255 : Int32))), .val (.int ((g ((nat (i1 + (2 : Int32))))) &&& (255 : Int32))), .val (.int (128 : Int32)), .unset, .unset, .unset, .unset, .unset] [(.int (192 : Int32)), (.int (128 : Int32))])) _
                refine XS.iand X0.here hx rfl (hb hby d1_169) rfl ?_
                show Steps p.tables e below (s₁.setTop (mkF m 170 #[.val (.ref o0), .val (.int i1), .val (.int i2), .val (.int (i2 - i1)), .val (.int ((g ((nat i1))) &&& (255 : Int32))), .val (.int (f1_22_l5 i1 i2 g)), .val (.int ((g ((nat (i1 + (1 : Int32))))) &&& (255 : Int32))), .val (.int ((g ((nat (i1 + (2 : Int32))))) &&& (255 : Int32))), .val (.int (128 : Int32)), .unset, .unset, .unset, .unset, .unset] [(.int (128 : Int32))])) _
                refine XS.sipush X0.here hx rfl (hb hby d1_170) ?_
                show Steps p.tables e below (s₁.setTop (mkF m 173 #[.val (.ref o0), .val (.int i1), .val (.int i2), .val (.int (i2 - i1)), .val (.int ((g ((nat i1))) &&& (255 : Int32))), .val (.int (f1_22_l5 i1 i2 g)), .val (.int ((g ((nat (i1 + (1 : Int32))))) &&& (255 : Int32))), .val (.int ((g ((nat (i1 + (2 : Int32))))) &&& (255 : Int32))), .val (.int (128 : Int32)), .unset, .unset, .unset, .unset, .unset] [(.int (128 : Int32)), (.int (128 : Int32))])) _
                refine XS.icmpNo X0.here hx rfl (hb hby d1_173) rfl (teq (by decide)).2 ?_
                show Steps p.tables e below (s₁.setTop (mkF m 176 #[.val (.ref o0), .val (.int i1), .val (.int i2), .val (.int (i2 - i1)), .val (.int ((g ((nat i1))) &&& (255 : Int32))), .val (.int (f1_22_l5 i1 i2 g)), .val (.int ((g ((nat (i1 + (1 : Int32))))) &&& (255 : Int32))), .val (.int ((g ((nat (i1 + (2 : Int32))))) &&& (255 : Int32))), .val (.int (128 : Int32)), .unset, .unset, .unset, .unset, .unset] [])) _
                refine XS.iconst X0.here hx rfl (hb hby d1_176) ?_
                show Steps p.tables e below (s₁.setTop (mkF m 177 #[.val (.ref o0), .val (.int i1), .val (.int i2), .val (.int (i2 - i1)), .val (.int ((g ((nat i1))) &&& (255 : Int32))), .val (.int (f1_22_l5 i1 i2 g)), .val (.int ((g ((nat (i1 + (1 : Int32))))) &&& (255 : Int32))), .val (.int ((g ((nat (i1 + (2 : Int32))))) &&& (255 : Int32))), .val (.int (128 : Int32)), .unset, .unset, .unset, .unset, .unset] [(.int (1 : Int32))])) _
                refine XS.goto X0.here hx rfl (pc0 := 177) (pc' := 181) rfl (hb hby d1_177) (by decide) (by decide) ?_
                show Steps p.tables e below (s₁.setTop (mkF m 181 #[.val (.ref o0), .val (.int i1), .val (.int i2), .val (.int (i2 - i1)), .val (.int ((g ((nat i1))) &&& (255 : Int32))), .val (.int (f1_22_l5 i1 i2 g)), .val (.int ((g ((nat (i1 + (1 : Int32))))) &&& (255 : Int32))), .val (.int ((g ((nat (i1 + (2 : Int32))))) &&& (255 : Int32))), .val (.int (128 : Int32)), .unset, .unset, .unset, .unset, .unset] [(.int (1 : Int32))])) _
                rw [show (f1_149_s0b i1 i2 g) = (1 : Int32) from ((if_pos hc149).trans (if_pos hc161))] at k
                exact k
              · refine XS.icmpYes X0.here hx rfl (pc0 := 161) (pc' := 180) rfl (hb hby d1_161) rfl (feq hc161).2 (by decide) (by decide) ?_
                show Steps p.tables e below (s₁.setTop (mkF m 180 #[.val (.ref o0), .val (.int i1), .val (.int i2), .val (.int (i2 - i1)), .val (.int ((g ((nat i1))) &&& (255 : Int32))), .val (.int (f1_22_l5 i1 i2 g)), .val (.int ((g ((nat (i1 + (1 : Int32))))) &&& (255 : Int32))), .val (.int ((g ((nat (i1 + (2 : Int32))))) &&& (255 : Int32))), .val (.int (128 : Int32)), .unset, .unset, .unset, .unset, .unset] [])) _
                refine XS.iconst X0.here hx rfl (hb hby d1_180) ?_
                show Steps p.tables e below (s₁.setTop (mkF m 181 #[.val (.ref o0), .val (.int i1), .val (.int i2), .val (.int (i2 - i1)), .val (.int ((g ((nat i1))) &&& (255 : Int32))), .val (.int (f1_22_l5 i1 i2 g)), .val (.int ((g ((nat (i1 + (1 : Int32))))) &&& (255 : Int32))), .val (.int ((g ((nat (i1 + (2 : Int32))))) &&& (255 : Int32))), .val (.int (128 : Int32)), .unset, .unset, .unset, .unset, .unset] [(.int (0 : Int32))])) _
                rw [show (f1_149_s0b i1 i2 g) = (0 : Int32) from ((if_pos hc149).trans (if_neg hc161))] at k
                exact k
            · refine XS.icmpYes X0.here hx rfl (pc0 := 149) (pc' := 180) rfl (hb hby d1_149) rfl (feq hc149).2 (by decide) (by decide) ?_
              show Steps p.tables e below (s₁.setTop (mkF m 180 #[.val (.ref o0), .val (.int i1), .val (.int i2), .val (.int (i2 - i1)), .val (.int ((g ((nat i1))) &&& (255 : Int32))), .val (.int (f1_22_l5 i1 i2 g)), .val (.int ((g ((nat (i1 + (1 : Int32))))) &&& (255 : Int32))), .val (.int ((g ((nat (i1 + (2 : Int32))))) &&& (255 : Int32))), .val (.int (128 : Int32)), .unset, .unset, .unset, .unset, .unset] [])) _
              refine XS.iconst X0.here hx rfl (hb hby d1_180) ?_
              show Steps p.tables e below (s₁.setTop (mkF m 181 #[.val (.ref o0), .val (.int i1), .val (.int i2), .val (.int (i2 - i1)), .val (.int ((g ((nat i1))) &&& (255 : Int32))), .val (.int (f1_22_l5 i1 i2 g)), .val (.int ((g ((nat (i1 + (1 : Int32))))) &&& (255 : Int32))), .val (.int ((g ((nat (i1 + (2 : Int32))))) &&& (255 : Int32))), .val (.int (128 : Int32)), .unset, .unset, .unset, .unset, .unset] [(.int (0 : Int32))])) _
              rw [show (f1_149_s0b i1 i2 g) = (0 : Int32) from (if_neg hc149)] at k
              exact k
          refine Outs.of (U' := s₁.setTop (mkF m 290 #[.val (.ref o0), .val (.int i1), .val (.int i2), .val (.int (i2 - i1)), .val (.int ((g ((nat i1))) &&& (255 : Int32))), .val (.int (f1_22_l5 i1 i2 g)), .val (.int ((g ((nat (i1 + (1 : Int32))))) &&& (255 : Int32))), .val (.int ((g ((nat (i1 + (2 : Int32))))) &&& (255 : Int32))), .val (.int (128 : Int32)), .val (.int (f1_149_s0b i1 i2 g)), .val (.int (f1_186_l10b i1 i2 g)), .val (.int (f1_186_l11 i1 i2 g)), .unset, .unset] [])) (fun t k => ?_) ?_
          · refine XS.istore X0.here hx rfl (hb hby d1_181) rfl (l' := #[.val (.ref o0), .val (.int i1), .val (.int i2), .val (.int (i2 - i1)), .val (.int ((g ((nat i1))) &&& (255 : Int32))), .val (.int (f1_22_l5 i1 i2 g)), .val (.int ((g ((nat (i1 + (1 : Int32))))) &&& (255 : Int32))), .val (.int ((g ((nat (i1 + (2 : Int32))))) &&& (255 : Int32))), .val (.int (128 : Int32)), .val (.int (f1_149_s0b i1 i2 g)), .unset, .unset, .unset, .unset]) rfl ?_
            show Steps p.tables e below (s₁.setTop (mkF m 183 #[.val (.ref o0), .val (.int i1), .val (.int i2), .val (.int (i2 - i1)), .val (.int ((g ((nat i1))) &&& (255 : Int32))), .val (.int (f1_22_l5 i1 i2 g)), .val (.int ((g ((nat (i1 + (1 : Int32))))) &&& (255 : Int32))), .val (.int ((g ((nat (i1 + (2 : Int32))))) &&& (255 : Int32))), .val (.int (128 : Int32)), .val (.int (f1_149_s0b i1 i2 g)), .unset, .unset, .unset, .unset] [])) _
            refine XS.iload X0.here hx rfl (hb hby d1_183) rfl ?_
            show Steps p.tables e below (s₁.setTop (mkF m 185 #[.val (.ref o0), .val (.int i1), .val (.int i2), .val (.int (i2 - i1)), .val (.int ((g ((nat i1))) &&& (255 : Int32))), .val (.int (f1_22_l5 i1 i2 g)), .val (.int ((g ((nat (i1 + (1 : Int32))))) &&& (255 : Int32))), .val (.int ((g ((nat (i1 + (2 : Int32))))) &&& (255 : Int32))), .val (.int (128 : Int32)), .val (.int (f1_149_s0b i1 i2 g)), .unset, .unset, .unset, .unset] [(.int (f1_22_l5 i1 i2 g))])) _
            refine XS.iconst X0.here hx rfl (hb hby d1_185) ?_
            show Steps p.tables e below (s₁.setTop (mkF m 186 #[.val (.ref o0), .val (.int i1), .val (.int i2), .val (.int (i2 - i1)), .val (.int ((g ((nat i1))) &&& (255 : Int32))), .val (.int (f1_22_l5 i1 i2 g)), .val (.int ((g ((nat (i1 + (1 : Int32))))) &&& (255 : Int32))), .val (.int ((g ((nat (i1 + (2 : Int32))))) &&& (255 : Int32))), .val (.int (128 : Int32)), .val (.int (f1_149_s0b i1 i2 g)), .unset, .unset, .unset, .unset] [(.int (2 : Int32)), (.int (f1_22_l5 i1 i2 g))])) _
            by_cases hc186 : (f1_22_l5 i1 i2 g) = (2 : Int32)
            · refine XS.icmpNo X0.here hx rfl (hb hby d1_186) rfl (teq hc186).2 ?_
              show Steps p.tables e below (s₁.setTop (mkF m 189 #[.val (.ref o0), .val (.int i1), .val (.int i2), .val (.int (i2 - i1)), .val (.int ((g ((nat i1))) &&& (255 : Int32))), .val (.int (f1_22_l5 i1 i2 g)), .val (.int ((g ((nat (i1 + (1 : Int32))))) &&& (255 : Int32))), .val (.int ((g ((nat (i1 + (2 : Int32))))) &&& (255 : Int32))), .val (.int (128 : Int32)), .val (.int (f1_149_s0b i1 i2 g)), .unset, .unset, .unset, .unset] [])) _
              refine XS.iload X0.here hx rfl (hb hby d1_189) rfl ?_
              show Steps p.tables e below (s₁.setTop (mkF m 191 #[.val (.ref o0), .val (.int i1), .val (.int i2), .val (.int (i2 - i1)), .val (.int ((g ((nat i1))) &&& (255 : Int32))), .val (.int (f1_22_l5 i1 i2 g)), .val (.int ((g ((nat (i1 + (1 : Int32))))) &&& (255 : Int32))), .val (.int ((g ((nat (i1 + (2 : Int32))))) &&& (255 : Int32))), .val (.int (128 : Int32)), .val (.int (f1_149_s0b i1 i2 g)), .unset, .unset, .unset, .unset] [(.int ((g ((nat i1))) &&& (255 : Int32)))])) _
              refine XS.bipush X0.here hx rfl (hb hby d1_191) ?_
              show Steps p.tables e below (s₁.setTop (mkF m 193 #[.val (.ref o0), .val (.int i1), .val (.int i2), .val (.int (i2 - i1)), .val (.int ((g ((nat i1))) &&& (255 : Int32))), .val (.int (f1_22_l5 i1 i2 g)), .val (.int ((g ((nat (i1 + (1 : Int32))))) &&& (255 : Int32))), .val (.int ((g ((nat (i1 + (2 : Int32))))) &&& (255 : Int32))), .val (.int (128 : Int32)), .val (.int (f1_149_s0b i1 i2 g)), .unset, .unset, .unset, .unset] [(.int (31 : Int32)), (.int ((g ((nat i1))) &&& (255 : Int32)))])) _
              refine XS.iand X0.here hx rfl (hb hby d1_193) rfl ?_
              show Steps p.tables e below (s₁.setTop (mkF m 194 #[.val (.ref o0), .val (.int i1), .val (.int i2), .val (.int (i2 - i1)), .val (.int ((g ((nat i1))) &&& (255 : Int32))), .val (.int (f1_22_l5 i1 i2 g)), .val (.int ((g ((nat (i1 + (1 : Int32))))) &&& (255 : Int32))), .val (.int ((g ((nat (i1 + (2 : Int32))))) &&& (255 : Int32))), .val (.int (128 : Int32)), .val (.int (f1_149_s0b i1 i2 g)), .unset, .unset, .unset, .unset] [(.int (((g ((nat i1))) &&& (255 : Int32)) &&& (31 : Int32)))])) _
              refine XS.bipush X0.here hx rfl (hb hby d1_194) ?_
              show Steps p.tables e below (s₁.setTop (mkF m 196 #[.val (.ref o0), .val (.int i1), .val (.int i2), .val (.int (i2 - i1)), .val (.int ((g ((nat i1))) &&& (255 : Int32))), .val (.int (f1_22_l5 i1 i2 g)), .val (.int ((g ((nat (i1 + (1 : Int32))))) &&& (255 : Int32))), .val (.int ((g ((nat (i1 + (2 : Int32))))) &&& (255 : Int32))), .val (.int (128 : Int32)), .val (.int (f1_149_s0b i1 i2 g)), .unset, .unset, .unset, .unset] [(.int (6 : Int32)), (.int (((g ((nat i1))) &&& (255 : Int32)) &&& (31 : Int32)))])) _
              refine XS.ishl X0.here hx rfl (hb hby d1_196) rfl ?_
              show Steps p.tables e below (s₁.setTop (mkF m 197 #[.val (.ref o0), .val (.int i1), .val (.int i2), .val (.int (i2 - i1)), .val (.int ((g ((nat i1))) &&& (255 : Int32))), .val (.int (f1_22_l5 i1 i2 g)), .val (.int ((g ((nat (i1 + (1 : Int32))))) &&& (255 : Int32))), .val (.int ((g ((nat (i1 + (2 : Int32))))) &&& (255 : Int32))), .val (.int (128 : Int32)), .val (.int (f1_149_s0b i1 i2 g)), .unset, .unset, .unset, .unset] [(.int ((((g ((nat i1))) &&& (255 : Int32)) &&& (31 : Int32)) <<< ((6 : Int32) &&& 31)))])) _
              refine XS.iload X0.here hx rfl (hb hby d1_197) rfl ?_
              show Steps p.tables e below (s₁.setTop (mkF m 199 #[.val (.ref o0), .val (.int i1), .val (.int i2), .val (.int (i2 - i1)), .val (.int ((g ((nat i1))) &&& (255 : Int32))), .val (.int (f1_22_l5 i1 i2 g)), .val (.int ((g ((nat (i1 + (1 : Int32))))) &&& (255 : Int32))), .val (.int ((g ((nat (i1 + (2 : Int32))))) &&& (255 : Int32))), .val (.int (128 : Int32)), .val (.int (f1_149_s0b i1 i2 g)), .unset, .unset, .unset, .unset] [(.int ((g ((nat (i1 + (1 : Int32))))) &&& (255 : Int32))), (.int ((((g ((nat i1))) &&& (255 : Int32)) &&& (31 : Int32)) <<< ((6 : Int32) &&& 31)))])) _
              refine XS.bipush X0.here hx rfl (hb hby d1_199) ?_
              show Steps p.tables e below (s₁.setTop (mkF m 201 #[.val (.ref o0), .val (.int i1), .val (.int i2), .val (.int (i2 - i1)), .val (.int ((g ((nat i1))) &&& (255 : Int32))), .val (.int (f1_22_l5 i1 i2 g)), .val (.int ((g ((nat (i1 + (1 : Int32))))) &&& (255 : Int32))), .val (.int ((g ((nat (i1 + (2 : Int32))))) &&& (255 : Int32))), .val (.int (128 : Int32)), .val (.int (f1_149_s0b i1 i2 g)), .unset, .unset, .unset, .unset] [(.int (63 : Int32)), (.int ((g ((nat (i1 + (1 : Int32))))) &&& (255 : Int32))), (.int ((((g ((nat i1))) &&& (255 : Int32)) &&& (31 : Int32)) <<< ((6 : Int32) &&& 31)))])) _
              refine XS.iand X0.here hx rfl (hb hby d1_201) rfl ?_
              show Steps p.tables e below (s₁.setTop (mkF m 202 #[.val (.ref o0), .val (.int i1), .val (.int i2), .val (.int (i2 - i1)), .val (.int ((g ((nat i1))) &&& (255 : Int32))), .val (.int (f1_22_l5 i1 i2 g)), .val (.int ((g ((nat (i1 + (1 : Int32))))) &&& (255 : Int32))), .val (.int ((g ((nat (i1 + (2 : Int32))))) &&& (255 : Int32))), .val (.int (128 : Int32)), .val (.int (f1_149_s0b i1 i2 g)), .unset, .unset, .unset, .unset] [(.int (((g ((nat (i1 + (1 : Int32))))) &&& (255 : Int32)) &&& (63 : Int32))), (.int ((((g ((nat i1))) &&& (255 : Int32)) &&& (31 : Int32)) <<< ((6 : Int32) &&& 31)))])) _
              refine XS.ior X0.here hx rfl (hb hby d1_202) rfl ?_
              show Steps p.tables e below (s₁.setTop (mkF m 203 #[.val (.ref o0), .val (.int i1), .val (.int i2), .val (.int (i2 - i1)), .val (.int ((g ((nat i1))) &&& (255 : Int32))), .val (.int (f1_22_l5 i1 i2 g)), .val (.int ((g ((nat (i1 + (1 : Int32))))) &&& (255 : Int32))), .val (.int ((g ((nat (i1 + (2 : Int32))))) &&& (255 : Int32))), .val (.int (128 : Int32)), .val (.int (f1_149_s0b i1 i2 g)), .unset, .unset, .unset, .unset] [(.int (((((g ((nat i1))) &&& (255 : Int32)) &&& (31 : Int32)) <<< ((6 : Int32) &&& 31)) ||| (((g ((nat (i1 + (1 : Int32))))) &&& (255 : Int32)) &&& (63 : Int32))))])) _
              refine XS.istore X0.here hx rfl (hb hby d1_203) rfl (l' := #[.val (.ref o0), .val (.int i1), .val (.int i2), .val (.int (i2 - i1)), .val (.int ((g ((nat i1))) &&& (255 : Int32))), .val (.int (f1_22_l5 i1 i2 g)), .val (.int ((g ((nat (i1 + (1 : Int32))))) &&& (255 : Int32))), .val (.int ((g ((nat (i1 + (2 : Int32))))) &&& (255 : Int32))), .val (.int (128 : Int32)), .val (.int (f1_149_s0b i1 i2 g)), .val (.int (f1_v203 i1 i2 g)), .unset, .unset, .unset]) rfl ?_
              show Steps p.tables e below (s₁.setTop (mkF m 205 #[.val (.ref o0), .val (.int i1), .val (.int i2), .val (.int (i2 - i1)), .val (.int ((g ((nat i1))) &&& (255 : Int32))), .val (.int (f1_22_l5 i1 i2 g)), .val (.int ((g ((nat (i1 + (1 : Int32))))) &&& (255 : Int32))), .val (.int ((g ((nat (i1 + (2 : Int32))))) &&& (255 : Int32))), .val (.int (128 : Int32)), .val (.int (f1_149_s0b i1 i2 g)), .val (.int (f1_v203 i1 i2 g)), .unset, .unset, .unset] [])) _
              refine XS.sipush X0.here hx rfl (hb hby d1_205) ?_
              show Steps p.tables e below (s₁.setTop (mkF m 208 #[.val (.ref o0), .val (.int i1), .val (.int i2), .val (.int (i2 - i1)), .val (.int ((g ((nat i1))) &&& (255 : Int32))), .val (.int (f1_22_l5 i1 i2 g)), .val (.int ((g ((nat (i1 + (1 : Int32))))) &&& (255 : Int32))), .val (.int ((g ((nat (i1 + (2 : Int32))))) &&& (255 : Int32))), .val (.int (128 : Int32)), .val (.int (f1_149_s0b i1 i2 g)), .val (.int (f1_v203 i1 i2 g)), .unset, .unset, .unset] [(.int (128 : Int32))])) _
              refine XS.istore X0.here hx rfl (hb hby d1_208) rfl (l' := #[.val (.ref o0), .val (.int i1), .val (.int i2), .val (.int (i2 - i1)), .val (.int ((g ((nat i1))) &&& (255 : Int32))), .val (.int (f1_22_l5 i1 i2 g)), .val (.int ((g ((nat (i1 + (1 : Int32))))) &&& (255 : Int32))), .val (.int ((g ((nat (i1 + (2 : Int32))))) &&& (255 : Int32))), .val (.int (128 : Int32)), .val (.int (f1_149_s0b i1 i2 g)), .val (.int (f1_v203 i1 i2 g)), .val (.int (128 : Int32)), .unset, .unset]) rfl ?_
              show Steps p.tables e below (s₁.setTop (mkF m 210 #[.val (.ref o0), .val (.int i1), .val (.int i2), .val (.int (i2 - i1)), .val (.int ((g ((nat i1))) &&& (255 : Int32))), .val (.int (f1_22_l5 i1 i2 g)), .val (.int ((g ((nat (i1 + (1 : Int32))))) &&& (255 : Int32))), .val (.int ((g ((nat (i1 + (2 : Int32))))) &&& (255 : Int32))), .val (.int (128 : Int32)), .val (.int (f1_149_s0b i1 i2 g)), .val (.int (f1_v203 i1 i2 g)), .val (.int (128 : Int32)), .unset, .unset] [])) _
              refine XS.goto X0.here hx rfl (pc0 := 210) (pc' := 290) rfl (hb hby d1_210) (by decide) (by decide) ?_
              show Steps p.tables e below (s₁.setTop (mkF m 290 #[.val (.ref o0), .val (.int i1), .val (.int i2), .val (.int (i2 - i1)), .val (.int ((g ((nat i1))) &&& (255 : Int32))), .val (.int (f1_22_l5 i1 i2 g)), .val (.int ((g ((nat (i1 + (1 : Int32))))) &&& (255 : Int32))), .val (.int ((g ((nat (i1 + (2 : Int32))))) &&& (255 : Int32))), .val (.int (128 : Int32)), .val (.int (f1_149_s0b i1 i2 g)), .val (.int (f1_v203 i1 i2 g)), .val (.int (128 : Int32)), .unset, .unset] [])) _
              rw [show (f1_186_l10b i1 i2 g) = (f1_v203 i1 i2 g) from (if_pos hc186), show (f1_186_l11 i1 i2 g) = (128 : Int32) from (if_pos hc186)] at k
              exact k
            · refine XS.icmpYes X0.here hx rfl (pc0 := 186) (pc' := 213) rfl (hb hby d1_186) rfl (feq hc186).2 (by decide) (by decide) ?_
              show Steps p.tables e below (s₁.setTop (mkF m 213 #[.val (.ref o0), .val (.int i1), .val (.int i2), .val (.int (i2 - i1)), .val (.int ((g ((nat i1))) &&& (255 : Int32))), .val (.int (f1_22_l5 i1 i2 g)), .val (.int ((g ((nat (i1 + (1 : Int32))))) &&& (255 : Int32))), .val (.int ((g ((nat (i1 + (2 : Int32))))) &&& (255 : Int32))), .val (.int (128 : Int32)), .val (.int (f1_149_s0b i1 i2 g)), .unset, .unset, .unset, .unset] [])) _
              refine XS.iload X0.here hx rfl (hb hby d1_213) rfl ?_
              show Steps p.tables e below (s₁.setTop (mkF m 215 #[.val (.ref o0), .val (.int i1), .val (.int i2), .val (.int (i2 - i1)), .val (.int ((g ((nat i1))) &&& (255 : Int32))), .val (.int (f1_22_l5 i1 i2 g)), .val (.int ((g ((nat (i1 + (1 : Int32))))) &&& (255 : Int32))), .val (.int ((g ((nat (i1 + (2 : Int32))))) &&& (255 : Int32))), .val (.int (128 : Int32)), .val (.int (f1_149_s0b i1 i2 g)), .unset, .unset, .unset, .unset] [(.int (f1_22_l5 i1 i2 g))])) _
              refine XS.iconst X0.here hx rfl (hb hby d1_215) ?_
              show Steps p.tables e below (s₁.setTop (mkF m 216 #[.val (.ref o0), .val (.int i1), .val (.int i2), .val (.int (i2 - i1)), .val (.int ((g ((nat i1))) &&& (255 : Int32))), .val (.int (f1_22_l5 i1 i2 g)), .val (.int ((g ((nat (i1 + (1 : Int32))))) &&& (255 : Int32))), .val (.int ((g ((nat (i1 + (2 : Int32))))) &&& (255 : Int32))), .val (.int (128 : Int32)), .val (.int (f1_149_s0b i1 i2 g)), .unset, .unset, .unset, .unset] [(.int (3 : Int32)), (.int (f1_22_l5 i1 i2 g))])) _
              by_cases hc216 : (f1_22_l5 i1 i2 g) = (3 : Int32)
              · refine XS.icmpNo X0.here hx rfl (hb hby d1_216) rfl (teq hc216).2 ?_
                show Steps p.tables e below (s₁.setTop (mkF m 219 #[.val (.ref o0), .val (.int i1), .val (.int i2), .val (.int (i2 - i1)), .val (.int ((g ((nat i1))) &&& (255 : Int32))), .val (.int (f1_22_l5 i1 i2 g)), .val (.int ((g ((nat (i1 + (1 : Int32))))) &&& (255 : Int32))), .val (.int ((g ((nat (i1 + (2 : Int32))))) &&& (255 : Int32))), .val (.int (128 : Int32)), .val (.int (f1_149_s0b i1 i2 g)), .unset, .unset, .unset, .unset] [])) _
                refine XS.iload X0.here hx rfl (hb hby d1_219) rfl ?_
                show Steps p.tables e below (s₁.setTop (mkF m 221 #[.val (.ref o0), .val (.int i1), .val (.int i2), .val (.int (i2 - i1)), .val (.int ((g ((nat i1))) &&& (255 : Int32))), .val (.int (f1_22_l5 i1 i2 g)), .val (.int ((g ((nat (i1 + (1 : Int32))))) &&& (255 : Int32))), .val (.int ((g ((nat (i1 + (2 : Int32))))) &&& (255 : Int32))), .val (.int (128 : Int32)), .val (.int (f1_149_s0b i1 i2 g)), .unset, .unset, .unset, .unset] [(.int ((g ((nat i1))) &&& (255 : Int32)))])) _
                refine XS.bipush X0.here hx rfl (hb hby d1_221) ?_
                show Steps p.tables e below (s₁.setTop (mkF m 223 #[.val (.ref o0), .val (.int i1), .val (.int i2), .val (.int (i2 - i1)), .val (.int ((g ((nat i1))) &&& (255 : Int32))), .val (.int (f1_22_l5 i1 i2 g)), .val (.int ((g ((nat (i1 + (1 : Int32))))) &&& (255 : Int32))), .val (.int ((g ((nat (i1 + (2 : Int32))))) &&& (255 : Int32))), .val (.int (128 : Int32)), .val (.int (f1_149_s0b i1 i2 g)), .unset, .unset, .unset, .unset] [(.int (15 : Int32)), (.int ((g ((nat i1))) &&& (255 : Int32)))])) _
                refine XS.iand X0.here hx rfl (hb hby d1_223) rfl ?_
                show Steps p.tables e below (s₁.setTop (mkF m 224 #[.val (.ref o0), .val (.int i1), .val (.int i2), .val (.int (i2 - i1)), .val (.int ((g ((nat i1))) &&& (255 : Int32))), .val (.int (f1_22_l5 i1 i2 g)), .val (.int ((g ((nat (i1 + (1 : Int32))))) &&& (255 : Int32))), .val (.int ((g ((nat (i1 + (2 : Int32))))) &&& (255 : Int32))), .val (.int (128 : Int32)), .val (.int (f1_149_s0b i1 i2 g)), .unset, .unset, .unset, .unset] [(.int (((g ((nat i1))) &&& (255 : Int32)) &&& (15 : Int32)))])) _
                refine XS.bipush X0.here hx rfl (hb hby d1_224) ?_
                show Steps p.tables e below (s₁.setTop (mkF m 226 #[.val (.ref o0), .val (.int i1), .val (.int i2), .val (.int (i2 - i1)), .val (.int ((g ((nat i1))) &&& (255 : Int32))), .val (.int (f1_22_l5 i1 i2 g)), .val (.int ((g ((nat (i1 + (1 : Int32))))) &&& (255 : Int32))), .val (.int ((g ((nat (i1 + (2 : Int32))))) &&& (255 : Int32))), .val (.int (128 : Int32)), .val (.int (f1_149_s0b i1 i2 g)), .unset, .unset, .unset, .unset] [(.int (12 : Int32)), (.int (((g ((nat i1))) &&& (255 : Int32)) &&& (15 : Int32)))])) _
                refine XS.ishl X0.here hx rfl (hb hby d1_226) rfl ?_
                show Steps p.tables e below (s₁.setTop (mkF m 227 #[.val (.ref o0), .val (.int i1), .val (.int i2), .val (.int (i2 - i1)), .val (.int ((g ((nat i1))) &&& (255 : Int32))), .val (.int (f1_22_l5 i1 i2 g)), .val (.int ((g ((nat (i1 + (1 : Int32))))) &&& (255 : Int32))), .val (.int ((g ((nat (i1 + (2 : Int32))))) &&& (255 : Int32))), .val (.int (128 : Int32)), .val (.int (f1_149_s0b i1 i2 g)), .unset, .unset, .unset, .unset] [(.int ((((g ((nat i1))) &&& (255 : Int32)) &&& (15 : Int32)) <<< ((12 : Int32) &&& 31)))])) _
                refine XS.iload X0.here hx rfl (hb hby d1_227) rfl ?_
                show Steps p.tables e below (s₁.setTop (mkF m 229 #[.val (.ref o0), .val (.int i1), .val (.int i2), .val (.int (i2 - i1)), .val (.int ((g ((nat i1))) &&& (255 : Int32))), .val (.int (f1_22_l5 i1 i2 g)), .val (.int ((g ((nat (i1 + (1 : Int32))))) &&& (255 : Int32))), .val (.int ((g ((nat (i1 + (2 : Int32))))) &&& (255 : Int32))), .val (.int (128 : Int32)), .val (.int (f1_149_s0b i1 i2 g)), .unset, .unset, .unset, .unset] [(.int ((g ((nat (i1 + (1 : Int32))))) &&& (255 : Int32))), (.int ((((g ((nat i1))) &&& (255 : Int32)) &&& (15 : Int32)) <<< ((12 : Int32) &&& 31)))])) _
                refine XS.bipush X0.here hx rfl (hb hby d1_229) ?_
                show Steps p.tables e below (s₁.setTop (mkF m 231 #[.val (.ref o0), .val (.int i1), .val (.int i2), .val (.int (i2 - i1)), .val (.int ((g ((nat i1))) &&& (255 : Int32))), .val (.int (f1_22_l5 i1 i2 g)), .val (.int ((g ((nat (i1 + (1 : Int32))))) &&& (255 : Int32))), .val (.int ((g ((nat (i1 + (2 : Int32))))) &&& (255 : Int32))), .val (.int (128 : Int32)), .val (.int (f1_149_s0b i1 i2 g)), .unset, .unset, .unset, .unset] [(.int (63 : Int32)), (.int ((g ((nat (i1 + (1 : Int32))))) &&& (255 : Int32))), (.int ((((g ((nat i1))) &&& (255 : Int32)) &&& (15 : Int32)) <<< ((12 : Int32) &&& 31)))])) _
                refine XS.iand X0.here hx rfl (hb hby d1_231) rfl ?_
                show Steps p.tables e below (s₁.setTop (mkF m 232 #[.val (.ref o0), .val (.int i1), .val (.int i2), .val (.int (i2 - i1)), .val (.int ((g ((nat i1))) &&& (255 : Int32))), .val (.int (f1_22_l5 i1 i2 g)), .val (.int ((g ((nat (i1 + (1 : Int32))))) &&& (255 : Int32))), .val (.int ((g ((nat (i1 + (2 : Int32))))) &&& (255 : Int32))), .val (.int (128 : Int32)), .val (.int (f1_149_s0b i1 i2 g)), .unset, .unset, .unset, .unset] [(.int (((g ((nat (i1 + (1 : Int32))))) &&& (255 : Int32)) &&& (63 : Int32))), (.int ((((g ((nat i1))) &&& (255 : Int32)) &&& (15 : Int32)) <<< ((12 : Int32) &&& 31)))])) _
                refine XS.bipush X0.here hx rfl (hb hby d1_232) ?_
                show Steps p.tables e below (s₁.setTop (mkF m 234 #[.val (.ref o0), .val (.int i1), .val (.int i2), .val (.int (i2 - i1)), .val (.int ((g ((nat i1))) &&& (255 : Int32))), .val (.int (f1_22_l5 i1 i2 g)), .val (.int ((g ((nat (i1 + (1 : Int32))))) &&& (255 : Int32))), .val (.int ((g ((nat (i1 + (2 : Int32))))) &&& (255 : Int32))), .val (.int (128 : Int32)), .val (.int (f1_149_s0b i1 i2 g)), .unset, .unset, .unset, .unset] [(.int (6 : Int32)), (.int (((g ((nat (i1 + (1 : Int32))))) &&& (255 : Int32)) &&& (63 : Int32))), (.int ((((g ((nat i1))) &&& (255 : Int32)) &&& (15 : Int32)) <<< ((12 : Int32) &&& 31)))])) _
                refine XS.ishl X0.here hx rfl (hb hby d1_234) rfl ?_
                show Steps p.tables e below (s₁.setTop (mkF m 235 #[.val (.ref o0), .val (.int i1), .val (.int i2), .val (.int (i2 - i1)), .val (.int ((g ((nat i1))) &&& (255 : Int32))), .val (.int (f1_22_l5 i1 i2 g)), .val (.int ((g ((nat (i1 + (1 : Int32))))) &&& (255 : Int32))), .val (.int ((g ((nat (i1 + (2 : Int32))))) &&& (255 : Int32))), .val (.int (128 : Int32)), .val (.int (f1_149_s0b i1 i2 g)), .unset, .unset, .unset, .unset] [(.int ((((g ((nat (i1 + (1 : Int32))))) &&& (255 : Int32)) &&& (63 : Int32)) <<< ((6 : Int32) &&& 31))), (.int ((((g ((nat i1))) &&& (255 : Int32)) &&& (15 : Int32)) <<< ((12 : Int32) &&& 31)))])) _
                refine XS.ior X0.here hx rfl (hb hby d1_235) rfl ?_
                show Steps p.tables e below (s₁.setTop (mkF m 236 #[.val (.ref o0), .val (.int i1), .val (.int i2), .val (.int (i2 - i1)), .val (.int ((g ((nat i1))) &&& (255 : Int32))), .val (.int (f1_22_l5 i1 i2 g)), .val (.int ((g ((nat (i1 + (1 : Int32))))) &&& (255 : Int32))), .val (.int ((g ((nat (i1 + (2 : Int32))))) &&& (255 : Int32))), .val (.int (128 : Int32)), .val (.int (f1_149_s0b i1 i2 g)), .unset, .unset, .unset, .unset] [(.int (((((g ((nat i1))) &&& (255 : Int32)) &&& (15 : Int32)) <<< ((12 : Int32) &&& 31)) ||| ((((g ((nat (i1 + (1 : Int32))))) &&& (255 : Int32)) &&& (63 : Int32)) <<< ((6 : Int32) &&& 31))))])) _
                refine XS.iload X0.here hx rfl (hb hby d1_236) rfl ?_
                show Steps p.tables e below (s₁.setTop (mkF m 238 #[.val (.ref o0), .val (.int i1), .val (.int i2), .val (.int (i2 - i1)), .val (.int ((g ((nat i1))) &&& (255 : Int32))), .val (.int (f1_22_l5 i1 i2 g)), .val (.int ((g ((nat (i1 + (1 : Int32))))) &&& (255 : Int32))), .val (.int ((g ((nat (i1 + (2 : Int32))))) &&& (255 : Int32))), .val (.int (128 : Int32)), .val (.int (f1_149_s0b i1 i2 g)), .unset, .unset, .unset, .unset] [(.int ((g ((nat (i1 + (2 : Int32))))) &&& (255 : Int32))), (.int (((((g ((nat i1))) &&& (255 : Int32)) &&& (15 : Int32)) <<< ((12 : Int32) &&& 31)) ||| ((((g ((nat (i1 + (1 : Int32))))) &&& (255 : Int32)) &&& (63 : Int32)) <<< ((6 : Int32) &&& 31))))])) _
                refine XS.bipush X0.here hx rfl (hb hby d1_238) ?_
                show Steps p.tables e below (s₁.setTop (mkF m 240 #[.val (.ref o0), .val (.int i1), .val (.int i2), .val (.int (i2 - i1)), .val (.int ((g ((nat i1))) &&& (255 : Int32))), .val (.int (f1_22_l5 i1 i2 g)), .val (.int ((g ((nat (i1 + (1 : Int32))))) &&& (255 : Int32))), .val (.int ((g ((nat (i1 + (2 : Int32))))) &&& (255 : Int32))), .val (.int (128 : Int32)), .val (.int (f1_149_s0b i1 i2 g)), .unset, .unset, .unset, .unset] [(.int (63 : Int32)), (.int ((g ((nat (i1 + (2 : Int32))))) &&& (255 : Int32))), (.int (((((g ((nat i1))) &&& (255 : Int32)) &&& (15 : Int32)) <<< ((12 : Int32) &&& 31)) ||| ((((g ((nat (i1 + (1 : Int32))))) &&& (255 : Int32)) &&& (63 : Int32)) <<< ((6 : Int32) &&& 31))))])) _
                refine XS.iand X0.here hx rfl (hb hby d1_240) rfl ?_
                show Steps p.tables e below (s₁.setTop (mkF m 241 #[.val (.ref o0), .val (.int i1), .val (.int i2), .val (.int (i2 - i1)), .val (.int ((g ((nat i1))) &&& (255 : Int32))), .val (.int (f1_22_l5 i1 i2 g)), .val (.int ((g ((nat (i1 + (1 : Int32))))) &&& (255 : Int32))), .val (.int ((g ((nat (i1 + (2 : Int32))))) &&& (255 : Int32))), .val (.int (128 : Int32)), .val (.int (f1_149_s0b i1 i2 g)), .unset, .unset, .unset, .unset] [(.int (((g ((nat (i1 + (2 : Int32))))) &&& (255 : Int32)) &&& (63 : Int32))), (.int (((((g ((nat i1))) &&& (255 : Int32)) &&& (15 : Int32)) <<< ((12 : Int32) &&& 31)) ||| ((((g ((nat (i1 + (1 : Int32))))) &&& (255 : Int32)) &&& (63 : Int32)) <<< ((6 : Int32) &&& 31))))])) _
                refine XS.ior X0.here hx rfl (hb hby d1_241) rfl ?_
                show Steps p.tables e below (s₁.setTop (mkF m 242 #[.val (.ref o0), .val (.int i1), .val (.int i2), .val (.int (i2 - i1)), .val (.int ((g ((nat i1))) &&& (255 : Int32))), .val (.int (f1_22_l5 i1 i2 g)), .val (.int ((g ((nat (i1 + (1 : Int32))))) &&& (255 : Int32))), .val (.int ((g ((nat (i1 + (2 : Int32))))) &&& (255 : Int32))), .val (.int (128 : Int32)), .val (.int (f1_149_s0b i1 i2 g)), .unset, .unset, .unset, .unset] [(.int ((((((g ((nat i1))) &&& (255 : Int32)) &&& (15 : Int32)) <<< ((12 : Int32) &&& 31)) ||| ((((g ((nat (i1 + (1 : Int32))))) &&& (255 : Int32)) &&& (63 : Int32)) <<< ((6 : Int32) &&& 31))) ||| (((g ((nat (i1 + (2 : Int32))))) &&& (255 : Int32)) &&& (63 : Int32))))])) _
                refine XS.istore X0.here hx rfl (hb hby d1_242) rfl (l' := #[.val (.ref o0), .val (.int i1), .val (.int i2), .val (.int (i2 - i1)), .val (.int ((g ((nat i1))) &&& (255 : Int32))), .val (.int (f1_22_l5 i1 i2 g)), .val (.int ((g ((nat (i1 + (1 : Int32))))) &&& (255 : Int32))), .val (.int ((g ((nat (i1 + (2 : Int32))))) &&& (255 : Int32))), .val (.int (128 : Int32)), .val (.int (f1_149_s0b i1 i2 g)), .val (.int (f1_v242a i1 i2 g)), .unset, .unset, .unset]) rfl ?_
                show Steps p.tables e below (s₁.setTop (mkF m 244 #[.val (.ref o0), .val (.int i1), .val (.int i2), .val (.int (i2 - i1)), .val (.int ((g ((nat i1))) &&& (255 : Int32))), .val (.int (f1_22_l5 i1 i2 g)), .val (.int ((g ((nat (i1 + (1 : Int32))))) &&& (255 : Int32))), .val (.int ((g ((nat (i1 + (2 : Int32))))) &&& (255 : Int32))), .val (.int (128 : Int32)), .val (.int (f1_149_s0b i1 i2 g)), .val (.int (f1_v242a i1 i2 g)), .unset, .unset, .unset] [])) _
                refine XS.sipush X0.here hx rfl (hb hby d1_244) ?_
                show Steps p.tables e below (s₁.setTop (mkF m 247 #[.val (.ref o0), .val (.int i1), .val (.int i2), .val (.int (i2 - i1)), .val (.int ((g ((nat i1))) &&& (255 : Int32))), .val (.int (f1_22_l5 i1 i2 g)), .val (.int ((g ((nat (i1 + (1 : Int32))))) &&& (255 : Int32))), .val (.int ((g ((nat (i1 + (2 : Int32))))) &&& (255 : Int32))), .val (.int (128 : Int32)), .val (.int (f1_149_s0b i1 i2 g)), .val (.int (f1_v242a i1 i2 g)), .unset, .unset, .unset] [(.int (2048 : Int32))])) _
                refine XS.istore X0.here hx rfl (hb hby d1_247) rfl (l' := #[.val (.ref o0), .val (.int i1), .val (.int i2), .val (.int (i2 - i1)), .val (.int ((g ((nat i1))) &&& (255 : Int32))), .val (.int (f1_22_l5 i1 i2 g)), .val (.int ((g ((nat (i1 + (1 : Int32))))) &&& (255 : Int32))), .val (.int ((g ((nat (i1 + (2 : Int32))))) &&& (255 : Int32))), .val (.int (128 : Int32)), .val (.int (f1_149_s0b i1 i2 g)), .val (.int (f1_v242a i1 i2 g)), .val (.int (2048 : Int32)), .unset, .unset]) rfl ?_
                show Steps p.tables e below (s₁.setTop (mkF m 249 #[.val (.ref o0), .val (.int i1), .val (.int i2), .val (.int (i2 - i1)), .val (.int ((g ((nat i1))) &&& (255 : Int32))), .val (.int (f1_22_l5 i1 i2 g)), .val (.int ((g ((nat (i1 + (1 : Int32))))) &&& (255 : Int32))), .val (.int ((g ((nat (i1 + (2 : Int32))))) &&& (255 : Int32))), .val (.int (128 : Int32)), .val (.int (f1_149_s0b i1 i2 g)), .val (.int (f1_v242a i1 i2 g)), .val (.int (2048 : Int32)), .unset, .unset] [])) _
                refine XS.goto X0.here hx rfl (pc0 := 249) (pc' := 290) rfl (hb hby d1_249) (by decide) (by decide) ?_
                show Steps p.tables e below (s₁.setTop (mkF m 290 #[.val (.ref o0), .val (.int i1), .val (.int i2), .val (.int (i2 - i1)), .val (.int ((g ((nat i1))) &&& (255 : Int32))), .val (.int (f1_22_l5 i1 i2 g)), .val (.int ((g ((nat (i1 + (1 : Int32))))) &&& (255 : Int32))), .val (.int ((g ((nat (i1 + (2 : Int32))))) &&& (255 : Int32))), .val (.int (128 : Int32)), .val (.int (f1_149_s0b i1 i2 g)), .val (.int (f1_v242a i1 i2 g)), .val (.int (2048 : Int32)), .unset, .unset] [])) _
                rw [show (f1_186_l10b i1 i2 g) = (f1_v242a i1 i2 g) from ((if_neg hc186).trans (if_pos hc216)), show (f1_186_l11 i1 i2 g) = (2048 : Int32) from ((if_neg hc186).trans (if_pos hc216))] at k
                exact k
              · refine XS.icmpYes X0.here hx rfl (pc0 := 216) (pc' := 252) rfl (hb hby d1_216) rfl (feq hc216).2 (by decide) (by decide) ?_
                show Steps p.tables e below (s₁.setTop (mkF m 252 #[.val (.ref o0), .val (.int i1), .val (.int i2), .val (.int (i2 - i1)), .val (.int ((g ((nat i1))) &&& (255 : Int32))), .val (.int (f1_22_l5 i1 i2 g)), .val (.int ((g ((nat (i1 + (1 : Int32))))) &&& (255 : Int32))), .val (.int ((g ((nat (i1 + (2 : Int32))))) &&& (255 : Int32))), .val (.int (128 : Int32)), .val (.int (f1_149_s0b i1 i2 g)), .unset, .unset, .unset, .unset] [])) _
                refine XS.iload X0.here hx rfl (hb hby d1_252) rfl ?_
                show Steps p.tables e below (s₁.setTop (mkF m 254 #[.val (.ref o0), .val (.int i1), .val (.int i2), .val (.int (i2 - i1)), .val (.int ((g ((nat i1))) &&& (255 : Int32))), .val (.int (f1_22_l5 i1 i2 g)), .val (.int ((g ((nat (i1 + (1 : Int32))))) &&& (255 : Int32))), .val (.int ((g ((nat (i1 + (2 : Int32))))) &&& (255 : Int32))), .val (.int (128 : Int32)), .val (.int (f1_149_s0b i1 i2 g)), .unset, .unset, .unset, .unset] [(.int ((g ((nat i1))) &&& (255 : Int32)))])) _
                refine XS.bipush X0.here hx rfl (hb hby d1_254) ?_
                show Steps p.tables e below (s₁.setTop (mkF m 256 #[.val (.ref o0), .val (.int i1), .val (.int i2), .val (.int (i2 - i1)), .val (.int ((g ((nat i1))) &&& (255 : Int32))), .val (.int (f1_22_l5 i1 i2 g)), .val (.int ((g ((nat (i1 + (1 : Int32))))) &&& (255 : Int32))), .val (.int ((g ((nat (i1 + (2 : Int32))))) &&& (255 : Int32))), .val (.int (128 : Int32)), .val (.int (f1_149_s0b i1 i2 g)), .unset, .unset, .unset, .unset] [(.int (7 : Int32)), (.int ((g ((nat i1))) &&& (255 : Int32)))])) _
                refine XS.iand X0.here hx rfl (hb hby d1_256) rfl ?_
                show Steps p.tables e below (s₁.setTop (mkF m 257 #[.val (.ref o0), .val (.int i1), .val (.int i2), .val (.int (i2 - i1)), .val (.int ((g ((nat i1))) &&& (255 : Int32))), .val (.int (f1_22_l5 i1 i2 g)), .val (.int ((g ((nat (i1 + (1 : Int32))))) &&& (255 : Int32))), .val (.int ((g ((nat (i1 + (2 : Int32))))) &&& (255 : Int32))), .val (.int (128 : Int32)), .val (.int (f1_149_s0b i1 i2 g)), .unset, .unset, .unset, .unset] [(.int (((g ((nat i1))) &&& (255 : Int32)) &&& (7 : Int32)))])) _
                refine XS.bipush X0.here hx rfl (hb hby d1_257) ?_
                show Steps p.tables e below (s₁.setTop (mkF m 259 #[.val (.ref o0), .val (.int i1), .val (.int i2), .val (.int (i2 - i1)), .val (.int ((g ((nat i1))) &&& (255 : Int32))), .val (.int (f1_22_l5 i1 i2 g)), .val (.int ((g ((nat (i1 + (1 : Int32))))) &&& (255 : Int32))), .val (.int ((g ((nat (i1 + (2 : Int32))))) &&& (255 : Int32))), .val (.int (128 : Int32)), .val (.int (f1_149_s0b i1 i2 g)), .unset, .unset, .unset, .unset] [(.int (18 : Int32)), (.int (((g ((nat i1))) &&& (255 : Int32)) &&& (7 : Int32)))])) _
                refine XS.ishl X0.here hx rfl (hb hby d1_259) rfl ?_
                show Steps p.tables e below (s₁.setTop (mkF m 260 #[.val (.ref o0), .val (.int i1), .val (.int i2), .val (.int (i2 - i1)), .val (.int ((g ((nat i1))) &&& (255 : Int32))), .val (.int (f1_22_l5 i1 i2 g)), .val (.int ((g ((nat (i1 + (1 : Int32))))) &&& (255 : Int32))), .val (.int ((g ((nat (i1 + (2 : Int32))))) &&& (255 : Int32))), .val (.int (128 : Int32)), .val (.int (f1_149_s0b i1 i2 g)), .unset, .unset, .unset, .unset] [(.int ((((g ((nat i1))) &&& (255 : Int32)) &&& (7 : Int32)) <<< ((18 : Int32) &&& 31)))])) _
                refine XS.iload X0.here hx rfl (hb hby d1_260) rfl ?_
                show Steps p.tables e below (s₁.setTop (mkF m 262 #[.val (.ref o0), .val (.int i1), .val (.int i2), .val (.int (i2 - i1)), .val (.int ((g ((nat i1))) &&& (255 : Int32))), .val (.int (f1_22_l5 i1 i2 g)), .val (.int ((g ((nat (i1 + (1 : Int32))))) &&& (255 : Int32))), .val (.int ((g ((nat (i1 + (2 : Int32))))) &&& (255 : Int32))), .val (.int (128 : Int32)), .val (.int (f1_149_s0b i1 i2 g)), .unset, .unset, .unset, .unset] [(.int ((g ((nat (i1 + (1 : Int32))))) &&& (255 : Int32))), (.int ((((g ((nat i1))) &&& (255 : Int32)) &&& (7 : Int32)) <<< ((18 : Int32) &&& 31)))])) _
                refine XS.bipush X0.here hx rfl (hb hby d1_262) ?_
                show Steps p.tables e below (s₁.setTop (mkF m 264 #[.val (.ref o0), .val (.int i1), .val (.int i2), .val (.int (i2 - i1)), .val (.int ((g ((nat i1))) &&& (255 : Int32))), .val (.int (f1_22_l5 i1 i2 g)), .val (.int ((g ((nat (i1 + (1 : Int32))))) &&& (255 : Int32))), .val (.int ((g ((nat (i1 + (2 : Int32))))) &&& (255 : Int32))), .val (.int (128 : Int32)), .val (.int (f1_149_s0b i1 i2 g)), .unset, .unset, .unset, .unset] [(.int (63 : Int32)), (.int ((g ((nat (i1 + (1 : Int32))))) &&& (255 : Int32))), (.int ((((g ((nat i1))) &&& (255 : Int32)) &&& (7 : Int32)) <<< ((18 : Int32) &&& 31)))])) _
                refine XS.iand X0.here hx rfl (hb hby d1_264) rfl ?_
                show Steps p.tables e below (s₁.setTop (mkF m 265 #[.val (.ref o0), .val (.int i1), .val (.int i2), .val (.int (i2 - i1)), .val (.int ((g ((nat i1))) &&& (255 : Int32))), .val (.int (f1_22_l5 i1 i2 g)), .val (.int ((g ((nat (i1 + (1 : Int32))))) &&& (255 : Int32))), .val (.int ((g ((nat (i1 + (2 : Int32))))) &&& (255 : Int32))), .val (.int (128 : Int32)), .val (.int (f1_149_s0b i1 i2 g)), .unset, .unset, .unset, .unset] [(.int (((g ((nat (i1 + (1 : Int32))))) &&& (255 : Int32)) &&& (63 : Int32))), (.int ((((g ((nat i1))) &&& (255 : Int32)) &&& (7 : Int32)) <<< ((18 : Int32) &&& 31)))])) _
                refine XS.bipush X0.here hx rfl (hb hby d1_265) ?_
                show Steps p.tables e below (s₁.setTop (mkF m 267 #[.val (.ref o0), .val (.int i1), .val (.int i2), .val (.int (i2 - i1)), .val (.int ((g ((nat i1))) &&& (255 : Int32))), .val (.int (f1_22_l5 i1 i2 g)), .val (.int ((g ((nat (i1 + (1 : Int32))))) &&& (255 : Int32))), .val (.int ((g ((nat (i1 + (2 : Int32))))) &&& (255 : Int32))), .val (.int (128 : Int32)), .val (.int (f1_149_s0b i1 i2 g)), .unset, .unset, .unset, .unset] [(.int (12 : Int32)), (.int (((g ((nat (i1 + (1 : Int32))))) &&& (255 : Int32)) &&& (63 : Int32))), (.int ((((g ((nat i1))) &&& (255 : Int32)) &&& (7 : Int32)) <<< ((18 : Int32) &&& 31)))])) _
                refine XS.ishl X0.here hx rfl (hb hby d1_267) rfl ?_
                show Steps p.tables e below (s₁.setTop (mkF m 268 #[.val (.ref o0), .val (.int i1), .val (.int i2), .val (.int (i2 - i1)), .val (.int ((g ((nat i1))) &&& (255 : Int32))), .val (.int (f1_22_l5 i1 i2 g)), .val (.int ((g ((nat (i1 + (1 : Int32))))) &&& (255 : Int32))), .val (.int ((g ((nat (i1 + (2 : Int32))))) &&& (255 : Int32))), .val (.int (128 : Int32)), .val (.int (f1_149_s0b i1 i2 g)), .unset, .unset, .unset, .unset] [(.int ((((g ((nat (i1 + (1 : Int32))))) &&& (255 : Int32)) &&& (63 : Int32)) <<< ((12 : Int32) &&& 31))), (.int ((((g ((nat i1))) &&& (255 : Int32)) &&& (7 : Int32)) <<< ((18 : Int32) &&& 31)))])) _
                refine XS.ior X0.here hx rfl (hb hby d1_268) rfl ?_
                show Steps p.tables e below (s₁.setTop (mkF m 269 #[.val (.ref o0), .val (.int i1), .val (.int i2), .val (.int (i2 - i1)), .val (.int ((g ((nat i1))) &&& (255 : Int32))), .val (.int (f1_22_l5 i1 i2 g)), .val (.int ((g ((nat (i1 + (1 : Int32))))) &&& (255 : Int32))), .val (.int ((g ((nat (i1 + (2 : Int32))))) &&& (255 : Int32))), .val (.int (128 : Int32)), .val (.int (f1_149_s0b i1 i2 g)), .unset, .unset, .unset, .unset] [(.int (((((g ((nat i1))) &&& (255 : Int32)) &&& (7 : Int32)) <<< ((18 : Int32) &&& 31)) ||| ((((g ((nat (i1 + (1 : Int32))))) &&& (255 : Int32)) &&& (63 : Int32)) <<< ((12 : Int32) &&& 31))))])) _
                refine XS.iload X0.here hx rfl (hb hby d1_269) rfl ?_
                show Steps p.tables e below (s₁.setTop (mkF m 271 #[.val (.ref o0), .val (.int i1), .val (.int i2), .val (.int (i2 - i1)), .val (.int ((g ((nat i1))) &&& (255 : Int32))), .val (.int (f1_22_l5 i1 i2 g)), .val (.int ((g ((nat (i1 + (1 : Int32))))) &&& (255 : Int32))), .val (.int ((g ((nat (i1 + (2 : Int32))))) &&& (255 : Int32))), .val (.int (128 : Int32)), .val (.int (f1_149_s0b i1 i2 g)), .unset, .unset, .unset, .unset] [(.int ((g ((nat (i1 + (2 : Int32))))) &&& (255 : Int32))), (.int (((((g ((nat i1))) &&& (255 : Int32)) &&& (7 : Int32)) <<< ((18 : Int32) &&& 31)) ||| ((((g ((nat (i1 + (1 : Int32))))) &&& (255 : Int32)) &&& (63 : Int32)) <<< ((12 : Int32) &&& 31))))])) _
                refine XS.bipush X0.here hx rfl (hb hby d1_271) ?_
                show Steps p.tables e below (s₁.setTop (mkF m 273 #[.val (.ref o0), .val (.int i1), .val (.int i2), .val (.int (i2 - i1)), .val (.int ((g ((nat i1))) &&& (255 : Int32))), .val (.int (f1_22_l5 i1 i2 g)), .val (.int ((g ((nat (i1 + (1 : Int32))))) &&& (255 : Int32))), .val (.int ((g ((nat (i1 + (2 : Int32))))) &&& (255 : Int32))), .val (.int (128 : Int32)), .val (.int (f1_149_s0b i1 i2 g)), .unset, .unset, .unset, .unset] [(.int (63 : Int32)), (.int ((g ((nat (i1 + (2 : Int32))))) &&& (255 : Int32))), (.int (((((g ((nat i1))) &&& (255 : Int32)) &&& (7 : Int32)) <<< ((18 : Int32) &&& 31)) ||| ((((g ((nat (i1 + (1 : Int32))))) &&& (255 : Int32)) &&& (63 : Int32)) <<< ((12 : Int32) &&& 31))))])) _
                refine XS.iand X0.here hx rfl (hb hby d1_273) rfl ?_
                show Steps p.tables e below (s₁.setTop (mkF m 274 #[.val (.ref o0), .val (.int i1), .val (.int i2), .val (.int (i2 - i1)), .val (.int ((g ((nat i1))) &&& (255 : Int32))), .val (.int (f1_22_l5 i1 i2 g)), .val (.int ((g ((nat (i1 + (1 : Int32))))) &&& (255 : Int32))), .val (.int ((g ((nat (i1 + (2 : Int32))))) &&& (255 : Int32))), .val (.int (128 : Int32)), .val (.int (f1_149_s0b i1 i2 g)), .unset, .unset, .unset, .unset] [(.int (((g ((nat (i1 + (2 : Int32))))) &&& (255 : Int32)) &&& (63 : Int32))), (.int (((((g ((nat i1))) &&& (255 : Int32)) &&& (7 : Int32)) <<< ((18 : Int32) &&& 31)) ||| ((((g ((nat (i1 + (1 : Int32))))) &&& (255 : Int32)) &&& (63 : Int32)) <<< ((12 : Int32) &&& 31))))])) _
                refine XS.bipush X0.here hx rfl (hb hby d1_274) ?_
                show Steps p.tables e below (s₁.setTop (mkF m 276 #[.val (.ref o0), .val (.int i1), .val (.int i2), .val (.int (i2 - i1)), .val (.int ((g ((nat i1))) &&& (255 : Int32))), .val (.int (f1_22_l5 i1 i2 g)), .val (.int ((g ((nat (i1 + (1 : Int32))))) &&& (255 : Int32))), .val (.int ((g ((nat (i1 + (2 : Int32))))) &&& (255 : Int32))), .val (.int (128 : Int32)), .val (.int (f1_149_s0b i1 i2 g)), .unset, .unset, .unset, .unset] [(.int (6 : Int32)), (.int (((g ((nat (i1 + (2 : Int32))))) &&& (255 : Int32)) &&& (63 : Int32))), (.int (((((g ((nat i1))) &&& (255 : Int32)) &&& (7 : Int32)) <<< ((18 : Int32) &&& 31)) ||| ((((g ((nat (i1 + (1 : Int32))))) &&& (255 : Int32)) &&& (63 : Int32)) <<< ((12 : Int32) &&& 31))))])) _
                refine XS.ishl X0.here hx rfl (hb hby d1_276) rfl ?_
                show Steps p.tables e below (s₁.setTop (mkF m 277 #[.val (.ref o0), .val (.int i1), .val (.int i2), .val (.int (i2 - i1)), .val (.int ((g ((nat i1))) &&& (255 : Int32))), .val (.int (f1_22_l5 i1 i2 g)), .val (.int ((g ((nat (i1 + (1 : Int32))))) &&& (255 : Int32))), .val (.int ((g ((nat (i1 + (2 : Int32))))) &&& (255 : Int32))), .val (.int (128 : Int32)), .val (.int (f1_149_s0b i1 i2 g)), .unset, .unset, .unset, .unset] [(.int ((((g ((nat (i1 + (2 : Int32))))) &&& (255 : Int32)) &&& (63 : Int32)) <<< ((6 : Int32) &&& 31))), (.int (((((g ((nat i1))) &&& (255 : Int32)) &&& (7 : Int32)) <<< ((18 : Int32) &&& 31)) ||| ((((g ((nat (i1 + (1 : Int32))))) &&& (255 : Int32)) &&& (63 : Int32)) <<< ((12 : Int32) &&& 31))))])) _
                refine XS.ior X0.here hx rfl (hb hby d1_277) rfl ?_
                show Steps p.tables e below (s₁.setTop (mkF m 278 #[.val (.ref o0), .val (.int i1), .val (.int i2), .val (.int (i2 - i1)), .val (.int ((g ((nat i1))) &&& (255 : Int32))), .val (.int (f1_22_l5 i1 i2 g)), .val (.int ((g ((nat (i1 + (1 : Int32))))) &&& (255 : Int32))), .val (.int ((g ((nat (i1 + (2 : Int32))))) &&& (255 : Int32))), .val (.int (128 : Int32)), .val (.int (f1_149_s0b i1 i2 g)), .unset, .unset, .unset, .unset] [(.int ((((((g ((nat i1))) &&& (255 : Int32)) &&& (7 : Int32)) <<< ((18 : Int32) &&& 31)) ||| ((((g ((nat (i1 + (1 : Int32))))) &&& (255 : Int32)) &&& (63 : Int32)) <<< ((12 : Int32) &&& 31))) ||| ((((g ((nat (i1 + (2 : Int32))))) &&& (255 : Int32)) &&& (63 : Int32)) <<< ((6 : Int32) &&& 31))))])) _
                refine XS.iload X0.here hx rfl (hb hby d1_278) rfl ?_
                show Steps p.tables e below (s₁.setTop (mkF m 280 #[.val (.ref o0), .val (.int i1), .val (.int i2), .val (.int (i2 - i1)), .val (.int ((g ((nat i1))) &&& (255 : Int32))), .val (.int (f1_22_l5 i1 i2 g)), .val (.int ((g ((nat (i1 + (1 : Int32))))) &&& (255 : Int32))), .val (.int ((g ((nat (i1 + (2 : Int32))))) &&& (255 : Int32))), .val (.int (128 : Int32)), .val (.int (f1_149_s0b i1 i2 g)), .unset, .unset, .unset, .unset] [(.int (128 : Int32)), (.int ((((((g ((nat i1))) &&& (255 : Int32)) &&& (7 : Int32)) <<< ((18 : Int32) &&& 31)) ||| ((((g ((nat (i1 + (1 : Int32))))) &&& (255 : Int32)) &&& (63 : Int32)) <<< ((12 : Int32) &&& 31))) ||| ((((g ((nat (i1 + (2 : Int32))))) &&& (255 : Int32)) &&& (63 : Int32)) <<< ((6 : Int32) &&& 31))))])) _
                refine XS.bipush X0.here hx rfl (hb hby d1_280) ?_
                show Steps p.tables e below (s₁.setTop (mkF m 282 #[.val (.ref o0), .val (.int i1), .val (.int i2), .val (.int (i2 - i1)), .val (.int ((g ((nat i1))) &&& (255 : Int32))), .val (.int (f1_22_l5 i1 i2 g)), .val (.int ((g ((nat (i1 + (1 : Int32))))) &&& (255 : Int32))), .val (.int ((g ((nat (i1 + (2 : Int32))))) &&& (255 : Int32))), .val (.int (128 : Int32)), .val (.int (f1_149_s0b i1 i2 g)), .unset, .unset, .unset, .unset] [(.int (63 : Int32)), (.int (128 : Int32)), (.int ((((((g ((nat i1))) &&& (255 : Int32)) &&& (7 : Int32)) <<< ((18 : Int32) &&& 31)) ||| ((((g ((nat (i1 + (1 : Int32))))) &&& (255 : Int32)) &&& (63 : Int32)) <<< ((12 : Int32) &&& 31))) ||| ((((g ((nat (i1 + (2 : Int32))))) &&& (255 : Int32)) &&& (63 : Int32)) <<< ((6 : Int32) &&& 31))))])) _
                refine XS.iand X0.here hx rfl (hb hby d1_282) rfl ?_
                show Steps p.tables e below (s₁.setTop (mkF m 283 #[.val (.ref o0), .val (.int i1), .val (.int i2), .val (.int (i2 - i1)), .val (.int ((g ((nat i1))) &&& (255 : Int32))), .val (.int (f1_22_l5 i1 i2 g)), .val (.int ((g ((nat (i1 + (1 : Int32))))) &&& (255 : Int32))), .val (.int ((g ((nat (i1 + (2 : Int32))))) &&& (255 : Int32))), .val (.int (128 : Int32)), .val (.int (f1_149_s0b i1 i2 g)), .unset, .unset, .unset, .unset] [(.int (0 : Int32)), (.int ((((((g ((nat i1))) &&& (255 : Int32)) &&& (7 : Int32)) <<< ((18 : Int32) &&& 31)) ||| ((((g ((nat (i1 + (1 : Int32))))) &&& (255 : Int32)) &&& (63 : Int32)) <<< ((12 : Int32) &&& 31))) ||| ((((g ((nat (i1 + (2 : Int32))))) &&& (255 : Int32)) &&& (63 : Int32)) <<< ((6 : Int32) &&& 31))))])) _
                refine XS.ior X0.here hx rfl (hb hby d1_283) rfl ?_
                show Steps p.tables e below (s₁.setTop (mkF m 284 #[.val (.ref o0), .val (.int i1), .val (.int i2), .val (.int (i2 - i1)), .val (.int ((g ((nat i1))) &&& (255 : Int32))), .val (.int (f1_22_l5 i1 i2 g)), .val (.int ((g ((nat (i1 + (1 : Int32))))) &&& (255 : Int32))), .val (.int ((g ((nat (i1 + (2 : Int32))))) &&& (255 : Int32))), .val (.int (128 : Int32)), .val (.int (f1_149_s0b i1 i2 g)), .unset, .unset, .unset, .unset] [(.int (((((((g ((nat i1))) &&& (255 : Int32)) &&& (7 : Int32)) <<< ((18 : Int32) &&& 31)) ||| ((((g ((nat (i1 + (1 : Int32))))) &&& (255 : Int32)) &&& (63 : Int32)) <<< ((12 : Int32) &&& 31))) ||| ((((g ((nat (i1 + (2 : Int32))))) &&& (255 : Int32)) &&& (63 : Int32)) <<< ((6 : Int32) &&& 31))) ||| (0 : Int32)))])) _
                refine XS.istore X0.here hx rfl (hb hby d1_284) rfl (l' := #[.val (.ref o0), .val (.int i1), .val (.int i2), .val (.int (i2 - i1)), .val (.int ((g ((nat i1))) &&& (255 : Int32))), .val (.int (f1_22_l5 i1 i2 g)), .val (.int ((g ((nat (i1 + (1 : Int32))))) &&& (255 : Int32))), .val (.int ((g ((nat (i1 + (2 : Int32))))) &&& (255 : Int32))), .val (.int (128 : Int32)), .val (.int (f1_149_s0b i1 i2 g)), .val (.int (f1_v284b i1 i2 g)), .unset, .unset, .unset]) rfl ?_
                show Steps p.tables e below (s₁.setTop (mkF m 286 #[.val (.ref o0), .val (.int i1), .val (.int i2), .val (.int (i2 - i1)), .val (.int ((g ((nat i1))) &&& (255 : Int32))), .val (.int (f1_22_l5 i1 i2 g)), .val (.int ((g ((nat (i1 + (1 : Int32))))) &&& (255 : Int32))), .val (.int ((g ((nat (i1 + (2 : Int32))))) &&& (255 : Int32))), .val (.int (128 : Int32)), .val (.int (f1_149_s0b i1 i2 g)), .val (.int (f1_v284b i1 i2 g)), .unset, .unset, .unset] [])) _
                refine X0.ldcInt hx hown (mvT hZ (hw _ (List.mem_of_getElem? (i := 12) rfl))) (g := (mkF m 286 #[.val (.ref o0), .val (.int i1), .val (.int i2), .val (.int (i2 - i1)), .val (.int ((g ((nat i1))) &&& (255 : Int32))), .val (.int (f1_22_l5 i1 i2 g)), .val (.int ((g ((nat (i1 + (1 : Int32))))) &&& (255 : Int32))), .val (.int ((g ((nat (i1 + (2 : Int32))))) &&& (255 : Int32))), .val (.int (128 : Int32)), .val (.int (f1_149_s0b i1 i2 g)), .val (.int (f1_v284b i1 i2 g)), .unset, .unset, .unset] [])) rfl (hb hby d1_286) _ ?_
                show Steps p.tables e below (s₁.setTop (mkF m 288 #[.val (.ref o0), .val (.int i1), .val (.int i2), .val (.int (i2 - i1)), .val (.int ((g ((nat i1))) &&& (255 : Int32))), .val (.int (f1_22_l5 i1 i2 g)), .val (.int ((g ((nat (i1 + (1 : Int32))))) &&& (255 : Int32))), .val (.int ((g ((nat (i1 + (2 : Int32))))) &&& (255 : Int32))), .val (.int (128 : Int32)), .val (.int (f1_149_s0b i1 i2 g)), .val (.int (f1_v284b i1 i2 g)), .unset, .unset, .unset] [(.int (65536 : Int32))])) _
                refine XS.istore X0.here hx rfl (hb hby d1_288) rfl (l' := #[.val (.ref o0), .val (.int i1), .val (.int i2), .val (.int (i2 - i1)), .val (.int ((g ((nat i1))) &&& (255 : Int32))), .val (.int (f1_22_l5 i1 i2 g)), .val (.int ((g ((nat (i1 + (1 : Int32))))) &&& (255 : Int32))), .val (.int ((g ((nat (i1 + (2 : Int32))))) &&& (255 : Int32))), .val (.int (128 : Int32)), .val (.int (f1_149_s0b i1 i2 g)), .val (.int (f1_v284b i1 i2 g)), .val (.int (65536 : Int32)), .unset, .unset]) rfl ?_
                show Steps p.tables e below (s₁.setTop (mkF m 290 #[.val (.ref o0), .val (.int i1), .val (.int i2), .val (.int (i2 - i1)), .val (.int ((g ((nat i1))) &&& (255 : Int32))), .val (.int (f1_22_l5 i1 i2 g)), .val (.int ((g ((nat (i1 + (1 : Int32))))) &&& (255 : Int32))), .val (.int ((g ((nat (i1 + (2 : Int32))))) &&& (255 : Int32))), .val (.int (128 : Int32)), .val (.int (f1_149_s0b i1 i2 g)), .val (.int (f1_v284b i1 i2 g)), .val (.int (65536 : Int32)), .unset, .unset] [])) _
                rw [show (f1_186_l10b i1 i2 g) = (f1_v284b i1 i2 g) from ((if_neg hc186).trans (if_neg hc216)), show (f1_186_l11 i1 i2 g) = (65536 : Int32) from ((if_neg hc186).trans (if_neg hc216))] at k
                exact k
          refine Outs.of (U' := s₁.setTop (mkF m 309 #[.val (.ref o0), .val (.int i1), .val (.int i2), .val (.int (i2 - i1)), .val (.int ((g ((nat i1))) &&& (255 : Int32))), .val (.int (f1_22_l5 i1 i2 g)), .val (.int ((g ((nat (i1 + (1 : Int32))))) &&& (255 : Int32))), .val (.int ((g ((nat (i1 + (2 : Int32))))) &&& (255 : Int32))), .val (.int (128 : Int32)), .val (.int (f1_149_s0b i1 i2 g)), .val (.int (f1_186_l10b i1 i2 g)), .val (.int (f1_186_l11 i1 i2 g)), .unset, .unset] [(.int (f1_294_s0b i1 i2 g))])) (fun t k => ?_) ?_
          · refine XS.iload X0.here hx rfl (hb hby d1_290) rfl ?_
            show Steps p.tables e below (s₁.setTop (mkF m 292 #[.val (.ref o0), .val (.int i1), .val (.int i2), .val (.int (i2 - i1)), .val (.int ((g ((nat i1))) &&& (255 : Int32))), .val (.int (f1_22_l5 i1 i2 g)), .val (.int ((g ((nat (i1 + (1 : Int32))))) &&& (255 : Int32))), .val (.int ((g ((nat (i1 + (2 : Int32))))) &&& (255 : Int32))), .val (.int (128 : Int32)), .val (.int (f1_149_s0b i1 i2 g)), .val (.int (f1_186_l10b i1 i2 g)), .val (.int (f1_186_l11 i1 i2 g)), .unset, .unset] [(.int (f1_186_l10b i1 i2 g))])) _
            refine X0.ldcInt hx hown (mvT hZ (hw _ (List.mem_of_getElem? (i := 9) rfl))) (g := (mkF m 292 #[.val (.ref o0), .val (.int i1), .val (.int i2), .val (.int (i2 - i1)), .val (.int ((g ((nat i1))) &&& (255 : Int32))), .val (.int (f1_22_l5 i1 i2 g)), .val (.int ((g ((nat (i1 + (1 : Int32))))) &&& (255 : Int32))), .val (.int ((g ((nat (i1 + (2 : Int32))))) &&& (255 : Int32))), .val (.int (128 : Int32)), .val (.int (f1_149_s0b i1 i2 g)), .val (.int (f1_186_l10b i1 i2 g)), .val (.int (f1_186_l11 i1 i2 g)), .unset, .unset] [(.int (f1_186_l10b i1 i2 g))])) rfl (hb hby d1_292) _ ?_
            show Steps p.tables e below (s₁.setTop (mkF m 294 #[.val (.ref o0), .val (.int i1), .val (.int i2), .val (.int (i2 - i1)), .val (.int ((g ((nat i1))) &&& (255 : Int32))), .val (.int (f1_22_l5 i1 i2 g)), .val (.int ((g ((nat (i1 + (1 : Int32))))) &&& (255 : Int32))), .val (.int ((g ((nat (i1 + (2 : Int32))))) &&& (255 : Int32))), .val (.int (128 : Int32)), .val (.int (f1_149_s0b i1 i2 g)), .val (.int (f1_186_l10b i1 i2 g)), .val (.int (f1_186_l11 i1 i2 g)), .unset, .unset] [(.int (55296 : Int32)), (.int (f1_186_l10b i1 i2 g))])) _
            by_cases hc294 : (f1_186_l10b i1 i2 g) < (55296 : Int32)
            · refine XS.icmpYes X0.here hx rfl (pc0 := 294) (pc' := 308) rfl (hb hby d1_294) rfl (tlt hc294).1 (by decide) (by decide) ?_
              show Steps p.tables e below (s₁.setTop (mkF m 308 #[.val (.ref o0), .val (.int i1), .val (.int i2), .val (.int (i2 - i1)), .val (.int ((g ((nat i1))) &&& (255 : Int32))), .val (.int (f1_22_l5 i1 i2 g)), .val (.int ((g ((nat (i1 + (1 : Int32))))) &&& (255 : Int32))), .val (.int ((g ((nat (i1 + (2 : Int32))))) &&& (255 : Int32))), .val (.int (128 : Int32)), .val (.int (f1_149_s0b i1 i2 g)), .val (.int (f1_186_l10b i1 i2 g)), .val (.int (f1_186_l11 i1 i2 g)), .unset, .unset] [])) _
              refine XS.iconst X0.here hx rfl (hb hby d1_308) ?_
              show Steps p.tables e below (s₁.setTop (mkF m 309 #[.val (.ref o0), .val (.int i1), .val (.int i2), .val (.int (i2 - i1)), .val (.int ((g ((nat i1))) &&& (255 : Int32))), .val (.int (f1_22_l5 i1 i2 g)), .val (.int ((g ((nat (i1 + (1 : Int32))))) &&& (255 : Int32))), .val (.int ((g ((nat (i1 + (2 : Int32))))) &&& (255 : Int32))), .val (.int (128 : Int32)), .val (.int (f1_149_s0b i1 i2 g)), .val (.int (f1_186_l10b i1 i2 g)), .val (.int (f1_186_l11 i1 i2 g)), .unset, .unset] [(.int (0 : Int32))])) _
              rw [show (f1_294_s0b i1 i2 g) = (0 : Int32) from (if_pos hc294)] at k
              exact k
            · refine XS.icmpNo X0.here hx rfl (hb hby d1_294) rfl (flt hc294).1 ?_
              show Steps p.tables e below (s₁.setTop (mkF m 297 #[.val (.ref o0), .val (.int i1), .val (.int i2), .val (.int (i2 - i1)), .val (.int ((g ((nat i1))) &&& (255 : Int32))), .val (.int (f1_22_l5 i1 i2 g)), .val (.int ((g ((nat (i1 + (1 : Int32))))) &&& (255 : Int32))), .val (.int ((g ((nat (i1 + (2 : Int32))))) &&& (255 : Int32))), .val (.int (128 : Int32)), .val (.int (f1_149_s0b i1 i2 g)), .val (.int (f1_186_l10b i1 i2 g)), .val (.int (f1_186_l11 i1 i2 g)), .unset, .unset] [])) _
              refine XS.iload X0.here hx rfl (hb hby d1_297) rfl ?_
              show Steps p.tables e below (s₁.setTop (mkF m 299 #[.val (.ref o0), .val (.int i1), .val (.int i2), .val (.int (i2 - i1)), .val (.int ((g ((nat i1))) &&& (255 : Int32))), .val (.int (f1_22_l5 i1 i2 g)), .val (.int ((g ((nat (i1 + (1 : Int32))))) &&& (255 : Int32))), .val (.int ((g ((nat (i1 + (2 : Int32))))) &&& (255 : Int32))), .val (.int (128 : Int32)), .val (.int (f1_149_s0b i1 i2 g)), .val (.int (f1_186_l10b i1 i2 g)), .val (.int (f1_186_l11 i1 i2 g)), .unset, .unset] [(.int (f1_186_l10b i1 i2 g))])) _
              refine X0.ldcInt hx hown (mvT hZ (hw _ (List.mem_of_getElem? (i := 11) rfl))) (g := (mkF m 299 #[.val (.ref o0), .val (.int i1), .val (.int i2), .val (.int (i2 - i1)), .val (.int ((g ((nat i1))) &&& (255 : Int32))), .val (.int (f1_22_l5 i1 i2 g)), .val (.int ((g ((nat (i1 + (1 : Int32))))) &&& (255 : Int32))), .val (.int ((g ((nat (i1 + (2 : Int32))))) &&& (255 : Int32))), .val (.int (128 : Int32)), .val (.int (f1_149_s0b i1 i2 g)), .val (.int (f1_186_l10b i1 i2 g)), .val (.int (f1_186_l11 i1 i2 g)), .unset, .unset] [(.int (f1_186_l10b i1 i2 g))])) rfl (hb hby d1_299) _ ?_
              show Steps p.tables e below (s₁.setTop (mkF m 301 #[.val (.ref o0), .val (.int i1), .val (.int i2), .val (.int (i2 - i1)), .val (.int ((g ((nat i1))) &&& (255 : Int32))), .val (.int (f1_22_l5 i1 i2 g)), .val (.int ((g ((nat (i1 + (1 : Int32))))) &&& (255 : Int32))), .val (.int ((g ((nat (i1 + (2 : Int32))))) &&& (255 : Int32))), .val (.int (128 : Int32)), .val (.int (f1_149_s0b i1 i2 g)), .val (.int (f1_186_l10b i1 i2 g)), .val (.int (f1_186_l11 i1 i2 g)), .unset, .unset] [(.int (57343 : Int32)), (.int (f1_186_l10b i1 i2 g))])) _
              by_cases hc301 : (57343 : Int32) < (f1_186_l10b i1 i2 g)
              · refine XS.icmpYes X0.here hx rfl (pc0 := 301) (pc' := 308) rfl (hb hby d1_301) rfl (tlt hc301).2.2.1 (by decide) (by decide) ?_
                show Steps p.tables e below (s₁.setTop (mkF m 308 #[.val (.ref o0), .val (.int i1), .val (.int i2), .val (.int (i2 - i1)), .val (.int ((g ((nat i1))) &&& (255 : Int32))), .val (.int (f1_22_l5 i1 i2 g)), .val (.int ((g ((nat (i1 + (1 : Int32))))) &&& (255 : Int32))), .val (.int ((g ((nat (i1 + (2 : Int32))))) &&& (255 : Int32))), .val (.int (128 : Int32)), .val (.int (f1_149_s0b i1 i2 g)), .val (.int (f1_186_l10b i1 i2 g)), .val (.int (f1_186_l11 i1 i2 g)), .unset, .unset] [])) _
                refine XS.iconst X0.here hx rfl (hb hby d1_308) ?_
                show Steps p.tables e below (s₁.setTop (mkF m 309 #[.val (.ref o0), .val (.int i1), .val (.int i2), .val (.int (i2 - i1)), .val (.int ((g ((nat i1))) &&& (255 : Int32))), .val (.int (f1_22_l5 i1 i2 g)), .val (.int ((g ((nat (i1 + (1 : Int32))))) &&& (255 : Int32))), .val (.int ((g ((nat (i1 + (2 : Int32))))) &&& (255 : Int32))), .val (.int (128 : Int32)), .val (.int (f1_149_s0b i1 i2 g)), .val (.int (f1_186_l10b i1 i2 g)), .val (.int (f1_186_l11 i1 i2 g)), .unset, .unset] [(.int (0 : Int32))])) _
                rw [show (f1_294_s0b i1 i2 g) = (0 : Int32) from ((if_neg hc294).trans (if_pos hc301))] at k
                exact k
              · refine XS.icmpNo X0.here hx rfl (hb hby d1_301) rfl (flt hc301).2.2.1 ?_
                show Steps p.tables e below (s₁.setTop (mkF m 304 #[.val (.ref o0), .val (.int i1), .val (.int i2), .val (.int (i2 - i1)), .val (.int ((g ((nat i1))) &&& (255 : Int32))), .val (.int (f1_22_l5 i1 i2 g)), .val (.int ((g ((nat (i1 + (1 : Int32))))) &&& (255 : Int32))), .val (.int ((g ((nat (i1 + (2 : Int32))))) &&& (255 : Int32))), .val (.int (128 : Int32)), .val (.int (f1_149_s0b i1 i2 g)), .val (.int (f1_186_l10b i1 i2 g)), .val (.int (f1_186_l11 i1 i2 g)), .unset, .unset] [])) _
                refine XS.iconst X0.here hx rfl (hb hby d1_304) ?_
                show Steps p.tables e below (s₁.setTop (mkF m 305 #[.val (.ref o0), .val (.int i1), .val (.int i2), .val (.int (i2 - i1)), .val (.int ((g ((nat i1))) &&& (255 : Int32))), .val (.int (f1_22_l5 i1 i2 g)), .val (.int ((g ((nat (i1 + (1 : Int32))))) &&& (255 : Int32))), .val (.int ((g ((nat (i1 + (2 : Int32))))) &&& (255 : Int32))), .val (.int (128 : Int32)), .val (.int (f1_149_s0b i1 i2 g)), .val (.int (f1_186_l10b i1 i2 g)), .val (.int (f1_186_l11 i1 i2 g)), .unset, .unset] [(.int (1 : Int32))])) _
                refine XS.goto X0.here hx rfl (pc0 := 305) (pc' := 309) rfl (hb hby d1_305) (by decide) (by decide) ?_
                show Steps p.tables e below (s₁.setTop (mkF m 309 #[.val (.ref o0), .val (.int i1), .val (.int i2), .val (.int (i2 - i1)), .val (.int ((g ((nat i1))) &&& (255 : Int32))), .val (.int (f1_22_l5 i1 i2 g)), .val (.int ((g ((nat (i1 + (1 : Int32))))) &&& (255 : Int32))), .val (.int ((g ((nat (i1 + (2 : Int32))))) &&& (255 : Int32))), .val (.int (128 : Int32)), .val (.int (f1_149_s0b i1 i2 g)), .val (.int (f1_186_l10b i1 i2 g)), .val (.int (f1_186_l11 i1 i2 g)), .unset, .unset] [(.int (1 : Int32))])) _
                rw [show (f1_294_s0b i1 i2 g) = (1 : Int32) from ((if_neg hc294).trans (if_neg hc301))] at k
                exact k
          refine Outs.of (U' := s₁.setTop (mkF m 340 #[.val (.ref o0), .val (.int i1), .val (.int i2), .val (.int (i2 - i1)), .val (.int ((g ((nat i1))) &&& (255 : Int32))), .val (.int (f1_22_l5 i1 i2 g)), .val (.int ((g ((nat (i1 + (1 : Int32))))) &&& (255 : Int32))), .val (.int ((g ((nat (i1 + (2 : Int32))))) &&& (255 : Int32))), .val (.int (128 : Int32)), .val (.int (f1_149_s0b i1 i2 g)), .val (.int (f1_186_l10b i1 i2 g)), .val (.int (f1_186_l11 i1 i2 g)), .val (.int (f1_294_s0b i1 i2 g)), .unset] [(.int (f1_313_s0b i1 i2 g))])) (fun t k => ?_) ?_
          · refine XS.istore X0.here hx rfl (hb hby d1_309) rfl (l' := #[.val (.ref o0), .val (.int i1), .val (.int i2), .val (.int (i2 - i1)), .val (.int ((g ((nat i1))) &&& (255 : Int32))), .val (.int (f1_22_l5 i1 i2 g)), .val (.int ((g ((nat (i1 + (1 : Int32))))) &&& (255 : Int32))), .val (.int ((g ((nat (i1 + (2 : Int32))))) &&& (255 : Int32))), .val (.int (128 : Int32)), .val (.int (f1_149_s0b i1 i2 g)), .val (.int (f1_186_l10b i1 i2 g)), .val (.int (f1_186_l11 i1 i2 g)), .val (.int (f1_294_s0b i1 i2 g)), .unset]) rfl ?_
            show Steps p.tables e below (s₁.setTop (mkF m 311 #[.val (.ref o0), .val (.int i1), .val (.int i2), .val (.int (i2 - i1)), .val (.int ((g ((nat i1))) &&& (255 : Int32))), .val (.int (f1_22_l5 i1 i2 g)), .val (.int ((g ((nat (i1 + (1 : Int32))))) &&& (255 : Int32))), .val (.int ((g ((nat (i1 + (2 : Int32))))) &&& (255 : Int32))), .val (.int (128 : Int32)), .val (.int (f1_149_s0b i1 i2 g)), .val (.int (f1_186_l10b i1 i2 g)), .val (.int (f1_186_l11 i1 i2 g)), .val (.int (f1_294_s0b i1 i2 g)), .unset] [])) _
            refine XS.iload X0.here hx rfl (hb hby d1_311) rfl ?_
            show Steps p.tables e below (s₁.setTop (mkF m 313 #[.val (.ref o0), .val (.int i1), .val (.int i2), .val (.int (i2 - i1)), .val (.int ((g ((nat i1))) &&& (255 : Int32))), .val (.int (f1_22_l5 i1 i2 g)), .val (.int ((g ((nat (i1 + (1 : Int32))))) &&& (255 : Int32))), .val (.int ((g ((nat (i1 + (2 : Int32))))) &&& (255 : Int32))), .val (.int (128 : Int32)), .val (.int (f1_149_s0b i1 i2 g)), .val (.int (f1_186_l10b i1 i2 g)), .val (.int (f1_186_l11 i1 i2 g)), .val (.int (f1_294_s0b i1 i2 g)), .unset] [(.int (f1_149_s0b i1 i2 g))])) _
            by_cases hc313 : (f1_149_s0b i1 i2 g) = (0 : Int32)
            · refine XS.ifYes X0.here hx rfl (pc0 := 313) (pc' := 339) rfl (hb hby d1_313) rfl ((if0 _ _).trans (teq hc313).1) (by decide) (by decide) ?_
              show Steps p.tables e below (s₁.setTop (mkF m 339 #[.val (.ref o0), .val (.int i1), .val (.int i2), .val (.int (i2 - i1)), .val (.int ((g ((nat i1))) &&& (255 : Int32))), .val (.int (f1_22_l5 i1 i2 g)), .val (.int ((g ((nat (i1 + (1 : Int32))))) &&& (255 : Int32))), .val (.int ((g ((nat (i1 + (2 : Int32))))) &&& (255 : Int32))), .val (.int (128 : Int32)), .val (.int (f1_149_s0b i1 i2 g)), .val (.int (f1_186_l10b i1 i2 g)), .val (.int (f1_186_l11 i1 i2 g)), .val (.int (f1_294_s0b i1 i2 g)), .unset] [])) _
              refine XS.iconst X0.here hx rfl (hb hby d1_339) ?_
              show Steps p.tables e below (s₁.setTop (mkF m 340 #[.val (.ref o0), .val (.int i1), .val (.int i2), .val (.int (i2 - i1)), .val (.int ((g ((nat i1))) &&& (255 : Int32))), .val (.int (f1_22_l5 i1 i2 g)), .val (.int ((g ((nat (i1 + (1 : Int32))))) &&& (255 : Int32))), .val (.int ((g ((nat (i1 + (2 : Int32))))) &&& (255 : Int32))), .val (.int (128 : Int32)), .val (.int (f1_149_s0b i1 i2 g)), .val (.int (f1_186_l10b i1 i2 g)), .val (.int (f1_186_l11 i1 i2 g)), .val (.int (f1_294_s0b i1 i2 g)), .unset] [(.int (0 : Int32))])) _
              rw [show (f1_313_s0b i1 i2 g) = (0 : Int32) from (if_pos hc313)] at k
              exact k
            · refine XS.ifNo X0.here hx rfl (hb hby d1_313) rfl ((if0 _ _).trans (feq hc313).1) ?_
              show Steps p.tables e below (s₁.setTop (mkF m 316 #[.val (.ref o0), .val (.int i1), .val (.int i2), .val (.int (i2 - i1)), .val (.int ((g ((nat i1))) &&& (255 : Int32))), .val (.int (f1_22_l5 i1 i2 g)), .val (.int ((g ((nat (i1 + (1 : Int32))))) &&& (255 : Int32))), .val (.int ((g ((nat (i1 + (2 : Int32))))) &&& (255 : Int32))), .val (.int (128 : Int32)), .val (.int (f1_149_s0b i1 i2 g)), .val (.int (f1_186_l10b i1 i2 g)), .val (.int (f1_186_l11 i1 i2 g)), .val (.int (f1_294_s0b i1 i2 g)), .unset] [])) _
              refine XS.iload X0.here hx rfl (hb hby d1_316) rfl ?_
              show Steps p.tables e below (s₁.setTop (mkF m 318 #[.val (.ref o0), .val (.int i1), .val (.int i2), .val (.int (i2 - i1)), .val (.int ((g ((nat i1))) &&& (255 : Int32))), .val (.int (f1_22_l5 i1 i2 g)), .val (.int ((g ((nat (i1 + (1 : Int32))))) &&& (255 : Int32))), .val (.int ((g ((nat (i1 + (2 : Int32))))) &&& (255 : Int32))), .val (.int (128 : Int32)), .val (.int (f1_149_s0b i1 i2 g)), .val (.int (f1_186_l10b i1 i2 g)), .val (.int (f1_186_l11 i1 i2 g)), .val (.int (f1_294_s0b i1 i2 g)), .unset] [(.int (f1_186_l10b i1 i2 g))])) _
              refine XS.iload X0.here hx rfl (hb hby d1_318) rfl ?_
              show Steps p.tables e below (s₁.setTop (mkF m 320 #[.val (.ref o0), .val (.int i1), .val (.int i2), .val (.int (i2 - i1)), .val (.int ((g ((nat i1))) &&& (255 : Int32))), .val (.int (f1_22_l5 i1 i2 g)), .val (.int ((g ((nat (i1 + (1 : Int32))))) &&& (255 : Int32))), .val (.int ((g ((nat (i1 + (2 : Int32))))) &&& (255 : Int32))), .val (.int (128 : Int32)), .val (.int (f1_149_s0b i1 i2 g)), .val (.int (f1_186_l10b i1 i2 g)), .val (.int (f1_186_l11 i1 i2 g)), .val (.int (f1_294_s0b i1 i2 g)), .unset] [(.int (f1_186_l11 i1 i2 g)), (.int (f1_186_l10b i1 i2 g))])) _
              by_cases hc320 : (f1_186_l10b i1 i2 g) < (f1_186_l11 i1 i2 g)
              · refine XS.icmpYes X0.here hx rfl (pc0 := 320) (pc' := 339) rfl (hb hby d1_320) rfl (tlt hc320).1 (by decide) (by decide) ?_
                show Steps p.tables e below (s₁.setTop (mkF m 339 #[.val (.ref o0), .val (.int i1), .val (.int i2), .val (.int (i2 - i1)), .val (.int ((g ((nat i1))) &&& (255 : Int32))), .val (.int (f1_22_l5 i1 i2 g)), .val (.int ((g ((nat (i1 + (1 : Int32))))) &&& (255 : Int32))), .val (.int ((g ((nat (i1 + (2 : Int32))))) &&& (255 : Int32))), .val (.int (128 : Int32)), .val (.int (f1_149_s0b i1 i2 g)), .val (.int (f1_186_l10b i1 i2 g)), .val (.int (f1_186_l11 i1 i2 g)), .val (.int (f1_294_s0b i1 i2 g)), .unset] [])) _
                refine XS.iconst X0.here hx rfl (hb hby d1_339) ?_
                show Steps p.tables e below (s₁.setTop (mkF m 340 #[.val (.ref o0), .val (.int i1), .val (.int i2), .val (.int (i2 - i1)), .val (.int ((g ((nat i1))) &&& (255 : Int32))), .val (.int (f1_22_l5 i1 i2 g)), .val (.int ((g ((nat (i1 + (1 : Int32))))) &&& (255 : Int32))), .val (.int ((g ((nat (i1 + (2 : Int32))))) &&& (255 : Int32))), .val (.int (128 : Int32)), .val (.int (f1_149_s0b i1 i2 g)), .val (.int (f1_186_l10b i1 i2 g)), .val (.int (f1_186_l11 i1 i2 g)), .val (.int (f1_294_s0b i1 i2 g)), .unset] [(.int (0 : Int32))])) _
                rw [show (f1_313_s0b i1 i2 g) = (0 : Int32) from ((if_neg hc313).trans (if_pos hc320))] at k
                exact k
              · refine XS.icmpNo X0.here hx rfl (hb hby d1_320) rfl (flt hc320).1 ?_
                show Steps p.tables e below (s₁.setTop (mkF m 323 #[.val (.ref o0), .val (.int i1), .val (.int i2), .val (.int (i2 - i1)), .val (.int ((g ((nat i1))) &&& (255 : Int32))), .val (.int (f1_22_l5 i1 i2 g)), .val (.int ((g ((nat (i1 + (1 : Int32))))) &&& (255 : Int32))), .val (.int ((g ((nat (i1 + (2 : Int32))))) &&& (255 : Int32))), .val (.int (128 : Int32)), .val (.int (f1_149_s0b i1 i2 g)), .val (.int (f1_186_l10b i1 i2 g)), .val (.int (f1_186_l11 i1 i2 g)), .val (.int (f1_294_s0b i1 i2 g)), .unset] [])) _
                refine XS.iload X0.here hx rfl (hb hby d1_323) rfl ?_
                show Steps p.tables e below (s₁.setTop (mkF m 325 #[.val (.ref o0), .val (.int i1), .val (.int i2), .val (.int (i2 - i1)), .val (.int ((g ((nat i1))) &&& (255 : Int32))), .val (.int (f1_22_l5 i1 i2 g)), .val (.int ((g ((nat (i1 + (1 : Int32))))) &&& (255 : Int32))), .val (.int ((g ((nat (i1 + (2 : Int32))))) &&& (255 : Int32))), .val (.int (128 : Int32)), .val (.int (f1_149_s0b i1 i2 g)), .val (.int (f1_186_l10b i1 i2 g)), .val (.int (f1_186_l11 i1 i2 g)), .val (.int (f1_294_s0b i1 i2 g)), .unset] [(.int (f1_186_l10b i1 i2 g))])) _
                refine X0.ldcInt hx hown (mvT hZ (hw _ (List.mem_of_getElem? (i := 10) rfl))) (g := (mkF m 325 #[.val (.ref o0), .val (.int i1), .val (.int i2), .val (.int (i2 - i1)), .val (.int ((g ((nat i1))) &&& (255 : Int32))), .val (.int (f1_22_l5 i1 i2 g)), .val (.int ((g ((nat (i1 + (1 : Int32))))) &&& (255 : Int32))), .val (.int ((g ((nat (i1 + (2 : Int32))))) &&& (255 : Int32))), .val (.int (128 : Int32)), .val (.int (f1_149_s0b i1 i2 g)), .val (.int (f1_186_l10b i1 i2 g)), .val (.int (f1_186_l11 i1 i2 g)), .val (.int (f1_294_s0b i1 i2 g)), .unset] [(.int (f1_186_l10b i1 i2 g))])) rfl (hb hby d1_325) _ ?_
                show Steps p.tables e below (s₁.setTop (mkF m 327 #[.val (.ref o0), .val (.int i1), .val (.int i2), .val (.int (i2 - i1)), .val (.int ((g ((nat i1))) &&& (255 : Int32))), .val (.int (f1_22_l5 i1 i2 g)), .val (.int ((g ((nat (i1 + (1 : Int32))))) &&& (255 : Int32))), .val (.int ((g ((nat (i1 + (2 : Int32))))) &&& (255 : Int32))), .val (.int (128 : Int32)), .val (.int (f1_149_s0b i1 i2 g)), .val (.int (f1_186_l10b i1 i2 g)), .val (.int (f1_186_l11 i1 i2 g)), .val (.int (f1_294_s0b i1 i2 g)), .unset] [(.int (1114111 : Int32)), (.int (f1_186_l10b i1 i2 g))])) _
                by_cases hc327 : (1114111 : Int32) < (f1_186_l10b i1 i2 g)
                · refine XS.icmpYes X0.here hx rfl (pc0 := 327) (pc' := 339) rfl (hb hby d1_327) rfl (tlt hc327).2.2.1 (by decide) (by decide) ?_
                  show Steps p.tables e below (s₁.setTop (mkF m 339 #[.val (.ref o0), .val (.int i1), .val (.int i2), .val (.int (i2 - i1)), .val (.int ((g ((nat i1))) &&& (255 : Int32))), .val (.int (f1_22_l5 i1 i2 g)), .val (.int ((g ((nat (i1 + (1 : Int32))))) &&& (255 : Int32))), .val (.int ((g ((nat (i1 + (2 : Int32))))) &&& (255 : Int32))), .val (.int (128 : Int32)), .val (.int (f1_149_s0b i1 i2 g)), .val (.int (f1_186_l10b i1 i2 g)), .val (.int (f1_186_l11 i1 i2 g)), .val (.int (f1_294_s0b i1 i2 g)), .unset] [])) _
                  refine XS.iconst X0.here hx rfl (hb hby d1_339) ?_
                  show Steps p.tables e below (s₁.setTop (mkF m 340 #[.val (.ref o0), .val (.int i1), .val (.int i2), .val (.int (i2 - i1)), .val (.int ((g ((nat i1))) &&& (255 : Int32))), .val (.int (f1_22_l5 i1 i2 g)), .val (.int ((g ((nat (i1 + (1 : Int32))))) &&& (255 : Int32))), .val (.int ((g ((nat (i1 + (2 : Int32))))) &&& (255 : Int32))), .val (.int (128 : Int32)), .val (.int (f1_149_s0b i1 i2 g)), .val (.int (f1_186_l10b i1 i2 g)), .val (.int (f1_186_l11 i1 i2 g)), .val (.int (f1_294_s0b i1 i2 g)), .unset] [(.int (0 : Int32))])) _
                  rw [show (f1_313_s0b i1 i2 g) = (0 : Int32) from ((if_neg hc313).trans ((if_neg hc320).trans (if_pos hc327)))] at k
                  exact k
                · refine XS.icmpNo X0.here hx rfl (hb hby d1_327) rfl (flt hc327).2.2.1 ?_
                  show Steps p.tables e below (s₁.setTop (mkF m 330 #[.val (.ref o0), .val (.int i1), .val (.int i2), .val (.int (i2 - i1)), .val (.int ((g ((nat i1))) &&& (255 : Int32))), .val (.int (f1_22_l5 i1 i2 g)), .val (.int ((g ((nat (i1 + (1 : Int32))))) &&& (255 : Int32))), .val (.int ((g ((nat (i1 + (2 : Int32))))) &&& (255 : Int32))), .val (.int (128 : Int32)), .val (.int (f1_149_s0b i1 i2 g)), .val (.int (f1_186_l10b i1 i2 g)), .val (.int (f1_186_l11 i1 i2 g)), .val (.int (f1_294_s0b i1 i2 g)), .unset] [])) _
                  refine XS.iload X0.here hx rfl (hb hby d1_330) rfl ?_
                  show Steps p.tables e below (s₁.setTop (mkF m 332 #[.val (.ref o0), .val (.int i1), .val (.int i2), .val (.int (i2 - i1)), .val (.int ((g ((nat i1))) &&& (255 : Int32))), .val (.int (f1_22_l5 i1 i2 g)), .val (.int ((g ((nat (i1 + (1 : Int32))))) &&& (255 : Int32))), .val (.int ((g ((nat (i1 + (2 : Int32))))) &&& (255 : Int32))), .val (.int (128 : Int32)), .val (.int (f1_149_s0b i1 i2 g)), .val (.int (f1_186_l10b i1 i2 g)), .val (.int (f1_186_l11 i1 i2 g)), .val (.int (f1_294_s0b i1 i2 g)), .unset] [(.int (f1_294_s0b i1 i2 g))])) _
                  by_cases hc332 : (f1_294_s0b i1 i2 g) = (0 : Int32)
                  · refine XS.ifNo X0.here hx rfl (hb hby d1_332) rfl ((if0 _ _).trans (teq hc332).2) ?_
                    show Steps p.tables e below (s₁.setTop (mkF m 335 #[.val (.ref o0), .val (.int i1), .val (.int i2), .val (.int (i2 - i1)), .val (.int ((g ((nat i1))) &&& (255 : Int32))), .val (.int (f1_22_l5 i1 i2 g)), .val (.int ((g ((nat (i1 + (1 : Int32))))) &&& (255 : Int32))), .val (.int ((g ((nat (i1 + (2 : Int32))))) &&& (255 : Int32))), .val (.int (128 : Int32)), .val (.int (f1_149_s0b i1 i2 g)), .val (.int (f1_186_l10b i1 i2 g)), .val (.int (f1_186_l11 i1 i2 g)), .val (.int (f1_294_s0b i1 i2 g)), .unset] [])) _
                    refine XS.iconst X0.here hx rfl (hb hby d1_335) ?_
                    show Steps p.tables e below (s₁.setTop (mkF m 336 #[.val (.ref o0), .val (.int i1), .val (.int i2), .val (.int (i2 - i1)), .val (.int ((g ((nat i1))) &&& (255 : Int32))), .val (.int (f1_22_l5 i1 i2 g)), .val (.int ((g ((nat (i1 + (1 : Int32))))) &&& (255 : Int32))), .val (.int ((g ((nat (i1 + (2 : Int32))))) &&& (255 : Int32))), .val (.int (128 : Int32)), .val (.int (f1_149_s0b i1 i2 g)), .val (.int (f1_186_l10b i1 i2 g)), .val (.int (f1_186_l11 i1 i2 g)), .val (.int (f1_294_s0b i1 i2 g)), .unset] [(.int (1 : Int32))])) _
                    refine XS.goto X0.here hx rfl (pc0 := 336) (pc' := 340) rfl (hb hby d1_336) (by decide) (by decide) ?_
                    show Steps p.tables e below (s₁.setTop (mkF m 340 #[.val (.ref o0), .val (.int i1), .val (.int i2), .val (.int (i2 - i1)), .val (.int ((g ((nat i1))) &&& (255 : Int32))), .val (.int (f1_22_l5 i1 i2 g)), .val (.int ((g ((nat (i1 + (1 : Int32))))) &&& (255 : Int32))), .val (.int ((g ((nat (i1 + (2 : Int32))))) &&& (255 : Int32))), .val (.int (128 : Int32)), .val (.int (f1_149_s0b i1 i2 g)), .val (.int (f1_186_l10b i1 i2 g)), .val (.int (f1_186_l11 i1 i2 g)), .val (.int (f1_294_s0b i1 i2 g)), .unset] [(.int (1 : Int32))])) _
                    rw [show (f1_313_s0b i1 i2 g) = (1 : Int32) from ((if_neg hc313).trans ((if_neg hc320).trans ((if_neg hc327).trans (if_pos hc332))))] at k
                    exact k
                  · refine XS.ifYes X0.here hx rfl (pc0 := 332) (pc' := 339) rfl (hb hby d1_332) rfl ((if0 _ _).trans (feq hc332).2) (by decide) (by decide) ?_
                    show Steps p.tables e below (s₁.setTop (mkF m 339 #[.val (.ref o0), .val (.int i1), .val (.int i2), .val (.int (i2 - i1)), .val (.int ((g ((nat i1))) &&& (255 : Int32))), .val (.int (f1_22_l5 i1 i2 g)), .val (.int ((g ((nat (i1 + (1 : Int32))))) &&& (255 : Int32))), .val (.int ((g ((nat (i1 + (2 : Int32))))) &&& (255 : Int32))), .val (.int (128 : Int32)), .val (.int (f1_149_s0b i1 i2 g)), .val (.int (f1_186_l10b i1 i2 g)), .val (.int (f1_186_l11 i1 i2 g)), .val (.int (f1_294_s0b i1 i2 g)), .unset] [])) _
                    refine XS.iconst X0.here hx rfl (hb hby d1_339) ?_
                    show Steps p.tables e below (s₁.setTop (mkF m 340 #[.val (.ref o0), .val (.int i1), .val (.int i2), .val (.int (i2 - i1)), .val (.int ((g ((nat i1))) &&& (255 : Int32))), .val (.int (f1_22_l5 i1 i2 g)), .val (.int ((g ((nat (i1 + (1 : Int32))))) &&& (255 : Int32))), .val (.int ((g ((nat (i1 + (2 : Int32))))) &&& (255 : Int32))), .val (.int (128 : Int32)), .val (.int (f1_149_s0b i1 i2 g)), .val (.int (f1_186_l10b i1 i2 g)), .val (.int (f1_186_l11 i1 i2 g)), .val (.int (f1_294_s0b i1 i2 g)), .unset] [(.int (0 : Int32))])) _
                    rw [show (f1_313_s0b i1 i2 g) = (0 : Int32) from ((if_neg hc313).trans ((if_neg hc320).trans ((if_neg hc327).trans (if_neg hc332))))] at k
                    exact k
          refine Outs.of (U' := s₁.setTop (mkF m 353 #[.val (.ref o0), .val (.int i1), .val (.int i2), .val (.int (i2 - i1)), .val (.int ((g ((nat i1))) &&& (255 : Int32))), .val (.int (f1_22_l5 i1 i2 g)), .val (.int ((g ((nat (i1 + (1 : Int32))))) &&& (255 : Int32))), .val (.int ((g ((nat (i1 + (2 : Int32))))) &&& (255 : Int32))), .val (.int (128 : Int32)), .val (.int (f1_149_s0b i1 i2 g)), .val (.int (f1_186_l10b i1 i2 g)), .val (.int (f1_186_l11 i1 i2 g)), .val (.int (f1_294_s0b i1 i2 g)), .val (.int (f1_313_s0b i1 i2 g))] [(.int (f1_344_s0b i1 i2 g))])) (fun t k => ?_) ?_
          · refine XS.istore X0.here hx rfl (hb hby d1_340) rfl (l' := #[.val (.ref o0), .val (.int i1), .val (.int i2), .val (.int (i2 - i1)), .val (.int ((g ((nat i1))) &&& (255 : Int32))), .val (.int (f1_22_l5 i1 i2 g)), .val (.int ((g ((nat (i1 + (1 : Int32))))) &&& (255 : Int32))), .val (.int ((g ((nat (i1 + (2 : Int32))))) &&& (255 : Int32))), .val (.int (128 : Int32)), .val (.int (f1_149_s0b i1 i2 g)), .val (.int (f1_186_l10b i1 i2 g)), .val (.int (f1_186_l11 i1 i2 g)), .val (.int (f1_294_s0b i1 i2 g)), .val (.int (f1_313_s0b i1 i2 g))]) rfl ?_
            show Steps p.tables e below (s₁.setTop (mkF m 342 #[.val (.ref o0), .val (.int i1), .val (.int i2), .val (.int (i2 - i1)), .val (.int ((g ((nat i1))) &&& (255 : Int32))), .val (.int (f1_22_l5 i1 i2 g)), .val (.int ((g ((nat (i1 + (1 : Int32))))) &&& (255 : Int32))), .val (.int ((g ((nat (i1 + (2 : Int32))))) &&& (255 : Int32))), .val (.int (128 : Int32)), .val (.int (f1_149_s0b i1 i2 g)), .val (.int (f1_186_l10b i1 i2 g)), .val (.int (f1_186_l11 i1 i2 g)), .val (.int (f1_294_s0b i1 i2 g)), .val (.int (f1_313_s0b i1 i2 g))] [])) _
            refine XS.iload X0.here hx rfl (hb hby d1_342) rfl ?_
            show Steps p.tables e below (s₁.setTop (mkF m 344 #[.val (.ref o0), .val (.int i1), .val (.int i2), .val (.int (i2 - i1)), .val (.int ((g ((nat i1))) &&& (255 : Int32))), .val (.int (f1_22_l5 i1 i2 g)), .val (.int ((g ((nat (i1 + (1 : Int32))))) &&& (255 : Int32))), .val (.int ((g ((nat (i1 + (2 : Int32))))) &&& (255 : Int32))), .val (.int (128 : Int32)), .val (.int (f1_149_s0b i1 i2 g)), .val (.int (f1_186_l10b i1 i2 g)), .val (.int (f1_186_l11 i1 i2 g)), .val (.int (f1_294_s0b i1 i2 g)), .val (.int (f1_313_s0b i1 i2 g))] [(.int (f1_313_s0b i1 i2 g))])) _
            by_cases hc344 : (f1_313_s0b i1 i2 g) = (0 : Int32)
            · refine XS.ifYes X0.here hx rfl (pc0 := 344) (pc' := 352) rfl (hb hby d1_344) rfl ((if0 _ _).trans (teq hc344).1) (by decide) (by decide) ?_
              show Steps p.tables e below (s₁.setTop (mkF m 352 #[.val (.ref o0), .val (.int i1), .val (.int i2), .val (.int (i2 - i1)), .val (.int ((g ((nat i1))) &&& (255 : Int32))), .val (.int (f1_22_l5 i1 i2 g)), .val (.int ((g ((nat (i1 + (1 : Int32))))) &&& (255 : Int32))), .val (.int ((g ((nat (i1 + (2 : Int32))))) &&& (255 : Int32))), .val (.int (128 : Int32)), .val (.int (f1_149_s0b i1 i2 g)), .val (.int (f1_186_l10b i1 i2 g)), .val (.int (f1_186_l11 i1 i2 g)), .val (.int (f1_294_s0b i1 i2 g)), .val (.int (f1_313_s0b i1 i2 g))] [])) _
              refine XS.iconst X0.here hx rfl (hb hby d1_352) ?_
              show Steps p.tables e below (s₁.setTop (mkF m 353 #[.val (.ref o0), .val (.int i1), .val (.int i2), .val (.int (i2 - i1)), .val (.int ((g ((nat i1))) &&& (255 : Int32))), .val (.int (f1_22_l5 i1 i2 g)), .val (.int ((g ((nat (i1 + (1 : Int32))))) &&& (255 : Int32))), .val (.int ((g ((nat (i1 + (2 : Int32))))) &&& (255 : Int32))), .val (.int (128 : Int32)), .val (.int (f1_149_s0b i1 i2 g)), .val (.int (f1_186_l10b i1 i2 g)), .val (.int (f1_186_l11 i1 i2 g)), .val (.int (f1_294_s0b i1 i2 g)), .val (.int (f1_313_s0b i1 i2 g))] [(.int (0 : Int32))])) _
              rw [show (f1_344_s0b i1 i2 g) = (0 : Int32) from (if_pos hc344)] at k
              exact k
            · refine XS.ifNo X0.here hx rfl (hb hby d1_344) rfl ((if0 _ _).trans (feq hc344).1) ?_
              show Steps p.tables e below (s₁.setTop (mkF m 347 #[.val (.ref o0), .val (.int i1), .val (.int i2), .val (.int (i2 - i1)), .val (.int ((g ((nat i1))) &&& (255 : Int32))), .val (.int (f1_22_l5 i1 i2 g)), .val (.int ((g ((nat (i1 + (1 : Int32))))) &&& (255 : Int32))), .val (.int ((g ((nat (i1 + (2 : Int32))))) &&& (255 : Int32))), .val (.int (128 : Int32)), .val (.int (f1_149_s0b i1 i2 g)), .val (.int (f1_186_l10b i1 i2 g)), .val (.int (f1_186_l11 i1 i2 g)), .val (.int (f1_294_s0b i1 i2 g)), .val (.int (f1_313_s0b i1 i2 g))] [])) _
              refine XS.iload X0.here hx rfl (hb hby d1_347) rfl ?_
              show Steps p.tables e below (s₁.setTop (mkF m 349 #[.val (.ref o0), .val (.int i1), .val (.int i2), .val (.int (i2 - i1)), .val (.int ((g ((nat i1))) &&& (255 : Int32))), .val (.int (f1_22_l5 i1 i2 g)), .val (.int ((g ((nat (i1 + (1 : Int32))))) &&& (255 : Int32))), .val (.int ((g ((nat (i1 + (2 : Int32))))) &&& (255 : Int32))), .val (.int (128 : Int32)), .val (.int (f1_149_s0b i1 i2 g)), .val (.int (f1_186_l10b i1 i2 g)), .val (.int (f1_186_l11 i1 i2 g)), .val (.int (f1_294_s0b i1 i2 g)), .val (.int (f1_313_s0b i1 i2 g))] [(.int (f1_22_l5 i1 i2 g))])) _
              refine XS.goto X0.here hx rfl (pc0 := 349) (pc' := 353) rfl (hb hby d1_349) (by decide) (by decide) ?_
              show Steps p.tables e below (s₁.setTop (mkF m 353 #[.val (.ref o0), .val (.int i1), .val (.int i2), .val (.int (i2 - i1)), .val (.int ((g ((nat i1))) &&& (255 : Int32))), .val (.int (f1_22_l5 i1 i2 g)), .val (.int ((g ((nat (i1 + (1 : Int32))))) &&& (255 : Int32))), .val (.int ((g ((nat (i1 + (2 : Int32))))) &&& (255 : Int32))), .val (.int (128 : Int32)), .val (.int (f1_149_s0b i1 i2 g)), .val (.int (f1_186_l10b i1 i2 g)), .val (.int (f1_186_l11 i1 i2 g)), .val (.int (f1_294_s0b i1 i2 g)), .val (.int (f1_313_s0b i1 i2 g))] [(.int (f1_22_l5 i1 i2 g))])) _
              rw [show (f1_344_s0b i1 i2 g) = (f1_22_l5 i1 i2 g) from (if_neg hc344)] at k
              exact k
          exact Outs.retI X0 hx hret (hb hby d1_353) hlk (by decide) (by decide) e0 ⟨congrArg (fun z_ => some (Value.int z_)) (show (F_f1 i1 i2 g) = (f1_344_s0b i1 i2 g) from ((if_neg hc72).trans ((if_neg hc78).trans ((if_neg hc97).trans (if_neg hc120))))).symm, N0, rfl⟩
theorem ef_2 (m : MethodId) (x0 : Addr) (x1 : Int32) (x2 : Int32) : entryFrame m #[(.ref x0), (.int x1), (.int x2)] 10 = mkF m 0 #[.val (.ref x0), .val (.int x1), .val (.int x2), .unset, .unset, .unset, .unset, .unset, .unset, .unset] [] := by first | (simp [entryFrame, mkF, argsToLocals, Value.category]; done) | rfl
theorem d2_0 : decode prog_24_method_11_code 0 = .ok (.aload_n 0, 1) := by decide +kernel
theorem d2_1 : decode prog_24_method_11_code 1 = .ok (.iload_n 1, 1) := by decide +kernel
theorem d2_2 : decode prog_24_method_11_code 2 = .ok (.baload, 1) := by decide +kernel
theorem d2_3 : decode prog_24_method_11_code 3 = .ok (.sipush 255, 3) := by decide +kernel
theorem d2_6 : decode prog_24_method_11_code 6 = .ok (.iand, 1) := by decide +kernel
theorem d2_7 : decode prog_24_method_11_code 7 = .ok (.istore_n 3, 1) := by decide +kernel
theorem d2_8 : decode prog_24_method_11_code 8 = .ok (.sipush 128, 3) := by decide +kernel
theorem d2_11 : decode prog_24_method_11_code 11 = .ok (.istore 5, 2) := by decide +kernel
theorem d2_13 : decode prog_24_method_11_code 13 = .ok (.sipush 191, 3) := by decide +kernel
theorem d2_16 : decode prog_24_method_11_code 16 = .ok (.istore 6, 2) := by decide +kernel
theorem d2_18 : decode prog_24_method_11_code 18 = .ok (.iload_n 3, 1) := by decide +kernel
theorem d2_19 : decode prog_24_method_11_code 19 = .ok (.sipush 194, 3) := by decide +kernel
theorem d2_22 : decode prog_24_method_11_code 22 = .ok (.if_icmp .lt 16, 3) := by decide +kernel
theorem d2_38 : decode prog_24_method_11_code 38 = .ok (.iload_n 3, 1) := by decide +kernel
theorem d2_39 : decode prog_24_method_11_code 39 = .ok (.sipush 224, 3) := by decide +kernel
theorem d2_42 : decode prog_24_method_11_code 42 = .ok (.if_icmp .lt 52, 3) := by decide +kernel
theorem d2_94 : decode prog_24_method_11_code 94 = .ok (.iload_n 3, 1) := by decide +kernel
theorem d2_95 : decode prog_24_method_11_code 95 = .ok (.sipush 240, 3) := by decide +kernel
theorem d2_98 : decode prog_24_method_11_code 98 = .ok (.if_icmp .lt 52, 3) := by decide +kernel
theorem d2_150 : decode prog_24_method_11_code 150 = .ok (.iconst 0, 1) := by decide +kernel
theorem d2_151 : decode prog_24_method_11_code 151 = .ok (.istore 4, 2) := by decide +kernel
theorem d2_101 : decode prog_24_method_11_code 101 = .ok (.iload_n 3, 1) := by decide +kernel
theorem d2_102 : decode prog_24_method_11_code 102 = .ok (.sipush 244, 3) := by decide +kernel
theorem d2_105 : decode prog_24_method_11_code 105 = .ok (.if_icmp .gt 45, 3) := by decide +kernel
theorem d2_108 : decode prog_24_method_11_code 108 = .ok (.iconst 4, 1) := by decide +kernel
theorem d2_109 : decode prog_24_method_11_code 109 = .ok (.istore 4, 2) := by decide +kernel
theorem d2_111 : decode prog_24_method_11_code 111 = .ok (.iload_n 3, 1) := by decide +kernel
theorem d2_112 : decode prog_24_method_11_code 112 = .ok (.sipush 240, 3) := by decide +kernel
theorem d2_115 : decode prog_24_method_11_code 115 = .ok (.if_icmp .ne 9, 3) := by decide +kernel
theorem d2_118 : decode prog_24_method_11_code 118 = .ok (.sipush 144, 3) := by decide +kernel
theorem d2_121 : decode prog_24_method_11_code 121 = .ok (.goto 6, 3) := by decide +kernel
theorem d2_127 : decode prog_24_method_11_code 127 = .ok (.istore 5, 2) := by decide +kernel
theorem d2_129 : decode prog_24_method_11_code 129 = .ok (.iload_n 3, 1) := by decide +kernel
theorem d2_130 : decode prog_24_method_11_code 130 = .ok (.sipush 244, 3) := by decide +kernel
theorem d2_133 : decode prog_24_method_11_code 133 = .ok (.if_icmp .ne 9, 3) := by decide +kernel
theorem d2_136 : decode prog_24_method_11_code 136 = .ok (.sipush 143, 3) := by decide +kernel
theorem d2_139 : decode prog_24_method_11_code 139 = .ok (.goto 6, 3) := by decide +kernel
theorem d2_145 : decode prog_24_method_11_code 145 = .ok (.istore 6, 2) := by decide +kernel
theorem d2_147 : decode prog_24_method_11_code 147 = .ok (.goto 6, 3) := by decide +kernel
theorem d2_142 : decode prog_24_method_11_code 142 = .ok (.sipush 191, 3) := by decide +kernel
theorem d2_124 : decode prog_24_method_11_code 124 = .ok (.sipush 128, 3) := by decide +kernel
theorem d2_45 : decode prog_24_method_11_code 45 = .ok (.iload_n 3, 1) := by decide +kernel
theorem d2_46 : decode prog_24_method_11_code 46 = .ok (.sipush 239, 3) := by decide +kernel
theorem d2_49 : decode prog_24_method_11_code 49 = .ok (.if_icmp .gt 45, 3) := by decide +kernel
theorem d2_52 : decode prog_24_method_11_code 52 = .ok (.iconst 3, 1) := by decide +kernel
theorem d2_53 : decode prog_24_method_11_code 53 = .ok (.istore 4, 2) := by decide +kernel
theorem d2_55 : decode prog_24_method_11_code 55 = .ok (.iload_n 3, 1) := by decide +kernel
theorem d2_56 : decode prog_24_method_11_code 56 = .ok (.sipush 224, 3) := by decide +kernel
theorem d2_59 : decode prog_24_method_11_code 59 = .ok (.if_icmp .ne 9, 3) := by decide +kernel
theorem d2_62 : decode prog_24_method_11_code 62 = .ok (.sipush 160, 3) := by decide +kernel
theorem d2_65 : decode prog_24_method_11_code 65 = .ok (.goto 6, 3) := by decide +kernel
theorem d2_71 : decode prog_24_method_11_code 71 = .ok (.istore 5, 2) := by decide +kernel
theorem d2_73 : decode prog_24_method_11_code 73 = .ok (.iload_n 3, 1) := by decide +kernel
theorem d2_74 : decode prog_24_method_11_code 74 = .ok (.sipush 237, 3) := by decide +kernel
theorem d2_77 : decode prog_24_method_11_code 77 = .ok (.if_icmp .ne 9, 3) := by decide +kernel
theorem d2_80 : decode prog_24_method_11_code 80 = .ok (.sipush 159, 3) := by decide +kernel
theorem d2_83 : decode prog_24_method_11_code 83 = .ok (.goto 6, 3) := by decide +kernel
theorem d2_89 : decode prog_24_method_11_code 89 = .ok (.istore 6, 2) := by decide +kernel
theorem d2_91 : decode prog_24_method_11_code 91 = .ok (.goto 62, 3) := by decide +kernel
theorem d2_86 : decode prog_24_method_11_code 86 = .ok (.sipush 191, 3) := by decide +kernel
theorem d2_68 : decode prog_24_method_11_code 68 = .ok (.sipush 128, 3) := by decide +kernel
theorem d2_25 : decode prog_24_method_11_code 25 = .ok (.iload_n 3, 1) := by decide +kernel
theorem d2_26 : decode prog_24_method_11_code 26 = .ok (.sipush 223, 3) := by decide +kernel
theorem d2_29 : decode prog_24_method_11_code 29 = .ok (.if_icmp .gt 9, 3) := by decide +kernel
theorem d2_32 : decode prog_24_method_11_code 32 = .ok (.iconst 2, 1) := by decide +kernel
theorem d2_33 : decode prog_24_method_11_code 33 = .ok (.istore 4, 2) := by decide +kernel
theorem d2_35 : decode prog_24_method_11_code 35 = .ok (.goto 118, 3) := by decide +kernel
theorem d2_153 : decode prog_24_method_11_code 153 = .ok (.iload 4, 2) := by decide +kernel
theorem d2_155 : decode prog_24_method_11_code 155 = .ok (.ifCond .eq 11, 3) := by decide +kernel
theorem d2_166 : decode prog_24_method_11_code 166 = .ok (.iconst 0, 1) := by decide +kernel
theorem d2_167 : decode prog_24_method_11_code 167 = .ok (.ireturn, 1) := by decide +kernel
theorem d2_158 : decode prog_24_method_11_code 158 = .ok (.iload_n 2, 1) := by decide +kernel
theorem d2_159 : decode prog_24_method_11_code 159 = .ok (.iload_n 1, 1) := by decide +kernel
theorem d2_160 : decode prog_24_method_11_code 160 = .ok (.isub, 1) := by decide +kernel
theorem d2_161 : decode prog_24_method_11_code 161 = .ok (.iload 4, 2) := by decide +kernel
theorem d2_163 : decode prog_24_method_11_code 163 = .ok (.if_icmp .ge 5, 3) := by decide +kernel
theorem d2_168 : decode prog_24_method_11_code 168 = .ok (.aload_n 0, 1) := by decide +kernel
theorem d2_169 : decode prog_24_method_11_code 169 = .ok (.iload_n 1, 1) := by decide +kernel
theorem d2_170 : decode prog_24_method_11_code 170 = .ok (.iconst 1, 1) := by decide +kernel
theorem d2_171 : decode prog_24_method_11_code 171 = .ok (.iadd, 1) := by decide +kernel
theorem d2_172 : decode prog_24_method_11_code 172 = .ok (.baload, 1) := by decide +kernel
theorem d2_173 : decode prog_24_method_11_code 173 = .ok (.sipush 255, 3) := by decide +kernel
theorem d2_176 : decode prog_24_method_11_code 176 = .ok (.iand, 1) := by decide +kernel
theorem d2_177 : decode prog_24_method_11_code 177 = .ok (.istore 7, 2) := by decide +kernel
theorem d2_179 : decode prog_24_method_11_code 179 = .ok (.iload 7, 2) := by decide +kernel
theorem d2_181 : decode prog_24_method_11_code 181 = .ok (.iload 5, 2) := by decide +kernel
theorem d2_183 : decode prog_24_method_11_code 183 = .ok (.if_icmp .lt 14, 3) := by decide +kernel
theorem d2_197 : decode prog_24_method_11_code 197 = .ok (.iconst 0, 1) := by decide +kernel
theorem d2_186 : decode prog_24_method_11_code 186 = .ok (.iload 7, 2) := by decide +kernel
theorem d2_188 : decode prog_24_method_11_code 188 = .ok (.iload 6, 2) := by decide +kernel
theorem d2_190 : decode prog_24_method_11_code 190 = .ok (.if_icmp .gt 7, 3) := by decide +kernel
theorem d2_193 : decode prog_24_method_11_code 193 = .ok (.iconst 1, 1) := by decide +kernel
theorem d2_194 : decode prog_24_method_11_code 194 = .ok (.goto 4, 3) := by decide +kernel
theorem d2_198 : decode prog_24_method_11_code 198 = .ok (.istore 8, 2) := by decide +kernel
theorem d2_200 : decode prog_24_method_11_code 200 = .ok (.iload_n 1, 1) := by decide +kernel
theorem d2_201 : decode prog_24_method_11_code 201 = .ok (.iconst 2, 1) := by decide +kernel
theorem d2_202 : decode prog_24_method_11_code 202 = .ok (.iadd, 1) := by decide +kernel
theorem d2_203 : decode prog_24_method_11_code 203 = .ok (.istore 9, 2) := by decide +kernel
theorem d2_205 : decode prog_24_method_11_code 205 = .ok (.iload 9, 2) := by decide +kernel
theorem d2_207 : decode prog_24_method_11_code 207 = .ok (.iload_n 1, 1) := by decide +kernel
theorem d2_208 : decode prog_24_method_11_code 208 = .ok (.iload 4, 2) := by decide +kernel
theorem d2_210 : decode prog_24_method_11_code 210 = .ok (.iadd, 1) := by decide +kernel
theorem d2_211 : decode prog_24_method_11_code 211 = .ok (.if_icmp .ge 33, 3) := by decide +kernel
theorem d2_214 : decode prog_24_method_11_code 214 = .ok (.iload 8, 2) := by decide +kernel
theorem d2_216 : decode prog_24_method_11_code 216 = .ok (.aload_n 0, 1) := by decide +kernel
theorem d2_217 : decode prog_24_method_11_code 217 = .ok (.iload 9, 2) := by decide +kernel
theorem d2_219 : decode prog_24_method_11_code 219 = .ok (.baload, 1) := by decide +kernel
theorem d2_220 : decode prog_24_method_11_code 220 = .ok (.sipush 192, 3) := by decide +kernel
theorem d2_223 : decode prog_24_method_11_code 223 = .ok (.iand, 1) := by decide +kernel
theorem d2_224 : decode prog_24_method_11_code 224 = .ok (.sipush 128, 3) := by decide +kernel
theorem d2_227 : decode prog_24_method_11_code 227 = .ok (.if_icmp .ne 7, 3) := by decide +kernel
theorem d2_230 : decode prog_24_method_11_code 230 = .ok (.iconst 1, 1) := by decide +kernel
theorem d2_231 : decode prog_24_method_11_code 231 = .ok (.goto 4, 3) := by decide +kernel
theorem d2_234 : decode prog_24_method_11_code 234 = .ok (.iconst 0, 1) := by decide +kernel
theorem d2_235 : decode prog_24_method_11_code 235 = .ok (.iand, 1) := by decide +kernel
theorem d2_236 : decode prog_24_method_11_code 236 = .ok (.istore 8, 2) := by decide +kernel
theorem d2_238 : decode prog_24_method_11_code 238 = .ok (.iinc 9 1, 3) := by decide +kernel
theorem d2_241 : decode prog_24_method_11_code 241 = .ok (.goto (-36), 3) := by decide +kernel
theorem d2_244 : decode prog_24_method_11_code 244 = .ok (.iload 8, 2) := by decide +kernel
theorem d2_246 : decode prog_24_method_11_code 246 = .ok (.ifCond .eq 8, 3) := by decide +kernel
theorem d2_254 : decode prog_24_method_11_code 254 = .ok (.iconst 0, 1) := by decide +kernel
theorem d2_249 : decode prog_24_method_11_code 249 = .ok (.iload 4, 2) := by decide +kernel
theorem d2_251 : decode prog_24_method_11_code 251 = .ok (.goto 4, 3) := by decide +kernel
theorem d2_255 : decode prog_24_method_11_code 255 = .ok (.ireturn, 1) := by decide +kernel
theorem pn_2 : plainName "com/example/brief_locator/brieflocator/sections/TextOrPet" = true := by first | (simp [plainName, overriddenIn]; done) | decide +kernel
def F_f2 (i1 : Int32) (i2 : Int32) (g : Nat → Int32) : Int32 := (if (f2_22_l4 i1 i2 g) = (0 : Int32) then (0 : Int32) else (if (i2 - i1) < (f2_22_l4 i1 i2 g) then (0 : Int32) else (if (i1 + (2 : Int32)) < (i1 + (f2_22_l4 i1 i2 g)) then (if ((i1 + (2 : Int32)) + (1 : Int32)) < (i1 + (f2_22_l4 i1 i2 g)) then (f2_246_s0 i1 i2 g) else (f2_246_s0a i1 i2 g)) else (f2_246_s0b i1 i2 g))))
set_option maxRecDepth 65536 in
set_option maxHeartbeats 40000000 in
theorem rm2 (l : Launch) (Z : State) (a0 : Array Value) (hw : ∀ d ∈ tables_1, d.before a0 Z = true) (ws : List Jvm.Cond) (o0 : Addr) (i1 : Int32) (i2 : Int32) (g : Nat → Int32) (h0 : Heap) (n0 : Nat) (A_o0 : AI Z h0 o0 .byte 6 g) (h1 : 0 ≤ i1.toInt ∧ i1.toInt < 6) (h2 : 0 ≤ i2.toInt ∧ i2.toInt ≤ 6) :
    MetFree l (⟨"com/example/brief_locator/brieflocator/sections/TextOrPet", "utf8Length", "([BII)I"⟩ : MethodName) (head1 (Jvm.Cond.code (⟨"com/example/brief_locator/brieflocator/sections/TextOrPet", "utf8Length", "([BII)I"⟩ : MethodName) prog_24_method_11_code 10 (some .int) :: ws) ({ frames := 0, cells := 0, slots := 0, locals := 0 } : Room)) (fun a U => a = #[(.ref o0), (.int i1), (.int i2)] ∧ Z.Warmed39 U.vm ∧ U.heap = h0) (fun _ _ _ _ _ => True) (fun _ U o U' => ∃ v L, o = .returned v ∧ QR (some (.int (F_f2 i1 i2 g))) h0 n0 v U'.heap L ∧ FrameEnd U o U' L ({ frames := 0, cells := 0, slots := 0, locals := 0 } : Room).cells ({ frames := 0, cells := 0, slots := 0, locals := 0 } : Room).slots) := by
  refine MetFree.of_bodySF (plainFor_of_name pn_2) hisR ?_
  intro p e s m args below meth c s₁ Bd hml0 hP hK
  obtain ⟨rfl, hZ, hh⟩ := hP
  have hx := Bd.exec
  have hby := Bd.bytes
  have hml : c.maxLocals = 10 := hml0
  have hown : s.vm.findClass "com/example/brief_locator/brieflocator/sections/TextOrPet" = some m.cls := findClass_of_methodNamed Bd.named
  have hnm := (name_of_methodNamed Bd.named Bd.method).1
  have hret := Bd.returns
  have hlk : meth.locks = false := BodyLoose.notSynchronized Bd
  have X0 : Stand p l e ({ frames := 0, cells := 0, slots := 0, locals := 0 } : Room) s m #[(.ref o0), (.int i1), (.int i2)] below meth c s₁ [] 0 0 := Stand.of_body Bd
  have e0 : s₁.heap = h0 := by rw [← hh, Bd.state]; rfl
  have N0 := Fr.nil n0
  show Outs p e below s (QR (some (.int (F_f2 i1 i2 g))) h0 n0) _ _ _
  refine Outs.of (U' := s₁.setTop (mkF m 0 #[.val (.ref o0), .val (.int i1), .val (.int i2), .unset, .unset, .unset, .unset, .unset, .unset, .unset] [])) (fun t k => castTop (ef_2 m o0 i1 i2) k) ?_
  refine Outs.of (U' := s₁.setTop (mkF m 2 #[.val (.ref o0), .val (.int i1), .val (.int i2), .unset, .unset, .unset, .unset, .unset, .unset, .unset] [(.int i1), (.ref o0)])) (fun t k => ?_) ?_
  · refine XS.aloadN X0.here hx rfl (hb hby d2_0) rfl rfl ?_
    show Steps p.tables e below (s₁.setTop (mkF m 1 #[.val (.ref o0), .val (.int i1), .val (.int i2), .unset, .unset, .unset, .unset, .unset, .unset, .unset] [(.ref o0)])) _
    refine XS.iloadN X0.here hx rfl (hb hby d2_1) rfl ?_
    show Steps p.tables e below (s₁.setTop (mkF m 2 #[.val (.ref o0), .val (.int i1), .val (.int i2), .unset, .unset, .unset, .unset, .unset, .unset, .unset] [(.int i1), (.ref o0)])) _
    exact k
  refine Outs.of (ldB X0 hx hZ e0 A_o0 (j := i1) (k := (nat i1)) (own_hk (h1).1) (own_hn (h1).1 (h1).2) (f := (mkF m 2 #[.val (.ref o0), .val (.int i1), .val (.int i2), .unset, .unset, .unset, .unset, .unset, .unset, .unset] [(.int i1), (.ref o0)])) rfl rfl (hb hby d2_2)) ?_
  show Outs p e below s _ _ _ (s₁.setTop (mkF m 3 #[.val (.ref o0), .val (.int i1), .val (.int i2), .unset, .unset, .unset, .unset, .unset, .unset, .unset] [(.int (g ((nat i1))))]))
  refine Outs.of (U' := s₁.setTop (mkF m 153 #[.val (.ref o0), .val (.int i1), .val (.int i2), .val (.int ((g ((nat i1))) &&& (255 : Int32))), .val (.int (f2_22_l4 i1 i2 g)), .val (.int (f2_22_l5 i1 i2 g)), .val (.int (f2_22_l6 i1 i2 g)), .unset, .unset, .unset] [])) (fun t k => ?_) ?_
  · refine XS.sipush X0.here hx rfl (hb hby d2_3) ?_
    show Steps p.tables e below (s₁.setTop (mkF m 6 #[.val (.ref o0), .val (.int i1), .val (.int i2), .unset, .unset, .unset, .unset, .unset, .unset, .unset] [(.int (255 : Int32)), (.int (g ((nat i1))))])) _
    refine XS.iand X0.here hx rfl (hb hby d2_6) rfl ?_
    show Steps p.tables e below (s₁.setTop (mkF m 7 #[.val (.ref o0), .val (.int i1), .val (.int i2), .unset, .unset, .unset, .unset, .unset, .unset, .unset] [(.int ((g ((nat i1))) &&& (255 : Int32)))])) _
    refine XS.istoreN X0.here hx rfl (hb hby d2_7) rfl (l' := #[.val (.ref o0), .val (.int i1), .val (.int i2), .val (.int ((g ((nat i1))) &&& (255 : Int32))), .unset, .unset, .unset, .unset, .unset, .unset]) rfl ?_
    show Steps p.tables e below (s₁.setTop (mkF m 8 #[.val (.ref o0), .val (.int i1), .val (.int i2), .val (.int ((g ((nat i1))) &&& (255 : Int32))), .unset, .unset, .unset, .unset, .unset, .unset] [])) _
    refine XS.sipush X0.here hx rfl (hb hby d2_8) ?_
    show Steps p.tables e below (s₁.setTop (mkF m 11 #[.val (.ref o0), .val (.int i1), .val (.int i2), .val (.int ((g ((nat i1))) &&& (255 : Int32))), .unset, .unset, .unset, .unset, .unset, .unset] [(.int (128 : Int32))])) _
    refine XS.istore X0.here hx rfl (hb hby d2_11) rfl (l' := #[.val (.ref o0), .val (.int i1), .val (.int i2), .val (.int ((g ((nat i1))) &&& (255 : Int32))), .unset, .val (.int (128 : Int32)), .unset, .unset, .unset, .unset]) rfl ?_
    show Steps p.tables e below (s₁.setTop (mkF m 13 #[.val (.ref o0), .val (.int i1), .val (.int i2), .val (.int ((g ((nat i1))) &&& (255 : Int32))), .unset, .val (.int (128 : Int32)), .unset, .unset, .unset, .unset] [])) _
    refine XS.sipush X0.here hx rfl (hb hby d2_13) ?_
    show Steps p.tables e below (s₁.setTop (mkF m 16 #[.val (.ref o0), .val (.int i1), .val (.int i2), .val (.int ((g ((nat i1))) &&& (255 : Int32))), .unset, .val (.int (128 : Int32)), .unset, .unset, .unset, .unset] [(.int (191 : Int32))])) _
    refine XS.istore X0.here hx rfl (hb hby d2_16) rfl (l' := #[.val (.ref o0), .val (.int i1), .val (.int i2), .val (.int ((g ((nat i1))) &&& (255 : Int32))), .unset, .val (.int (128 : Int32)), .val (.int (191 : Int32)), .unset, .unset, .unset]) rfl ?_
    show Steps p.tables e below (s₁.setTop (mkF m 18 #[.val (.ref o0), .val (.int i1), .val (.int i2), .val (.int ((g ((nat i1))) &&& (255 : Int32))), .unset, .val (.int (128 : Int32)), .val (.int (191 : Int32)), .unset, .unset, .unset] [])) _
    refine XS.iloadN X0.here hx rfl (hb hby d2_18) rfl ?_
    show Steps p.tables e below (s₁.setTop (mkF m 19 #[.val (.ref o0), .val (.int i1), .val (.int i2), .val (.int ((g ((nat i1))) &&& (255 : Int32))), .unset, .val (.int (128 : Int32)), .val (.int (191 : Int32)), .unset, .unset, .unset] [(.int ((g ((nat i1))) &&& (255 : Int32)))])) _
    refine XS.sipush X0.here hx rfl (hb hby d2_19) ?_
    show Steps p.tables e below (s₁.setTop (mkF m 22 #[.val (.ref o0), .val (.int i1), .val (.int i2), .val (.int ((g ((nat i1))) &&& (255 : Int32))), .unset, .val (.int (128 : Int32)), .val (.int (191 : Int32)), .unset, .unset, .unset] [(.int (194 : Int32)), (.int ((g ((nat i1))) &&& (255 : Int32)))])) _
    by_cases hc22 : ((g ((nat i1))) &&& (255 : Int32)) < (194 : Int32)
    · refine XS.icmpYes X0.here hx rfl (pc0 := 22) (pc' := 38) rfl (hb hby d2_22) rfl (tlt hc22).1 (by decide) (by decide) ?_
      show Steps p.tables e below (s₁.setTop (mkF m 38 #[.val (.ref o0), .val (.int i1), .val (.int i2), .val (.int ((g ((nat i1))) &&& (255 : Int32))), .unset, .val (.int (128 : Int32)), .val (.int (191 : Int32)), .unset, .unset, .unset] [])) _
      refine XS.iloadN X0.here hx rfl (hb hby d2_38) rfl ?_
      show Steps p.tables e below (s₁.setTop (mkF m 39 #[.val (.ref o0), .val (.int i1), .val (.int i2), .val (.int ((g ((nat i1))) &&& (255 : Int32))), .unset, .val (.int (128 : Int32)), .val (.int (191 : Int32)), .unset, .unset, .unset] [(.int ((g ((nat i1))) &&& (255 : Int32)))])) _
      refine XS.sipush X0.here hx rfl (hb hby d2_39) ?_
      show Steps p.tables e below (s₁.setTop (mkF m 42 #[.val (.ref o0), .val (.int i1), .val (.int i2), .val (.int ((g ((nat i1))) &&& (255 : Int32))), .unset, .val (.int (128 : Int32)), .val (.int (191 : Int32)), .unset, .unset, .unset] [(.int (224 : Int32)), (.int ((g ((nat i1))) &&& (255 : Int32)))])) _
      by_cases hc42 : ((g ((nat i1))) &&& (255 : Int32)) < (224 : Int32)
      · refine XS.icmpYes X0.here hx rfl (pc0 := 42) (pc' := 94) rfl (hb hby d2_42) rfl (tlt hc42).1 (by decide) (by decide) ?_
        show Steps p.tables e below (s₁.setTop (mkF m 94 #[.val (.ref o0), .val (.int i1), .val (.int i2), .val (.int ((g ((nat i1))) &&& (255 : Int32))), .unset, .val (.int (128 : Int32)), .val (.int (191 : Int32)), .unset, .unset, .unset] [])) _
        refine XS.iloadN X0.here hx rfl (hb hby d2_94) rfl ?_
        show Steps p.tables e below (s₁.setTop (mkF m 95 #[.val (.ref o0), .val (.int i1), .val (.int i2), .val (.int ((g ((nat i1))) &&& (255 : Int32))), .unset, .val (.int (128 : Int32)), .val (.int (191 : Int32)), .unset, .unset, .unset] [(.int ((g ((nat i1))) &&& (255 : Int32)))])) _
        refine XS.sipush X0.here hx rfl (hb hby d2_95) ?_
        show Steps p.tables e below (s₁.setTop (mkF m 98 #[.val (.ref o0), .val (.int i1), .val (.int i2), .val (.int ((g ((nat i1))) &&& (255 : Int32))), .unset, .val (.int (128 : Int32)), .val (.int (191 : Int32)), .unset, .unset, .unset] [(.int (240 : Int32)), (.int ((g ((nat i1))) &&& (255 : Int32)))])) _
        by_cases hc98 : ((g ((nat i1))) &&& (255 : Int32)) < (240 : Int32)
        · refine XS.icmpYes X0.here hx rfl (pc0 := 98) (pc' := 150) rfl (hb hby d2_98) rfl (tlt hc98).1 (by decide) (by decide) ?_
          show Steps p.tables e below (s₁.setTop (mkF m 150 #[.val (.ref o0), .val (.int i1), .val (.int i2), .val (.int ((g ((nat i1))) &&& (255 : Int32))), .unset, .val (.int (128 : Int32)), .val (.int (191 : Int32)), .unset, .unset, .unset] [])) _
          refine XS.iconst X0.here hx rfl (hb hby d2_150) ?_
          show Steps p.tables e below (s₁.setTop (mkF m 151 #[.val (.ref o0), .val (.int i1), .val (.int i2), .val (.int ((g ((nat i1))) &&& (255 : Int32))), .unset, .val (.int (128 : Int32)), .val (.int (191 : Int32)), .unset, .unset, .unset] [(.int (0 : Int32))])) _
          refine XS.istore X0.here hx rfl (hb hby d2_151) rfl (l' := #[.val (.ref o0), .val (.int i1), .val (.int i2), .val (.int ((g ((nat i1))) &&& (255 : Int32))), .val (.int (0 : Int32)), .val (.int (128 : Int32)), .val (.int (191 : Int32)), .unset, .unset, .unset]) rfl ?_
          show Steps p.tables e below (s₁.setTop (mkF m 153 #[.val (.ref o0), .val (.int i1), .val (.int i2), .val (.int ((g ((nat i1))) &&& (255 : Int32))), .val (.int (0 : Int32)), .val (.int (128 : Int32)), .val (.int (191 : Int32)), .unset, .unset, .unset] [])) _
          rw [show (f2_22_l4 i1 i2 g) = (0 : Int32) from ((if_pos hc22).trans ((if_pos hc42).trans (if_pos hc98))), show (f2_22_l5 i1 i2 g) = (128 : Int32) from ((if_pos hc22).trans ((if_pos hc42).trans (if_pos hc98))), show (f2_22_l6 i1 i2 g) = (191 : Int32) from ((if_pos hc22).trans ((if_pos hc42).trans (if_pos hc98)))] at k
          exact k
        · refine XS.icmpNo X0.here hx rfl (hb hby d2_98) rfl (flt hc98).1 ?_
          show Steps p.tables e below (s₁.setTop (mkF m 101 #[.val (.ref o0), .val (.int i1), .val (.int i2), .val (.int ((g ((nat i1))) &&& (255 : Int32))), .unset, .val (.int (128 : Int32)), .val (.int (191 : Int32)), .unset, .unset, .unset] [])) _
          refine XS.iloadN X0.here hx rfl (hb hby d2_101) rfl ?_
          show Steps p.tables e below (s₁.setTop (mkF m 102 #[.val (.ref o0), .val (.int i1), .val (.int i2), .val (.int ((g ((nat i1))) &&& (255 : Int32))), .unset, .val (.int (128 : Int32)), .val (.int (191 : Int32)), .unset, .unset, .unset] [(.int ((g ((nat i1))) &&& (255 : Int32)))])) _
          refine XS.sipush X0.here hx rfl (hb hby d2_102) ?_
          show Steps p.tables e below (s₁.setTop (mkF m 105 #[.val (.ref o0), .val (.int i1), .val (.int i2), .val (.int ((g ((nat i1))) &&& (255 : Int32))), .unset, .val (.int (128 : Int32)), .val (.int (191 : Int32)), .unset, .unset, .unset] [(.int (244 : Int32)), (.int ((g ((nat i1))) &&& (255 : Int32)))])) _
          by_cases hc105 : (244 : Int32) < ((g ((nat i1))) &&& (255 : Int32))
          · refine XS.icmpYes X0.here hx rfl (pc0 := 105) (pc' := 150) rfl (hb hby d2_105) rfl (tlt hc105).2.2.1 (by decide) (by decide) ?_
            show Steps p.tables e below (s₁.setTop (mkF m 150 #[.val (.ref o0), .val (.int i1), .val (.int i2), .val (.int ((g ((nat i1))) &&& (255 : Int32))), .unset, .val (.int (128 : Int32)), .val (.int (191 : Int32)), .unset, .unset, .unset] [])) _
            refine XS.iconst X0.here hx rfl (hb hby d2_150) ?_
            show Steps p.tables e below (s₁.setTop (mkF m 151 #[.val (.ref o0), .val (.int i1), .val (.int i2), .val (.int ((g ((nat i1))) &&& (255 : Int32))), .unset, .val (.int (128 : Int32)), .val (.int (191 : Int32)), .unset, .unset, .unset] [(.int (0 : Int32))])) _
            refine XS.istore X0.here hx rfl (hb hby d2_151) rfl (l' := #[.val (.ref o0), .val (.int i1), .val (.int i2), .val (.int ((g ((nat i1))) &&& (255 : Int32))), .val (.int (0 : Int32)), .val (.int (128 : Int32)), .val (.int (191 : Int32)), .unset, .unset, .unset]) rfl ?_
            show Steps p.tables e below (s₁.setTop (mkF m 153 #[.val (.ref o0), .val (.int i1), .val (.int i2), .val (.int ((g ((nat i1))) &&& (255 : Int32))), .val (.int (0 : Int32)), .val (.int (128 : Int32)), .val (.int (191 : Int32)), .unset, .unset, .unset] [])) _
            rw [show (f2_22_l4 i1 i2 g) = (0 : Int32) from ((if_pos hc22).trans ((if_pos hc42).trans ((if_neg hc98).trans (if_pos hc105)))), show (f2_22_l5 i1 i2 g) = (128 : Int32) from ((if_pos hc22).trans ((if_pos hc42).trans ((if_neg hc98).trans (if_pos hc105)))), show (f2_22_l6 i1 i2 g) = (191 : Int32) from ((if_pos hc22).trans ((if_pos hc42).trans ((if_neg hc98).trans (if_pos hc105))))] at k
            exact k
          · refine XS.icmpNo X0.here hx rfl (hb hby d2_105) rfl (flt hc105).2.2.1 ?_
            show Steps p.tables e below (s₁.setTop (mkF m 108 #[.val (.ref o0), .val (.int i1), .val (.int i2), .val (.int ((g ((nat i1))) &&& (255 : Int32))), .unset, .val (.int (128 : Int32)), .val (.int (191 : Int32)), .unset, .unset, .unset] [])) _
            refine XS.iconst X0.here hx rfl (hb hby d2_108) ?_
            show Steps p.tables e below (s₁.setTop (mkF m 109 #[.val (.ref o0), .val (.int i1), .val (.int i2), .val (.int ((g ((nat i1))) &&& (255 : Int32))), .unset, .val (.int (128 : Int32)), .val (.int (191 : Int32)), .unset, .unset, .unset] [(.int (4 : Int32))])) _
            refine XS.istore X0.here hx rfl (hb hby d2_109) rfl (l' := #[.val (.ref o0), .val (.int i1), .val (.int i2), .val (.int ((g ((nat i1))) &&& (255 : Int32))), .val (.int (4 : Int32)), .val (.int (128 : Int32)), .val (.int (191 : Int32)), .unset, .unset, .unset]) rfl ?_
            show Steps p.tables e below (s₁.setTop (mkF m 111 #[.val (.ref o0), .val (.int i1), .val (.int i2), .val (.int ((g ((nat i1))) &&& (255 : Int32))), .val (.int (4 : Int32)), .val (.int (128 : Int32)), .val (.int (191 : Int32)), .unset, .unset, .unset] [])) _
            refine XS.iloadN X0.here hx rfl (hb hby d2_111) rfl ?_
            show Steps p.tables e below (s₁.setTop (mkF m 112 #[.val (.ref o0), .val (.int i1), .val (.int i2), .val (.int ((g ((nat i1))) &&& (255 : Int32))), .val (.int (4 : Int32)), .val (.int (128 : Int32)), .val (.int (191 : Int32)), .unset, .unset, .unset] [(.int ((g ((nat i1))) &&& (255 : Int32)))])) _
            refine XS.sipush X0.here hx rfl (hb hby d2_112) ?_
            show Steps p.tables e below (s₁.setTop (mkF m 115 #[.val (.ref o0), .val (.int i1), .val (.int i2), .val (.int ((g ((nat i1))) &&& (255 : Int32))), .val (.int (4 : Int32)), .val (.int (128 : Int32)), .val (.int (191 : Int32)), .unset, .unset, .unset] [(.int (240 : Int32)), (.int ((g ((nat i1))) &&& (255 : Int32)))])) _
            by_cases hc115 : ((g ((nat i1))) &&& (255 : Int32)) = (240 : Int32)
            · refine XS.icmpNo X0.here hx rfl (hb hby d2_115) rfl (teq hc115).2 ?_
              show Steps p.tables e below (s₁.setTop (mkF m 118 #[.val (.ref o0), .val (.int i1), .val (.int i2), .val (.int ((g ((nat i1))) &&& (255 : Int32))), .val (.int (4 : Int32)), .val (.int (128 : Int32)), .val (.int (191 : Int32)), .unset, .unset, .unset] [])) _
              refine XS.sipush X0.here hx rfl (hb hby d2_118) ?_
              show Steps p.tables e below (s₁.setTop (mkF m 121 #[.val (.ref o0), .val (.int i1), .val (.int i2), .val (.int ((g ((nat i1))) &&& (255 : Int32))), .val (.int (4 : Int32)), .val (.int (128 : Int32)), .val (.int (191 : Int32)), .unset, .unset, .unset] [(.int (144 : Int32))])) _
              refine XS.goto X0.here hx rfl (pc0 := 121) (pc' := 127) rfl (hb hby d2_121) (by decide) (by decide) ?_
              show Steps p.tables e below (s₁.setTop (mkF m 127 #[.val (.ref o0), .val (.int i1), .val (.int i2), .val (.int ((g ((nat i1))) &&& (255 : Int32))), .val (.int (4 : Int32)), .val (.int (128 : Int32)), .val (.int (191 : Int32)), .unset, .unset, .unset] [(.int (144 : Int32))])) _
              refine XS.istore X0.here hx rfl (hb hby d2_127) rfl (l' := #[.val (.ref o0), .val (.int i1), .val (.int i2), .val (.int ((g ((nat i1))) &&& (255 : Int32))), .val (.int (4 : Int32)), .val (.int (144 : Int32)), .val (.int (191 : Int32)), .unset, .unset, .unset]) rfl ?_
              show Steps p.tables e below (s₁.setTop (mkF m 129 #[.val (.ref o0), .val (.int i1), .val (.int i2), .val (.int ((g ((nat i1))) &&& (255 : Int32))), .val (.int (4 : Int32)), .val (.int (144 : Int32)), .val (.int (191 : Int32)), .unset, .unset, .unset] [])) _
              refine XS.iloadN X0.here hx rfl (hb hby d2_129) rfl ?_
              show Steps p.tables e below (s₁.setTop (mkF m 130 #[.val (.ref o0), .val (.int i1), .val (.int i2), .val (.int ((g ((nat i1))) &&& (255 : Int32))), .val (.int (4 : Int32)), .val (.int (144 : Int32)), .val (.int (191 : Int32)), .unset, .unset, .unset] [(.int ((g ((nat i1))) &&& (255 : Int32)))])) _
              refine XS.sipush X0.here hx rfl (hb hby d2_130) ?_
              show Steps p.tables e below (s₁.setTop (mkF m 133 #[.val (.ref o0), .val (.int i1), .val (.int i2), .val (.int ((g ((nat i1))) &&& (255 : Int32))), .val (.int (4 : Int32)), .val (.int (144 : Int32)), .val (.int (191 : Int32)), .unset, .unset, .unset] [(.int (244 : Int32)), (.int ((g ((nat i1))) &&& (255 : Int32)))])) _
              by_cases hc133 : ((g ((nat i1))) &&& (255 : Int32)) = (244 : Int32)
              · refine XS.icmpNo X0.here hx rfl (hb hby d2_133) rfl (teq hc133).2 ?_
                show Steps p.tables e below (s₁.setTop (mkF m 136 #[.val (.ref o0), .val (.int i1), .val (.int i2), .val (.int ((g ((nat i1))) &&& (255 : Int32))), .val (.int (4 : Int32)), .val (.int (144 : Int32)), .val (.int (191 : Int32)), .unset, .unset, .unset] [])) _
                refine XS.sipush X0.here hx rfl (hb hby d2_136) ?_
                show Steps p.tables e below (s₁.setTop (mkF m 139 #[.val (.ref o0), .val (.int i1), .val (.int i2), .val (.int ((g ((nat i1))) &&& (255 : Int32))), .val (.int (4 : Int32)), .val (.int (144 : Int32)), .val (.int (191 : Int32)), .unset, .unset, .unset] [(.int (143 : Int32))])) _
                refine XS.goto X0.here hx rfl (pc0 := 139) (pc' := 145) rfl (hb hby d2_139) (by decide) (by decide) ?_
                show Steps p.tables e below (s₁.setTop (mkF m 145 #[.val (.ref o0), .val (.int i1), .val (.int i2), .val (.int ((g ((nat i1))) &&& (255 : Int32))), .val (.int (4 : Int32)), .val (.int (144 : Int32)), .val (.int (191 : Int32)), .unset, .unset, .unset] [(.int (143 : Int32))])) _
                refine XS.istore X0.here hx rfl (hb hby d2_145) rfl (l' := #[.val (.ref o0), .val (.int i1), .val (.int i2), .val (.int ((g ((nat i1))) &&& (255 : Int32))), .val (.int (4 : Int32)), .val (.int (144 : Int32)), .val (.int (143 : Int32)), .unset, .unset, .unset]) rfl ?_
                show Steps p.tables e below (s₁.setTop (mkF m 147 #[.val (.ref o0), .val (.int i1), .val (.int i2), .val (.int ((g ((nat i1))) &&& (255 : Int32))), .val (.int (4 : Int32)), .val (.int (144 : Int32)), .val (.int (143 : Int32)), .unset, .unset, .unset] [])) _
                refine XS.goto X0.here hx rfl (pc0 := 147) (pc' := 153) rfl (hb hby d2_147) (by decide) (by decide) ?_
                show Steps p.tables e below (s₁.setTop (mkF m 153 #[.val (.ref o0), .val (.int i1), .val (.int i2), .val (.int ((g ((nat i1))) &&& (255 : Int32))), .val (.int (4 : Int32)), .val (.int (144 : Int32)), .val (.int (143 : Int32)), .unset, .unset, .unset] [])) _
                rw [show (f2_22_l4 i1 i2 g) = (4 : Int32) from ((if_pos hc22).trans ((if_pos hc42).trans ((if_neg hc98).trans ((if_neg hc105).trans ((if_pos hc115).trans (if_pos hc133)))))), show (f2_22_l5 i1 i2 g) = (144 : Int32) from ((if_pos hc22).trans ((if_pos hc42).trans ((if_neg hc98).trans ((if_neg hc105).trans ((if_pos hc115).trans (if_pos hc133)))))), show (f2_22_l6 i1 i2 g) = (143 : Int32) from ((if_pos hc22).trans ((if_pos hc42).trans ((if_neg hc98).trans ((if_neg hc105).trans ((if_pos hc115).trans (if_pos hc133))))))] at k
                exact k
              · refine XS.icmpYes X0.here hx rfl (pc0 := 133) (pc' := 142) rfl (hb hby d2_133) rfl (feq hc133).2 (by decide) (by decide) ?_
                show Steps p.tables e below (s₁.setTop (mkF m 142 #[.val (.ref o0), .val (.int i1), .val (.int i2), .val (.int ((g ((nat i1))) &&& (255 : Int32))), .val (.int (4 : Int32)), .val (.int (144 : Int32)), .val (.int (191 : Int32)), .unset, .unset, .unset] [])) _
                refine XS.sipush X0.here hx rfl (hb hby d2_142) ?_
                show Steps p.tables e below (s₁.setTop (mkF m 145 #[.val (.ref o0), .val (.int i1), .val (.int i2), .val (.int ((g ((nat i1))) &&& (255 : Int32))), .val (.int (4 : Int32)), .val (.int (144 : Int32)), .val (.int (191 : Int32)), .unset, .unset, .unset] [(.int (191 : Int32))])) _
                refine XS.istore X0.here hx rfl (hb hby d2_145) rfl (l' := #[.val (.ref o0), .val (.int i1), .val (.int i2), .val (.int ((g ((nat i1))) &&& (255 : Int32))), .val (.int (4 : Int32)), .val (.int (144 : Int32)), .val (.int (191 : Int32)), .unset, .unset, .unset]) rfl ?_
                show Steps p.tables e below (s₁.setTop (mkF m 147 #[.val (.ref o0), .val (.int i1), .val (.int i2), .val (.int ((g ((nat i1))) &&& (255 : Int32))), .val (.int (4 : Int32)), .val (.int (144 : Int32)), .val (.int (191 : Int32)), .unset, .unset, .unset] [])) _
                refine XS.goto X0.here hx rfl (pc0 := 147) (pc' := 153) rfl (hb hby d2_147) (by decide) (by decide) ?_
                show Steps p.tables e below (s₁.setTop (mkF m 153 #[.val (.ref o0), .val (.int i1), .val (.int i2), .val (.int ((g ((nat i1))) &&& (255 : Int32))), .val (.int (4 : Int32)), .val (.int (144 : Int32)), .val (.int (191 : Int32)), .unset, .unset, .unset] [])) _
                rw [show (f2_22_l4 i1 i2 g) = (4 : Int32) from ((if_pos hc22).trans ((if_pos hc42).trans ((if_neg hc98).trans ((if_neg hc105).trans ((if_pos hc115).trans (if_neg hc133)))))), show (f2_22_l5 i1 i2 g) = (144 : Int32) from ((if_pos hc22).trans ((if_pos hc42).trans ((if_neg hc98).trans ((if_neg hc105).trans ((if_pos hc115).trans (if_neg hc133)))))), show (f2_22_l6 i1 i2 g) = (191 : Int32) from ((if_pos hc22).trans ((if_pos hc42).trans ((if_neg hc98).trans ((if_neg hc105).trans ((if_pos hc115).trans (if_neg hc133))))))] at k
                exact k
            · refine XS.icmpYes X0.here hx rfl (pc0 := 115) (pc' := 124) rfl (hb hby d2_115) rfl (feq hc115).2 (by decide) (by decide) ?_
              show Steps p.tables e below (s₁.setTop (mkF m 124 #[.val (.ref o0), .val (.int i1), .val (.int i2), .val (.int ((g ((nat i1))) &&& (255 : Int32))), .val (.int (4 : Int32)), .val (.int (128 : Int32)), .val (.int (191 : Int32)), .unset, .unset, .unset] [])) _
              refine XS.sipush X0.here hx rfl (hb hby d2_124) ?_
              show Steps p.tables e below (s₁.setTop (mkF m 127 #[.val (.ref o0), .val (.int i1), .val (.int i2), .val (.int ((g ((nat i1))) &&& (255 : Int32))), .val (.int (4 : Int32)), .val (.int (128 : Int32)), .val (.int (191 : Int32)), .unset, .unset, .unset] [(.int (128 : Int32))])) _
              refine XS.istore X0.here hx rfl (hb hby d2_127) rfl (l' := #[.val (.ref o0), .val (.int i1), .val (.int i2), .val (.int ((g ((nat i1))) &&& (255 : Int32))), .val (.int (4 : Int32)), .val (.int (128 : Int32)), .val (.int (191 : Int32)), .unset, .unset, .unset]) rfl ?_
              show Steps p.tables e below (s₁.setTop (mkF m 129 #[.val (.ref o0), .val (.int i1), .val (.int i2), .val (.int ((g ((nat i1))) &&& (255 : Int32))), .val (.int (4 : Int32)), .val (.int (128 : Int32)), .val (.int (191 : Int32)), .unset, .unset, .unset] [])) _
              refine XS.iloadN X0.here hx rfl (hb hby d2_129) rfl ?_
              show Steps p.tables e below (s₁.setTop (mkF m 130 #[.val (.ref o0), .val (.int i1), .val (.int i2), .val (.int ((g ((nat i1))) &&& (255 : Int32))), .val (.int (4 : Int32)), .val (.int (128 : Int32)), .val (.int (191 : Int32)), .unset, .unset, .unset] [(.int ((g ((nat i1))) &&& (255 : Int32)))])) _
              refine XS.sipush X0.here hx rfl (hb hby d2_130) ?_
              show Steps p.tables e below (s₁.setTop (mkF m 133 #[.val (.ref o0), .val (.int i1), .val (.int i2), .val (.int ((g ((nat i1))) &&& (255 : Int32))), .val (.int (4 : Int32)), .val (.int (128 : Int32)), .val (.int (191 : Int32)), .unset, .unset, .unset] [(.int (244 : Int32)), (.int ((g ((nat i1))) &&& (255 : Int32)))])) _
              by_cases hc133 : ((g ((nat i1))) &&& (255 : Int32)) = (244 : Int32)
              · refine XS.icmpNo X0.here hx rfl (hb hby d2_133) rfl (teq hc133).2 ?_
                show Steps p.tables e below (s₁.setTop (mkF m 136 #[.val (.ref o0), .val (.int i1), .val (.int i2), .val (.int ((g ((nat i1))) &&& (255 : Int32))), .val (.int (4 : Int32)), .val (.int (128 : Int32)), .val (.int (191 : Int32)), .unset, .unset, .unset] [])) _
                refine XS.sipush X0.here hx rfl (hb hby d2_136) ?_
                show Steps p.tables e below (s₁.setTop (mkF m 139 #[.val (.ref o0), .val (.int i1), .val (.int i2), .val (.int ((g ((nat i1))) &&& (255 : Int32))), .val (.int (4 : Int32)), .val (.int (128 : Int32)), .val (.int (191 : Int32)), .unset, .unset, .unset] [(.int (143 : Int32))])) _
                refine XS.goto X0.here hx rfl (pc0 := 139) (pc' := 145) rfl (hb hby d2_139) (by decide) (by decide) ?_
                show Steps p.tables e below (s₁.setTop (mkF m 145 #[.val (.ref o0), .val (.int i1), .val (.int i2), .val (.int ((g ((nat i1))) &&& (255 : Int32))), .val (.int (4 : Int32)), .val (.int (128 : Int32)), .val (.int (191 : Int32)), .unset, .unset, .unset] [(.int (143 : Int32))])) _
                refine XS.istore X0.here hx rfl (hb hby d2_145) rfl (l' := #[.val (.ref o0), .val (.int i1), .val (.int i2), .val (.int ((g ((nat i1))) &&& (255 : Int32))), .val (.int (4 : Int32)), .val (.int (128 : Int32)), .val (.int (143 : Int32)), .unset, .unset, .unset]) rfl ?_
                show Steps p.tables e below (s₁.setTop (mkF m 147 #[.val (.ref o0), .val (.int i1), .val (.int i2), .val (.int ((g ((nat i1))) &&& (255 : Int32))), .val (.int (4 : Int32)), .val (.int (128 : Int32)), .val (.int (143 : Int32)), .unset, .unset, .unset] [])) _
                refine XS.goto X0.here hx rfl (pc0 := 147) (pc' := 153) rfl (hb hby d2_147) (by decide) (by decide) ?_
                show Steps p.tables e below (s₁.setTop (mkF m 153 #[.val (.ref o0), .val (.int i1), .val (.int i2), .val (.int ((g ((nat i1))) &&& (255 : Int32))), .val (.int (4 : Int32)), .val (.int (128 : Int32)), .val (.int (143 : Int32)), .unset, .unset, .unset] [])) _
                rw [show (f2_22_l4 i1 i2 g) = (4 : Int32) from ((if_pos hc22).trans ((if_pos hc42).trans ((if_neg hc98).trans ((if_neg hc105).trans ((if_neg hc115).trans (if_pos hc133)))))), show (f2_22_l5 i1 i2 g) = (128 : Int32) from ((if_pos hc22).trans ((if_pos hc42).trans ((if_neg hc98).trans ((if_neg hc105).trans ((if_neg hc115).trans (if_pos hc133)))))), show (f2_22_l6 i1 i2 g) = (143 : Int32) from ((if_pos hc22).trans ((if_pos hc42).trans ((if_neg hc98).trans ((if_neg hc105).trans ((if_neg hc115).trans (if_pos hc133))))))] at k
                exact k
              · refine XS.icmpYes X0.here hx rfl (pc0 := 133) (pc' := 142) rfl (hb hby d2_133) rfl (feq hc133).2 (by decide) (by decide) ?_
                show Steps p.tables e below (s₁.setTop (mkF m 142 #[.val (.ref o0), .val (.int i1), .val (.int i2), .val (.int ((g ((nat i1))) &&& (255 : Int32))), .val (.int (4 : Int32)), .val (.int (128 : Int32)), .val (.int (191 : Int32)), .unset, .unset, .unset] [])) _
                refine XS.sipush X0.here hx rfl (hb hby d2_142) ?_
                show Steps p.tables e below (s₁.setTop (mkF m 145 #[.val (.ref o0), .val (.int i1), .val (.int i2), .val (.int ((g ((nat i1))) &&& (255 : Int32))), .val (.int (4 : Int32)), .val (.int (128 : Int32)), .val (.int (191 : Int32)), .unset, .unset, .unset] [(.int (191 : Int32))])) _
                refine XS.istore X0.here hx rfl (hb hby d2_145) rfl (l' := #[.val (.ref o0), .val (.int i1), .val (.int i2), .val (.int ((g ((nat i1))) &&& (255 : Int32))), .val (.int (4 : Int32)), .val (.int (128 : Int32)), .val (.int (191 : Int32)), .unset, .unset, .unset]) rfl ?_
                show Steps p.tables e below (s₁.setTop (mkF m 147 #[.val (.ref o0), .val (.int i1), .val (.int i2), .val (.int ((g ((nat i1))) &&& (255 : Int32))), .val (.int (4 : Int32)), .val (.int (128 : Int32)), .val (.int (191 : Int32)), .unset, .unset, .unset] [])) _
                refine XS.goto X0.here hx rfl (pc0 := 147) (pc' := 153) rfl (hb hby d2_147) (by decide) (by decide) ?_
                show Steps p.tables e below (s₁.setTop (mkF m 153 #[.val (.ref o0), .val (.int i1), .val (.int i2), .val (.int ((g ((nat i1))) &&& (255 : Int32))), .val (.int (4 : Int32)), .val (.int (128 : Int32)), .val (.int (191 : Int32)), .unset, .unset, .unset] [])) _
                rw [show (f2_22_l4 i1 i2 g) = (4 : Int32) from ((if_pos hc22).trans ((if_pos hc42).trans ((if_neg hc98).trans ((if_neg hc105).trans ((if_neg hc115).trans (if_neg hc133)))))), show (f2_22_l5 i1 i2 g) = (128 : Int32) from ((if_pos hc22).trans ((if_pos hc42).trans ((if_neg hc98).trans ((if_neg hc105).trans ((if_neg hc115).trans (if_neg hc133)))))), show (f2_22_l6 i1 i2 g) = (191 : Int32) from ((if_pos hc22).trans ((if_pos hc42).trans ((if_neg hc98).trans ((if_neg hc105).trans ((if_neg hc115).trans (if_neg hc133))))))] at k
                exact k
      · refine XS.icmpNo X0.here hx rfl (hb hby d2_42) rfl (flt hc42).1 ?_
        show Steps p.tables e below (s₁.setTop (mkF m 45 #[.val (.ref o0), .val (.int i1), .val (.int i2), .val (.int ((g ((nat i1))) &&& (255 : Int32))), .unset, .val (.int (128 : Int32)), .val (.int (191 : Int32)), .unset, .unset, .unset] [])) _
        refine XS.iloadN X0.here hx rfl (hb hby d2_45) rfl ?_
        show Steps p.tables e below (s₁.setTop (mkF m 46 #[.val (.ref o0), .val (.int i1), .val (.int i2), .val (.int ((g ((nat i1))) &&& (255 : Int32))), .unset, .val (.int (128 : Int32)), .val (.int (191 : Int32)), .unset, .unset, .unset] [(.int ((g ((nat i1))) &&& (255 : Int32)))])) _
        refine XS.sipush X0.here hx rfl (hb hby d2_46) ?_
        show Steps p.tables e below (s₁.setTop (mkF m 49 #[.val (.ref o0), .val (.int i1), .val (.int i2), .val (.int ((g ((nat i1))) &&& (255 : Int32))), .unset, .val (.int (128 : Int32)), .val (.int (191 : Int32)), .unset, .unset, .unset] [(.int (239 : Int32)), (.int ((g ((nat i1))) &&& (255 : Int32)))])) _
        by_cases hc49 : (239 : Int32) < ((g ((nat i1))) &&& (255 : Int32))
        · refine XS.icmpYes X0.here hx rfl (pc0 := 49) (pc' := 94) rfl (hb hby d2_49) rfl (tlt hc49).2.2.1 (by decide) (by decide) ?_
          show Steps p.tables e below (s₁.setTop (mkF m 94 #[.val (.ref o0), .val (.int i1), .val (.int i2), .val (.int ((g ((nat i1))) &&& (255 : Int32))), .unset, .val (.int (128 : Int32)), .val (.int (191 : Int32)), .unset, .unset, .unset] [])) _
          refine XS.iloadN X0.here hx rfl (hb hby d2_94) rfl ?_
          show Steps p.tables e below (s₁.setTop (mkF m 95 #[.val (.ref o0), .val (.int i1), .val (.int i2), .val (.int ((g ((nat i1))) &&& (255 : Int32))), .unset, .val (.int (128 : Int32)), .val (.int (191 : Int32)), .unset, .unset, .unset] [(.int ((g ((nat i1))) &&& (255 : Int32)))])) _
          refine XS.sipush X0.here hx rfl (hb hby d2_95) ?_
          show Steps p.tables e below (s₁.setTop (mkF m 98 #[.val (.ref o0), .val (.int i1), .val (.int i2), .val (.int ((g ((nat i1))) &&& (255 : Int32))), .unset, .val (.int (128 : Int32)), .val (.int (191 : Int32)), .unset, .unset, .unset] [(.int (240 : Int32)), (.int ((g ((nat i1))) &&& (255 : Int32)))])) _
          by_cases hc98 : ((g ((nat i1))) &&& (255 : Int32)) < (240 : Int32)
          · refine XS.icmpYes X0.here hx rfl (pc0 := 98) (pc' := 150) rfl (hb hby d2_98) rfl (tlt hc98).1 (by decide) (by decide) ?_
            show Steps p.tables e below (s₁.setTop (mkF m 150 #[.val (.ref o0), .val (.int i1), .val (.int i2), .val (.int ((g ((nat i1))) &&& (255 : Int32))), .unset, .val (.int (128 : Int32)), .val (.int (191 : Int32)), .unset, .unset, .unset] [])) _
            refine XS.iconst X0.here hx rfl (hb hby d2_150) ?_
            show Steps p.tables e below (s₁.setTop (mkF m 151 #[.val (.ref o0), .val (.int i1), .val (.int i2), .val (.int ((g ((nat i1))) &&& (255 : Int32))), .unset, .val (.int (128 : Int32)), .val (.int (191 : Int32)), .unset, .unset, .unset] [(.int (0 : Int32))])) _
            refine XS.istore X0.here hx rfl (hb hby d2_151) rfl (l' := #[.val (.ref o0), .val (.int i1), .val (.int i2), .val (.int ((g ((nat i1))) &&& (255 : Int32))), .val (.int (0 : Int32)), .val (.int (128 : Int32)), .val (.int (191 : Int32)), .unset, .unset, .unset]) rfl ?_
            show Steps p.tables e below (s₁.setTop (mkF m 153 #[.val (.ref o0), .val (.int i1), .val (.int i2), .val (.int ((g ((nat i1))) &&& (255 : Int32))), .val (.int (0 : Int32)), .val (.int (128 : Int32)), .val (.int (191 : Int32)), .unset, .unset, .unset] [])) _
            rw [show (f2_22_l4 i1 i2 g) = (0 : Int32) from ((if_pos hc22).trans ((if_neg hc42).trans ((if_pos hc49).trans (if_pos hc98)))), show (f2_22_l5 i1 i2 g) = (128 : Int32) from ((if_pos hc22).trans ((if_neg hc42).trans ((if_pos hc49).trans (if_pos hc98)))), show (f2_22_l6 i1 i2 g) = (191 : Int32) from ((if_pos hc22).trans ((if_neg hc42).trans ((if_pos hc49).trans (if_pos hc98))))] at k
            exact k
          · refine XS.icmpNo X0.here hx rfl (hb hby d2_98) rfl (flt hc98).1 ?_
            show Steps p.tables e below (s₁.setTop (mkF m 101 #[.val (.ref o0), .val (.int i1), .val (.int i2), .val (.int ((g ((nat i1))) &&& (255 : Int32))), .unset, .val (.int (128 : Int32)), .val (.int (191 : Int32)), .unset, .unset, .unset] [])) _
            refine XS.iloadN X0.here hx rfl (hb hby d2_101) rfl ?_
            show Steps p.tables e below (s₁.setTop (mkF m 102 #[.val (.ref o0), .val (.int i1), .val (.int i2), .val (.int ((g ((nat i1))) &&& (255 : Int32))), .unset, .val (.int (128 : Int32)), .val (.int (191 : Int32)), .unset, .unset, .unset] [(.int ((g ((nat i1))) &&& (255 : Int32)))])) _
            refine XS.sipush X0.here hx rfl (hb hby d2_102) ?_
            show Steps p.tables e below (s₁.setTop (mkF m 105 #[.val (.ref o0), .val (.int i1), .val (.int i2), .val (.int ((g ((nat i1))) &&& (255 : Int32))), .unset, .val (.int (128 : Int32)), .val (.int (191 : Int32)), .unset, .unset, .unset] [(.int (244 : Int32)), (.int ((g ((nat i1))) &&& (255 : Int32)))])) _
            by_cases hc105 : (244 : Int32) < ((g ((nat i1))) &&& (255 : Int32))
            · refine XS.icmpYes X0.here hx rfl (pc0 := 105) (pc' := 150) rfl (hb hby d2_105) rfl (tlt hc105).2.2.1 (by decide) (by decide) ?_
              show Steps p.tables e below (s₁.setTop (mkF m 150 #[.val (.ref o0), .val (.int i1), .val (.int i2), .val (.int ((g ((nat i1))) &&& (255 : Int32))), .unset, .val (.int (128 : Int32)), .val (.int (191 : Int32)), .unset, .unset, .unset] [])) _
              refine XS.iconst X0.here hx rfl (hb hby d2_150) ?_
              show Steps p.tables e below (s₁.setTop (mkF m 151 #[.val (.ref o0), .val (.int i1), .val (.int i2), .val (.int ((g ((nat i1))) &&& (255 : Int32))), .unset, .val (.int (128 : Int32)), .val (.int (191 : Int32)), .unset, .unset, .unset] [(.int (0 : Int32))])) _
              refine XS.istore X0.here hx rfl (hb hby d2_151) rfl (l' := #[.val (.ref o0), .val (.int i1), .val (.int i2), .val (.int ((g ((nat i1))) &&& (255 : Int32))), .val (.int (0 : Int32)), .val (.int (128 : Int32)), .val (.int (191 : Int32)), .unset, .unset, .unset]) rfl ?_
              show Steps p.tables e below (s₁.setTop (mkF m 153 #[.val (.ref o0), .val (.int i1), .val (.int i2), .val (.int ((g ((nat i1))) &&& (255 : Int32))), .val (.int (0 : Int32)), .val (.int (128 : Int32)), .val (.int (191 : Int32)), .unset, .unset, .unset] [])) _
              rw [show (f2_22_l4 i1 i2 g) = (0 : Int32) from ((if_pos hc22).trans ((if_neg hc42).trans ((if_pos hc49).trans ((if_neg hc98).trans (if_pos hc105))))), show (f2_22_l5 i1 i2 g) = (128 : Int32) from ((if_pos hc22).trans ((if_neg hc42).trans ((if_pos hc49).trans ((if_neg hc98).trans (if_pos hc105))))), show (f2_22_l6 i1 i2 g) = (191 : Int32) from ((if_pos hc22).trans ((if_neg hc42).trans ((if_pos hc49).trans ((if_neg hc98).trans (if_pos hc105)))))] at k
              exact k
            · refine XS.icmpNo X0.here hx rfl (hb hby d2_105) rfl (flt hc105).2.2.1 ?_
              show Steps p.tables e below (s₁.setTop (mkF m 108 #[.val (.ref o0), .val (.int i1), .val (.int i2), .val (.int ((g ((nat i1))) &&& (255 : Int32))), .unset, .val (.int (128 : Int32)), .val (.int (191 : Int32)), .unset, .unset, .unset] [])) _
              refine XS.iconst X0.here hx rfl (hb hby d2_108) ?_
              show Steps p.tables e below (s₁.setTop (mkF m 109 #[.val (.ref o0), .val (.int i1), .val (.int i2), .val (.int ((g ((nat i1))) &&& (255 : Int32))), .unset, .val (.int (128 : Int32)), .val (.int (191 : Int32)), .unset, .unset, .unset] [(.int (4 : Int32))])) _
              refine XS.istore X0.here hx rfl (hb hby d2_109) rfl (l' := #[.val (.ref o0), .val (.int i1), .val (.int i2), .val (.int ((g ((nat i1))) &&& (255 : Int32))), .val (.int (4 : Int32)), .val (.int (128 : Int32)), .val (.int (191 : Int32)), .unset, .unset, .unset]) rfl ?_
              show Steps p.tables e below (s₁.setTop (mkF m 111 #[.val (.ref o0), .val (.int i1), .val (.int i2), .val (.int ((g ((nat i1))) &&& (255 : Int32))), .val (.int (4 : Int32)), .val (.int (128 : Int32)), .val (.int (191 : Int32)), .unset, .unset, .unset] [])) _
              refine XS.iloadN X0.here hx rfl (hb hby d2_111) rfl ?_
              show Steps p.tables e below (s₁.setTop (mkF m 112 #[.val (.ref o0), .val (.int i1), .val (.int i2), .val (.int ((g ((nat i1))) &&& (255 : Int32))), .val (.int (4 : Int32)), .val (.int (128 : Int32)), .val (.int (191 : Int32)), .unset, .unset, .unset] [(.int ((g ((nat i1))) &&& (255 : Int32)))])) _
              refine XS.sipush X0.here hx rfl (hb hby d2_112) ?_
              show Steps p.tables e below (s₁.setTop (mkF m 115 #[.val (.ref o0), .val (.int i1), .val (.int i2), .val (.int ((g ((nat i1))) &&& (255 : Int32))), .val (.int (4 : Int32)), .val (.int (128 : Int32)), .val (.int (191 : Int32)), .unset, .unset, .unset] [(.int (240 : Int32)), (.int ((g ((nat i1))) &&& (255 : Int32)))])) _
              by_cases hc115 : ((g ((nat i1))) &&& (255 : Int32)) = (240 : Int32)
              · refine XS.icmpNo X0.here hx rfl (hb hby d2_115) rfl (teq hc115).2 ?_
                show Steps p.tables e below (s₁.setTop (mkF m 118 #[.val (.ref o0), .val (.int i1), .val (.int i2), .val (.int ((g ((nat i1))) &&& (255 : Int32))), .val (.int (4 : Int32)), .val (.int (128 : Int32)), .val (.int (191 : Int32)), .unset, .unset, .unset] [])) _
                refine XS.sipush X0.here hx rfl (hb hby d2_118) ?_
                show Steps p.tables e below (s₁.setTop (mkF m 121 #[.val (.ref o0), .val (.int i1), .val (.int i2), .val (.int ((g ((nat i1))) &&& (255 : Int32))), .val (.int (4 : Int32)), .val (.int (128 : Int32)), .val (.int (191 : Int32)), .unset, .unset, .unset] [(.int (144 : Int32))])) _
                refine XS.goto X0.here hx rfl (pc0 := 121) (pc' := 127) rfl (hb hby d2_121) (by decide) (by decide) ?_
                show Steps p.tables e below (s₁.setTop (mkF m 127 #[.val (.ref o0), .val (.int i1), .val (.int i2), .val (.int ((g ((nat i1))) &&& (255 : Int32))), .val (.int (4 : Int32)), .val (.int (128 : Int32)), .val (.int (191 : Int32)), .unset, .unset, .unset] [(.int (144 : Int32))])) _
                refine XS.istore X0.here hx rfl (hb hby d2_127) rfl (l' := #[.val (.ref o0), .val (.int i1), .val (.int i2), .val (.int ((g ((nat i1))) &&& (255 : Int32))), .val (.int (4 : Int32)), .val (.int (144 : Int32)), .val (.int (191 : Int32)), .unset, .unset, .unset]) rfl ?_
                show Steps p.tables e below (s₁.setTop (mkF m 129 #[.val (.ref o0), .val (.int i1), .val (.int i2), .val (.int ((g ((nat i1))) &&& (255 : Int32))), .val (.int (4 : Int32)), .val (.int (144 : Int32)), .val (.int (191 : Int32)), .unset, .unset, .unset] [])) _
                refine XS.iloadN X0.here hx rfl (hb hby d2_129) rfl ?_
                show Steps p.tables e below (s₁.setTop (mkF m 130 #[.val (.ref o0), .val (.int i1), .val (.int i2), .val (.int ((g ((nat i1))) &&& (255 : Int32))), .val (.int (4 : Int32)), .val (.int (144 : Int32)), .val (.int (191 : Int32)), .unset, .unset, .unset] [(.int ((g ((nat i1))) &&& (255 : Int32)))])) _
                refine XS.sipush X0.here hx rfl (hb hby d2_130) ?_
                show Steps p.tables e below (s₁.setTop (mkF m 133 #[.val (.ref o0), .val (.int i1), .val (.int i2), .val (.int ((g ((nat i1))) &&& (255 : Int32))), .val (.int (4 : Int32)), .val (.int (144 : Int32)), .val (.int (191 : Int32)), .unset, .unset, .unset] [(.int (244 : Int32)), (.int ((g ((nat i1))) &&& (255 : Int32)))])) _
                by_cases hc133 : ((g ((nat i1))) &&& (255 : Int32)) = (244 : Int32)
                · refine XS.icmpNo X0.here hx rfl (hb hby d2_133) rfl (teq hc133).2 ?_
                  show Steps p.tables e below (s₁.setTop (mkF m 136 #[.val (.ref o0), .val (.int i1), .val (.int i2), .val (.int ((g ((nat i1))) &&& (255 : Int32))), .val (.int (4 : Int32)), .val (.int (144 : Int32)), .val (.int (191 : Int32)), .unset, .unset, .unset] [])) _
                  refine XS.sipush X0.here hx rfl (hb hby d2_136) ?_
                  show Steps p.tables e below (s₁.setTop (mkF m 139 #[.val (.ref o0), .val (.int i1), .val (.int i2), .val (.int ((g ((nat i1))) &&& (255 : Int32))), .val (.int (4 : Int32)), .val (.int (144 : Int32)), .val (.int (191 : Int32)), .unset, .unset, .unset] [(.int (143 : Int32))])) _
                  refine XS.goto X0.here hx rfl (pc0 := 139) (pc' := 145) rfl (hb hby d2_139) (by decide) (by decide) ?_
                  show Steps p.tables e below (s₁.setTop (mkF m 145 #[.val (.ref o0), .val (.int i1), .val (.int i2), .val (.int ((g ((nat i1))) &&& (255 : Int32))), .val (.int (4 : Int32)), .val (.int (144 : Int32)), .val (.int (191 : Int32)), .unset, .unset, .unset] [(.int (143 : Int32))])) _
                  refine XS.istore X0.here hx rfl (hb hby d2_145) rfl (l' := #[.val (.ref o0), .val (.int i1), .val (.int i2), .val (.int ((g ((nat i1))) &&& (255 : Int32))), .val (.int (4 : Int32)), .val (.int (144 : Int32)), .val (.int (143 : Int32)), .unset, .unset, .unset]) rfl ?_
                  show Steps p.tables e below (s₁.setTop (mkF m 147 #[.val (.ref o0), .val (.int i1), .val (.int i2), .val (.int ((g ((nat i1))) &&& (255 : Int32))), .val (.int (4 : Int32)), .val (.int (144 : Int32)), .val (.int (143 : Int32)), .unset, .unset, .unset] [])) _
                  refine XS.goto X0.here hx rfl (pc0 := 147) (pc' := 153) rfl (hb hby d2_147) (by decide) (by decide) ?_
                  show Steps p.tables e below (s₁.setTop (mkF m 153 #[.val (.ref o0), .val (.int i1), .val (.int i2), .val (.int ((g ((nat i1))) &&& (255 : Int32))), .val (.int (4 : Int32)), .val (.int (144 : Int32)), .val (.int (143 : Int32)), .unset, .unset, .unset] [])) _
                  rw [show (f2_22_l4 i1 i2 g) = (4 : Int32) from ((if_pos hc22).trans ((if_neg hc42).trans ((if_pos hc49).trans ((if_neg hc98).trans ((if_neg hc105).trans ((if_pos hc115).trans (if_pos hc133))))))), show (f2_22_l5 i1 i2 g) = (144 : Int32) from ((if_pos hc22).trans ((if_neg hc42).trans ((if_pos hc49).trans ((if_neg hc98).trans ((if_neg hc105).trans ((if_pos hc115).trans (if_pos hc133))))))), show (f2_22_l6 i1 i2 g) = (143 : Int32) from ((if_pos hc22).trans ((if_neg hc42).trans ((if_pos hc49).trans ((if_neg hc98).trans ((if_neg hc105).trans ((if_pos hc115).trans (if_pos hc133)))))))] at k
                  exact k
                · refine XS.icmpYes X0.here hx rfl (pc0 := 133) (pc' := 142) rfl (hb hby d2_133) rfl (feq hc133).2 (by decide) (by decide) ?_
                  show Steps p.tables e below (s₁.setTop (mkF m 142 #[.val (.ref o0), .val (.int i1), .val (.int i2), .val (.int ((g ((nat i1))) &&& (255 : Int32))), .val (.int (4 : Int32)), .val (.int (144 : Int32)), .val (.int (191 : Int32)), .unset, .unset, .unset] [])) _
                  refine XS.sipush X0.here hx rfl (hb hby d2_142) ?_
                  show Steps p.tables e below (s₁.setTop (mkF m 145 #[.val (.ref o0), .val (.int i1), .val (.int i2), .val (.int ((g ((nat i1))) &&& (255 : Int32))), .val (.int (4 : Int32)), .val (.int (144 : Int32)), .val (.int (191 : Int32)), .unset, .unset, .unset] [(.int (191 : Int32))])) _
                  refine XS.istore X0.here hx rfl (hb hby d2_145) rfl (l' := #[.val (.ref o0), .val (.int i1), .val (.int i2), .val (.int ((g ((nat i1))) &&& (255 : Int32))), .val (.int (4 : Int32)), .val (.int (144 : Int32)), .val (.int (191 : Int32)), .unset, .unset, .unset]) rfl ?_
                  show Steps p.tables e below (s₁.setTop (mkF m 147 #[.val (.ref o0), .val (.int i1), .val (.int i2), .val (.int ((g ((nat i1))) &&& (255 : Int32))), .val (.int (4 : Int32)), .val (.int (144 : Int32)), .val (.int (191 : Int32)), .unset, .unset, .unset] [])) _
                  refine XS.goto X0.here hx rfl (pc0 := 147) (pc' := 153) rfl (hb hby d2_147) (by decide) (by decide) ?_
                  show Steps p.tables e below (s₁.setTop (mkF m 153 #[.val (.ref o0), .val (.int i1), .val (.int i2), .val (.int ((g ((nat i1))) &&& (255 : Int32))), .val (.int (4 : Int32)), .val (.int (144 : Int32)), .val (.int (191 : Int32)), .unset, .unset, .unset] [])) _
                  rw [show (f2_22_l4 i1 i2 g) = (4 : Int32) from ((if_pos hc22).trans ((if_neg hc42).trans ((if_pos hc49).trans ((if_neg hc98).trans ((if_neg hc105).trans ((if_pos hc115).trans (if_neg hc133))))))), show (f2_22_l5 i1 i2 g) = (144 : Int32) from ((if_pos hc22).trans ((if_neg hc42).trans ((if_pos hc49).trans ((if_neg hc98).trans ((if_neg hc105).trans ((if_pos hc115).trans (if_neg hc133))))))), show (f2_22_l6 i1 i2 g) = (191 : Int32) from ((if_pos hc22).trans ((if_neg hc42).trans ((if_pos hc49).trans ((if_neg hc98).trans ((if_neg hc105).trans ((if_pos hc115).trans (if_neg hc133)))))))] at k
                  exact k
              · refine XS.icmpYes X0.here hx rfl (pc0 := 115) (pc' := 124) rfl (hb hby d2_115) rfl (feq hc115).2 (by decide) (by decide) ?_
                show Steps p.tables e below (s₁.setTop (mkF m 124 #[.val (.ref o0), .val (.int i1), .val (.int i2), .val (.int ((g ((nat i1))) &&& (255 : Int32))), .val (.int (4 : Int32)), .val (.int (128 : Int32)), .val (.int (191 : Int32)), .unset, .unset, .unset] [])) _
                refine XS.sipush X0.here hx rfl (hb hby d2_124) ?_
                show Steps p.tables e below (s₁.setTop (mkF m 127 #[.val (.ref o0), .val (.int i1), .val (.int i2), .val (.int ((g ((nat i1))) &&& (255 : Int32))), .val (.int (4 : Int32)), .val (.int (128 : Int32)), .val (.int (191 : Int32)), .unset, .unset, .unset] [(.int (128 : Int32))])) _
                refine XS.istore X0.here hx rfl (hb hby d2_127) rfl (l' := #[.val (.ref o0), .val (.int i1), .val (.int i2), .val (.int ((g ((nat i1))) &&& (255 : Int32))), .val (.int (4 : Int32)), .val (.int (128 : Int32)), .val (.int (191 : Int32)), .unset, .unset, .unset]) rfl ?_
                show Steps p.tables e below (s₁.setTop (mkF m 129 #[.val (.ref o0), .val (.int i1), .val (.int i2), .val (.int ((g ((nat i1))) &&& (255 : Int32))), .val (.int (4 : Int32)), .val (.int (128 : Int32)), .val (.int (191 : Int32)), .unset, .unset, .unset] [])) _
                refine XS.iloadN X0.here hx rfl (hb hby d2_129) rfl ?_
                show Steps p.tables e below (s₁.setTop (mkF m 130 #[.val (.ref o0), .val (.int i1), .val (.int i2), .val (.int ((g ((nat i1))) &&& (255 : Int32))), .val (.int (4 : Int32)), .val (.int (128 : Int32)), .val (.int (191 : Int32)), .unset, .unset, .unset] [(.int ((g ((nat i1))) &&& (255 : Int32)))])) _
                refine XS.sipush X0.here hx rfl (hb hby d2_130) ?_
                show Steps p.tables e below (s₁.setTop (mkF m 133 #[.val (.ref o0), .val (.int i1), .val (.int i2), .val (.int ((g ((nat i1))) &&& (255 : Int32))), .val (.int (4 : Int32)), .val (.int (128 : Int32)), .val (.int (191 : Int32)), .unset, .unset, .unset] [(.int (244 : Int32)), (.int ((g ((nat i1))) &&& (255 : Int32)))])) _
                by_cases hc133 : ((g ((nat i1))) &&& (255 : Int32)) = (244 : Int32)
                · refine XS.icmpNo X0.here hx rfl (hb hby d2_133) rfl (teq hc133).2 ?_
                  show Steps p.tables e below (s₁.setTop (mkF m 136 #[.val (.ref o0), .val (.int i1), .val (.int i2), .val (.int ((g ((nat i1))) &&& (255 : Int32))), .val (.int (4 : Int32)), .val (.int (128 : Int32)), .val (.int (191 : Int32)), .unset, .unset, .unset] [])) _
                  refine XS.sipush X0.here hx rfl (hb hby d2_136) ?_
                  show Steps p.tables e below (s₁.setTop (mkF m 139 #[.val (.ref o0), .val (.int i1), .val (.int i2), .val (.int ((g ((nat i1))) &&& (255 : Int32))), .val (.int (4 : Int32)), .val (.int (128 : Int32)), .val (.int (191 : Int32)), .unset, .unset, .unset] [(.int (143 : Int32))])) _
                  refine XS.goto X0.here hx rfl (pc0 := 139) (pc' := 145) rfl (hb hby d2_139) (by decide) (by decide) ?_
                  show Steps p.tables e below (s₁.setTop (mkF m 145 #[.val (.ref o0), .val (.int i1), .val (.int i2), .val (.int ((g ((nat i1))) &&& (255 : Int32))), .val (.int (4 : Int32)), .val (.int (128 : Int32)), .val (.int (191 : Int32)), .unset, .unset, .unset] [(.int (143 : Int32))])) _
                  refine XS.istore X0.here hx rfl (hb hby d2_145) rfl (l' := #[.val (.ref o0), .val (.int i1), .val (.int i2), .val (.int ((g ((nat i1))) &&& (255 : Int32))), .val (.int (4 : Int32)), .val (.int (128 : Int32)), .val (.int (143 : Int32)), .unset, .unset, .unset]) rfl ?_
                  show Steps p.tables e below (s₁.setTop (mkF m 147 #[.val (.ref o0), .val (.int i1), .val (.int i2), .val (.int ((g ((nat i1))) &&& (255 : Int32))), .val (.int (4 : Int32)), .val (.int (128 : Int32)), .val (.int (143 : Int32)), .unset, .unset, .unset] [])) _
                  refine XS.goto X0.here hx rfl (pc0 := 147) (pc' := 153) rfl (hb hby d2_147) (by decide) (by decide) ?_
                  show Steps p.tables e below (s₁.setTop (mkF m 153 #[.val (.ref o0), .val (.int i1), .val (.int i2), .val (.int ((g ((nat i1))) &&& (255 : Int32))), .val (.int (4 : Int32)), .val (.int (128 : Int32)), .val (.int (143 : Int32)), .unset, .unset, .unset] [])) _
                  rw [show (f2_22_l4 i1 i2 g) = (4 : Int32) from ((if_pos hc22).trans ((if_neg hc42).trans ((if_pos hc49).trans ((if_neg hc98).trans ((if_neg hc105).trans ((if_neg hc115).trans (if_pos hc133))))))), show (f2_22_l5 i1 i2 g) = (128 : Int32) from ((if_pos hc22).trans ((if_neg hc42).trans ((if_pos hc49).trans ((if_neg hc98).trans ((if_neg hc105).trans ((if_neg hc115).trans (if_pos hc133))))))), show (f2_22_l6 i1 i2 g) = (143 : Int32) from ((if_pos hc22).trans ((if_neg hc42).trans ((if_pos hc49).trans ((if_neg hc98).trans ((if_neg hc105).trans ((if_neg hc115).trans (if_pos hc133)))))))] at k
                  exact k
                · refine XS.icmpYes X0.here hx rfl (pc0 := 133) (pc' := 142) rfl (hb hby d2_133) rfl (feq hc133).2 (by decide) (by decide) ?_
                  show Steps p.tables e below (s₁.setTop (mkF m 142 #[.val (.ref o0), .val (.int i1), .val (.int i2), .val (.int ((g ((nat i1))) &&& (255 : Int32))), .val (.int (4 : Int32)), .val (.int (128 : Int32)), .val (.int (191 : Int32)), .unset, .unset, .unset] [])) _
                  refine XS.sipush X0.here hx rfl (hb hby d2_142) ?_
                  show Steps p.tables e below (s₁.setTop (mkF m 145 #[.val (.ref o0), .val (.int i1), .val (.int i2), .val (.int ((g ((nat i1))) &&& (255 : Int32))), .val (.int (4 : Int32)), .val (.int (128 : Int32)), .val (.int (191 : Int32)), .unset, .unset, .unset] [(.int (191 : Int32))])) _
                  refine XS.istore X0.here hx rfl (hb hby d2_145) rfl (l' := #[.val (.ref o0), .val (.int i1), .val (.int i2), .val (.int ((g ((nat i1))) &&& (255 : Int32))), .val (.int (4 : Int32)), .val (.int (128 : Int32)), .val (.int (191 : Int32)), .unset, .unset, .unset]) rfl ?_
                  show Steps p.tables e below (s₁.setTop (mkF m 147 #[.val (.ref o0), .val (.int i1), .val (.int i2), .val (.int ((g ((nat i1))) &&& (255 : Int32))), .val (.int (4 : Int32)), .val (.int (128 : Int32)), .val (.int (191 : Int32)), .unset, .unset, .unset] [])) _
                  refine XS.goto X0.here hx rfl (pc0 := 147) (pc' := 153) rfl (hb hby d2_147) (by decide) (by decide) ?_
                  show Steps p.tables e below (s₁.setTop (mkF m 153 #[.val (.ref o0), .val (.int i1), .val (.int i2), .val (.int ((g ((nat i1))) &&& (255 : Int32))), .val (.int (4 : Int32)), .val (.int (128 : Int32)), .val (.int (191 : Int32)), .unset, .unset, .unset] [])) _
                  rw [show (f2_22_l4 i1 i2 g) = (4 : Int32) from ((if_pos hc22).trans ((if_neg hc42).trans ((if_pos hc49).trans ((if_neg hc98).trans ((if_neg hc105).trans ((if_neg hc115).trans (if_neg hc133))))))), show (f2_22_l5 i1 i2 g) = (128 : Int32) from ((if_pos hc22).trans ((if_neg hc42).trans ((if_pos hc49).trans ((if_neg hc98).trans ((if_neg hc105).trans ((if_neg hc115).trans (if_neg hc133))))))), show (f2_22_l6 i1 i2 g) = (191 : Int32) from ((if_pos hc22).trans ((if_neg hc42).trans ((if_pos hc49).trans ((if_neg hc98).trans ((if_neg hc105).trans ((if_neg hc115).trans (if_neg hc133)))))))] at k
                  exact k
        · refine XS.icmpNo X0.here hx rfl (hb hby d2_49) rfl (flt hc49).2.2.1 ?_
          show Steps p.tables e below (s₁.setTop (mkF m 52 #[.val (.ref o0), .val (.int i1), .val (.int i2), .val (.int ((g ((nat i1))) &&& (255 : Int32))), .unset, .val (.int (128 : Int32)), .val (.int (191 : Int32)), .unset, .unset, .unset] [])) _
          refine XS.iconst X0.here hx rfl (hb hby d2_52) ?_
          show Steps p.tables e below (s₁.setTop (mkF m 53 #[.val (.ref o0), .val (.int i1), .val (.int i2), .val (.int ((g ((nat i1))) &&& (255 : Int32))), .unset, .val (.int (128 : Int32)), .val (.int (191 : Int32)), .unset, .unset, .unset] [(.int (3 : Int32))])) _
          refine XS.istore X0.here hx rfl (hb hby d2_53) rfl (l' := #[.val (.ref o0), .val (.int i1), .val (.int i2), .val (.int ((g ((nat i1))) &&& (255 : Int32))), .val (.int (3 : Int32)), .val (.int (128 : Int32)), .val (.int (191 : Int32)), .unset, .unset, .unset]) rfl ?_
          show Steps p.tables e below (s₁.setTop (mkF m 55 #[.val (.ref o0), .val (.int i1), .val (.int i2), .val (.int ((g ((nat i1))) &&& (255 : Int32))), .val (.int (3 : Int32)), .val (.int (128 : Int32)), .val (.int (191 : Int32)), .unset, .unset, .unset] [])) _
          refine XS.iloadN X0.here hx rfl (hb hby d2_55) rfl ?_
          show Steps p.tables e below (s₁.setTop (mkF m 56 #[.val (.ref o0), .val (.int i1), .val (.int i2), .val (.int ((g ((nat i1))) &&& (255 : Int32))), .val (.int (3 : Int32)), .val (.int (128 : Int32)), .val (.int (191 : Int32)), .unset, .unset, .unset] [(.int ((g ((nat i1))) &&& (255 : Int32)))])) _
          refine XS.sipush X0.here hx rfl (hb hby d2_56) ?_
          show Steps p.tables e below (s₁.setTop (mkF m 59 #[.val (.ref o0), .val (.int i1), .val (.int i2), .val (.int ((g ((nat i1))) &&& (255 : Int32))), .val (.int (3 : Int32)), .val (.int (128 : Int32)), .val (.int (191 : Int32)), .unset, .unset, .unset] [(.int (224 : Int32)), (.int ((g ((nat i1))) &&& (255 : Int32)))])) _
          by_cases hc59 : ((g ((nat i1))) &&& (255 : Int32)) = (224 : Int32)
          · refine XS.icmpNo X0.here hx rfl (hb hby d2_59) rfl (teq hc59).2 ?_
            show Steps p.tables e below (s₁.setTop (mkF m 62 #[.val (.ref o0), .val (.int i1), .val (.int i2), .val (.int ((g ((nat i1))) &&& (255 : Int32))), .val (.int (3 : Int32)), .val (.int (128 : Int32)), .val (.int (191 : Int32)), .unset, .unset, .unset] [])) _
            refine XS.sipush X0.here hx rfl (hb hby d2_62) ?_
            show Steps p.tables e below (s₁.setTop (mkF m 65 #[.val (.ref o0), .val (.int i1), .val (.int i2), .val (.int ((g ((nat i1))) &&& (255 : Int32))), .val (.int (3 : Int32)), .val (.int (128 : Int32)), .val (.int (191 : Int32)), .unset, .unset, .unset] [(.int (160 : Int32))])) _
            refine XS.goto X0.here hx rfl (pc0 := 65) (pc' := 71) rfl (hb hby d2_65) (by decide) (by decide) ?_
            show Steps p.tables e below (s₁.setTop (mkF m 71 #[.val (.ref o0), .val (.int i1), .val (.int i2), .val (.int ((g ((nat i1))) &&& (255 : Int32))), .val (.int (3 : Int32)), .val (.int (128 : Int32)), .val (.int (191 : Int32)), .unset, .unset, .unset] [(.int (160 : Int32))])) _
            refine XS.istore X0.here hx rfl (hb hby d2_71) rfl (l' := #[.val (.ref o0), .val (.int i1), .val (.int i2), .val (.int ((g ((nat i1))) &&& (255 : Int32))), .val (.int (3 : Int32)), .val (.int (160 : Int32)), .val (.int (191 : Int32)), .unset, .unset, .unset]) rfl ?_
            show Steps p.tables e below (s₁.setTop (mkF m 73 #[.val (.ref o0), .val (.int i1), .val (.int i2), .val (.int ((g ((nat i1))) &&& (255 : Int32))), .val (.int (3 : Int32)), .val (.int (160 : Int32)), .val (.int (191 : Int32)), .unset, .unset, .unset] [])) _
            refine XS.iloadN X0.here hx rfl (hb hby d2_73) rfl ?_
            show Steps p.tables e below (s₁.setTop (mkF m 74 #[.val (.ref o0), .val (.int i1), .val (.int i2), .val (.int ((g ((nat i1))) &&& (255 : Int32))), .val (.int (3 : Int32)), .val (.int (160 : Int32)), .val (.int (191 : Int32)), .unset, .unset, .unset] [(.int ((g ((nat i1))) &&& (255 : Int32)))])) _
            refine XS.sipush X0.here hx rfl (hb hby d2_74) ?_
            show Steps p.tables e below (s₁.setTop (mkF m 77 #[.val (.ref o0), .val (.int i1), .val (.int i2), .val (.int ((g ((nat i1))) &&& (255 : Int32))), .val (.int (3 : Int32)), .val (.int (160 : Int32)), .val (.int (191 : Int32)), .unset, .unset, .unset] [(.int (237 : Int32)), (.int ((g ((nat i1))) &&& (255 : Int32)))])) _
            by_cases hc77 : ((g ((nat i1))) &&& (255 : Int32)) = (237 : Int32)
            · refine XS.icmpNo X0.here hx rfl (hb hby d2_77) rfl (teq hc77).2 ?_
              show Steps p.tables e below (s₁.setTop (mkF m 80 #[.val (.ref o0), .val (.int i1), .val (.int i2), .val (.int ((g ((nat i1))) &&& (255 : Int32))), .val (.int (3 : Int32)), .val (.int (160 : Int32)), .val (.int (191 : Int32)), .unset, .unset, .unset] [])) _
              refine XS.sipush X0.here hx rfl (hb hby d2_80) ?_
              show Steps p.tables e below (s₁.setTop (mkF m 83 #[.val (.ref o0), .val (.int i1), .val (.int i2), .val (.int ((g ((nat i1))) &&& (255 : Int32))), .val (.int (3 : Int32)), .val (.int (160 : Int32)), .val (.int (191 : Int32)), .unset, .unset, .unset] [(.int (159 : Int32))])) _
              refine XS.goto X0.here hx rfl (pc0 := 83) (pc' := 89) rfl (hb hby d2_83) (by decide) (by decide) ?_
              show Steps p.tables e below (s₁.setTop (mkF m 89 #[.val (.ref o0), .val (.int i1), .val (.int i2), .val (.int ((g ((nat i1))) &&& (255 : Int32))), .val (.int (3 : Int32)), .val (.int (160 : Int32)), .val (.int (191 : Int32)), .unset, .unset, .unset] [(.int (159 : Int32))])) _
              refine XS.istore X0.here hx rfl (hb hby d2_89) rfl (l' := #[.val (.ref o0), .val (.int i1), .val (.int i2), .val (.int ((g ((nat i1))) &&& (255 : Int32))), .val (.int (3 : Int32)), .val (.int (160 : Int32)), .val (.int (159 : Int32)), .unset, .unset, .unset]) rfl ?_
              show Steps p.tables e below (s₁.setTop (mkF m 91 #[.val (.ref o0), .val (.int i1), .val (.int i2), .val (.int ((g ((nat i1))) &&& (255 : Int32))), .val (.int (3 : Int32)), .val (.int (160 : Int32)), .val (.int (159 : Int32)), .unset, .unset, .unset] [])) _
              refine XS.goto X0.here hx rfl (pc0 := 91) (pc' := 153) rfl (hb hby d2_91) (by decide) (by decide) ?_
              show Steps p.tables e below (s₁.setTop (mkF m 153 #[.val (.ref o0), .val (.int i1), .val (.int i2), .val (.int ((g ((nat i1))) &&& (255 : Int32))), .val (.int (3 : Int32)), .val (.int (160 : Int32)), .val (.int (159 : Int32)), .unset, .unset, .unset] [])) _
              rw [show (f2_22_l4 i1 i2 g) = (3 : Int32) from ((if_pos hc22).trans ((if_neg hc42).trans ((if_neg hc49).trans ((if_pos hc59).trans (if_pos hc77))))), show (f2_22_l5 i1 i2 g) = (160 : Int32) from ((if_pos hc22).trans ((if_neg hc42).trans ((if_neg hc49).trans ((if_pos hc59).trans (if_pos hc77))))), show (f2_22_l6 i1 i2 g) = (159 : Int32) from ((if_pos hc22).trans ((if_neg hc42).trans ((if_neg hc49).trans ((if_pos hc59).trans (if_pos hc77)))))] at k
              exact k
            · refine XS.icmpYes X0.here hx rfl (pc0 := 77) (pc' := 86) rfl (hb hby d2_77) rfl (feq hc77).2 (by decide) (by decide) ?_
              show Steps p.tables e below (s₁.setTop (mkF m 86 #[.val (.ref o0), .val (.int i1), .val (.int i2), .val (.int ((g ((nat i1))) &&& (255 : Int32))), .val (.int (3 : Int32)), .val (.int (160 : Int32)), .val (.int (191 : Int32)), .unset, .unset, .unset] [])) _
              refine XS.sipush X0.here hx rfl (hb hby d2_86) ?_
              show Steps p.tables e below (s₁.setTop (mkF m 89 #[.val (.ref o0), .val (.int i1), .val (.int i2), .val (.int ((g ((nat i1))) &&& (255 : Int32))), .val (.int (3 : Int32)), .val (.int (160 : Int32)), .val (.int (191 : Int32)), .unset, .unset, .unset] [(.int (191 : Int32))])) _
              refine XS.istore X0.here hx rfl (hb hby d2_89) rfl (l' := #[.val (.ref o0), .val (.int i1), .val (.int i2), .val (.int ((g ((nat i1))) &&& (255 : Int32))), .val (.int (3 : Int32)), .val (.int (160 : Int32)), .val (.int (191 : Int32)), .unset, .unset, .unset]) rfl ?_
              show Steps p.tables e below (s₁.setTop (mkF m 91 #[.val (.ref o0), .val (.int i1), .val (.int i2), .val (.int ((g ((nat i1))) &&& (255 : Int32))), .val (.int (3 : Int32)), .val (.int (160 : Int32)), .val (.int (191 : Int32)), .unset, .unset, .unset] [])) _
              refine XS.goto X0.here hx rfl (pc0 := 91) (pc' := 153) rfl (hb hby d2_91) (by decide) (by decide) ?_
              show Steps p.tables e below (s₁.setTop (mkF m 153 #[.val (.ref o0), .val (.int i1), .val (.int i2), .val (.int ((g ((nat i1))) &&& (255 : Int32))), .val (.int (3 : Int32)), .val (.int (160 : Int32)), .val (.int (191 : Int32)), .unset, .unset, .unset] [])) _
              rw [show (f2_22_l4 i1 i2 g) = (3 : Int32) from ((if_pos hc22).trans ((if_neg hc42).trans ((if_neg hc49).trans ((if_pos hc59).trans (if_neg hc77))))), show (f2_22_l5 i1 i2 g) = (160 : Int32) from ((if_pos hc22).trans ((if_neg hc42).trans ((if_neg hc49).trans ((if_pos hc59).trans (if_neg hc77))))), show (f2_22_l6 i1 i2 g) = (191 : Int32) from ((if_pos hc22).trans ((if_neg hc42).trans ((if_neg hc49).trans ((if_pos hc59).trans (if_neg hc77)))))] at k
              exact k
          · refine XS.icmpYes X0.here hx rfl (pc0 := 59) (pc' := 68) rfl (hb hby d2_59) rfl (feq hc59).2 (by decide) (by decide) ?_
            show Steps p.tables e below (s₁.setTop (mkF m 68 #[.val (.ref o0), .val (.int i1), .val (.int i2), .val (.int ((g ((nat i1))) &&& (255 : Int32))), .val (.int (3 : Int32)), .val (.int (128 : Int32)), .val (.int (191 : Int32)), .unset, .unset, .unset] [])) _
            refine XS.sipush X0.here hx rfl (hb hby d2_68) ?_
            show Steps p.tables e below (s₁.setTop (mkF m 71 #[.val (.ref o0), .val (.int i1), .val (.int i2), .val (.int ((g ((nat i1))) &&& (255 : Int32))), .val (.int (3 : Int32)), .val (.int (128 : Int32)), .val (.int (191 : Int32)), .unset, .unset, .unset] [(.int (128 : Int32))])) _
            refine XS.istore X0.here hx rfl (hb hby d2_71) rfl (l' := #[.val (.ref o0), .val (.int i1), .val (.int i2), .val (.int ((g ((nat i1))) &&& (255 : Int32))), .val (.int (3 : Int32)), .val (.int (128 : Int32)), .val (.int (191 : Int32)), .unset, .unset, .unset]) rfl ?_
            show Steps p.tables e below (s₁.setTop (mkF m 73 #[.val (.ref o0), .val (.int i1), .val (.int i2), .val (.int ((g ((nat i1))) &&& (255 : Int32))), .val (.int (3 : Int32)), .val (.int (128 : Int32)), .val (.int (191 : Int32)), .unset, .unset, .unset] [])) _
            refine XS.iloadN X0.here hx rfl (hb hby d2_73) rfl ?_
            show Steps p.tables e below (s₁.setTop (mkF m 74 #[.val (.ref o0), .val (.int i1), .val (.int i2), .val (.int ((g ((nat i1))) &&& (255 : Int32))), .val (.int (3 : Int32)), .val (.int (128 : Int32)), .val (.int (191 : Int32)), .unset, .unset, .unset] [(.int ((g ((nat i1))) &&& (255 : Int32)))])) _
            refine XS.sipush X0.here hx rfl (hb hby d2_74) ?_
            show Steps p.tables e below (s₁.setTop (mkF m 77 #[.val (.ref o0), .val (.int i1), .val (.int i2), .val (.int ((g ((nat i1))) &&& (255 : Int32))), .val (.int (3 : Int32)), .val (.int (128 : Int32)), .val (.int (191 : Int32)), .unset, .unset, .unset] [(.int (237 : Int32)), (.int ((g ((nat i1))) &&& (255 : Int32)))])) _
            by_cases hc77 : ((g ((nat i1))) &&& (255 : Int32)) = (237 : Int32)
            · refine XS.icmpNo X0.here hx rfl (hb hby d2_77) rfl (teq hc77).2 ?_
              show Steps p.tables e below (s₁.setTop (mkF m 80 #[.val (.ref o0), .val (.int i1), .val (.int i2), .val (.int ((g ((nat i1))) &&& (255 : Int32))), .val (.int (3 : Int32)), .val (.int (128 : Int32)), .val (.int (191 : Int32)), .unset, .unset, .unset] [])) _
              refine XS.sipush X0.here hx rfl (hb hby d2_80) ?_
              show Steps p.tables e below (s₁.setTop (mkF m 83 #[.val (.ref o0), .val (.int i1), .val (.int i2), .val (.int ((g ((nat i1))) &&& (255 : Int32))), .val (.int (3 : Int32)), .val (.int (128 : Int32)), .val (.int (191 : Int32)), .unset, .unset, .unset] [(.int (159 : Int32))])) _
              refine XS.goto X0.here hx rfl (pc0 := 83) (pc' := 89) rfl (hb hby d2_83) (by decide) (by decide) ?_
              show Steps p.tables e below (s₁.setTop (mkF m 89 #[.val (.ref o0), .val (.int i1), .val (.int i2), .val (.int ((g ((nat i1))) &&& (255 : Int32))), .val (.int (3 : Int32)), .val (.int (128 : Int32)), .val (.int (191 : Int32)), .unset, .unset, .unset] [(.int (159 : Int32))])) _
              refine XS.istore X0.here hx rfl (hb hby d2_89) rfl (l' := #[.val (.ref o0), .val (.int i1), .val (.int i2), .val (.int ((g ((nat i1))) &&& (255 : Int32))), .val (.int (3 : Int32)), .val (.int (128 : Int32)), .val (.int (159 : Int32)), .unset, .unset, .unset]) rfl ?_
              show Steps p.tables e below (s₁.setTop (mkF m 91 #[.val (.ref o0), .val (.int i1), .val (.int i2), .val (.int ((g ((nat i1))) &&& (255 : Int32))), .val (.int (3 : Int32)), .val (.int (128 : Int32)), .val (.int (159 : Int32)), .unset, .unset, .unset] [])) _
              refine XS.goto X0.here hx rfl (pc0 := 91) (pc' := 153) rfl (hb hby d2_91) (by decide) (by decide) ?_
              show Steps p.tables e below (s₁.setTop (mkF m 153 #[.val (.ref o0), .val (.int i1), .val (.int i2), .val (.int ((g ((nat i1))) &&& (255 : Int32))), .val (.int (3 : Int32)), .val (.int (128 : Int32)), .val (.int (159 : Int32)), .unset, .unset, .unset] [])) _
              rw [show (f2_22_l4 i1 i2 g) = (3 : Int32) from ((if_pos hc22).trans ((if_neg hc42).trans ((if_neg hc49).trans ((if_neg hc59).trans (if_pos hc77))))), show (f2_22_l5 i1 i2 g) = (128 : Int32) from ((if_pos hc22).trans ((if_neg hc42).trans ((if_neg hc49).trans ((if_neg hc59).trans (if_pos hc77))))), show (f2_22_l6 i1 i2 g) = (159 : Int32) from ((if_pos hc22).trans ((if_neg hc42).trans ((if_neg hc49).trans ((if_neg hc59).trans (if_pos hc77)))))] at k
              exact k
            · refine XS.icmpYes X0.here hx rfl (pc0 := 77) (pc' := 86) rfl (hb hby d2_77) rfl (feq hc77).2 (by decide) (by decide) ?_
              show Steps p.tables e below (s₁.setTop (mkF m 86 #[.val (.ref o0), .val (.int i1), .val (.int i2), .val (.int ((g ((nat i1))) &&& (255 : Int32))), .val (.int (3 : Int32)), .val (.int (128 : Int32)), .val (.int (191 : Int32)), .unset, .unset, .unset] [])) _
              refine XS.sipush X0.here hx rfl (hb hby d2_86) ?_
              show Steps p.tables e below (s₁.setTop (mkF m 89 #[.val (.ref o0), .val (.int i1), .val (.int i2), .val (.int ((g ((nat i1))) &&& (255 : Int32))), .val (.int (3 : Int32)), .val (.int (128 : Int32)), .val (.int (191 : Int32)), .unset, .unset, .unset] [(.int (191 : Int32))])) _
              refine XS.istore X0.here hx rfl (hb hby d2_89) rfl (l' := #[.val (.ref o0), .val (.int i1), .val (.int i2), .val (.int ((g ((nat i1))) &&& (255 : Int32))), .val (.int (3 : Int32)), .val (.int (128 : Int32)), .val (.int (191 : Int32)), .unset, .unset, .unset]) rfl ?_
              show Steps p.tables e below (s₁.setTop (mkF m 91 #[.val (.ref o0), .val (.int i1), .val (.int i2), .val (.int ((g ((nat i1))) &&& (255 : Int32))), .val (.int (3 : Int32)), .val (.int (128 : Int32)), .val (.int (191 : Int32)), .unset, .unset, .unset] [])) _
              refine XS.goto X0.here hx rfl (pc0 := 91) (pc' := 153) rfl (hb hby d2_91) (by decide) (by decide) ?_
              show Steps p.tables e below (s₁.setTop (mkF m 153 #[.val (.ref o0), .val (.int i1), .val (.int i2), .val (.int ((g ((nat i1))) &&& (255 : Int32))), .val (.int (3 : Int32)), .val (.int (128 : Int32)), .val (.int (191 : Int32)), .unset, .unset, .unset] [])) _
              rw [show (f2_22_l4 i1 i2 g) = (3 : Int32) from ((if_pos hc22).trans ((if_neg hc42).trans ((if_neg hc49).trans ((if_neg hc59).trans (if_neg hc77))))), show (f2_22_l5 i1 i2 g) = (128 : Int32) from ((if_pos hc22).trans ((if_neg hc42).trans ((if_neg hc49).trans ((if_neg hc59).trans (if_neg hc77))))), show (f2_22_l6 i1 i2 g) = (191 : Int32) from ((if_pos hc22).trans ((if_neg hc42).trans ((if_neg hc49).trans ((if_neg hc59).trans (if_neg hc77)))))] at k
              exact k
    · refine XS.icmpNo X0.here hx rfl (hb hby d2_22) rfl (flt hc22).1 ?_
      show Steps p.tables e below (s₁.setTop (mkF m 25 #[.val (.ref o0), .val (.int i1), .val (.int i2), .val (.int ((g ((nat i1))) &&& (255 : Int32))), .unset, .val (.int (128 : Int32)), .val (.int (191 : Int32)), .unset, .unset, .unset] [])) _
      refine XS.iloadN X0.here hx rfl (hb hby d2_25) rfl ?_
      show Steps p.tables e below (s₁.setTop (mkF m 26 #[.val (.ref o0), .val (.int i1), .val (.int i2), .val (.int ((g ((nat i1))) &&& (255 : Int32))), .unset, .val (.int (128 : Int32)), .val (.int (191 : Int32)), .unset, .unset, .unset] [(.int ((g ((nat i1))) &&& (255 : Int32)))])) _
      refine XS.sipush X0.here hx rfl (hb hby d2_26) ?_
      show Steps p.tables e below (s₁.setTop (mkF m 29 #[.val (.ref o0), .val (.int i1), .val (.int i2), .val (.int ((g ((nat i1))) &&& (255 : Int32))), .unset, .val (.int (128 : Int32)), .val (.int (191 : Int32)), .unset, .unset, .unset] [(.int (223 : Int32)), (.int ((g ((nat i1))) &&& (255 : Int32)))])) _
      by_cases hc29 : (223 : Int32) < ((g ((nat i1))) &&& (255 : Int32))
      · refine XS.icmpYes X0.here hx rfl (pc0 := 29) (pc' := 38) rfl (hb hby d2_29) rfl (tlt hc29).2.2.1 (by decide) (by decide) ?_
        show Steps p.tables e below (s₁.setTop (mkF m 38 #[.val (.ref o0), .val (.int i1), .val (.int i2), .val (.int ((g ((nat i1))) &&& (255 : Int32))), .unset, .val (.int (128 : Int32)), .val (.int (191 : Int32)), .unset, .unset, .unset] [])) _
        refine XS.iloadN X0.here hx rfl (hb hby d2_38) rfl ?_
        show Steps p.tables e below (s₁.setTop (mkF m 39 #[.val (.ref o0), .val (.int i1), .val (.int i2), .val (.int ((g ((nat i1))) &&& (255 : Int32))), .unset, .val (.int (128 : Int32)), .val (.int (191 : Int32)), .unset, .unset, .unset] [(.int ((g ((nat i1))) &&& (255 : Int32)))])) _
        refine XS.sipush X0.here hx rfl (hb hby d2_39) ?_
        show Steps p.tables e below (s₁.setTop (mkF m 42 #[.val (.ref o0), .val (.int i1), .val (.int i2), .val (.int ((g ((nat i1))) &&& (255 : Int32))), .unset, .val (.int (128 : Int32)), .val (.int (191 : Int32)), .unset, .unset, .unset] [(.int (224 : Int32)), (.int ((g ((nat i1))) &&& (255 : Int32)))])) _
        by_cases hc42 : ((g ((nat i1))) &&& (255 : Int32)) < (224 : Int32)
        · refine XS.icmpYes X0.here hx rfl (pc0 := 42) (pc' := 94) rfl (hb hby d2_42) rfl (tlt hc42).1 (by decide) (by decide) ?_
          show Steps p.tables e below (s₁.setTop (mkF m 94 #[.val (.ref o0), .val (.int i1), .val (.int i2), .val (.int ((g ((nat i1))) &&& (255 : Int32))), .unset, .val (.int (128 : Int32)), .val (.int (191 : Int32)), .unset, .unset, .unset] [])) _
          refine XS.iloadN X0.here hx rfl (hb hby d2_94) rfl ?_
          show Steps p.tables e below (s₁.setTop (mkF m 95 #[.val (.ref o0), .val (.int i1), .val (.int i2), .val (.int ((g ((nat i1))) &&& (255 : Int32))), .unset, .val (.int (128 : Int32)), .val (.int (191 : Int32)), .unset, .unset, .unset] [(.int ((g ((nat i1))) &&& (255 : Int32)))])) _
          refine XS.sipush X0.here hx rfl (hb hby d2_95) ?_
          show Steps p.tables e below (s₁.setTop (mkF m 98 #[.val (.ref o0), .val (.int i1), .val (.int i2), .val (.int ((g ((nat i1))) &&& (255 : Int32))), .unset, .val (.int (128 : Int32)), .val (.int (191 : Int32)), .unset, .unset, .unset] [(.int (240 : Int32)), (.int ((g ((nat i1))) &&& (255 : Int32)))])) _
          by_cases hc98 : ((g ((nat i1))) &&& (255 : Int32)) < (240 : Int32)
          · refine XS.icmpYes X0.here hx rfl (pc0 := 98) (pc' := 150) rfl (hb hby d2_98) rfl (tlt hc98).1 (by decide) (by decide) ?_
            show Steps p.tables e below (s₁.setTop (mkF m 150 #[.val (.ref o0), .val (.int i1), .val (.int i2), .val (.int ((g ((nat i1))) &&& (255 : Int32))), .unset, .val (.int (128 : Int32)), .val (.int (191 : Int32)), .unset, .unset, .unset] [])) _
            refine XS.iconst X0.here hx rfl (hb hby d2_150) ?_
            show Steps p.tables e below (s₁.setTop (mkF m 151 #[.val (.ref o0), .val (.int i1), .val (.int i2), .val (.int ((g ((nat i1))) &&& (255 : Int32))), .unset, .val (.int (128 : Int32)), .val (.int (191 : Int32)), .unset, .unset, .unset] [(.int (0 : Int32))])) _
            refine XS.istore X0.here hx rfl (hb hby d2_151) rfl (l' := #[.val (.ref o0), .val (.int i1), .val (.int i2), .val (.int ((g ((nat i1))) &&& (255 : Int32))), .val (.int (0 : Int32)), .val (.int (128 : Int32)), .val (.int (191 : Int32)), .unset, .unset, .unset]) rfl ?_
            show Steps p.tables e below (s₁.setTop (mkF m 153 #[.val (.ref o0), .val (.int i1), .val (.int i2), .val (.int ((g ((nat i1))) &&& (255 : Int32))), .val (.int (0 : Int32)), .val (.int (128 : Int32)), .val (.int (191 : Int32)), .unset, .unset, .unset] [])) _
            rw [show (f2_22_l4 i1 i2 g) = (0 : Int32) from ((if_neg hc22).trans ((if_pos hc29).trans ((if_pos hc42).trans (if_pos hc98)))), show (f2_22_l5 i1 i2 g) = (128 : Int32) from ((if_neg hc22).trans ((if_pos hc29).trans ((if_pos hc42).trans (if_pos hc98)))), show (f2_22_l6 i1 i2 g) = (191 : Int32) from ((if_neg hc22).trans ((if_pos hc29).trans ((if_pos hc42).trans (if_pos hc98))))] at k
            exact k
          · refine XS.icmpNo X0.here hx rfl (hb hby d2_98) rfl (flt hc98).1 ?_
            show Steps p.tables e below (s₁.setTop (mkF m 101 #[.val (.ref o0), .val (.int i1), .val (.int i2), .val (.int ((g ((nat i1))) &&& (255 : Int32))), .unset, .val (.int (128 : Int32)), .val (.int (191 : Int32)), .unset, .unset, .unset] [])) _
            refine XS.iloadN X0.here hx rfl (hb hby d2_101) rfl ?_
            show Steps p.tables e below (s₁.setTop (mkF m 102 #[.val (.ref o0), .val (.int i1), .val (.int i2), .val (.int ((g ((nat i1))) &&& (255 : Int32))), .unset, .val (.int (128 : Int32)), .val (.int (191 : Int32)), .unset, .unset, .unset] [(.int ((g ((nat i1))) &&& (255 : Int32)))])) _
            refine XS.sipush X0.here hx rfl (hb hby d2_102) ?_
            show Steps p.tables e below (s₁.setTop (mkF m 105 #[.val (.ref o0), .val (.int i1), .val (.int i2), .val (.int ((g ((nat i1))) &&& (255 : Int32))), .unset, .val (.int (128 : Int32)), .val (.int (191 : Int32)), .unset, .unset, .unset] [(.int (244 : Int32)), (.int ((g ((nat i1))) &&& (255 : Int32)))])) _
            by_cases hc105 : (244 : Int32) < ((g ((nat i1))) &&& (255 : Int32))
            · refine XS.icmpYes X0.here hx rfl (pc0 := 105) (pc' := 150) rfl (hb hby d2_105) rfl (tlt hc105).2.2.1 (by decide) (by decide) ?_
              show Steps p.tables e below (s₁.setTop (mkF m 150 #[.val (.ref o0), .val (.int i1), .val (.int i2), .val (.int ((g ((nat i1))) &&& (255 : Int32))), .unset, .val (.int (128 : Int32)), .val (.int (191 : Int32)), .unset, .unset, .unset] [])) _
              refine XS.iconst X0.here hx rfl (hb hby d2_150) ?_
              show Steps p.tables e below (s₁.setTop (mkF m 151 #[.val (.ref o0), .val (.int i1), .val (.int i2), .val (.int ((g ((nat i1))) &&& (255 : Int32))), .unset, .val (.int (128 : Int32)), .val (.int (191 : Int32)), .unset, .unset, .unset] [(.int (0 : Int32))])) _
              refine XS.istore X0.here hx rfl (hb hby d2_151) rfl (l' := #[.val (.ref o0), .val (.int i1), .val (.int i2), .val (.int ((g ((nat i1))) &&& (255 : Int32))), .val (.int (0 : Int32)), .val (.int (128 : Int32)), .val (.int (191 : Int32)), .unset, .unset, .unset]) rfl ?_
              show Steps p.tables e below (s₁.setTop (mkF m 153 #[.val (.ref o0), .val (.int i1), .val (.int i2), .val (.int ((g ((nat i1))) &&& (255 : Int32))), .val (.int (0 : Int32)), .val (.int (128 : Int32)), .val (.int (191 : Int32)), .unset, .unset, .unset] [])) _
              rw [show (f2_22_l4 i1 i2 g) = (0 : Int32) from ((if_neg hc22).trans ((if_pos hc29).trans ((if_pos hc42).trans ((if_neg hc98).trans (if_pos hc105))))), show (f2_22_l5 i1 i2 g) = (128 : Int32) from ((if_neg hc22).trans ((if_pos hc29).trans ((if_pos hc42).trans ((if_neg hc98).trans (if_pos hc105))))), show (f2_22_l6 i1 i2 g) = (191 : Int32) from ((if_neg hc22).trans ((if_pos hc29).trans ((if_pos hc42).trans ((if_neg hc98).trans (if_pos hc105)))))] at k
              exact k
            · refine XS.icmpNo X0.here hx rfl (hb hby d2_105) rfl (flt hc105).2.2.1 ?_
              show Steps p.tables e below (s₁.setTop (mkF m 108 #[.val (.ref o0), .val (.int i1), .val (.int i2), .val (.int ((g ((nat i1))) &&& (255 : Int32))), .unset, .val (.int (128 : Int32)), .val (.int (191 : Int32)), .unset, .unset, .unset] [])) _
              refine XS.iconst X0.here hx rfl (hb hby d2_108) ?_
              show Steps p.tables e below (s₁.setTop (mkF m 109 #[.val (.ref o0), .val (.int i1), .val (.int i2), .val (.int ((g ((nat i1))) &&& (255 : Int32))), .unset, .val (.int (128 : Int32)), .val (.int (191 : Int32)), .unset, .unset, .unset] [(.int (4 : Int32))])) _
              refine XS.istore X0.here hx rfl (hb hby d2_109) rfl (l' := #[.val (.ref o0), .val (.int i1), .val (.int i2), .val (.int ((g ((nat i1))) &&& (255 : Int32))), .val (.int (4 : Int32)), .val (.int (128 : Int32)), .val (.int (191 : Int32)), .unset, .unset, .unset]) rfl ?_
              show Steps p.tables e below (s₁.setTop (mkF m 111 #[.val (.ref o0), .val (.int i1), .val (.int i2), .val (.int ((g ((nat i1))) &&& (255 : Int32))), .val (.int (4 : Int32)), .val (.int (128 : Int32)), .val (.int (191 : Int32)), .unset, .unset, .unset] [])) _
              refine XS.iloadN X0.here hx rfl (hb hby d2_111) rfl ?_
              show Steps p.tables e below (s₁.setTop (mkF m 112 #[.val (.ref o0), .val (.int i1), .val (.int i2), .val (.int ((g ((nat i1))) &&& (255 : Int32))), .val (.int (4 : Int32)), .val (.int (128 : Int32)), .val (.int (191 : Int32)), .unset, .unset, .unset] [(.int ((g ((nat i1))) &&& (255 : Int32)))])) _
              refine XS.sipush X0.here hx rfl (hb hby d2_112) ?_
              show Steps p.tables e below (s₁.setTop (mkF m 115 #[.val (.ref o0), .val (.int i1), .val (.int i2), .val (.int ((g ((nat i1))) &&& (255 : Int32))), .val (.int (4 : Int32)), .val (.int (128 : Int32)), .val (.int (191 : Int32)), .unset, .unset, .unset] [(.int (240 : Int32)), (.int ((g ((nat i1))) &&& (255 : Int32)))])) _
              by_cases hc115 : ((g ((nat i1))) &&& (255 : Int32)) = (240 : Int32)
              · refine XS.icmpNo X0.here hx rfl (hb hby d2_115) rfl (teq hc115).2 ?_
                show Steps p.tables e below (s₁.setTop (mkF m 118 #[.val (.ref o0), .val (.int i1), .val (.int i2), .val (.int ((g ((nat i1))) &&& (255 : Int32))), .val (.int (4 : Int32)), .val (.int (128 : Int32)), .val (.int (191 : Int32)), .unset, .unset, .unset] [])) _
                refine XS.sipush X0.here hx rfl (hb hby d2_118) ?_
                show Steps p.tables e below (s₁.setTop (mkF m 121 #[.val (.ref o0), .val (.int i1), .val (.int i2), .val (.int ((g ((nat i1))) &&& (255 : Int32))), .val (.int (4 : Int32)), .val (.int (128 : Int32)), .val (.int (191 : Int32)), .unset, .unset, .unset] [(.int (144 : Int32))])) _
                refine XS.goto X0.here hx rfl (pc0 := 121) (pc' := 127) rfl (hb hby d2_121) (by decide) (by decide) ?_
                show Steps p.tables e below (s₁.setTop (mkF m 127 #[.val (.ref o0), .val (.int i1), .val (.int i2), .val (.int ((g ((nat i1))) &&& (255 : Int32))), .val (.int (4 : Int32)), .val (.int (128 : Int32)), .val (.int (191 : Int32)), .unset, .unset, .unset] [(.int (144 : Int32))])) _
                refine XS.istore X0.here hx rfl (hb hby d2_127) rfl (l' := #[.val (.ref o0), .val (.int i1), .val (.int i2), .val (.int ((g ((nat i1))) &&& (255 : Int32))), .val (.int (4 : Int32)), .val (.int (144 : Int32)), .val (.int (191 : Int32)), .unset, .unset, .unset]) rfl ?_
                show Steps p.tables e below (s₁.setTop (mkF m 129 #[.val (.ref o0), .val (.int i1), .val (.int i2), .val (.int ((g ((nat i1))) &&& (255 : Int32))), .val (.int (4 : Int32)), .val (.int (144 : Int32)), .val (.int (191 : Int32)), .unset, .unset, .unset] [])) _
                refine XS.iloadN X0.here hx rfl (hb hby d2_129) rfl ?_
                show Steps p.tables e below (s₁.setTop (mkF m 130 #[.val (.ref o0), .val (.int i1), .val (.int i2), .val (.int ((g ((nat i1))) &&& (255 : Int32))), .val (.int (4 : Int32)), .val (.int (144 : Int32)), .val (.int (191 : Int32)), .unset, .unset, .unset] [(.int ((g ((nat i1))) &&& (255 : Int32)))])) _
                refine XS.sipush X0.here hx rfl (hb hby d2_130) ?_
                show Steps p.tables e below (s₁.setTop (mkF m 133 #[.val (.ref o0), .val (.int i1), .val (.int i2), .val (.int ((g ((nat i1))) &&& (255 : Int32))), .val (.int (4 : Int32)), .val (.int (144 : Int32)), .val (.int (191 : Int32)), .unset, .unset, .unset] [(.int (244 : Int32)), (.int ((g ((nat i1))) &&& (255 : Int32)))])) _
                by_cases hc133 : ((g ((nat i1))) &&& (255 : Int32)) = (244 : Int32)
                · refine XS.icmpNo X0.here hx rfl (hb hby d2_133) rfl (teq hc133).2 ?_
                  show Steps p.tables e below (s₁.setTop (mkF m 136 #[.val (.ref o0), .val (.int i1), .val (.int i2), .val (.int ((g ((nat i1))) &&& (255 : Int32))), .val (.int (4 : Int32)), .val (.int (144 : Int32)), .val (.int (191 : Int32)), .unset, .unset, .unset] [])) _
                  refine XS.sipush X0.here hx rfl (hb hby d2_136) ?_
                  show Steps p.tables e below (s₁.setTop (mkF m 139 #[.val (.ref o0), .val (.int i1), .val (.int i2), .val (.int ((g ((nat i1))) &&& (255 : Int32))), .val (.int (4 : Int32)), .val (.int (144 : Int32)), .val (.int (191 : Int32)), .unset, .unset, .unset] [(.int (143 : Int32))])) _
                  refine XS.goto X0.here hx rfl (pc0 := 139) (pc' := 145) rfl (hb hby d2_139) (by decide) (by decide) ?_
                  show Steps p.tables e below (s₁.setTop (mkF m 145 #[.val (.ref o0), .val (.int i1), .val (.int i2), .val (.int ((g ((nat i1))) &&& (255 : Int32))), .val (.int (4 : Int32)), .val (.int (144 : Int32)), .val (.int (191 : Int32)), .unset, .unset, .unset] [(.int (143 : Int32))])) _
                  refine XS.istore X0.here hx rfl (hb hby d2_145) rfl (l' := #[.val (.ref o0), .val (.int i1), .val (.int i2), .val (.int ((g ((nat i1))) &&& (255 : Int32))), .val (.int (4 : Int32)), .val (.int (144 : Int32)), .val (.int (143 : Int32)), .unset, .unset, .unset]) rfl ?_
                  show Steps p.tables e below (s₁.setTop (mkF m 147 #[.val (.ref o0), .val (.int i1), .val (.int i2), .val (.int ((g ((nat i1))) &&& (255 : Int32))), .val (.int (4 : Int32)), .val (.int (144 : Int32)), .val (.int (143 : Int32)), .unset, .unset, .unset] [])) _
                  refine XS.goto X0.here hx rfl (pc0 := 147) (pc' := 153) rfl (hb hby d2_147) (by decide) (by decide) ?_
                  show Steps p.tables e below (s₁.setTop (mkF m 153 #[.val (.ref o0), .val (.int i1), .val (.int i2), .val (.int ((g ((nat i1))) &&& (255 : Int32))), .val (.int (4 : Int32)), .val (.int (144 : Int32)), .val (.int (143 : Int32)), .unset, .unset, .unset] [])) _
                  rw [show (f2_22_l4 i1 i2 g) = (4 : Int32) from ((if_neg hc22).trans ((if_pos hc29).trans ((if_pos hc42).trans ((if_neg hc98).trans ((if_neg hc105).trans ((if_pos hc115).trans (if_pos hc133))))))), show (f2_22_l5 i1 i2 g) = (144 : Int32) from ((if_neg hc22).trans ((if_pos hc29).trans ((if_pos hc42).trans ((if_neg hc98).trans ((if_neg hc105).trans ((if_pos hc115).trans (if_pos hc133))))))), show (f2_22_l6 i1 i2 g) = (143 : Int32) from ((if_neg hc22).trans ((if_pos hc29).trans ((if_pos hc42).trans ((if_neg hc98).trans ((if_neg hc105).trans ((if_pos hc115).trans (if_pos hc133)))))))] at k
                  exact k
                · refine XS.icmpYes X0.here hx rfl (pc0 := 133) (pc' := 142) rfl (hb hby d2_133) rfl (feq hc133).2 (by decide) (by decide) ?_
                  show Steps p.tables e below (s₁.setTop (mkF m 142 #[.val (.ref o0), .val (.int i1), .val (.int i2), .val (.int ((g ((nat i1))) &&& (255 : Int32))), .val (.int (4 : Int32)), .val (.int (144 : Int32)), .val (.int (191 : Int32)), .unset, .unset, .unset] [])) _
                  refine XS.sipush X0.here hx rfl (hb hby d2_142) ?_
                  show Steps p.tables e below (s₁.setTop (mkF m 145 #[.val (.ref o0), .val (.int i1), .val (.int i2), .val (.int ((g ((nat i1))) &&& (255 : Int32))), .val (.int (4 : Int32)), .val (.int (144 : Int32)), .val (.int (191 : Int32)), .unset, .unset, .unset] [(.int (191 : Int32))])) _
                  refine XS.istore X0.here hx rfl (hb hby d2_145) rfl (l' := #[.val (.ref o0), .val (.int i1), .val (.int i2), .val (.int ((g ((nat i1))) &&& (255 : Int32))), .val (.int (4 : Int32)), .val (.int (144 : Int32)), .val (.int (191 : Int32)), .unset, .unset, .unset]) rfl ?_
                  show Steps p.tables e below (s₁.setTop (mkF m 147 #[.val (.ref o0), .val (.int i1), .val (.int i2), .val (.int ((g ((nat i1))) &&& (255 : Int32))), .val (.int (4 : Int32)), .val (.int (144 : Int32)), .val (.int (191 : Int32)), .unset, .unset, .unset] [])) _
                  refine XS.goto X0.here hx rfl (pc0 := 147) (pc' := 153) rfl (hb hby d2_147) (by decide) (by decide) ?_
                  show Steps p.tables e below (s₁.setTop (mkF m 153 #[.val (.ref o0), .val (.int i1), .val (.int i2), .val (.int ((g ((nat i1))) &&& (255 : Int32))), .val (.int (4 : Int32)), .val (.int (144 : Int32)), .val (.int (191 : Int32)), .unset, .unset, .unset] [])) _
                  rw [show (f2_22_l4 i1 i2 g) = (4 : Int32) from ((if_neg hc22).trans ((if_pos hc29).trans ((if_pos hc42).trans ((if_neg hc98).trans ((if_neg hc105).trans ((if_pos hc115).trans (if_neg hc133))))))), show (f2_22_l5 i1 i2 g) = (144 : Int32) from ((if_neg hc22).trans ((if_pos hc29).trans ((if_pos hc42).trans ((if_neg hc98).trans ((if_neg hc105).trans ((if_pos hc115).trans (if_neg hc133))))))), show (f2_22_l6 i1 i2 g) = (191 : Int32) from ((if_neg hc22).trans ((if_pos hc29).trans ((if_pos hc42).trans ((if_neg hc98).trans ((if_neg hc105).trans ((if_pos hc115).trans (if_neg hc133)))))))] at k
                  exact k
              · refine XS.icmpYes X0.here hx rfl (pc0 := 115) (pc' := 124) rfl (hb hby d2_115) rfl (feq hc115).2 (by decide) (by decide) ?_
                show Steps p.tables e below (s₁.setTop (mkF m 124 #[.val (.ref o0), .val (.int i1), .val (.int i2), .val (.int ((g ((nat i1))) &&& (255 : Int32))), .val (.int (4 : Int32)), .val (.int (128 : Int32)), .val (.int (191 : Int32)), .unset, .unset, .unset] [])) _
                refine XS.sipush X0.here hx rfl (hb hby d2_124) ?_
                show Steps p.tables e below (s₁.setTop (mkF m 127 #[.val (.ref o0), .val (.int i1), .val (.int i2), .val (.int ((g ((nat i1))) &&& (255 : Int32))), .val (.int (4 : Int32)), .val (.int (128 : Int32)), .val (.int (191 : Int32)), .unset, .unset, .unset] [(.int (128 : Int32))])) _
                refine XS.istore X0.here hx rfl (hb hby d2_127) rfl (l' := #[.val (.ref o0), .val (.int i1), .val (.int i2), .val (.int ((g ((nat i1))) &&& (255 : Int32))), .val (.int (4 : Int32)), .val (.int (128 : Int32)), .val (.int (191 : Int32)), .unset, .unset, .unset]) rfl ?_
                show Steps p.tables e below (s₁.setTop (mkF m 129 #[.val (.ref o0), .val (.int i1), .val (.int i2), .val (.int ((g ((nat i1))) &&& (255 : Int32))), .val (.int (4 : Int32)), .val (.int (128 : Int32)), .val (.int (191 : Int32)), .unset, .unset, .unset] [])) _
                refine XS.iloadN X0.here hx rfl (hb hby d2_129) rfl ?_
                show Steps p.tables e below (s₁.setTop (mkF m 130 #[.val (.ref o0), .val (.int i1), .val (.int i2), .val (.int ((g ((nat i1))) &&& (255 : Int32))), .val (.int (4 : Int32)), .val (.int (128 : Int32)), .val (.int (191 : Int32)), .unset, .unset, .unset] [(.int ((g ((nat i1))) &&& (255 : Int32)))])) _
                refine XS.sipush X0.here hx rfl (hb hby d2_130) ?_
                show Steps p.tables e below (s₁.setTop (mkF m 133 #[.val (.ref o0), .val (.int i1), .val (.int i2), .val (.int ((g ((nat i1))) &&& (255 : Int32))), .val (.int (4 : Int32)), .val (.int (128 : Int32)), .val (.int (191 : Int32)), .unset, .unset, .unset] [(.int (244 : Int32)), (.int ((g ((nat i1))) &&& (255 : Int32)))])) _
                by_cases hc133 : ((g ((nat i1))) &&& (255 : Int32)) = (244 : Int32)
                · refine XS.icmpNo X0.here hx rfl (hb hby d2_133) rfl (teq hc133).2 ?_
                  show Steps p.tables e below (s₁.setTop (mkF m 136 #[.val (.ref o0), .val (.int i1), .val (.int i2), .val (.int ((g ((nat i1))) &&& (255 : Int32))), .val (.int (4 : Int32)), .val (.int (128 : Int32)), .val (.int (191 : Int32)), .unset, .unset, .unset] [])) _
                  refine XS.sipush X0.here hx rfl (hb hby d2_136) ?_
                  show Steps p.tables e below (s₁.setTop (mkF m 139 #[.val (.ref o0), .val (.int i1), .val (.int i2), .val (.int ((g ((nat i1))) &&& (255 : Int32))), .val (.int (4 : Int32)), .val (.int (128 : Int32)), .val (.int (191 : Int32)), .unset, .unset, .unset] [(.int (143 : Int32))])) _
                  refine XS.goto X0.here hx rfl (pc0 := 139) (pc' := 145) rfl (hb hby d2_139) (by decide) (by decide) ?_
                  show Steps p.tables e below (s₁.setTop (mkF m 145 #[.val (.ref o0), .val (.int i1), .val (.int i2), .val (.int ((g ((nat i1))) &&& (255 : Int32))), .val (.int (4 : Int32)), .val (.int (128 : Int32)), .val (.int (191 : Int32)), .unset, .unset, .unset] [(.int (143 : Int32))])) _
                  refine XS.istore X0.here hx rfl (hb hby d2_145) rfl (l' := #[.val (.ref o0), .val (.int i1), .val (.int i2), .val (.int ((g ((nat i1))) &&& (255 : Int32))), .val (.int (4 : Int32)), .val (.int (128 : Int32)), .val (.int (143 : Int32)), .unset, .unset, .unset]) rfl ?_
                  show Steps p.tables e below (s₁.setTop (mkF m 147 #[.val (.ref o0), .val (.int i1), .val (.int i2), .val (.int ((g ((nat i1))) &&& (255 : Int32))), .val (.int (4 : Int32)), .val (.int (128 : Int32)), .val (.int (143 : Int32)), .unset, .unset, .unset] [])) _
                  refine XS.goto X0.here hx rfl (pc0 := 147) (pc' := 153) rfl (hb hby d2_147) (by decide) (by decide) ?_
                  show Steps p.tables e below (s₁.setTop (mkF m 153 #[.val (.ref o0), .val (.int i1), .val (.int i2), .val (.int ((g ((nat i1))) &&& (255 : Int32))), .val (.int (4 : Int32)), .val (.int (128 : Int32)), .val (.int (143 : Int32)), .unset, .unset, .unset] [])) _
                  rw [show (f2_22_l4 i1 i2 g) = (4 : Int32) from ((if_neg hc22).trans ((if_pos hc29).trans ((if_pos hc42).trans ((if_neg hc98).trans ((if_neg hc105).trans ((if_neg hc115).trans (if_pos hc133))))))), show (f2_22_l5 i1 i2 g) = (128 : Int32) from ((if_neg hc22).trans ((if_pos hc29).trans ((if_pos hc42).trans ((if_neg hc98).trans ((if_neg hc105).trans ((if_neg hc115).trans (if_pos hc133))))))), show (f2_22_l6 i1 i2 g) = (143 : Int32) from ((if_neg hc22).trans ((if_pos hc29).trans ((if_pos hc42).trans ((if_neg hc98).trans ((if_neg hc105).trans ((if_neg hc115).trans (if_pos hc133)))))))] at k
                  exact k
                · refine XS.icmpYes X0.here hx rfl (pc0 := 133) (pc' := 142) rfl (hb hby d2_133) rfl (feq hc133).2 (by decide) (by decide) ?_
                  show Steps p.tables e below (s₁.setTop (mkF m 142 #[.val (.ref o0), .val (.int i1), .val (.int i2), .val (.int ((g ((nat i1))) &&& (255 : Int32))), .val (.int (4 : Int32)), .val (.int (128 : Int32)), .val (.int (191 : Int32)), .unset, .unset, .unset] [])) _
                  refine XS.sipush X0.here hx rfl (hb hby d2_142) ?_
                  show Steps p.tables e below (s₁.setTop (mkF m 145 #[.val (.ref o0), .val (.int i1), .val (.int i2), .val (.int ((g ((nat i1))) &&& (255 : Int32))), .val (.int (4 : Int32)), .val (.int (128 : Int32)), .val (.int (191 : Int32)), .unset, .unset, .unset] [(.int (191 : Int32))])) _
                  refine XS.istore X0.here hx rfl (hb hby d2_145) rfl (l' := #[.val (.ref o0), .val (.int i1), .val (.int i2), .val (.int ((g ((nat i1))) &&& (255 : Int32))), .val (.int (4 : Int32)), .val (.int (128 : Int32)), .val (.int (191 : Int32)), .unset, .unset, .unset]) rfl ?_
                  show Steps p.tables e below (s₁.setTop (mkF m 147 #[.val (.ref o0), .val (.int i1), .val (.int i2), .val (.int ((g ((nat i1))) &&& (255 : Int32))), .val (.int (4 : Int32)), .val (.int (128 : Int32)), .val (.int (191 : Int32)), .unset, .unset, .unset] [])) _
                  refine XS.goto X0.here hx rfl (pc0 := 147) (pc' := 153) rfl (hb hby d2_147) (by decide) (by decide) ?_
                  show Steps p.tables e below (s₁.setTop (mkF m 153 #[.val (.ref o0), .val (.int i1), .val (.int i2), .val (.int ((g ((nat i1))) &&& (255 : Int32))), .val (.int (4 : Int32)), .val (.int (128 : Int32)), .val (.int (191 : Int32)), .unset, .unset, .unset] [])) _
                  rw [show (f2_22_l4 i1 i2 g) = (4 : Int32) from ((if_neg hc22).trans ((if_pos hc29).trans ((if_pos hc42).trans ((if_neg hc98).trans ((if_neg hc105).trans ((if_neg hc115).trans (if_neg hc133))))))), show (f2_22_l5 i1 i2 g) = (128 : Int32) from ((if_neg hc22).trans ((if_pos hc29).trans ((if_pos hc42).trans ((if_neg hc98).trans ((if_neg hc105).trans ((if_neg hc115).trans (if_neg hc133))))))), show (f2_22_l6 i1 i2 g) = (191 : Int32) from ((if_neg hc22).trans ((if_pos hc29).trans ((if_pos hc42).trans ((if_neg hc98).trans ((if_neg hc105).trans ((if_neg hc115).trans (if_neg hc133)))))))] at k
                  exact k
        · refine XS.icmpNo X0.here hx rfl (hb hby d2_42) rfl (flt hc42).1 ?_
          show Steps p.tables e below (s₁.setTop (mkF m 45 #[.val (.ref o0), .val (.int i1), .val (.int i2), .val (.int ((g ((nat i1))) &&& (255 : Int32))), .unset, .val (.int (128 : Int32)), .val (.int (191 : Int32)), .unset, .unset, .unset] [])) _
          refine XS.iloadN X0.here hx rfl (hb hby d2_45) rfl ?_
          show Steps p.tables e below (s₁.setTop (mkF m 46 #[.val (.ref o0), .val (.int i1), .val (.int i2), .val (.int ((g ((nat i1))) &&& (255 : Int32))), .unset, .val (.int (128 : Int32)), .val (.int (191 : Int32)), .unset, .unset, .unset] [(.int ((g ((nat i1))) &&& (255 : Int32)))])) _
          refine XS.sipush X0.here hx rfl (hb hby d2_46) ?_
          show Steps p.tables e below (s₁.setTop (mkF m 49 #[.val (.ref o0), .val (.int i1), .val (.int i2), .val (.int ((g ((nat i1))) &&& (255 : Int32))), .unset, .val (.int (128 : Int32)), .val (.int (191 : Int32)), .unset, .unset, .unset] [(.int (239 : Int32)), (.int ((g ((nat i1))) &&& (255 : Int32)))])) _
          by_cases hc49 : (239 : Int32) < ((g ((nat i1))) &&& (255 : Int32))
          · refine XS.icmpYes X0.here hx rfl (pc0 := 49) (pc' := 94) rfl (hb hby d2_49) rfl (tlt hc49).2.2.1 (by decide) (by decide) ?_
            show Steps p.tables e below (s₁.setTop (mkF m 94 #[.val (.ref o0), .val (.int i1), .val (.int i2), .val (.int ((g ((nat i1))) &&& (255 : Int32))), .unset, .val (.int (128 : Int32)), .val (.int (191 : Int32)), .unset, .unset, .unset] [])) _
            refine XS.iloadN X0.here hx rfl (hb hby d2_94) rfl ?_
            show Steps p.tables e below (s₁.setTop (mkF m 95 #[.val (.ref o0), .val (.int i1), .val (.int i2), .val (.int ((g ((nat i1))) &&& (255 : Int32))), .unset, .val (.int (128 : Int32)), .val (.int (191 : Int32)), .unset, .unset, .unset] [(.int ((g ((nat i1))) &&& (255 : Int32)))])) _
            refine XS.sipush X0.here hx rfl (hb hby d2_95) ?_
            show Steps p.tables e below (s₁.setTop (mkF m 98 #[.val (.ref o0), .val (.int i1), .val (.int i2), .val (.int ((g ((nat i1))) &&& (255 : Int32))), .unset, .val (.int (128 : Int32)), .val (.int (191 : Int32)), .unset, .unset, .unset] [(.int (240 : Int32)), (.int ((g ((nat i1))) &&& (255 : Int32)))])) _
            by_cases hc98 : ((g ((nat i1))) &&& (255 : Int32)) < (240 : Int32)
            · refine XS.icmpYes X0.here hx rfl (pc0 := 98) (pc' := 150) rfl (hb hby d2_98) rfl (tlt hc98).1 (by decide) (by decide) ?_
              show Steps p.tables e below (s₁.setTop (mkF m 150 #[.val (.ref o0), .val (.int i1), .val (.int i2), .val (.int ((g ((nat i1))) &&& (255 : Int32))), .unset, .val (.int (128 : Int32)), .val (.int (191 : Int32)), .unset, .unset, .unset] [])) _
              refine XS.iconst X0.here hx rfl (hb hby d2_150) ?_
              show Steps p.tables e below (s₁.setTop (mkF m 151 #[.val (.ref o0), .val (.int i1), .val (.int i2), .val (.int ((g ((nat i1))) &&& (255 : Int32))), .unset, .val (.int (128 : Int32)), .val (.int (191 : Int32)), .unset, .unset, .unset] [(.int (0 : Int32))])) _
              refine XS.istore X0.here hx rfl (hb hby d2_151) rfl (l' := #[.val (.ref o0), .val (.int i1), .val (.int i2), .val (.int ((g ((nat i1))) &&& (255 : Int32))), .val (.int (0 : Int32)), .val (.int (128 : Int32)), .val (.int (191 : Int32)), .unset, .unset, .unset]) rfl ?_
              show Steps p.tables e below (s₁.setTop (mkF m 153 #[.val (.ref o0), .val (.int i1), .val (.int i2), .val (.int ((g ((nat i1))) &&& (255 : Int32))), .val (.int (0 : Int32)), .val (.int (128 : Int32)), .val (.int (191 : Int32)), .unset, .unset, .unset] [])) _
              rw [show (f2_22_l4 i1 i2 g) = (0 : Int32) from ((if_neg hc22).trans ((if_pos hc29).trans ((if_neg hc42).trans ((if_pos hc49).trans (if_pos hc98))))), show (f2_22_l5 i1 i2 g) = (128 : Int32) from ((if_neg hc22).trans ((if_pos hc29).trans ((if_neg hc42).trans ((if_pos hc49).trans (if_pos hc98))))), show (f2_22_l6 i1 i2 g) = (191 : Int32) from ((if_neg hc22).trans ((if_pos hc29).trans ((if_neg hc42).trans ((if_pos hc49).trans (if_pos hc98)))))] at k
              exact k
            · refine XS.icmpNo X0.here hx rfl (hb hby d2_98) rfl (flt hc98).1 ?_
              show Steps p.tables e below (s₁.setTop (mkF m 101 #[.val (.ref o0), .val (.int i1), .val (.int i2), .val (.int ((g ((nat i1))) &&& (255 : Int32))), .unset, .val (.int (128 : Int32)), .val (.int (191 : Int32)), .unset, .unset, .unset] [])) _
              refine XS.iloadN X0.here hx rfl (hb hby d2_101) rfl ?_
              show Steps p.tables e below (s₁.setTop (mkF m 102 #[.val (.ref o0), .val (.int i1), .val (.int i2), .val (.int ((g ((nat i1))) &&& (255 : Int32))), .unset, .val (.int (128 : Int32)), .val (.int (191 : Int32)), .unset, .unset, .unset] [(.int ((g ((nat i1))) &&& (255 : Int32)))])) _
              refine XS.sipush X0.here hx rfl (hb hby d2_102) ?_
              show Steps p.tables e below (s₁.setTop (mkF m 105 #[.val (.ref o0), .val (.int i1), .val (.int i2), .val (.int ((g ((nat i1))) &&& (255 : Int32))), .unset, .val (.int (128 : Int32)), .val (.int (191 : Int32)), .unset, .unset, .unset] [(.int (244 : Int32)), (.int ((g ((nat i1))) &&& (255 : Int32)))])) _
              by_cases hc105 : (244 : Int32) < ((g ((nat i1))) &&& (255 : Int32))
              · refine XS.icmpYes X0.here hx rfl (pc0 := 105) (pc' := 150) rfl (hb hby d2_105) rfl (tlt hc105).2.2.1 (by decide) (by decide) ?_
                show Steps p.tables e below (s₁.setTop (mkF m 150 #[.val (.ref o0), .val (.int i1), .val (.int i2), .val (.int ((g ((nat i1))) &&& (255 : Int32))), .unset, .val (.int (128 : Int32)), .val (.int (191 : Int32)), .unset, .unset, .unset] [])) _
                refine XS.iconst X0.here hx rfl (hb hby d2_150) ?_
                show Steps p.tables e below (s₁.setTop (mkF m 151 #[.val (.ref o0), .val (.int i1), .val (.int i2), .val (.int ((g ((nat i1))) &&& (255 : Int32))), .unset, .val (.int (128 : Int32)), .val (.int (191 : Int32)), .unset, .unset, .unset] [(.int (0 : Int32))])) _
                refine XS.istore X0.here hx rfl (hb hby d2_151) rfl (l' := #[.val (.ref o0), .val (.int i1), .val (.int i2), .val (.int ((g ((nat i1))) &&& (255 : Int32))), .val (.int (0 : Int32)), .val (.int (128 : Int32)), .val (.int (191 : Int32)), .unset, .unset, .unset]) rfl ?_
                show Steps p.tables e below (s₁.setTop (mkF m 153 #[.val (.ref o0), .val (.int i1), .val (.int i2), .val (.int ((g ((nat i1))) &&& (255 : Int32))), .val (.int (0 : Int32)), .val (.int (128 : Int32)), .val (.int (191 : Int32)), .unset, .unset, .unset] [])) _
                rw [show (f2_22_l4 i1 i2 g) = (0 : Int32) from ((if_neg hc22).trans ((if_pos hc29).trans ((if_neg hc42).trans ((if_pos hc49).trans ((if_neg hc98).trans (if_pos hc105)))))), show (f2_22_l5 i1 i2 g) = (128 : Int32) from ((if_neg hc22).trans ((if_pos hc29).trans ((if_neg hc42).trans ((if_pos hc49).trans ((if_neg hc98).trans (if_pos hc105)))))), show (f2_22_l6 i1 i2 g) = (191 : Int32) from ((if_neg hc22).trans ((if_pos hc29).trans ((if_neg hc42).trans ((if_pos hc49).trans ((if_neg hc98).trans (if_pos hc105))))))] at k
                exact k
              · refine XS.icmpNo X0.here hx rfl (hb hby d2_105) rfl (flt hc105).2.2.1 ?_
                show Steps p.tables e below (s₁.setTop (mkF m 108 #[.val (.ref o0), .val (.int i1), .val (.int i2), .val (.int ((g ((nat i1))) &&& (255 : Int32))), .unset, .val (.int (128 : Int32)), .val (.int (191 : Int32)), .unset, .unset, .unset] [])) _
                refine XS.iconst X0.here hx rfl (hb hby d2_108) ?_
                show Steps p.tables e below (s₁.setTop (mkF m 109 #[.val (.ref o0), .val (.int i1), .val (.int i2), .val (.int ((g ((nat i1))) &&& (255 : Int32))), .unset, .val (.int (128 : Int32)), .val (.int (191 : Int32)), .unset, .unset, .unset] [(.int (4 : Int32))])) _
                refine XS.istore X0.here hx rfl (hb hby d2_109) rfl (l' := #[.val (.ref o0), .val (.int i1), .val (.int i2), .val (.int ((g ((nat i1))) &&& (255 : Int32))), .val (.int (4 : Int32)), .val (.int (128 : Int32)), .val (.int (191 : Int32)), .unset, .unset, .unset]) rfl ?_
                show Steps p.tables e below (s₁.setTop (mkF m 111 #[.val (.ref o0), .val (.int i1), .val (.int i2), .val (.int ((g ((nat i1))) &&& (255 : Int32))), .val (.int (4 : Int32)), .val (.int (128 : Int32)), .val (.int (191 : Int32)), .unset, .unset, .unset] [])) _
                refine XS.iloadN X0.here hx rfl (hb hby d2_111) rfl ?_
                show Steps p.tables e below (s₁.setTop (mkF m 112 #[.val (.ref o0), .val (.int i1), .val (.int i2), .val (.int ((g ((nat i1))) &&& (255 : Int32))), .val (.int (4 : Int32)), .val (.int (128 : Int32)), .val (.int (191 : Int32)), .unset, .unset, .unset] [(.int ((g ((nat i1))) &&& (255 : Int32)))])) _
                refine XS.sipush X0.here hx rfl (hb hby d2_112) ?_
                show Steps p.tables e below (s₁.setTop (mkF m 115 #[.val (.ref o0), .val (.int i1), .val (.int i2), .val (.int ((g ((nat i1))) &&& (255 : Int32))), .val (.int (4 : Int32)), .val (.int (128 : Int32)), .val (.int (191 : Int32)), .unset, .unset, .unset] [(.int (240 : Int32)), (.int ((g ((nat i1))) &&& (255 : Int32)))])) _
                by_cases hc115 : ((g ((nat i1))) &&& (255 : Int32)) = (240 : Int32)
                · refine XS.icmpNo X0.here hx rfl (hb hby d2_115) rfl (teq hc115).2 ?_
                  show Steps p.tables e below (s₁.setTop (mkF m 118 #[.val (.ref o0), .val (.int i1), .val (.int i2), .val (.int ((g ((nat i1))) &&& (255 : Int32))), .val (.int (4 : Int32)), .val (.int (128 : Int32)), .val (.int (191 : Int32)), .unset, .unset, .unset] [])) _
                  refine XS.sipush X0.here hx rfl (hb hby d2_118) ?_
                  show Steps p.tables e below (s₁.setTop (mkF m 121 #[.val (.ref o0), .val (.int i1), .val (.int i2), .val (.int ((g ((nat i1))) &&& (255 : Int32))), .val (.int (4 : Int32)), .val (.int (128 : Int32)), .val (.int (191 : Int32)), .unset, .unset, .unset] [(.int (144 : Int32))])) _
                  refine XS.goto X0.here hx rfl (pc0 := 121) (pc' := 127) rfl (hb hby d2_121) (by decide) (by decide) ?_
                  show Steps p.tables e below (s₁.setTop (mkF m 127 #[.val (.ref o0), .val (.int i1), .val (.int i2), .val (.int ((g ((nat i1))) &&& (255 : Int32))), .val (.int (4 : Int32)), .val (.int (128 : Int32)), .val (.int (191 : Int32)), .unset, .unset, .unset] [(.int (144 : Int32))])) _
                  refine XS.istore X0.here hx rfl (hb hby d2_127) rfl (l' := #[.val (.ref o0), .val (.int i1), .val (.int i2), .val (.int ((g ((nat i1))) &&& (255 : Int32))), .val (.int (4 : Int32)), .val (.int (144 : Int32)), .val (.int (191 : Int32)), .unset, .unset, .unset]) rfl ?_
                  show Steps p.tables e below (s₁.setTop (mkF m 129 #[.val (.ref o0), .val (.int i1), .val (.int i2), .val (.int ((g ((nat i1))) &&& (255 : Int32))), .val (.int (4 : Int32)), .val (.int (144 : Int32)), .val (.int (191 : Int32)), .unset, .unset, .unset] [])) _
                  refine XS.iloadN X0.here hx rfl (hb hby d2_129) rfl ?_
                  show Steps p.tables e below (s₁.setTop (mkF m 130 #[.val (.ref o0), .val (.int i1), .val (.int i2), .val (.int ((g ((nat i1))) &&& (255 : Int32))), .val (.int (4 : Int32)), .val (.int (144 : Int32)), .val (.int (191 : Int32)), .unset, .unset, .unset] [(.int ((g ((nat i1))) &&& (255 : Int32)))])) _
                  refine XS.sipush X0.here hx rfl (hb hby d2_130) ?_
                  show Steps p.tables e below (s₁.setTop (mkF m 133 #[.val (.ref o0), .val (.int i1), .val (.int i2), .val (.int ((g ((nat i1))) &&& (255 : Int32))), .val (.int (4 : Int32)), .val (.int (144 : Int32)), .val (.int (191 : Int32)), .unset, .unset, .unset] [(.int (244 : Int32)), (.int ((g ((nat i1))) &&& (255 : Int32)))])) _
                  by_cases hc133 : ((g ((nat i1))) &&& (255 : Int32)) = (244 : Int32)
                  · refine XS.icmpNo X0.here hx rfl (hb hby d2_133) rfl (teq hc133).2 ?_
                    show Steps p.tables e below (s₁.setTop (mkF m 136 #[.val (.ref o0), .val (.int i1), .val (.int i2), .val (.int ((g ((nat i1))) &&& (255 : Int32))), .val (.int (4 : Int32)), .val (.int (144 : Int32)), .val (.int (191 : Int32)), .unset, .unset, .unset] [])) _
                    refine XS.sipush X0.here hx rfl (hb hby d2_136) ?_
                    show Steps p.tables e below (s₁.setTop (mkF m 139 #[.val (.ref o0), .val (.int i1), .val (.int i2), .val (.int ((g ((nat i1))) &&& (255 : Int32))), .val (.int (4 : Int32)), .val (.int (144 : Int32)), .val (.int (191 : Int32)), .unset, .unset, .unset] [(.int (143 : Int32))])) _
                    refine XS.goto X0.here hx rfl (pc0 := 139) (pc' := 145) rfl (hb hby d2_139) (by decide) (by decide) ?_
                    show Steps p.tables e below (s₁.setTop (mkF m 145 #[.val (.ref o0), .val (.int i1), .val (.int i2), .val (.int ((g ((nat i1))) &&& (255 : Int32))), .val (.int (4 : Int32)), .val (.int (144 : Int32)), .val (.int (191 : Int32)), .unset, .unset, .unset] [(.int (143 : Int32))])) _
                    refine XS.istore X0.here hx rfl (hb hby d2_145) rfl (l' := #[.val (.ref o0), .val (.int i1), .val (.int i2), .val (.int ((g ((nat i1))) &&& (255 : Int32))), .val (.int (4 : Int32)), .val (.int (144 : Int32)), .val (.int (143 : Int32)), .unset, .unset, .unset]) rfl ?_
                    show Steps p.tables e below (s₁.setTop (mkF m 147 #[.val (.ref o0), .val (.int i1), .val (.int i2), .val (.int ((g ((nat i1))) &&& (255 : Int32))), .val (.int (4 : Int32)), .val (.int (144 : Int32)), .val (.int (143 : Int32)), .unset, .unset, .unset] [])) _
                    refine XS.goto X0.here hx rfl (pc0 := 147) (pc' := 153) rfl (hb hby d2_147) (by decide) (by decide) ?_
                    show Steps p.tables e below (s₁.setTop (mkF m 153 #[.val (.ref o0), .val (.int i1), .val (.int i2), .val (.int ((g ((nat i1))) &&& (255 : Int32))), .val (.int (4 : Int32)), .val (.int (144 : Int32)), .val (.int (143 : Int32)), .unset, .unset, .unset] [])) _
                    rw [show (f2_22_l4 i1 i2 g) = (4 : Int32) from ((if_neg hc22).trans ((if_pos hc29).trans ((if_neg hc42).trans ((if_pos hc49).trans ((if_neg hc98).trans ((if_neg hc105).trans ((if_pos hc115).trans (if_pos hc133)))))))), show (f2_22_l5 i1 i2 g) = (144 : Int32) from ((if_neg hc22).trans ((if_pos hc29).trans ((if_neg hc42).trans ((if_pos hc49).trans ((if_neg hc98).trans ((if_neg hc105).trans ((if_pos hc115).trans (if_pos hc133)))))))), show (f2_22_l6 i1 i2 g) = (143 : Int32) from ((if_neg hc22).trans ((if_pos hc29).trans ((if_neg hc42).trans ((if_pos hc49).trans ((if_neg hc98).trans ((if_neg hc105).trans ((if_pos hc115).trans (if_pos hc133))))))))] at k
                    exact k
                  · refine XS.icmpYes X0.here hx rfl (pc0 := 133) (pc' := 142) rfl (hb hby d2_133) rfl (feq hc133).2 (by decide) (by decide) ?_
                    show Steps p.tables e below (s₁.setTop (mkF m 142 #[.val (.ref o0), .val (.int i1), .val (.int i2), .val (.int ((g ((nat i1))) &&& (255 : Int32))), .val (.int (4 : Int32)), .val (.int (144 : Int32)), .val (.int (191 : Int32)), .unset, .unset, .unset] [])) _
                    refine XS.sipush X0.here hx rfl (hb hby d2_142) ?_
                    show Steps p.tables e below (s₁.setTop (mkF m 145 #[.val (.ref o0), .val (.int i1), .val (.int i2), .val (.int ((g ((nat i1))) &&& (255 : Int32))), .val (.int (4 : Int32)), .val (.int (144 : Int32)), .val (.int (191 : Int32)), .unset, .unset, .unset] [(.int (191 : Int32))])) _
                    refine XS.istore X0.here hx rfl (hb hby d2_145) rfl (l' := #[.val (.ref o0), .val (.int i1), .val (.int i2), .val (.int ((g ((nat i1))) &&& (255 : Int32))), .val (.int (4 : Int32)), .val (.int (144 : Int32)), .val (.int (191 : Int32)), .unset, .unset, .unset]) rfl ?_
                    show Steps p.tables e below (s₁.setTop (mkF m 147 #[.val (.ref o0), .val (.int i1), .val (.int i2), .val (.int ((g ((nat i1))) &&& (255 : Int32))), .val (.int (4 : Int32)), .val (.int (144 : Int32)), .val (.int (191 : Int32)), .unset, .unset, .unset] [])) _
                    refine XS.goto X0.here hx rfl (pc0 := 147) (pc' := 153) rfl (hb hby d2_147) (by decide) (by decide) ?_
                    show Steps p.tables e below (s₁.setTop (mkF m 153 #[.val (.ref o0), .val (.int i1), .val (.int i2), .val (.int ((g ((nat i1))) &&& (255 : Int32))), .val (.int (4 : Int32)), .val (.int (144 : Int32)), .val (.int (191 : Int32)), .unset, .unset, .unset] [])) _
                    rw [show (f2_22_l4 i1 i2 g) = (4 : Int32) from ((if_neg hc22).trans ((if_pos hc29).trans ((if_neg hc42).trans ((if_pos hc49).trans ((if_neg hc98).trans ((if_neg hc105).trans ((if_pos hc115).trans (if_neg hc133)))))))), show (f2_22_l5 i1 i2 g) = (144 : Int32) from ((if_neg hc22).trans ((if_pos hc29).trans ((if_neg hc42).trans ((if_pos hc49).trans ((if_neg hc98).trans ((if_neg hc105).trans ((if_pos hc115).trans (if_neg hc133)))))))), show (f2_22_l6 i1 i2 g) = (191 : Int32) from ((if_neg hc22).trans ((if_pos hc29).trans ((if_neg hc42).trans ((if_pos hc49).trans ((if_neg hc98).trans ((if_neg hc105).trans ((if_pos hc115).trans (if_neg hc133))))))))] at k
                    exact k
                · refine XS.icmpYes X0.here hx rfl (pc0 := 115) (pc' := 124) rfl (hb hby d2_115) rfl (feq hc115).2 (by decide) (by decide) ?_
                  show Steps p.tables e below (s₁.setTop (mkF m 124 #[.val (.ref o0), .val (.int i1), .val (.int i2), .val (.int ((g ((nat i1))) &&& (255 : Int32))), .val (.int (4 : Int32)), .val (.int (128 : Int32)), .val (.int (191 : Int32)), .unset, .unset, .unset] [])) _
                  refine XS.sipush X0.here hx rfl (hb hby d2_124) ?_
                  show Steps p.tables e below (s₁.setTop (mkF m 127 #[.val (.ref o0), .val (.int i1), .val (.int i2), .val (.int ((g ((nat i1))) &&& (255 : Int32))), .val (.int (4 : Int32)), .val (.int (128 : Int32)), .val (.int (191 : Int32)), .unset, .unset, .unset] [(.int (128 : Int32))])) _
                  refine XS.istore X0.here hx rfl (hb hby d2_127) rfl (l' := #[.val (.ref o0), .val (.int i1), .val (.int i2), .val (.int ((g ((nat i1))) &&& (255 : Int32))), .val (.int (4 : Int32)), .val (.int (128 : Int32)), .val (.int (191 : Int32)), .unset, .unset, .unset]) rfl ?_
                  show Steps p.tables e below (s₁.setTop (mkF m 129 #[.val (.ref o0), .val (.int i1), .val (.int i2), .val (.int ((g ((nat i1))) &&& (255 : Int32))), .val (.int (4 : Int32)), .val (.int (128 : Int32)), .val (.int (191 : Int32)), .unset, .unset, .unset] [])) _
                  refine XS.iloadN X0.here hx rfl (hb hby d2_129) rfl ?_
                  show Steps p.tables e below (s₁.setTop (mkF m 130 #[.val (.ref o0), .val (.int i1), .val (.int i2), .val (.int ((g ((nat i1))) &&& (255 : Int32))), .val (.int (4 : Int32)), .val (.int (128 : Int32)), .val (.int (191 : Int32)), .unset, .unset, .unset] [(.int ((g ((nat i1))) &&& (255 : Int32)))])) _
                  refine XS.sipush X0.here hx rfl (hb hby d2_130) ?_
                  show Steps p.tables e below (s₁.setTop (mkF m 133 #[.val (.ref o0), .val (.int i1), .val (.int i2), .val (.int ((g ((nat i1))) &&& (255 : Int32))), .val (.int (4 : Int32)), .val (.int (128 : Int32)), .val (.int (191 : Int32)), .unset, .unset, .unset] [(.int (244 : Int32)), (.int ((g ((nat i1))) &&& (255 : Int32)))])) _
                  by_cases hc133 : ((g ((nat i1))) &&& (255 : Int32)) = (244 : Int32)
                  · refine XS.icmpNo X0.here hx rfl (hb hby d2_133) rfl (teq hc133).2 ?_
                    show Steps p.tables e below (s₁.setTop (mkF m 136 #[.val (.ref o0), .val (.int i1), .val (.int i2), .val (.int ((g ((nat i1))) &&& (255 : Int32))), .val (.int (4 : Int32)), .val (.int (128 : Int32)), .val (.int (191 : Int32)), .unset, .unset, .unset] [])) _
                    refine XS.sipush X0.here hx rfl (hb hby d2_136) ?_
                    show Steps p.tables e below (s₁.setTop (mkF m 139 #[.val (.ref o0), .val (.int i1), .val (.int i2), .val (.int ((g ((nat i1))) &&& (255 : Int32))), .val (.int (4 : Int32)), .val (.int (128 : Int32)), .val (.int (191 : Int32)), .unset, .unset, .unset] [(.int (143 : Int32))])) _
                    refine XS.goto X0.here hx rfl (pc0 := 139) (pc' := 145) rfl (hb hby d2_139) (by decide) (by decide) ?_
                    show Steps p.tables e below (s₁.setTop (mkF m 145 #[.val (.ref o0), .val (.int i1), .val (.int i2), .val (.int ((g ((nat i1))) &&& (255 : Int32))), .val (.int (4 : Int32)), .val (.int (128 : Int32)), .val (.int (191 : Int32)), .unset, .unset, .unset] [(.int (143 : Int32))])) _
                    refine XS.istore X0.here hx rfl (hb hby d2_145) rfl (l' := #[.val (.ref o0), .val (.int i1), .val (.int i2), .val (.int ((g ((nat i1))) &&& (255 : Int32))), .val (.int (4 : Int32)), .val (.int (128 : Int32)), .val (.int (143 : Int32)), .unset, .unset, .unset]) rfl ?_
                    show Steps p.tables e below (s₁.setTop (mkF m 147 #[.val (.ref o0), .val (.int i1), .val (.int i2), .val (.int ((g ((nat i1))) &&& (255 : Int32))), .val (.int (4 : Int32)), .val (.int (128 : Int32)), .val (.int (143 : Int32)), .unset, .unset, .unset] [])) _
                    refine XS.goto X0.here hx rfl (pc0 := 147) (pc' := 153) rfl (hb hby d2_147) (by decide) (by decide) ?_
                    show Steps p.tables e below (s₁.setTop (mkF m 153 #[.val (.ref o0), .val (.int i1), .val (.int i2), .val (.int ((g ((nat i1))) &&& (255 : Int32))), .val (.int (4 : Int32)), .val (.int (128 : Int32)), .val (.int (143 : Int32)), .unset, .unset, .unset] [])) _
                    rw [show (f2_22_l4 i1 i2 g) = (4 : Int32) from ((if_neg hc22).trans ((if_pos hc29).trans ((if_neg hc42).trans ((if_pos hc49).trans ((if_neg hc98).trans ((if_neg hc105).trans ((if_neg hc115).trans (if_pos hc133)))))))), show (f2_22_l5 i1 i2 g) = (128 : Int32) from ((if_neg hc22).trans ((if_pos hc29).trans ((if_neg hc42).trans ((if_pos hc49).trans ((if_neg hc98).trans ((if_neg hc105).trans ((if_neg hc115).trans (if_pos hc133)))))))), show (f2_22_l6 i1 i2 g) = (143 : Int32) from ((if_neg hc22).trans ((if_pos hc29).trans ((if_neg hc42).trans ((if_pos hc49).trans ((if_neg hc98).trans ((if_neg hc105).trans ((if_neg hc115).trans (if_pos hc133))))))))] at k
                    exact k
                  · refine XS.icmpYes X0.here hx rfl (pc0 := 133) (pc' := 142) rfl (hb hby d2_133) rfl (feq hc133).2 (by decide) (by decide) ?_
                    show Steps p.tables e below (s₁.setTop (mkF m 142 #[.val (.ref o0), .val (.int i1), .val (.int i2), .val (.int ((g ((nat i1))) &&& (255 : Int32))), .val (.int (4 : Int32)), .val (.int (128 : Int32)), .val (.int (191 : Int32)), .unset, .unset, .unset] [])) _
                    refine XS.sipush X0.here hx rfl (hb hby d2_142) ?_
                    show Steps p.tables e below (s₁.setTop (mkF m 145 #[.val (.ref o0), .val (.int i1), .val (.int i2), .val (.int ((g ((nat i1))) &&& (255 : Int32))), .val (.int (4 : Int32)), .val (.int (128 : Int32)), .val (.int (191 : Int32)), .unset, .unset, .unset] [(.int (191 : Int32))])) _
                    refine XS.istore X0.here hx rfl (hb hby d2_145) rfl (l' := #[.val (.ref o0), .val (.int i1), .val (.int i2), .val (.int ((g ((nat i1))) &&& (255 : Int32))), .val (.int (4 : Int32)), .val (.int (128 : Int32)), .val (.int (191 : Int32)), .unset, .unset, .unset]) rfl ?_
                    show Steps p.tables e below (s₁.setTop (mkF m 147 #[.val (.ref o0), .val (.int i1), .val (.int i2), .val (.int ((g ((nat i1))) &&& (255 : Int32))), .val (.int (4 : Int32)), .val (.int (128 : Int32)), .val (.int (191 : Int32)), .unset, .unset, .unset] [])) _
                    refine XS.goto X0.here hx rfl (pc0 := 147) (pc' := 153) rfl (hb hby d2_147) (by decide) (by decide) ?_
                    show Steps p.tables e below (s₁.setTop (mkF m 153 #[.val (.ref o0), .val (.int i1), .val (.int i2), .val (.int ((g ((nat i1))) &&& (255 : Int32))), .val (.int (4 : Int32)), .val (.int (128 : Int32)), .val (.int (191 : Int32)), .unset, .unset, .unset] [])) _
                    rw [show (f2_22_l4 i1 i2 g) = (4 : Int32) from ((if_neg hc22).trans ((if_pos hc29).trans ((if_neg hc42).trans ((if_pos hc49).trans ((if_neg hc98).trans ((if_neg hc105).trans ((if_neg hc115).trans (if_neg hc133)))))))), show (f2_22_l5 i1 i2 g) = (128 : Int32) from ((if_neg hc22).trans ((if_pos hc29).trans ((if_neg hc42).trans ((if_pos hc49).trans ((if_neg hc98).trans ((if_neg hc105).trans ((if_neg hc115).trans (if_neg hc133)))))))), show (f2_22_l6 i1 i2 g) = (191 : Int32) from ((if_neg hc22).trans ((if_pos hc29).trans ((if_neg hc42).trans ((if_pos hc49).trans ((if_neg hc98).trans ((if_neg hc105).trans ((if_neg hc115).trans (if_neg hc133))))))))] at k
                    exact k
          · refine XS.icmpNo X0.here hx rfl (hb hby d2_49) rfl (flt hc49).2.2.1 ?_
            show Steps p.tables e below (s₁.setTop (mkF m 52 #[.val (.ref o0), .val (.int i1), .val (.int i2), .val (.int ((g ((nat i1))) &&& (255 : Int32))), .unset, .val (.int (128 : Int32)), .val (.int (191 : Int32)), .unset, .unset, .unset] [])) _
            refine XS.iconst X0.here hx rfl (hb hby d2_52) ?_
            show Steps p.tables e below (s₁.setTop (mkF m 53 #[.val (.ref o0), .val (.int i1), .val (.int i2), .val (.int ((g ((nat i1))) &&& (255 : Int32))), .unset, .val (.int (128 : Int32)), .val (.int (191 : Int32)), .unset, .unset, .unset] [(.int (3 : Int32))])) _
            refine XS.istore X0.here hx rfl (hb hby d2_53) rfl (l' := #[.val (.ref o0), .val (.int i1), .val (.int i2), .val (.int ((g ((nat i1))) &&& (255 : Int32))), .val (.int (3 : Int32)), .val (.int (128 : Int32)), .val (.int (191 : Int32)), .unset, .unset, .unset]) rfl ?_
            show Steps p.tables e below (s₁.setTop (mkF m 55 #[.val (.ref o0), .val (.int i1), .val (.int i2), .val (.int ((g ((nat i1))) &&& (255 : Int32))), .val (.int (3 : Int32)), .val (.int (128 : Int32)), .val (.int (191 : Int32)), .unset, .unset, .unset] [])) _
            refine XS.iloadN X0.here hx rfl (hb hby d2_55) rfl ?_
            show Steps p.tables e below (s₁.setTop (mkF m 56 #[.val (.ref o0), .val (.int i1), .val (.int i2), .val (.int ((g ((nat i1))) &&& (255 : Int32))), .val (.int (3 : Int32)), .val (.int (128 : Int32)), .val (.int (191 : Int32)), .unset, .unset, .unset] [(.int ((g ((nat i1))) &&& (255 : Int32)))])) _
            refine XS.sipush X0.here hx rfl (hb hby d2_56) ?_
            show Steps p.tables e below (s₁.setTop (mkF m 59 #[.val (.ref o0), .val (.int i1), .val (.int i2), .val (.int ((g ((nat i1))) &&& (255 : Int32))), .val (.int (3 : Int32)), .val (.int (128 : Int32)), .val (.int (191 : Int32)), .unset, .unset, .unset] [(.int (224 : Int32)), (.int ((g ((nat i1))) &&& (255 : Int32)))])) _
            by_cases hc59 : ((g ((nat i1))) &&& (255 : Int32)) = (224 : Int32)
            · refine XS.icmpNo X0.here hx rfl (hb hby d2_59) rfl (teq hc59).2 ?_
              show Steps p.tables e below (s₁.setTop (mkF m 62 #[.val (.ref o0), .val (.int i1), .val (.int i2), .val (.int ((g ((nat i1))) &&& (255 : Int32))), .val (.int (3 : Int32)), .val (.int (128 : Int32)), .val (.int (191 : Int32)), .unset, .unset, .unset] [])) _
              refine XS.sipush X0.here hx rfl (hb hby d2_62) ?_
              show Steps p.tables e below (s₁.setTop (mkF m 65 #[.val (.ref o0), .val (.int i1), .val (.int i2), .val (.int ((g ((nat i1))) &&& (255 : Int32))), .val (.int (3 : Int32)), .val (.int (128 : Int32)), .val (.int (191 : Int32)), .unset, .unset, .unset] [(.int (160 : Int32))])) _
              refine XS.goto X0.here hx rfl (pc0 := 65) (pc' := 71) rfl (hb hby d2_65) (by decide) (by decide) ?_
              show Steps p.tables e below (s₁.setTop (mkF m 71 #[.val (.ref o0), .val (.int i1), .val (.int i2), .val (.int ((g ((nat i1))) &&& (255 : Int32))), .val (.int (3 : Int32)), .val (.int (128 : Int32)), .val (.int (191 : Int32)), .unset, .unset, .unset] [(.int (160 : Int32))])) _
              refine XS.istore X0.here hx rfl (hb hby d2_71) rfl (l' := #[.val (.ref o0), .val (.int i1), .val (.int i2), .val (.int ((g ((nat i1))) &&& (255 : Int32))), .val (.int (3 : Int32)), .val (.int (160 : Int32)), .val (.int (191 : Int32)), .unset, .unset, .unset]) rfl ?_
              show Steps p.tables e below (s₁.setTop (mkF m 73 #[.val (.ref o0), .val (.int i1), .val (.int i2), .val (.int ((g ((nat i1))) &&& (255 : Int32))), .val (.int (3 : Int32)), .val (.int (160 : Int32)), .val (.int (191 : Int32)), .unset, .unset, .unset] [])) _
              refine XS.iloadN X0.here hx rfl (hb hby d2_73) rfl ?_
              show Steps p.tables e below (s₁.setTop (mkF m 74 #[.val (.ref o0), .val (.int i1), .val (.int i2), .val (.int ((g ((nat i1))) &&& (255 : Int32))), .val (.int (3 : Int32)), .val (.int (160 : Int32)), .val (.int (191 : Int32)), .unset, .unset, .unset] [(.int ((g ((nat i1))) &&& (255 : Int32)))])) _
              refine XS.sipush X0.here hx rfl (hb hby d2_74) ?_
              show Steps p.tables e below (s₁.setTop (mkF m 77 #[.val (.ref o0), .val (.int i1), .val (.int i2), .val (.int ((g ((nat i1))) &&& (255 : Int32))), .val (.int (3 : Int32)), .val (.int (160 : Int32)), .val (.int (191 : Int32)), .unset, .unset, .unset] [(.int (237 : Int32)), (.int ((g ((nat i1))) &&& (255 : Int32)))])) _
              by_cases hc77 : ((g ((nat i1))) &&& (255 : Int32)) = (237 : Int32)
              · refine XS.icmpNo X0.here hx rfl (hb hby d2_77) rfl (teq hc77).2 ?_
                show Steps p.tables e below (s₁.setTop (mkF m 80 #[.val (.ref o0), .val (.int i1), .val (.int i2), .val (.int ((g ((nat i1))) &&& (255 : Int32))), .val (.int (3 : Int32)), .val (.int (160 : Int32)), .val (.int (191 : Int32)), .unset, .unset, .unset] [])) _
                refine XS.sipush X0.here hx rfl (hb hby d2_80) ?_
                show Steps p.tables e below (s₁.setTop (mkF m 83 #[.val (.ref o0), .val (.int i1), .val (.int i2), .val (.int ((g ((nat i1))) &&& (255 : Int32))), .val (.int (3 : Int32)), .val (.int (160 : Int32)), .val (.int (191 : Int32)), .unset, .unset, .unset] [(.int (159 : Int32))])) _
                refine XS.goto X0.here hx rfl (pc0 := 83) (pc' := 89) rfl (hb hby d2_83) (by decide) (by decide) ?_
                show Steps p.tables e below (s₁.setTop (mkF m 89 #[.val (.ref o0), .val (.int i1), .val (.int i2), .val (.int ((g ((nat i1))) &&& (255 : Int32))), .val (.int (3 : Int32)), .val (.int (160 : Int32)), .val (.int (191 : Int32)), .unset, .unset, .unset] [(.int (159 : Int32))])) _
                refine XS.istore X0.here hx rfl (hb hby d2_89) rfl (l' := #[.val (.ref o0), .val (.int i1), .val (.int i2), .val (.int ((g ((nat i1))) &&& (255 : Int32))), .val (.int (3 : Int32)), .val (.int (160 : Int32)), .val (.int (159 : Int32)), .unset, .unset, .unset]) rfl ?_
                show Steps p.tables e below (s₁.setTop (mkF m 91 #[.val (.ref o0), .val (.int i1), .val (.int i2), .val (.int ((g ((nat i1))) &&& (255 : Int32))), .val (.int (3 : Int32)), .val (.int (160 : Int32)), .val (.int (159 : Int32)), .unset, .unset, .unset] [])) _
                refine XS.goto X0.here hx rfl (pc0 := 91) (pc' := 153) rfl (hb hby d2_91) (by decide) (by decide) ?_
                show Steps p.tables e below (s₁.setTop (mkF m 153 #[.val (.ref o0), .val (.int i1), .val (.int i2), .val (.int ((g ((nat i1))) &&& (255 : Int32))), .val (.int (3 : Int32)), .val (.int (160 : Int32)), .val (.int (159 : Int32)), .unset, .unset, .unset] [])) _
                rw [show (f2_22_l4 i1 i2 g) = (3 : Int32) from ((if_neg hc22).trans ((if_pos hc29).trans ((if_neg hc42).trans ((if_neg hc49).trans ((if_pos hc59).trans (if_pos hc77)))))), show (f2_22_l5 i1 i2 g) = (160 : Int32) from ((if_neg hc22).trans ((if_pos hc29).trans ((if_neg hc42).trans ((if_neg hc49).trans ((if_pos hc59).trans (if_pos hc77)))))), show (f2_22_l6 i1 i2 g) = (159 : Int32) from ((if_neg hc22).trans ((if_pos hc29).trans ((if_neg hc42).trans ((if_neg hc49).trans ((if_pos hc59).trans (if_pos hc77))))))] at k
                exact k
              · refine XS.icmpYes X0.here hx rfl (pc0 := 77) (pc' := 86) rfl (hb hby d2_77) rfl (feq hc77).2 (by decide) (by decide) ?_
                show Steps p.tables e below (s₁.setTop (mkF m 86 #[.val (.ref o0), .val (.int i1), .val (.int i2), .val (.int ((g ((nat i1))) &&& (255 : Int32))), .val (.int (3 : Int32)), .val (.int (160 : Int32)), .val (.int (191 : Int32)), .unset, .unset, .unset] [])) _
                refine XS.sipush X0.here hx rfl (hb hby d2_86) ?_
                show Steps p.tables e below (s₁.setTop (mkF m 89 #[.val (.ref o0), .val (.int i1), .val (.int i2), .val (.int ((g ((nat i1))) &&& (255 : Int32))), .val (.int (3 : Int32)), .val (.int (160 : Int32)), .val (.int (191 : Int32)), .unset, .unset, .unset] [(.int (191 : Int32))])) _
                refine XS.istore X0.here hx rfl (hb hby d2_89) rfl (l' := #[.val (.ref o0), .val (.int i1), .val (.int i2), .val (.int ((g ((nat i1))) &&& (255 : Int32))), .val (.int (3 : Int32)), .val (.int (160 : Int32)), .val (.int (191 : Int32)), .unset, .unset, .unset]) rfl ?_
                show Steps p.tables e below (s₁.setTop (mkF m 91 #[.val (.ref o0), .val (.int i1), .val (.int i2), .val (.int ((g ((nat i1))) &&& (255 : Int32))), .val (.int (3 : Int32)), .val (.int (160 : Int32)), .val (.int (191 : Int32)), .unset, .unset, .unset] [])) _
                refine XS.goto X0.here hx rfl (pc0 := 91) (pc' := 153) rfl (hb hby d2_91) (by decide) (by decide) ?_
                show Steps p.tables e below (s₁.setTop (mkF m 153 #[.val (.ref o0), .val (.int i1), .val (.int i2), .val (.int ((g ((nat i1))) &&& (255 : Int32))), .val (.int (3 : Int32)), .val (.int (160 : Int32)), .val (.int (191 : Int32)), .unset, .unset, .unset] [])) _
                rw [show (f2_22_l4 i1 i2 g) = (3 : Int32) from ((if_neg hc22).trans ((if_pos hc29).trans ((if_neg hc42).trans ((if_neg hc49).trans ((if_pos hc59).trans (if_neg hc77)))))), show (f2_22_l5 i1 i2 g) = (160 : Int32) from ((if_neg hc22).trans ((if_pos hc29).trans ((if_neg hc42).trans ((if_neg hc49).trans ((if_pos hc59).trans (if_neg hc77)))))), show (f2_22_l6 i1 i2 g) = (191 : Int32) from ((if_neg hc22).trans ((if_pos hc29).trans ((if_neg hc42).trans ((if_neg hc49).trans ((if_pos hc59).trans (if_neg hc77))))))] at k
                exact k
            · refine XS.icmpYes X0.here hx rfl (pc0 := 59) (pc' := 68) rfl (hb hby d2_59) rfl (feq hc59).2 (by decide) (by decide) ?_
              show Steps p.tables e below (s₁.setTop (mkF m 68 #[.val (.ref o0), .val (.int i1), .val (.int i2), .val (.int ((g ((nat i1))) &&& (255 : Int32))), .val (.int (3 : Int32)), .val (.int (128 : Int32)), .val (.int (191 : Int32)), .unset, .unset, .unset] [])) _
              refine XS.sipush X0.here hx rfl (hb hby d2_68) ?_
              show Steps p.tables e below (s₁.setTop (mkF m 71 #[.val (.ref o0), .val (.int i1), .val (.int i2), .val (.int ((g ((nat i1))) &&& (255 : Int32))), .val (.int (3 : Int32)), .val (.int (128 : Int32)), .val (.int (191 : Int32)), .unset, .unset, .unset] [(.int (128 : Int32))])) _
              refine XS.istore X0.here hx rfl (hb hby d2_71) rfl (l' := #[.val (.ref o0), .val (.int i1), .val (.int i2), .val (.int ((g ((nat i1))) &&& (255 : Int32))), .val (.int (3 : Int32)), .val (.int (128 : Int32)), .val (.int (191 : Int32)), .unset, .unset, .unset]) rfl ?_
              show Steps p.tables e below (s₁.setTop (mkF m 73 #[.val (.ref o0), .val (.int i1), .val (.int i2), .val (.int ((g ((nat i1))) &&& (255 : Int32))), .val (.int (3 : Int32)), .val (.int (128 : Int32)), .val (.int (191 : Int32)), .unset, .unset, .unset] [])) _
              refine XS.iloadN X0.here hx rfl (hb hby d2_73) rfl ?_
              show Steps p.tables e below (s₁.setTop (mkF m 74 #[.val (.ref o0), .val (.int i1), .val (.int i2), .val (.int ((g ((nat i1))) &&& (255 : Int32))), .val (.int (3 : Int32)), .val (.int (128 : Int32)), .val (.int (191 : Int32)), .unset, .unset, .unset] [(.int ((g ((nat i1))) &&& (255 : Int32)))])) _
              refine XS.sipush X0.here hx rfl (hb hby d2_74) ?_
              show Steps p.tables e below (s₁.setTop (mkF m 77 #[.val (.ref o0), .val (.int i1), .val (.int i2), .val (.int ((g ((nat i1))) &&& (255 : Int32))), .val (.int (3 : Int32)), .val (.int (128 : Int32)), .val (.int (191 : Int32)), .unset, .unset, .unset] [(.int (237 : Int32)), (.int ((g ((nat i1))) &&& (255 : Int32)))])) _
              by_cases hc77 : ((g ((nat i1))) &&& (255 : Int32)) = (237 : Int32)
              · refine XS.icmpNo X0.here hx rfl (hb hby d2_77) rfl (teq hc77).2 ?_
                show Steps p.tables e below (s₁.setTop (mkF m 80 #[.val (.ref o0), .val (.int i1), .val (.int i2), .val (.int ((g ((nat i1))) &&& (255 : Int32))), .val (.int (3 : Int32)), .val (.int (128 : Int32)), .val (.int (191 : Int32)), .unset, .unset, .unset] [])) _
                refine XS.sipush X0.here hx rfl (hb hby d2_80) ?_
                show Steps p.tables e below (s₁.setTop (mkF m 83 #[.val (.ref o0), .val (.int i1), .val (.int i2), .val (.int ((g ((nat i1))) &&& (255 : Int32))), .val (.int (3 : Int32)), .val (.int (128 : Int32)), .val (.int (191 : Int32)), .unset, .unset, .unset] [(.int (159 : Int32))])) _
                refine XS.goto X0.here hx rfl (pc0 := 83) (pc' := 89) rfl (hb hby d2_83) (by decide) (by decide) ?_
                show Steps p.tables e below (s₁.setTop (mkF m 89 #[.val (.ref o0), .val (.int i1), .val (.int i2), .val (.int ((g ((nat i1))) &&& (255 : Int32))), .val (.int (3 : Int32)), .val (.int (128 : Int32)), .val (.int (191 : Int32)), .unset, .unset, .unset] [(.int (159 : Int32))])) _
                refine XS.istore X0.here hx rfl (hb hby d2_89) rfl (l' := #[.val (.ref o0), .val (.int i1), .val (.int i2), .val (.int ((g ((nat i1))) &&& (255 : Int32))), .val (.int (3 : Int32)), .val (.int (128 : Int32)), .val (.int (159 : Int32)), .unset, .unset, .unset]) rfl ?_
                show Steps p.tables e below (s₁.setTop (mkF m 91 #[.val (.ref o0), .val (.int i1), .val (.int i2), .val (.int ((g ((nat i1))) &&& (255 : Int32))), .val (.int (3 : Int32)), .val (.int (128 : Int32)), .val (.int (159 : Int32)), .unset, .unset, .unset] [])) _
                refine XS.goto X0.here hx rfl (pc0 := 91) (pc' := 153) rfl (hb hby d2_91) (by decide) (by decide) ?_
                show Steps p.tables e below (s₁.setTop (mkF m 153 #[.val (.ref o0), .val (.int i1), .val (.int i2), .val (.int ((g ((nat i1))) &&& (255 : Int32))), .val (.int (3 : Int32)), .val (.int (128 : Int32)), .val (.int (159 : Int32)), .unset, .unset, .unset] [])) _
                rw [show (f2_22_l4 i1 i2 g) = (3 : Int32) from ((if_neg hc22).trans ((if_pos hc29).trans ((if_neg hc42).trans ((if_neg hc49).trans ((if_neg hc59).trans (if_pos hc77)))))), show (f2_22_l5 i1 i2 g) = (128 : Int32) from ((if_neg hc22).trans ((if_pos hc29).trans ((if_neg hc42).trans ((if_neg hc49).trans ((if_neg hc59).trans (if_pos hc77)))))), show (f2_22_l6 i1 i2 g) = (159 : Int32) from ((if_neg hc22).trans ((if_pos hc29).trans ((if_neg hc42).trans ((if_neg hc49).trans ((if_neg hc59).trans (if_pos hc77))))))] at k
                exact k
              · refine XS.icmpYes X0.here hx rfl (pc0 := 77) (pc' := 86) rfl (hb hby d2_77) rfl (feq hc77).2 (by decide) (by decide) ?_
                show Steps p.tables e below (s₁.setTop (mkF m 86 #[.val (.ref o0), .val (.int i1), .val (.int i2), .val (.int ((g ((nat i1))) &&& (255 : Int32))), .val (.int (3 : Int32)), .val (.int (128 : Int32)), .val (.int (191 : Int32)), .unset, .unset, .unset] [])) _
                refine XS.sipush X0.here hx rfl (hb hby d2_86) ?_
                show Steps p.tables e below (s₁.setTop (mkF m 89 #[.val (.ref o0), .val (.int i1), .val (.int i2), .val (.int ((g ((nat i1))) &&& (255 : Int32))), .val (.int (3 : Int32)), .val (.int (128 : Int32)), .val (.int (191 : Int32)), .unset, .unset, .unset] [(.int (191 : Int32))])) _
                refine XS.istore X0.here hx rfl (hb hby d2_89) rfl (l' := #[.val (.ref o0), .val (.int i1), .val (.int i2), .val (.int ((g ((nat i1))) &&& (255 : Int32))), .val (.int (3 : Int32)), .val (.int (128 : Int32)), .val (.int (191 : Int32)), .unset, .unset, .unset]) rfl ?_
                show Steps p.tables e below (s₁.setTop (mkF m 91 #[.val (.ref o0), .val (.int i1), .val (.int i2), .val (.int ((g ((nat i1))) &&& (255 : Int32))), .val (.int (3 : Int32)), .val (.int (128 : Int32)), .val (.int (191 : Int32)), .unset, .unset, .unset] [])) _
                refine XS.goto X0.here hx rfl (pc0 := 91) (pc' := 153) rfl (hb hby d2_91) (by decide) (by decide) ?_
                show Steps p.tables e below (s₁.setTop (mkF m 153 #[.val (.ref o0), .val (.int i1), .val (.int i2), .val (.int ((g ((nat i1))) &&& (255 : Int32))), .val (.int (3 : Int32)), .val (.int (128 : Int32)), .val (.int (191 : Int32)), .unset, .unset, .unset] [])) _
                rw [show (f2_22_l4 i1 i2 g) = (3 : Int32) from ((if_neg hc22).trans ((if_pos hc29).trans ((if_neg hc42).trans ((if_neg hc49).trans ((if_neg hc59).trans (if_neg hc77)))))), show (f2_22_l5 i1 i2 g) = (128 : Int32) from ((if_neg hc22).trans ((if_pos hc29).trans ((if_neg hc42).trans ((if_neg hc49).trans ((if_neg hc59).trans (if_neg hc77)))))), show (f2_22_l6 i1 i2 g) = (191 : Int32) from ((if_neg hc22).trans ((if_pos hc29).trans ((if_neg hc42).trans ((if_neg hc49).trans ((if_neg hc59).trans (if_neg hc77))))))] at k
                exact k
      · refine XS.icmpNo X0.here hx rfl (hb hby d2_29) rfl (flt hc29).2.2.1 ?_
        show Steps p.tables e below (s₁.setTop (mkF m 32 #[.val (.ref o0), .val (.int i1), .val (.int i2), .val (.int ((g ((nat i1))) &&& (255 : Int32))), .unset, .val (.int (128 : Int32)), .val (.int (191 : Int32)), .unset, .unset, .unset] [])) _
        refine XS.iconst X0.here hx rfl (hb hby d2_32) ?_
        show Steps p.tables e below (s₁.setTop (mkF m 33 #[.val (.ref o0), .val (.int i1), .val (.int i2), .val (.int ((g ((nat i1))) &&& (255 : Int32))), .unset, .val (.int (128 : Int32)), .val (.int (191 : Int32)), .unset, .unset, .unset] [(.int (2 : Int32))])) _
        refine XS.istore X0.here hx rfl (hb hby d2_33) rfl (l' := #[.val (.ref o0), .val (.int i1), .val (.int i2), .val (.int ((g ((nat i1))) &&& (255 : Int32))), .val (.int (2 : Int32)), .val (.int (128 : Int32)), .val (.int (191 : Int32)), .unset, .unset, .unset]) rfl ?_
        show Steps p.tables e below (s₁.setTop (mkF m 35 #[.val (.ref o0), .val (.int i1), .val (.int i2), .val (.int ((g ((nat i1))) &&& (255 : Int32))), .val (.int (2 : Int32)), .val (.int (128 : Int32)), .val (.int (191 : Int32)), .unset, .unset, .unset] [])) _
        refine XS.goto X0.here hx rfl (pc0 := 35) (pc' := 153) rfl (hb hby d2_35) (by decide) (by decide) ?_
        show Steps p.tables e below (s₁.setTop (mkF m 153 #[.val (.ref o0), .val (.int i1), .val (.int i2), .val (.int ((g ((nat i1))) &&& (255 : Int32))), .val (.int (2 : Int32)), .val (.int (128 : Int32)), .val (.int (191 : Int32)), .unset, .unset, .unset] [])) _
        rw [show (f2_22_l4 i1 i2 g) = (2 : Int32) from ((if_neg hc22).trans (if_neg hc29)), show (f2_22_l5 i1 i2 g) = (128 : Int32) from ((if_neg hc22).trans (if_neg hc29)), show (f2_22_l6 i1 i2 g) = (191 : Int32) from ((if_neg hc22).trans (if_neg hc29))] at k
        exact k
  refine Outs.of (U' := s₁.setTop (mkF m 155 #[.val (.ref o0), .val (.int i1), .val (.int i2), .val (.int ((g ((nat i1))) &&& (255 : Int32))), .val (.int (f2_22_l4 i1 i2 g)), .val (.int (f2_22_l5 i1 i2 g)), .val (.int (f2_22_l6 i1 i2 g)), .unset, .unset, .unset] [(.int (f2_22_l4 i1 i2 g))])) (fun t k => ?_) ?_
  · refine XS.iload X0.here hx rfl (hb hby d2_153) rfl ?_
    show Steps p.tables e below (s₁.setTop (mkF m 155 #[.val (.ref o0), .val (.int i1), .val (.int i2), .val (.int ((g ((nat i1))) &&& (255 : Int32))), .val (.int (f2_22_l4 i1 i2 g)), .val (.int (f2_22_l5 i1 i2 g)), .val (.int (f2_22_l6 i1 i2 g)), .unset, .unset, .unset] [(.int (f2_22_l4 i1 i2 g))])) _
    exact k
  by_cases hc155 : (f2_22_l4 i1 i2 g) = (0 : Int32)
  · refine Outs.of (U' := s₁.setTop (mkF m 166 #[.val (.ref o0), .val (.int i1), .val (.int i2), .val (.int ((g ((nat i1))) &&& (255 : Int32))), .val (.int (f2_22_l4 i1 i2 g)), .val (.int (f2_22_l5 i1 i2 g)), .val (.int (f2_22_l6 i1 i2 g)), .unset, .unset, .unset] [])) (fun t k => ?_) ?_
    · refine XS.ifYes X0.here hx rfl (pc0 := 155) (pc' := 166) rfl (hb hby d2_155) rfl ((if0 _ _).trans (teq hc155).1) (by decide) (by decide) ?_
      show Steps p.tables e below (s₁.setTop (mkF m 166 #[.val (.ref o0), .val (.int i1), .val (.int i2), .val (.int ((g ((nat i1))) &&& (255 : Int32))), .val (.int (f2_22_l4 i1 i2 g)), .val (.int (f2_22_l5 i1 i2 g)), .val (.int (f2_22_l6 i1 i2 g)), .unset, .unset, .unset] [])) _
      exact k
    refine Outs.of (U' := s₁.setTop (mkF m 167 #[.val (.ref o0), .val (.int i1), .val (.int i2), .val (.int ((g ((nat i1))) &&& (255 : Int32))), .val (.int (f2_22_l4 i1 i2 g)), .val (.int (f2_22_l5 i1 i2 g)), .val (.int (f2_22_l6 i1 i2 g)), .unset, .unset, .unset] [(.int (0 : Int32))])) (fun t k => ?_) ?_
    · refine XS.iconst X0.here hx rfl (hb hby d2_166) ?_
      show Steps p.tables e below (s₁.setTop (mkF m 167 #[.val (.ref o0), .val (.int i1), .val (.int i2), .val (.int ((g ((nat i1))) &&& (255 : Int32))), .val (.int (f2_22_l4 i1 i2 g)), .val (.int (f2_22_l5 i1 i2 g)), .val (.int (f2_22_l6 i1 i2 g)), .unset, .unset, .unset] [(.int (0 : Int32))])) _
      exact k
    exact Outs.retI X0 hx hret (hb hby d2_167) hlk (by decide) (by decide) e0 ⟨congrArg (fun z_ => some (Value.int z_)) (show (F_f2 i1 i2 g) = (0 : Int32) from (if_pos hc155)).symm, N0, rfl⟩
  · refine Outs.of (U' := s₁.setTop (mkF m 158 #[.val (.ref o0), .val (.int i1), .val (.int i2), .val (.int ((g ((nat i1))) &&& (255 : Int32))), .val (.int (f2_22_l4 i1 i2 g)), .val (.int (f2_22_l5 i1 i2 g)), .val (.int (f2_22_l6 i1 i2 g)), .unset, .unset, .unset] [])) (fun t k => ?_) ?_
    · refine XS.ifNo X0.here hx rfl (hb hby d2_155) rfl ((if0 _ _).trans (feq hc155).1) ?_
      show Steps p.tables e below (s₁.setTop (mkF m 158 #[.val (.ref o0), .val (.int i1), .val (.int i2), .val (.int ((g ((nat i1))) &&& (255 : Int32))), .val (.int (f2_22_l4 i1 i2 g)), .val (.int (f2_22_l5 i1 i2 g)), .val (.int (f2_22_l6 i1 i2 g)), .unset, .unset, .unset] [])) _
      exact k
    refine Outs.of (U' := s₁.setTop (mkF m 163 #[.val (.ref o0), .val (.int i1), .val (.int i2), .val (.int ((g ((nat i1))) &&& (255 : Int32))), .val (.int (f2_22_l4 i1 i2 g)), .val (.int (f2_22_l5 i1 i2 g)), .val (.int (f2_22_l6 i1 i2 g)), .unset, .unset, .unset] [(.int (f2_22_l4 i1 i2 g)), (.int (i2 - i1))])) (fun t k => ?_) ?_
    · refine XS.iloadN X0.here hx rfl (hb hby d2_158) rfl ?_
      show Steps p.tables e below (s₁.setTop (mkF m 159 #[.val (.ref o0), .val (.int i1), .val (.int i2), .val (.int ((g ((nat i1))) &&& (255 : Int32))), .val (.int (f2_22_l4 i1 i2 g)), .val (.int (f2_22_l5 i1 i2 g)), .val (.int (f2_22_l6 i1 i2 g)), .unset, .unset, .unset] [(.int i2)])) _
      refine XS.iloadN X0.here hx rfl (hb hby d2_159) rfl ?_
      show Steps p.tables e below (s₁.setTop (mkF m 160 #[.val (.ref o0), .val (.int i1), .val (.int i2), .val (.int ((g ((nat i1))) &&& (255 : Int32))), .val (.int (f2_22_l4 i1 i2 g)), .val (.int (f2_22_l5 i1 i2 g)), .val (.int (f2_22_l6 i1 i2 g)), .unset, .unset, .unset] [(.int i1), (.int i2)])) _
      refine XS.isub X0.here hx rfl (hb hby d2_160) rfl ?_
      show Steps p.tables e below (s₁.setTop (mkF m 161 #[.val (.ref o0), .val (.int i1), .val (.int i2), .val (.int ((g ((nat i1))) &&& (255 : Int32))), .val (.int (f2_22_l4 i1 i2 g)), .val (.int (f2_22_l5 i1 i2 g)), .val (.int (f2_22_l6 i1 i2 g)), .unset, .unset, .unset] [(.int (i2 - i1))])) _
      refine XS.iload X0.here hx rfl (hb hby d2_161) rfl ?_
      show Steps p.tables e below (s₁.setTop (mkF m 163 #[.val (.ref o0), .val (.int i1), .val (.int i2), .val (.int ((g ((nat i1))) &&& (255 : Int32))), .val (.int (f2_22_l4 i1 i2 g)), .val (.int (f2_22_l5 i1 i2 g)), .val (.int (f2_22_l6 i1 i2 g)), .unset, .unset, .unset] [(.int (f2_22_l4 i1 i2 g)), (.int (i2 - i1))])) _
      exact k
    by_cases hc163 : (i2 - i1) < (f2_22_l4 i1 i2 g)
    · refine Outs.of (U' := s₁.setTop (mkF m 166 #[.val (.ref o0), .val (.int i1), .val (.int i2), .val (.int ((g ((nat i1))) &&& (255 : Int32))), .val (.int (f2_22_l4 i1 i2 g)), .val (.int (f2_22_l5 i1 i2 g)), .val (.int (f2_22_l6 i1 i2 g)), .unset, .unset, .unset] [])) (fun t k => ?_) ?_
      · refine XS.icmpNo X0.here hx rfl (hb hby d2_163) rfl (tlt hc163).2.1 ?_
        show Steps p.tables e below (s₁.setTop (mkF m 166 #[.val (.ref o0), .val (.int i1), .val (.int i2), .val (.int ((g ((nat i1))) &&& (255 : Int32))), .val (.int (f2_22_l4 i1 i2 g)), .val (.int (f2_22_l5 i1 i2 g)), .val (.int (f2_22_l6 i1 i2 g)), .unset, .unset, .unset] [])) _
        exact k
      refine Outs.of (U' := s₁.setTop (mkF m 167 #[.val (.ref o0), .val (.int i1), .val (.int i2), .val (.int ((g ((nat i1))) &&& (255 : Int32))), .val (.int (f2_22_l4 i1 i2 g)), .val (.int (f2_22_l5 i1 i2 g)), .val (.int (f2_22_l6 i1 i2 g)), .unset, .unset, .unset] [(.int (0 : Int32))])) (fun t k => ?_) ?_
      · refine XS.iconst X0.here hx rfl (hb hby d2_166) ?_
        show Steps p.tables e below (s₁.setTop (mkF m 167 #[.val (.ref o0), .val (.int i1), .val (.int i2), .val (.int ((g ((nat i1))) &&& (255 : Int32))), .val (.int (f2_22_l4 i1 i2 g)), .val (.int (f2_22_l5 i1 i2 g)), .val (.int (f2_22_l6 i1 i2 g)), .unset, .unset, .unset] [(.int (0 : Int32))])) _
        exact k
      exact Outs.retI X0 hx hret (hb hby d2_167) hlk (by decide) (by decide) e0 ⟨congrArg (fun z_ => some (Value.int z_)) (show (F_f2 i1 i2 g) = (0 : Int32) from ((if_neg hc155).trans (if_pos hc163))).symm, N0, rfl⟩
    · refine Outs.of (U' := s₁.setTop (mkF m 168 #[.val (.ref o0), .val (.int i1), .val (.int i2), .val (.int ((g ((nat i1))) &&& (255 : Int32))), .val (.int (f2_22_l4 i1 i2 g)), .val (.int (f2_22_l5 i1 i2 g)), .val (.int (f2_22_l6 i1 i2 g)), .unset, .unset, .unset] [])) (fun t k => ?_) ?_
      · refine XS.icmpYes X0.here hx rfl (pc0 := 163) (pc' := 168) rfl (hb hby d2_163) rfl (flt hc163).2.1 (by decide) (by decide) ?_
        show Steps p.tables e below (s₁.setTop (mkF m 168 #[.val (.ref o0), .val (.int i1), .val (.int i2), .val (.int ((g ((nat i1))) &&& (255 : Int32))), .val (.int (f2_22_l4 i1 i2 g)), .val (.int (f2_22_l5 i1 i2 g)), .val (.int (f2_22_l6 i1 i2 g)), .unset, .unset, .unset] [])) _
        exact k
      refine Outs.of (U' := s₁.setTop (mkF m 172 #[.val (.ref o0), .val (.int i1), .val (.int i2), .val (.int ((g ((nat i1))) &&& (255 : Int32))), .val (.int (f2_22_l4 i1 i2 g)), .val (.int (f2_22_l5 i1 i2 g)), .val (.int (f2_22_l6 i1 i2 g)), .unset, .unset, .unset] [(.int (i1 + (1 : Int32))), (.ref o0)])) (fun t k => ?_) ?_
      · refine XS.aloadN X0.here hx rfl (hb hby d2_168) rfl rfl ?_
        show Steps p.tables e below (s₁.setTop (mkF m 169 #[.val (.ref o0), .val (.int i1), .val (.int i2), .val (.int ((g ((nat i1))) &&& (255 : Int32))), .val (.int (f2_22_l4 i1 i2 g)), .val (.int (f2_22_l5 i1 i2 g)), .val (.int (f2_22_l6 i1 i2 g)), .unset, .unset, .unset] [(.ref o0)])) _
        refine XS.iloadN X0.here hx rfl (hb hby d2_169) rfl ?_
        show Steps p.tables e below (s₁.setTop (mkF m 170 #[.val (.ref o0), .val (.int i1), .val (.int i2), .val (.int ((g ((nat i1))) &&& (255 : Int32))), .val (.int (f2_22_l4 i1 i2 g)), .val (.int (f2_22_l5 i1 i2 g)), .val (.int (f2_22_l6 i1 i2 g)), .unset, .unset, .unset] [(.int i1), (.ref o0)])) _
        refine XS.iconst X0.here hx rfl (hb hby d2_170) ?_
        show Steps p.tables e below (s₁.setTop (mkF m 171 #[.val (.ref o0), .val (.int i1), .val (.int i2), .val (.int ((g ((nat i1))) &&& (255 : Int32))), .val (.int (f2_22_l4 i1 i2 g)), .val (.int (f2_22_l5 i1 i2 g)), .val (.int (f2_22_l6 i1 i2 g)), .unset, .unset, .unset] [(.int (1 : Int32)), (.int i1), (.ref o0)])) _
        refine XS.iadd X0.here hx rfl (hb hby d2_171) rfl ?_
        show Steps p.tables e below (s₁.setTop (mkF m 172 #[.val (.ref o0), .val (.int i1), .val (.int i2), .val (.int ((g ((nat i1))) &&& (255 : Int32))), .val (.int (f2_22_l4 i1 i2 g)), .val (.int (f2_22_l5 i1 i2 g)), .val (.int (f2_22_l6 i1 i2 g)), .unset, .unset, .unset] [(.int (i1 + (1 : Int32))), (.ref o0)])) _
        exact k
      refine Outs.of (ldB X0 hx hZ e0 A_o0 (j := (i1 + (1 : Int32))) (k := (nat (i1 + (1 : Int32)))) (own_hk (ixu1 i1 i2 g h1 h2 hc155 hc163).1) (own_hn (ixu1 i1 i2 g h1 h2 hc155 hc163).1 (ixu1 i1 i2 g h1 h2 hc155 hc163).2) (f := (mkF m 172 #[.val (.ref o0), .val (.int i1), .val (.int i2), .val (.int ((g ((nat i1))) &&& (255 : Int32))), .val (.int (f2_22_l4 i1 i2 g)), .val (.int (f2_22_l5 i1 i2 g)), .val (.int (f2_22_l6 i1 i2 g)), .unset, .unset, .unset] [(.int (i1 + (1 : Int32))), (.ref o0)])) rfl rfl (hb hby d2_172)) ?_
      show Outs p e below s _ _ _ (s₁.setTop (mkF m 173 #[.val (.ref o0), .val (.int i1), .val (.int i2), .val (.int ((g ((nat i1))) &&& (255 : Int32))), .val (.int (f2_22_l4 i1 i2 g)), .val (.int (f2_22_l5 i1 i2 g)), .val (.int (f2_22_l6 i1 i2 g)), .unset, .unset, .unset] [(.int (g ((nat (i1 + (1 : Int32))))))]))
      refine Outs.of (U' := s₁.setTop (mkF m 198 #[.val (.ref o0), .val (.int i1), .val (.int i2), .val (.int ((g ((nat i1))) &&& (255 : Int32))), .val (.int (f2_22_l4 i1 i2 g)), .val (.int (f2_22_l5 i1 i2 g)), .val (.int (f2_22_l6 i1 i2 g)), .val (.int ((g ((nat (i1 + (1 : Int32))))) &&& (255 : Int32))), .unset, .unset] [(.int (f2_183_s0 i1 i2 g))])) (fun t k => ?_) ?_
      · refine XS.sipush X0.here hx rfl (hb hby d2_173) ?_
        show Steps p.tables e below (s₁.setTop (mkF m 176 #[.val (.ref o0), .val (.int i1), .val (.int i2), .val (.int ((g ((nat i1))) &&& (255 : Int32))), .val (.int (f2_22_l4 i1 i2 g)), .val (.int (f2_22_l5 i1 i2 g)), .val (.int (f2_22_l6 i1 i2 g)), .unset, .unset, .unset] [(.int (255 : Int32)), (.int (g ((nat (i1 + (1 : Int32))))))])) _
        refine XS.iand X0.here hx rfl (hb hby d2_176) rfl ?_
        show Steps p.tables e below (s₁.setTop (mkF m 177 #[.val (.ref o0), .val (.int i1), .val (.int i2), .val (.int ((g ((nat i1))) &&& (255 : Int32))), .val (.int (f2_22_l4 i1 i2 g)), .val (.int (f2_22_l5 i1 i2 g)), .val (.int (f2_22_l6 i1 i2 g)), .unset, .unset, .unset] [(.int ((g ((nat (i1 + (1 : Int32))))) &&& (255 : Int32)))])) _
        refine XS.istore X0.here hx rfl (hb hby d2_177) rfl (l' := #[.val (.ref o0), .val (.int i1), .val (.int i2), .val (.int ((g ((nat i1))) &&& (255 : Int32))), .val (.int (f2_22_l4 i1 i2 g)), .val (.int (f2_22_l5 i1 i2 g)), .val (.int (f2_22_l6 i1 i2 g)), .val (.int ((g ((nat (i1 + (1 : Int32))))) &&& (255 : Int32))), .unset, .unset]) rfl ?_
        show Steps p.tables e below (s₁.setTop (mkF m 179 #[.val (.ref o0), .val (.int i1), .val (.int i2), .val (.int ((g ((nat i1))) &&& (255 : Int32))), .val (.int (f2_22_l4 i1 i2 g)), .val (.int (f2_22_l5 i1 i2 g)), .val (.int (f2_22_l6 i1 i2 g)), .val (.int ((g ((nat (i1 + (1 : Int32))))) &&& (255 : Int32))), .unset, .unset] [])) _
        refine XS.iload X0.here hx rfl (hb hby d2_179) rfl ?_
        show Steps p.tables e below (s₁.setTop (mkF m 181 #[.val (.ref o0), .val (.int i1), .val (.int i2), .val (.int ((g ((nat i1))) &&& (255 : Int32))), .val (.int (f2_22_l4 i1 i2 g)), .val (.int (f2_22_l5 i1 i2 g)), .val (.int (f2_22_l6 i1 i2 g)), .val (.int ((g ((nat (i1 + (1 : Int32))))) &&& (255 : Int32))), .unset, .unset] [(.int ((g ((nat (i1 + (1 : Int32))))) &&& (255 : Int32)))])) _
        refine XS.iload X0.here hx rfl (hb hby d2_181) rfl ?_
        show Steps p.tables e below (s₁.setTop (mkF m 183 #[.val (.ref o0), .val (.int i1), .val (.int i2), .val (.int ((g ((nat i1))) &&& (255 : Int32))), .val (.int (f2_22_l4 i1 i2 g)), .val (.int (f2_22_l5 i1 i2 g)), .val (.int (f2_22_l6 i1 i2 g)), .val (.int ((g ((nat (i1 + (1 : Int32))))) &&& (255 : Int32))), .unset, .unset] [(.int (f2_22_l5 i1 i2 g)), (.int ((g ((nat (i1 + (1 : Int32))))) &&& (255 : Int32)))])) _
        by_cases hc183 : ((g ((nat (i1 + (1 : Int32))))) &&& (255 : Int32)) < (f2_22_l5 i1 i2 g)
        · refine XS.icmpYes X0.here hx rfl (pc0 := 183) (pc' := 197) rfl (hb hby d2_183) rfl (tlt hc183).1 (by decide) (by decide) ?_
          show Steps p.tables e below (s₁.setTop (mkF m 197 #[.val (.ref o0), .val (.int i1), .val (.int i2), .val (.int ((g ((nat i1))) &&& (255 : Int32))), .val (.int (f2_22_l4 i1 i2 g)), .val (.int (f2_22_l5 i1 i2 g)), .val (.int (f2_22_l6 i1 i2 g)), .val (.int ((g ((nat (i1 + (1 : Int32))))) &&& (255 : Int32))), .unset, .unset] [])) _
          refine XS.iconst X0.here hx rfl (hb hby d2_197) ?_
          show Steps p.tables e below (s₁.setTop (mkF m 198 #[.val (.ref o0), .val (.int i1), .val (.int i2), .val (.int ((g ((nat i1))) &&& (255 : Int32))), .val (.int (f2_22_l4 i1 i2 g)), .val (.int (f2_22_l5 i1 i2 g)), .val (.int (f2_22_l6 i1 i2 g)), .val (.int ((g ((nat (i1 + (1 : Int32))))) &&& (255 : Int32))), .unset, .unset] [(.int (0 : Int32))])) _
          rw [show (f2_183_s0 i1 i2 g) = (0 : Int32) from (if_pos hc183)] at k
          exact k
        · refine XS.icmpNo X0.here hx rfl (hb hby d2_183) rfl (flt hc183).1 ?_
          show Steps p.tables e below (s₁.setTop (mkF m 186 #[.val (.ref o0), .val (.int i1), .val (.int i2), .val (.int ((g ((nat i1))) &&& (255 : Int32))), .val (.int (f2_22_l4 i1 i2 g)), .val (.int (f2_22_l5 i1 i2 g)), .val (.int (f2_22_l6 i1 i2 g)), .val (.int ((g ((nat (i1 + (1 : Int32))))) &&& (255 : Int32))), .unset, .unset] [])) _
          refine XS.iload X0.here hx rfl (hb hby d2_186) rfl ?_
          show Steps p.tables e below (s₁.setTop (mkF m 188 #[.val (.ref o0), .val (.int i1), .val (.int i2), .val (.int ((g ((nat i1))) &&& (255 : Int32))), .val (.int (f2_22_l4 i1 i2 g)), .val (.int (f2_22_l5 i1 i2 g)), .val (.int (f2_22_l6 i1 i2 g)), .val (.int ((g ((nat (i1 + (1 : Int32))))) &&& (255 : Int32))), .unset, .unset] [(.int ((g ((nat (i1 + (1 : Int32))))) &&& (255 : Int32)))])) _
          refine XS.iload X0.here hx rfl (hb hby d2_188) rfl ?_
          show Steps p.tables e below (s₁.setTop (mkF m 190 #[.val (.ref o0), .val (.int i1), .val (.int i2), .val (.int ((g ((nat i1))) &&& (255 : Int32))), .val (.int (f2_22_l4 i1 i2 g)), .val (.int (f2_22_l5 i1 i2 g)), .val (.int (f2_22_l6 i1 i2 g)), .val (.int ((g ((nat (i1 + (1 : Int32))))) &&& (255 : Int32))), .unset, .unset] [(.int (f2_22_l6 i1 i2 g)), (.int ((g ((nat (i1 + (1 : Int32))))) &&& (255 : Int32)))])) _
          by_cases hc190 : (f2_22_l6 i1 i2 g) < ((g ((nat (i1 + (1 : Int32))))) &&& (255 : Int32))
          · refine XS.icmpYes X0.here hx rfl (pc0 := 190) (pc' := 197) rfl (hb hby d2_190) rfl (tlt hc190).2.2.1 (by decide) (by decide) ?_
            show Steps p.tables e below (s₁.setTop (mkF m 197 #[.val (.ref o0), .val (.int i1), .val (.int i2), .val (.int ((g ((nat i1))) &&& (255 : Int32))), .val (.int (f2_22_l4 i1 i2 g)), .val (.int (f2_22_l5 i1 i2 g)), .val (.int (f2_22_l6 i1 i2 g)), .val (.int ((g ((nat (i1 + (1 : Int32))))) &&& (255 : Int32))), .unset, .unset] [])) _
            refine XS.iconst X0.here hx rfl (hb hby d2_197) ?_
            show Steps p.tables e below (s₁.setTop (mkF m 198 #[.val (.ref o0), .val (.int i1), .val (.int i2), .val (.int ((g ((nat i1))) &&& (255 : Int32))), .val (.int (f2_22_l4 i1 i2 g)), .val (.int (f2_22_l5 i1 i2 g)), .val (.int (f2_22_l6 i1 i2 g)), .val (.int ((g ((nat (i1 + (1 : Int32))))) &&& (255 : Int32))), .unset, .unset] [(.int (0 : Int32))])) _
            rw [show (f2_183_s0 i1 i2 g) = (0 : Int32) from ((if_neg hc183).trans (if_pos hc190))] at k
            exact k
          · refine XS.icmpNo X0.here hx rfl (hb hby d2_190) rfl (flt hc190).2.2.1 ?_
            show Steps p.tables e below (s₁.setTop (mkF m 193 #[.val (.ref o0), .val (.int i1), .val (.int i2), .val (.int ((g ((nat i1))) &&& (255 : Int32))), .val (.int (f2_22_l4 i1 i2 g)), .val (.int (f2_22_l5 i1 i2 g)), .val (.int (f2_22_l6 i1 i2 g)), .val (.int ((g ((nat (i1 + (1 : Int32))))) &&& (255 : Int32))), .unset, .unset] [])) _
            refine XS.iconst X0.here hx rfl (hb hby d2_193) ?_
            show Steps p.tables e below (s₁.setTop (mkF m 194 #[.val (.ref o0), .val (.int i1), .val (.int i2), .val (.int ((g ((nat i1))) &&& (255 : Int32))), .val (.int (f2_22_l4 i1 i2 g)), .val (.int (f2_22_l5 i1 i2 g)), .val (.int (f2_22_l6 i1 i2 g)), .val (.int ((g ((nat (i1 + (1 : Int32))))) &&& (255 : Int32))), .unset, .unset] [(.int (1 : Int32))])) _
            refine XS.goto X0.here hx rfl (pc0 := 194) (pc' := 198) rfl (hb hby d2_194) (by decide) (by decide) ?_
            show Steps p.tables e below (s₁.setTop (mkF m 198 #[.val (.ref o0), .val (.int i1), .val (.int i2), .val (.int ((g ((nat i1))) &&& (255 : Int32))), .val (.int (f2_22_l4 i1 i2 g)), .val (.int (f2_22_l5 i1 i2 g)), .val (.int (f2_22_l6 i1 i2 g)), .val (.int ((g ((nat (i1 + (1 : Int32))))) &&& (255 : Int32))), .unset, .unset] [(.int (1 : Int32))])) _
            rw [show (f2_183_s0 i1 i2 g) = (1 : Int32) from ((if_neg hc183).trans (if_neg hc190))] at k
            exact k
      refine Outs.of (U' := s₁.setTop (mkF m 211 #[.val (.ref o0), .val (.int i1), .val (.int i2), .val (.int ((g ((nat i1))) &&& (255 : Int32))), .val (.int (f2_22_l4 i1 i2 g)), .val (.int (f2_22_l5 i1 i2 g)), .val (.int (f2_22_l6 i1 i2 g)), .val (.int ((g ((nat (i1 + (1 : Int32))))) &&& (255 : Int32))), .val (.int (f2_183_s0 i1 i2 g)), .val (.int (i1 + (2 : Int32)))] [(.int (i1 + (f2_22_l4 i1 i2 g))), (.int (i1 + (2 : Int32)))])) (fun t k => ?_) ?_
      · refine XS.istore X0.here hx rfl (hb hby d2_198) rfl (l' := #[.val (.ref o0), .val (.int i1), .val (.int i2), .val (.int ((g ((nat i1))) &&& (255 : Int32))), .val (.int (f2_22_l4 i1 i2 g)), .val (.int (f2_22_l5 i1 i2 g)), .val (.int (f2_22_l6 i1 i2 g)), .val (.int ((g ((nat (i1 + (1 : Int32))))) &&& (255 : Int32))), .val (.int (f2_183_s0 i1 i2 g)), .unset]) rfl ?_
        show Steps p.tables e below (s₁.setTop (mkF m 200 #[.val (.ref o0), .val (.int i1), .val (.int i2), .val (.int ((g ((nat i1))) &&& (255 : Int32))), .val (.int (f2_22_l4 i1 i2 g)), .val (.int (f2_22_l5 i1 i2 g)), .val (.int (f2_22_l6 i1 i2 g)), .val (.int ((g ((nat (i1 + (1 : Int32))))) &&& (255 : Int32))), .val (.int (f2_183_s0 i1 i2 g)), .unset] [])) _
        refine XS.iloadN X0.here hx rfl (hb hby d2_200) rfl ?_
        show Steps p.tables e below (s₁.setTop (mkF m 201 #[.val (.ref o0), .val (.int i1), .val (.int i2), .val (.int ((g ((nat i1))) &&& (255 : Int32))), .val (.int (f2_22_l4 i1 i2 g)), .val (.int (f2_22_l5 i1 i2 g)), .val (.int (f2_22_l6 i1 i2 g)), .val (.int ((g ((nat (i1 + (1 : Int32))))) &&& (255 : Int32))), .val (.int (f2_183_s0 i1 i2 g)), .unset] [(.int i1)])) _
        refine XS.iconst X0.here hx rfl (hb hby d2_201) ?_
        show Steps p.tables e below (s₁.setTop (mkF m 202 #[.val (.ref o0), .val (.int i1), .val (.int i2), .val (.int ((g ((nat i1))) &&& (255 : Int32))), .val (.int (f2_22_l4 i1 i2 g)), .val (.int (f2_22_l5 i1 i2 g)), .val (.int (f2_22_l6 i1 i2 g)), .val (.int ((g ((nat (i1 + (1 : Int32))))) &&& (255 : Int32))), .val (.int (f2_183_s0 i1 i2 g)), .unset] [(.int (2 : Int32)), (.int i1)])) _
        refine XS.iadd X0.here hx rfl (hb hby d2_202) rfl ?_
        show Steps p.tables e below (s₁.setTop (mkF m 203 #[.val (.ref o0), .val (.int i1), .val (.int i2), .val (.int ((g ((nat i1))) &&& (255 : Int32))), .val (.int (f2_22_l4 i1 i2 g)), .val (.int (f2_22_l5 i1 i2 g)), .val (.int (f2_22_l6 i1 i2 g)), .val (.int ((g ((nat (i1 + (1 : Int32))))) &&& (255 : Int32))), .val (.int (f2_183_s0 i1 i2 g)), .unset] [(.int (i1 + (2 : Int32)))])) _
        refine XS.istore X0.here hx rfl (hb hby d2_203) rfl (l' := #[.val (.ref o0), .val (.int i1), .val (.int i2), .val (.int ((g ((nat i1))) &&& (255 : Int32))), .val (.int (f2_22_l4 i1 i2 g)), .val (.int (f2_22_l5 i1 i2 g)), .val (.int (f2_22_l6 i1 i2 g)), .val (.int ((g ((nat (i1 + (1 : Int32))))) &&& (255 : Int32))), .val (.int (f2_183_s0 i1 i2 g)), .val (.int (i1 + (2 : Int32)))]) rfl ?_
        show Steps p.tables e below (s₁.setTop (mkF m 205 #[.val (.ref o0), .val (.int i1), .val (.int i2), .val (.int ((g ((nat i1))) &&& (255 : Int32))), .val (.int (f2_22_l4 i1 i2 g)), .val (.int (f2_22_l5 i1 i2 g)), .val (.int (f2_22_l6 i1 i2 g)), .val (.int ((g ((nat (i1 + (1 : Int32))))) &&& (255 : Int32))), .val (.int (f2_183_s0 i1 i2 g)), .val (.int (i1 + (2 : Int32)))] [])) _
        refine XS.iload X0.here hx rfl (hb hby d2_205) rfl ?_
        show Steps p.tables e below (s₁.setTop (mkF m 207 #[.val (.ref o0), .val (.int i1), .val (.int i2), .val (.int ((g ((nat i1))) &&& (255 : Int32))), .val (.int (f2_22_l4 i1 i2 g)), .val (.int (f2_22_l5 i1 i2 g)), .val (.int (f2_22_l6 i1 i2 g)), .val (.int ((g ((nat (i1 + (1 : Int32))))) &&& (255 : Int32))), .val (.int (f2_183_s0 i1 i2 g)), .val (.int (i1 + (2 : Int32)))] [(.int (i1 + (2 : Int32)))])) _
        refine XS.iloadN X0.here hx rfl (hb hby d2_207) rfl ?_
        show Steps p.tables e below (s₁.setTop (mkF m 208 #[.val (.ref o0), .val (.int i1), .val (.int i2), .val (.int ((g ((nat i1))) &&& (255 : Int32))), .val (.int (f2_22_l4 i1 i2 g)), .val (.int (f2_22_l5 i1 i2 g)), .val (.int (f2_22_l6 i1 i2 g)), .val (.int ((g ((nat (i1 + (1 : Int32))))) &&& (255 : Int32))), .val (.int (f2_183_s0 i1 i2 g)), .val (.int (i1 + (2 : Int32)))] [(.int i1), (.int (i1 + (2 : Int32)))])) _
        refine XS.iload X0.here hx rfl (hb hby d2_208) rfl ?_
        show Steps p.tables e below (s₁.setTop (mkF m 210 #[.val (.ref o0), .val (.int i1), .val (.int i2), .val (.int ((g ((nat i1))) &&& (255 : Int32))), .val (.int (f2_22_l4 i1 i2 g)), .val (.int (f2_22_l5 i1 i2 g)), .val (.int (f2_22_l6 i1 i2 g)), .val (.int ((g ((nat (i1 + (1 : Int32))))) &&& (255 : Int32))), .val (.int (f2_183_s0 i1 i2 g)), .val (.int (i1 + (2 : Int32)))] [(.int (f2_22_l4 i1 i2 g)), (.int i1), (.int (i1 + (2 : Int32)))])) _
        refine XS.iadd X0.here hx rfl (hb hby d2_210) rfl ?_
        show Steps p.tables e below (s₁.setTop (mkF m 211 #[.val (.ref o0), .val (.int i1), .val (.int i2), .val (.int ((g ((nat i1))) &&& (255 : Int32))), .val (.int (f2_22_l4 i1 i2 g)), .val (.int (f2_22_l5 i1 i2 g)), .val (.int (f2_22_l6 i1 i2 g)), .val (.int ((g ((nat (i1 + (1 : Int32))))) &&& (255 : Int32))), .val (.int (f2_183_s0 i1 i2 g)), .val (.int (i1 + (2 : Int32)))] [(.int (i1 + (f2_22_l4 i1 i2 g))), (.int (i1 + (2 : Int32)))])) _
        exact k
      by_cases hc211 : (i1 + (2 : Int32)) < (i1 + (f2_22_l4 i1 i2 g))
      · refine Outs.of (U' := s₁.setTop (mkF m 214 #[.val (.ref o0), .val (.int i1), .val (.int i2), .val (.int ((g ((nat i1))) &&& (255 : Int32))), .val (.int (f2_22_l4 i1 i2 g)), .val (.int (f2_22_l5 i1 i2 g)), .val (.int (f2_22_l6 i1 i2 g)), .val (.int ((g ((nat (i1 + (1 : Int32))))) &&& (255 : Int32))), .val (.int (f2_183_s0 i1 i2 g)), .val (.int (i1 + (2 : Int32)))] [])) (fun t k => ?_) ?_
        · refine XS.icmpNo X0.here hx rfl (hb hby d2_211) rfl (tlt hc211).2.1 ?_
          show Steps p.tables e below (s₁.setTop (mkF m 214 #[.val (.ref o0), .val (.int i1), .val (.int i2), .val (.int ((g ((nat i1))) &&& (255 : Int32))), .val (.int (f2_22_l4 i1 i2 g)), .val (.int (f2_22_l5 i1 i2 g)), .val (.int (f2_22_l6 i1 i2 g)), .val (.int ((g ((nat (i1 + (1 : Int32))))) &&& (255 : Int32))), .val (.int (f2_183_s0 i1 i2 g)), .val (.int (i1 + (2 : Int32)))] [])) _
          exact k
        refine Outs.of (U' := s₁.setTop (mkF m 219 #[.val (.ref o0), .val (.int i1), .val (.int i2), .val (.int ((g ((nat i1))) &&& (255 : Int32))), .val (.int (f2_22_l4 i1 i2 g)), .val (.int (f2_22_l5 i1 i2 g)), .val (.int (f2_22_l6 i1 i2 g)), .val (.int ((g ((nat (i1 + (1 : Int32))))) &&& (255 : Int32))), .val (.int (f2_183_s0 i1 i2 g)), .val (.int (i1 + (2 : Int32)))] [(.int (i1 + (2 : Int32))), (.ref o0), (.int (f2_183_s0 i1 i2 g))])) (fun t k => ?_) ?_
        · refine XS.iload X0.here hx rfl (hb hby d2_214) rfl ?_
          show Steps p.tables e below (s₁.setTop (mkF m 216 #[.val (.ref o0), .val (.int i1), .val (.int i2), .val (.int ((g ((nat i1))) &&& (255 : Int32))), .val (.int (f2_22_l4 i1 i2 g)), .val (.int (f2_22_l5 i1 i2 g)), .val (.int (f2_22_l6 i1 i2 g)), .val (.int ((g ((nat (i1 + (1 : Int32))))) &&& (255 : Int32))), .val (.int (f2_183_s0 i1 i2 g)), .val (.int (i1 + (2 : Int32)))] [(.int (f2_183_s0 i1 i2 g))])) _
          refine XS.aloadN X0.here hx rfl (hb hby d2_216) rfl rfl ?_
          show Steps p.tables e below (s₁.setTop (mkF m 217 #[.val (.ref o0), .val (.int i1), .val (.int i2), .val (.int ((g ((nat i1))) &&& (255 : Int32))), .val (.int (f2_22_l4 i1 i2 g)), .val (.int (f2_22_l5 i1 i2 g)), .val (.int (f2_22_l6 i1 i2 g)), .val (.int ((g ((nat (i1 + (1 : Int32))))) &&& (255 : Int32))), .val (.int (f2_183_s0 i1 i2 g)), .val (.int (i1 + (2 : Int32)))] [(.ref o0), (.int (f2_183_s0 i1 i2 g))])) _
          refine XS.iload X0.here hx rfl (hb hby d2_217) rfl ?_
          show Steps p.tables e below (s₁.setTop (mkF m 219 #[.val (.ref o0), .val (.int i1), .val (.int i2), .val (.int ((g ((nat i1))) &&& (255 : Int32))), .val (.int (f2_22_l4 i1 i2 g)), .val (.int (f2_22_l5 i1 i2 g)), .val (.int (f2_22_l6 i1 i2 g)), .val (.int ((g ((nat (i1 + (1 : Int32))))) &&& (255 : Int32))), .val (.int (f2_183_s0 i1 i2 g)), .val (.int (i1 + (2 : Int32)))] [(.int (i1 + (2 : Int32))), (.ref o0), (.int (f2_183_s0 i1 i2 g))])) _
          exact k
        refine Outs.of (ldB X0 hx hZ e0 A_o0 (j := (i1 + (2 : Int32))) (k := (nat (i1 + (2 : Int32)))) (own_hk (ixu2 i1 i2 g h1 h2 hc155 hc163 hc211).1) (own_hn (ixu2 i1 i2 g h1 h2 hc155 hc163 hc211).1 (ixu2 i1 i2 g h1 h2 hc155 hc163 hc211).2) (f := (mkF m 219 #[.val (.ref o0), .val (.int i1), .val (.int i2), .val (.int ((g ((nat i1))) &&& (255 : Int32))), .val (.int (f2_22_l4 i1 i2 g)), .val (.int (f2_22_l5 i1 i2 g)), .val (.int (f2_22_l6 i1 i2 g)), .val (.int ((g ((nat (i1 + (1 : Int32))))) &&& (255 : Int32))), .val (.int (f2_183_s0 i1 i2 g)), .val (.int (i1 + (2 : Int32)))] [(.int (i1 + (2 : Int32))), (.ref o0), (.int (f2_183_s0 i1 i2 g))])) rfl rfl (hb hby d2_219)) ?_
        show Outs p e below s _ _ _ (s₁.setTop (mkF m 220 #[.val (.ref o0), .val (.int i1), .val (.int i2), .val (.int ((g ((nat i1))) &&& (255 : Int32))), .val (.int (f2_22_l4 i1 i2 g)), .val (.int (f2_22_l5 i1 i2 g)), .val (.int (f2_22_l6 i1 i2 g)), .val (.int ((g ((nat (i1 + (1 : Int32))))) &&& (255 : Int32))), .val (.int (f2_183_s0 i1 i2 g)), .val (.int (i1 + (2 : Int32)))] [(.int (g ((nat (i1 + (2 : Int32)))))), (.int (f2_183_s0 i1 i2 g))]))
        refine Outs.of (U' := s₁.setTop (mkF m 235 #[.val (.ref o0), .val (.int i1), .val (.int i2), .val (.int ((g ((nat i1))) &&& (255 : Int32))), .val (.int (f2_22_l4 i1 i2 g)), .val (.int (f2_22_l5 i1 i2 g)), .val (.int (f2_22_l6 i1 i2 g)), .val (.int ((g ((nat (i1 + (1 : Int32))))) &&& (255 : Int32))), .val (.int (f2_183_s0 i1 i2 g)), .val (.int (i1 + (2 : Int32)))] [(.int (f2_227_s0 i1 i2 g)), (.int (f2_183_s0 i1 i2 g))])) (fun t k => ?_) ?_
        · refine XS.sipush X0.here hx rfl (hb hby d2_220) ?_
          show Steps p.tables e below (s₁.setTop (mkF m 223 #[.val (.ref o0), .val (.int i1), .val (.int i2), .val (.int ((g ((nat i1))) &&& (255 : Int32))), .val (.int (f2_22_l4 i1 i2 g)), .val (.int (f2_22_l5 i1 i2 g)), .val (.int (f2_22_l6 i1 i2 g)), .val (.int ((g ((nat (i1 + (1 : Int32))))) &&& (255 : Int32))), .val (.int (f2_183_s0 i1 i2 g)), .val (.int (i1 + (2 : Int32)))] [(.int (192 : Int32)), (.int (g ((nat (i1 + (2 : Int32)))))), (.int (f2_183_s0 i1 i2 g))])) _
          refine XS.iand X0.here hx rfl (hb hby d2_223) rfl ?_
          show Steps p.tables e below (s₁.setTop (mkF m 224 #[.val (.ref o0), .val (.int i1), .val (.int i2), .val (.int ((g ((nat i1))) &&& (255 : Int32))), .val (.int (f2_22_l4 i1 i2 g)), .val (.int (f2_22_l5 i1 i2 g)), .val (.int (f2_22_l6 i1 i2 g)), .val (.int ((g ((nat (i1 + (1 : Int32))))) &&& (255 : Int32))), .val (.int (f2_183_s0 i1 i2 g)), .val (.int (i1 + (2 : Int32)))] [(.int ((g ((nat (i1 + (2 : Int32))))) &&& (192 : Int32))), (.int (f2_183_s0 i1 i2 g))])) _
          refine XS.sipush X0.here hx rfl (hb hby d2_224) ?_
          show Steps p.tables e below (s₁.setTop (mkF m 227 #[.val (.ref o0), .val (.int i1), .val (.int i2), .val (.int ((g ((nat i1))) &&& (255 : Int32))), .val (.int (f2_22_l4 i1 i2 g)), .val (.int (f2_22_l5 i1 i2 g)), .val (.int (f2_22_l6 i1 i2 g)), .val (.int ((g ((nat (i1 + (1 : Int32))))) &&& (255 : Int32))), .val (.int (f2_183_s0 i1 i2 g)), .val (.int (i1 + (2 : Int32)))] [(.int (128 : Int32)), (.int ((g ((nat (i1 + (2 : Int32))))) &&& (192 : Int32))), (.int (f2_183_s0 i1 i2 g))])) _
          by_cases hc227 : ((g ((nat (i1 + (2 : Int32))))) &&& (192 : Int32)) = (128 : Int32)
          · refine XS.icmpNo X0.here hx rfl (hb hby d2_227) rfl (teq hc227).2 ?_
            show Steps p.tables e below (s₁.setTop (mkF m 230 #[.val (.ref o0), .val (.int i1), .val (.int i2), .val (.int ((g ((nat i1))) &&& (255 : Int32))), .val (.int (f2_22_l4 i1 i2 g)), .val (.int (f2_22_l5 i1 i2 g)), .val (.int (f2_22_l6 i1 i2 g)), .val (.int ((g ((nat (i1 + (1 : Int32))))) &&& (255 : Int32))), .val (.int (f2_183_s0 i1 i2 g)), .val (.int (i1 + (2 : Int32)))] [(.int (f2_183_s0 i1 i2 g))])) _
            refine XS.iconst X0.here hx rfl (hb hby d2_230) ?_
            show Steps p.tables e below (s₁.setTop (mkF m 231 #[.val (.ref o0), .val (.int i1), .val (.int i2), .val (.int ((g ((nat i1))) &&& (255 : Int32))), .val (.int (f2_22_l4 i1 i2 g)), .val (.int (f2_22_l5 i1 i2 g)), .val (.int (f2_22_l6 i1 i2 g)), .val (.int ((g ((nat (i1 + (1 : Int32))))) &&& (255 : Int32))), .val (.int (f2_183_s0 i1 i2 g)), .val (.int (i1 + (2 : Int32)))] [(.int (1 : Int32)), (.int (f2_183_s0 i1 i2 g))])) _
            refine XS.goto X0.here hx rfl (pc0 := 231) (pc' := 235) rfl (hb hby d2_231) (by decide) (by decide) ?_
            show Steps p.tables e below (s₁.setTop (mkF m 235 #[.val (.ref o0), .val (.int i1), .val (.int i2), .val (.int ((g ((nat i1))) &&& (255 : Int32))), .val (.int (f2_22_l4 i1 i2 g)), .val (.int (f2_22_l5 i1 i2 g)), .val (.int (f2_22_l6 i1 i2 g)), .val (.int ((g ((nat (i1 + (1 : Int32))))) &&& (255 : Int32))), .val (.int (f2_183_s0 i1 i2 g)), .val (.int (i1 + (2 : Int32)))] [(.int (1 : Int32)), (.int (f2_183_s0 i1 i2 g))])) _
            rw [show (f2_227_s0 i1 i2 g) = (1 : Int32) from (if_pos hc227)] at k
            exact k
          · refine XS.icmpYes X0.here hx rfl (pc0 := 227) (pc' := 234) rfl (hb hby d2_227) rfl (feq hc227).2 (by decide) (by decide) ?_
            show Steps p.tables e below (s₁.setTop (mkF m 234 #[.val (.ref o0), .val (.int i1), .val (.int i2), .val (.int ((g ((nat i1))) &&& (255 : Int32))), .val (.int (f2_22_l4 i1 i2 g)), .val (.int (f2_22_l5 i1 i2 g)), .val (.int (f2_22_l6 i1 i2 g)), .val (.int ((g ((nat (i1 + (1 : Int32))))) &&& (255 : Int32))), .val (.int (f2_183_s0 i1 i2 g)), .val (.int (i1 + (2 : Int32)))] [(.int (f2_183_s0 i1 i2 g))])) _
            refine XS.iconst X0.here hx rfl (hb hby d2_234) ?_
            show Steps p.tables e below (s₁.setTop (mkF m 235 #[.val (.ref o0), .val (.int i1), .val (.int i2), .val (.int ((g ((nat i1))) &&& (255 : Int32))), .val (.int (f2_22_l4 i1 i2 g)), .val (.int (f2_22_l5 i1 i2 g)), .val (.int (f2_22_l6 i1 i2 g)), .val (.int ((g ((nat (i1 + (1 : Int32))))) &&& (255 : Int32))), .val (.int (f2_183_s0 i1 i2 g)), .val (.int (i1 + (2 : Int32)))] [(.int (0 : Int32)), (.int (f2_183_s0 i1 i2 g))])) _
            rw [show (f2_227_s0 i1 i2 g) = (0 : Int32) from (if_neg hc227)] at k
            exact k
        refine Outs.of (U' := s₁.setTop (mkF m 211 #[.val (.ref o0), .val (.int i1), .val (.int i2), .val (.int ((g ((nat i1))) &&& (255 : Int32))), .val (.int (f2_22_l4 i1 i2 g)), .val (.int (f2_22_l5 i1 i2 g)), .val (.int (f2_22_l6 i1 i2 g)), .val (.int ((g ((nat (i1 + (1 : Int32))))) &&& (255 : Int32))), .val (.int ((f2_183_s0 i1 i2 g) &&& (f2_227_s0 i1 i2 g))), .val (.int ((i1 + (2 : Int32)) + (1 : Int32)))] [(.int (i1 + (f2_22_l4 i1 i2 g))), (.int ((i1 + (2 : Int32)) + (1 : Int32)))])) (fun t k => ?_) ?_
        · refine XS.iand X0.here hx rfl (hb hby d2_235) rfl ?_
          show Steps p.tables e below (s₁.setTop (mkF m 236 #[.val (.ref o0), .val (.int i1), .val (.int i2), .val (.int ((g ((nat i1))) &&& (255 : Int32))), .val (.int (f2_22_l4 i1 i2 g)), .val (.int (f2_22_l5 i1 i2 g)), .val (.int (f2_22_l6 i1 i2 g)), .val (.int ((g ((nat (i1 + (1 : Int32))))) &&& (255 : Int32))), .val (.int (f2_183_s0 i1 i2 g)), .val (.int (i1 + (2 : Int32)))] [(.int ((f2_183_s0 i1 i2 g) &&& (f2_227_s0 i1 i2 g)))])) _
          refine XS.istore X0.here hx rfl (hb hby d2_236) rfl (l' := #[.val (.ref o0), .val (.int i1), .val (.int i2), .val (.int ((g ((nat i1))) &&& (255 : Int32))), .val (.int (f2_22_l4 i1 i2 g)), .val (.int (f2_22_l5 i1 i2 g)), .val (.int (f2_22_l6 i1 i2 g)), .val (.int ((g ((nat (i1 + (1 : Int32))))) &&& (255 : Int32))), .val (.int ((f2_183_s0 i1 i2 g) &&& (f2_227_s0 i1 i2 g))), .val (.int (i1 + (2 : Int32)))]) rfl ?_
          show Steps p.tables e below (s₁.setTop (mkF m 238 #[.val (.ref o0), .val (.int i1), .val (.int i2), .val (.int ((g ((nat i1))) &&& (255 : Int32))), .val (.int (f2_22_l4 i1 i2 g)), .val (.int (f2_22_l5 i1 i2 g)), .val (.int (f2_22_l6 i1 i2 g)), .val (.int ((g ((nat (i1 + (1 : Int32))))) &&& (255 : Int32))), .val (.int ((f2_183_s0 i1 i2 g) &&& (f2_227_s0 i1 i2 g))), .val (.int (i1 + (2 : Int32)))] [])) _
          refine XS.iinc X0.here hx rfl (hb hby d2_238) rfl (l' := #[.val (.ref o0), .val (.int i1), .val (.int i2), .val (.int ((g ((nat i1))) &&& (255 : Int32))), .val (.int (f2_22_l4 i1 i2 g)), .val (.int (f2_22_l5 i1 i2 g)), .val (.int (f2_22_l6 i1 i2 g)), .val (.int ((g ((nat (i1 + (1 : Int32))))) &&& (255 : Int32))), .val (.int ((f2_183_s0 i1 i2 g) &&& (f2_227_s0 i1 i2 g))), .val (.int ((i1 + (2 : Int32)) + (1 : Int32)))]) rfl ?_
          show Steps p.tables e below (s₁.setTop (mkF m 241 #[.val (.ref o0), .val (.int i1), .val (.int i2), .val (.int ((g ((nat i1))) &&& (255 : Int32))), .val (.int (f2_22_l4 i1 i2 g)), .val (.int (f2_22_l5 i1 i2 g)), .val (.int (f2_22_l6 i1 i2 g)), .val (.int ((g ((nat (i1 + (1 : Int32))))) &&& (255 : Int32))), .val (.int ((f2_183_s0 i1 i2 g) &&& (f2_227_s0 i1 i2 g))), .val (.int ((i1 + (2 : Int32)) + (1 : Int32)))] [])) _
          refine XS.goto X0.here hx rfl (pc0 := 241) (pc' := 205) rfl (hb hby d2_241) (by decide) (by decide) ?_
          show Steps p.tables e below (s₁.setTop (mkF m 205 #[.val (.ref o0), .val (.int i1), .val (.int i2), .val (.int ((g ((nat i1))) &&& (255 : Int32))), .val (.int (f2_22_l4 i1 i2 g)), .val (.int (f2_22_l5 i1 i2 g)), .val (.int (f2_22_l6 i1 i2 g)), .val (.int ((g ((nat (i1 + (1 : Int32))))) &&& (255 : Int32))), .val (.int ((f2_183_s0 i1 i2 g) &&& (f2_227_s0 i1 i2 g))), .val (.int ((i1 + (2 : Int32)) + (1 : Int32)))] [])) _
          refine XS.iload X0.here hx rfl (hb hby d2_205) rfl ?_
          show Steps p.tables e below (s₁.setTop (mkF m 207 #[.val (.ref o0), .val (.int i1), .val (.int i2), .val (.int ((g ((nat i1))) &&& (255 : Int32))), .val (.int (f2_22_l4 i1 i2 g)), .val (.int (f2_22_l5 i1 i2 g)), .val (.int (f2_22_l6 i1 i2 g)), .val (.int ((g ((nat (i1 + (1 : Int32))))) &&& (255 : Int32))), .val (.int ((f2_183_s0 i1 i2 g) &&& (f2_227_s0 i1 i2 g))), .val (.int ((i1 + (2 : Int32)) + (1 : Int32)))] [(.int ((i1 + (2 : Int32)) + (1 : Int32)))])) _
          refine XS.iloadN X0.here hx rfl (hb hby d2_207) rfl ?_
          show Steps p.tables e below (s₁.setTop (mkF m 208 #[.val (.ref o0), .val (.int i1), .val (.int i2), .val (.int ((g ((nat i1))) &&& (255 : Int32))), .val (.int (f2_22_l4 i1 i2 g)), .val (.int (f2_22_l5 i1 i2 g)), .val (.int (f2_22_l6 i1 i2 g)), .val (.int ((g ((nat (i1 + (1 : Int32))))) &&& (255 : Int32))), .val (.int ((f2_183_s0 i1 i2 g) &&& (f2_227_s0 i1 i2 g))), .val (.int ((i1 + (2 : Int32)) + (1 : Int32)))] [(.int i1), (.int ((i1 + (2 : Int32)) + (1 : Int32)))])) _
          refine XS.iload X0.here hx rfl (hb hby d2_208) rfl ?_
          show Steps p.tables e below (s₁.setTop (mkF m 210 #[.val (.ref o0), .val (.int i1), .val (.int i2), .val (.int ((g ((nat i1))) &&& (255 : Int32))), .val (.int (f2_22_l4 i1 i2 g)), .val (.int (f2_22_l5 i1 i2 g)), .val (.int (f2_22_l6 i1 i2 g)), .val (.int ((g ((nat (i1 + (1 : Int32))))) &&& (255 : Int32))), .val (.int ((f2_183_s0 i1 i2 g) &&& (f2_227_s0 i1 i2 g))), .val (.int ((i1 + (2 : Int32)) + (1 : Int32)))] [(.int (f2_22_l4 i1 i2 g)), (.int i1), (.int ((i1 + (2 : Int32)) + (1 : Int32)))])) _
          refine XS.iadd X0.here hx rfl (hb hby d2_210) rfl ?_
          show Steps p.tables e below (s₁.setTop (mkF m 211 #[.val (.ref o0), .val (.int i1), .val (.int i2), .val (.int ((g ((nat i1))) &&& (255 : Int32))), .val (.int (f2_22_l4 i1 i2 g)), .val (.int (f2_22_l5 i1 i2 g)), .val (.int (f2_22_l6 i1 i2 g)), .val (.int ((g ((nat (i1 + (1 : Int32))))) &&& (255 : Int32))), .val (.int ((f2_183_s0 i1 i2 g) &&& (f2_227_s0 i1 i2 g))), .val (.int ((i1 + (2 : Int32)) + (1 : Int32)))] [(.int (i1 + (f2_22_l4 i1 i2 g))), (.int ((i1 + (2 : Int32)) + (1 : Int32)))])) _
          exact k
        by_cases hc211_1 : ((i1 + (2 : Int32)) + (1 : Int32)) < (i1 + (f2_22_l4 i1 i2 g))
        · refine Outs.of (U' := s₁.setTop (mkF m 214 #[.val (.ref o0), .val (.int i1), .val (.int i2), .val (.int ((g ((nat i1))) &&& (255 : Int32))), .val (.int (f2_22_l4 i1 i2 g)), .val (.int (f2_22_l5 i1 i2 g)), .val (.int (f2_22_l6 i1 i2 g)), .val (.int ((g ((nat (i1 + (1 : Int32))))) &&& (255 : Int32))), .val (.int ((f2_183_s0 i1 i2 g) &&& (f2_227_s0 i1 i2 g))), .val (.int ((i1 + (2 : Int32)) + (1 : Int32)))] [])) (fun t k => ?_) ?_
          · refine XS.icmpNo X0.here hx rfl (hb hby d2_211) rfl (tlt hc211_1).2.1 ?_
            show Steps p.tables e below (s₁.setTop (mkF m 214 #[.val (.ref o0), .val (.int i1), .val (.int i2), .val (.int ((g ((nat i1))) &&& (255 : Int32))), .val (.int (f2_22_l4 i1 i2 g)), .val (.int (f2_22_l5 i1 i2 g)), .val (.int (f2_22_l6 i1 i2 g)), .val (.int ((g ((nat (i1 + (1 : Int32))))) &&& (255 : Int32))), .val (.int ((f2_183_s0 i1 i2 g) &&& (f2_227_s0 i1 i2 g))), .val (.int ((i1 + (2 : Int32)) + (1 : Int32)))] [])) _
            exact k
          refine Outs.of (U' := s₁.setTop (mkF m 219 #[.val (.ref o0), .val (.int i1), .val (.int i2), .val (.int ((g ((nat i1))) &&& (255 : Int32))), .val (.int (f2_22_l4 i1 i2 g)), .val (.int (f2_22_l5 i1 i2 g)), .val (.int (f2_22_l6 i1 i2 g)), .val (.int ((g ((nat (i1 + (1 : Int32))))) &&& (255 : Int32))), .val (.int ((f2_183_s0 i1 i2 g) &&& (f2_227_s0 i1 i2 g))), .val (.int ((i1 + (2 : Int32)) + (1 : Int32)))] [(.int ((i1 + (2 : Int32)) + (1 : Int32))), (.ref o0), (.int ((f2_183_s0 i1 i2 g) &&& (f2_227_s0 i1 i2 g)))])) (fun t k => ?_) ?_
          · refine XS.iload X0.here hx rfl (hb hby d2_214) rfl ?_
            show Steps p.tables e below (s₁.setTop (mkF m 216 #[.val (.ref o0), .val (.int i1), .val (.int i2), .val (.int ((g ((nat i1))) &&& (255 : Int32))), .val (.int (f2_22_l4 i1 i2 g)), .val (.int (f2_22_l5 i1 i2 g)), .val (.int (f2_22_l6 i1 i2 g)), .val (.int ((g ((nat (i1 + (1 : Int32))))) &&& (255 : Int32))), .val (.int ((f2_183_s0 i1 i2 g) &&& (f2_227_s0 i1 i2 g))), .val (.int ((i1 + (2 : Int32)) + (1 : Int32)))] [(.int ((f2_183_s0 i1 i2 g) &&& (f2_227_s0 i1 i2 g)))])) _
            refine XS.aloadN X0.here hx rfl (hb hby d2_216) rfl rfl ?_
            show Steps p.tables e below (s₁.setTop (mkF m 217 #[.val (.ref o0), .val (.int i1), .val (.int i2), .val (.int ((g ((nat i1))) &&& (255 : Int32))), .val (.int (f2_22_l4 i1 i2 g)), .val (.int (f2_22_l5 i1 i2 g)), .val (.int (f2_22_l6 i1 i2 g)), .val (.int ((g ((nat (i1 + (1 : Int32))))) &&& (255 : Int32))), .val (.int ((f2_183_s0 i1 i2 g) &&& (f2_227_s0 i1 i2 g))), .val (.int ((i1 + (2 : Int32)) + (1 : Int32)))] [(.ref o0), (.int ((f2_183_s0 i1 i2 g) &&& (f2_227_s0 i1 i2 g)))])) _
            refine XS.iload X0.here hx rfl (hb hby d2_217) rfl ?_
            show Steps p.tables e below (s₁.setTop (mkF m 219 #[.val (.ref o0), .val (.int i1), .val (.int i2), .val (.int ((g ((nat i1))) &&& (255 : Int32))), .val (.int (f2_22_l4 i1 i2 g)), .val (.int (f2_22_l5 i1 i2 g)), .val (.int (f2_22_l6 i1 i2 g)), .val (.int ((g ((nat (i1 + (1 : Int32))))) &&& (255 : Int32))), .val (.int ((f2_183_s0 i1 i2 g) &&& (f2_227_s0 i1 i2 g))), .val (.int ((i1 + (2 : Int32)) + (1 : Int32)))] [(.int ((i1 + (2 : Int32)) + (1 : Int32))), (.ref o0), (.int ((f2_183_s0 i1 i2 g) &&& (f2_227_s0 i1 i2 g)))])) _
            exact k
          refine Outs.of (ldB X0 hx hZ e0 A_o0 (j := ((i1 + (2 : Int32)) + (1 : Int32))) (k := (nat ((i1 + (2 : Int32)) + (1 : Int32)))) (own_hk (ixu3 i1 i2 g h1 h2 hc155 hc163 hc211_1).1) (own_hn (ixu3 i1 i2 g h1 h2 hc155 hc163 hc211_1).1 (ixu3 i1 i2 g h1 h2 hc155 hc163 hc211_1).2) (f := (mkF m 219 #[.val (.ref o0), .val (.int i1), .val (.int i2), .val (.int ((g ((nat i1))) &&& (255 : Int32))), .val (.int (f2_22_l4 i1 i2 g)), .val (.int (f2_22_l5 i1 i2 g)), .val (.int (f2_22_l6 i1 i2 g)), .val (.int ((g ((nat (i1 + (1 : Int32))))) &&& (255 : Int32))), .val (.int ((f2_183_s0 i1 i2 g) &&& (f2_227_s0 i1 i2 g))), .val (.int ((i1 + (2 : Int32)) + (1 : Int32)))] [(.int ((i1 + (2 : Int32)) + (1 : Int32))), (.ref o0), (.int ((f2_183_s0 i1 i2 g) &&& (f2_227_s0 i1 i2 g)))])) rfl rfl (hb hby d2_219)) ?_
          show Outs p e below s _ _ _ (s₁.setTop (mkF m 220 #[.val (.ref o0), .val (.int i1), .val (.int i2), .val (.int ((g ((nat i1))) &&& (255 : Int32))), .val (.int (f2_22_l4 i1 i2 g)), .val (.int (f2_22_l5 i1 i2 g)), .val (.int (f2_22_l6 i1 i2 g)), .val (.int ((g ((nat (i1 + (1 : Int32))))) &&& (255 : Int32))), .val (.int ((f2_183_s0 i1 i2 g) &&& (f2_227_s0 i1 i2 g))), .val (.int ((i1 + (2 : Int32)) + (1 : Int32)))] [(.int (g ((nat ((i1 + (2 : Int32)) + (1 : Int32)))))), (.int ((f2_183_s0 i1 i2 g) &&& (f2_227_s0 i1 i2 g)))]))
          refine Outs.of (U' := s₁.setTop (mkF m 235 #[.val (.ref o0), .val (.int i1), .val (.int i2), .val (.int ((g ((nat i1))) &&& (255 : Int32))), .val (.int (f2_22_l4 i1 i2 g)), .val (.int (f2_22_l5 i1 i2 g)), .val (.int (f2_22_l6 i1 i2 g)), .val (.int ((g ((nat (i1 + (1 : Int32))))) &&& (255 : Int32))), .val (.int ((f2_183_s0 i1 i2 g) &&& (f2_227_s0 i1 i2 g))), .val (.int ((i1 + (2 : Int32)) + (1 : Int32)))] [(.int (f2_227_s0a i1 i2 g)), (.int ((f2_183_s0 i1 i2 g) &&& (f2_227_s0 i1 i2 g)))])) (fun t k => ?_) ?_
          · refine XS.sipush X0.here hx rfl (hb hby d2_220) ?_
            show Steps p.tables e below (s₁.setTop (mkF m 223 #[.val (.ref o0), .val (.int i1), .val (.int i2), .val (.int ((g ((nat i1))) &&& (255 : Int32))), .val (.int (f2_22_l4 i1 i2 g)), .val (.int (f2_22_l5 i1 i2 g)), .val (.int (f2_22_l6 i1 i2 g)), .val (.int ((g ((nat (i1 + (1 : Int32))))) &&& (255 : Int32))), .val (.int ((f2_183_s0 i1 i2 g) &&& (f2_227_s0 i1 i2 g))), .val (.int ((i1 + (2 : Int32)) + (1 : Int32)))] [(.int (192 : Int32)), (.int (g ((nat ((i1 + (2 : Int32)) + (1 : Int32)))))), (.int ((f2_183_s0 i1 i2 g) &&& (f2_227_s0 i1 i2 g)))])) _
            refine XS.iand X0.here hx rfl (hb hby d2_223) rfl ?_
            show Steps p.tables e below (s₁.setTop (mkF m 224 #[.val (.ref o0), .val (.int i1), .val (.int i2), .val (.int ((g ((nat i1))) &&& (255 : Int32))), .val (.int (f2_22_l4 i1 i2 g)), .val (.int (f2_22_l5 i1 i2 g)), .val (.int (f2_22_l6 i1 i2 g)), .val (.int ((g ((nat (i1 + (1 : Int32))))) &&& (255 : Int32))), .val (.int ((f2_183_s0 i1 i2 g) &&& (f2_227_s0 i1 i2 g))), .val (.int ((i1 + (2 : Int32)) + (1 : Int32)))] [(.int ((g ((nat ((i1 + (2 : Int32)) + (1 : Int32))))) &&& (192 : Int32))), (.int ((f2_183_s0 i1 i2 g) &&& (f2_227_s0 i1 i2 g)))])) _
            refine XS.sipush X0.here hx rfl (hb hby d2_224) ?_
            show Steps p.tables e below (s₁.setTop (mkF m 227 #[.val (.ref o0), .val (.int i1), .val (.int i2), .val (.int ((g ((nat i1))) &&& (255 : Int32))), .val (.int (f2_22_l4 i1 i2 g)), .val (.int (f2_22_l5 i1 i2 g)), .val (.int (f2_22_l6 i1 i2 g)), .val (.int ((g ((nat (i1 + (1 : Int32))))) &&& (255 : Int32))), .val (.int ((f2_183_s0 i1 i2 g) &&& (f2_227_s0 i1 i2 g))), .val (.int ((i1 + (2 : Int32)) + (1 : Int32)))] [(.int (128 : Int32)), (.int ((g ((nat ((i1 + (2 : Int32)) + (1 : Int32))))) &&& (192 : Int32))), (.int ((f2_183_s0 i1 i2 g) &&& (f2_227_s0 i1 i2 g)))])) _
            by_cases hc227 : ((g ((nat ((i1 + (2 : Int32)) + (1 : Int32))))) &&& (192 : Int32)) = (128 : Int32)
            · refine XS.icmpNo X0.here hx rfl (hb hby d2_227) rfl (teq hc227).2 ?_
              show Steps p.tables e below (s₁.setTop (mkF m 230 #[.val (.ref o0), .val (.int i1), .val (.int i2), .val (.int ((g ((nat i1))) &&& (255 : Int32))), .val (.int (f2_22_l4 i1 i2 g)), .val (.int (f2_22_l5 i1 i2 g)), .val (.int (f2_22_l6 i1 i2 g)), .val (.int ((g ((nat (i1 + (1 : Int32))))) &&& (255 : Int32))), .val (.int ((f2_183_s0 i1 i2 g) &&& (f2_227_s0 i1 i2 g))), .val (.int ((i1 + (2 : Int32)) + (1 : Int32)))] [(.int ((f2_183_s0 i1 i2 g) &&& (f2_227_s0 i1 i2 g)))])) _
              refine XS.iconst X0.here hx rfl (hb hby d2_230) ?_
              show Steps p.tables e below (s₁.setTop (mkF m 231 #[.val (.ref o0), .val (.int i1), .val (.int i2), .val (.int ((g ((nat i1))) &&& (255 : Int32))), .val (.int (f2_22_l4 i1 i2 g)), .val (.int (f2_22_l5 i1 i2 g)), .val (.int (f2_22_l6 i1 i2 g)), .val (.int ((g ((nat (i1 + (1 : Int32))))) &&& (255 : Int32))), .val (.int ((f2_183_s0 i1 i2 g) &&& (f2_227_s0 i1 i2 g))), .val (.int ((i1 + (2 : Int32)) + (1 : Int32)))] [(.int (1 : Int32)), (.int ((f2_183_s0 i1 i2 g) &&& (f2_227_s0 i1 i2 g)))])) _
              refine XS.goto X0.here hx rfl (pc0 := 231) (pc' := 235) rfl (hb hby d2_231) (by decide) (by decide) ?_
              show Steps p.tables e below (s₁.setTop (mkF m 235 #[.val (.ref o0), .val (.int i1), .val (.int i2), .val (.int ((g ((nat i1))) &&& (255 : Int32))), .val (.int (f2_22_l4 i1 i2 g)), .val (.int (f2_22_l5 i1 i2 g)), .val (.int (f2_22_l6 i1 i2 g)), .val (.int ((g ((nat (i1 + (1 : Int32))))) &&& (255 : Int32))), .val (.int ((f2_183_s0 i1 i2 g) &&& (f2_227_s0 i1 i2 g))), .val (.int ((i1 + (2 : Int32)) + (1 : Int32)))] [(.int (1 : Int32)), (.int ((f2_183_s0 i1 i2 g) &&& (f2_227_s0 i1 i2 g)))])) _
              rw [show (f2_227_s0a i1 i2 g) = (1 : Int32) from (if_pos hc227)] at k
              exact k
            · refine XS.icmpYes X0.here hx rfl (pc0 := 227) (pc' := 234) rfl (hb hby d2_227) rfl (feq hc227).2 (by decide) (by decide) ?_
              show Steps p.tables e below (s₁.setTop (mkF m 234 #[.val (.ref o0), .val (.int i1), .val (.int i2), .val (.int ((g ((nat i1))) &&& (255 : Int32))), .val (.int (f2_22_l4 i1 i2 g)), .val (.int (f2_22_l5 i1 i2 g)), .val (.int (f2_22_l6 i1 i2 g)), .val (.int ((g ((nat (i1 + (1 : Int32))))) &&& (255 : Int32))), .val (.int ((f2_183_s0 i1 i2 g) &&& (f2_227_s0 i1 i2 g))), .val (.int ((i1 + (2 : Int32)) + (1 : Int32)))] [(.int ((f2_183_s0 i1 i2 g) &&& (f2_227_s0 i1 i2 g)))])) _
              refine XS.iconst X0.here hx rfl (hb hby d2_234) ?_
              show Steps p.tables e below (s₁.setTop (mkF m 235 #[.val (.ref o0), .val (.int i1), .val (.int i2), .val (.int ((g ((nat i1))) &&& (255 : Int32))), .val (.int (f2_22_l4 i1 i2 g)), .val (.int (f2_22_l5 i1 i2 g)), .val (.int (f2_22_l6 i1 i2 g)), .val (.int ((g ((nat (i1 + (1 : Int32))))) &&& (255 : Int32))), .val (.int ((f2_183_s0 i1 i2 g) &&& (f2_227_s0 i1 i2 g))), .val (.int ((i1 + (2 : Int32)) + (1 : Int32)))] [(.int (0 : Int32)), (.int ((f2_183_s0 i1 i2 g) &&& (f2_227_s0 i1 i2 g)))])) _
              rw [show (f2_227_s0a i1 i2 g) = (0 : Int32) from (if_neg hc227)] at k
              exact k
          refine Outs.of (U' := s₁.setTop (mkF m 255 #[.val (.ref o0), .val (.int i1), .val (.int i2), .val (.int ((g ((nat i1))) &&& (255 : Int32))), .val (.int (f2_22_l4 i1 i2 g)), .val (.int (f2_22_l5 i1 i2 g)), .val (.int (f2_22_l6 i1 i2 g)), .val (.int ((g ((nat (i1 + (1 : Int32))))) &&& (255 : Int32))), .val (.int (f2_v236 i1 i2 g)), .val (.int (((i1 + (2 : Int32)) + (1 : Int32)) + (1 : Int32)))] [(.int (f2_246_s0 i1 i2 g))])) (fun t k => ?_) ?_
          · refine XS.iand X0.here hx rfl (hb hby d2_235) rfl ?_
            show Steps p.tables e below (s₁.setTop (mkF m 236 #[.val (.ref o0), .val (.int i1), .val (.int i2), .val (.int ((g ((nat i1))) &&& (255 : Int32))), .val (.int (f2_22_l4 i1 i2 g)), .val (.int (f2_22_l5 i1 i2 g)), .val (.int (f2_22_l6 i1 i2 g)), .val (.int ((g ((nat (i1 + (1 : Int32))))) &&& (255 : Int32))), .val (.int ((f2_183_s0 i1 i2 g) &&& (f2_227_s0 i1 i2 g))), .val (.int ((i1 + (2 : Int32)) + (1 : Int32)))] [(.int (((f2_183_s0 i1 i2 g) &&& (f2_227_s0 i1 i2 g)) &&& (f2_227_s0a i1 i2 g)))])) _
            refine XS.istore X0.here hx rfl (hb hby d2_236) rfl (l' := #[.val (.ref o0), .val (.int i1), .val (.int i2), .val (.int ((g ((nat i1))) &&& (255 : Int32))), .val (.int (f2_22_l4 i1 i2 g)), .val (.int (f2_22_l5 i1 i2 g)), .val (.int (f2_22_l6 i1 i2 g)), .val (.int ((g ((nat (i1 + (1 : Int32))))) &&& (255 : Int32))), .val (.int (f2_v236 i1 i2 g)), .val (.int ((i1 + (2 : Int32)) + (1 : Int32)))]) rfl ?_
            show Steps p.tables e below (s₁.setTop (mkF m 238 #[.val (.ref o0), .val (.int i1), .val (.int i2), .val (.int ((g ((nat i1))) &&& (255 : Int32))), .val (.int (f2_22_l4 i1 i2 g)), .val (.int (f2_22_l5 i1 i2 g)), .val (.int (f2_22_l6 i1 i2 g)), .val (.int ((g ((nat (i1 + (1 : Int32))))) &&& (255 : Int32))), .val (.int (f2_v236 i1 i2 g)), .val (.int ((i1 + (2 : Int32)) + (1 : Int32)))] [])) _
            refine XS.iinc X0.here hx rfl (hb hby d2_238) rfl (l' := #[.val (.ref o0), .val (.int i1), .val (.int i2), .val (.int ((g ((nat i1))) &&& (255 : Int32))), .val (.int (f2_22_l4 i1 i2 g)), .val (.int (f2_22_l5 i1 i2 g)), .val (.int (f2_22_l6 i1 i2 g)), .val (.int ((g ((nat (i1 + (1 : Int32))))) &&& (255 : Int32))), .val (.int (f2_v236 i1 i2 g)), .val (.int (((i1 + (2 : Int32)) + (1 : Int32)) + (1 : Int32)))]) rfl ?_
            show Steps p.tables e below (s₁.setTop (mkF m 241 #[.val (.ref o0), .val (.int i1), .val (.int i2), .val (.int ((g ((nat i1))) &&& (255 : Int32))), .val (.int (f2_22_l4 i1 i2 g)), .val (.int (f2_22_l5 i1 i2 g)), .val (.int (f2_22_l6 i1 i2 g)), .val (.int ((g ((nat (i1 + (1 : Int32))))) &&& (255 : Int32))), .val (.int (f2_v236 i1 i2 g)), .val (.int (((i1 + (2 : Int32)) + (1 : Int32)) + (1 : Int32)))] [])) _
            refine XS.goto X0.here hx rfl (pc0 := 241) (pc' := 205) rfl (hb hby d2_241) (by decide) (by decide) ?_
            show Steps p.tables e below (s₁.setTop (mkF m 205 #[.val (.ref o0), .val (.int i1), .val (.int i2), .val (.int ((g ((nat i1))) &&& (255 : Int32))), .val (.int (f2_22_l4 i1 i2 g)), .val (.int (f2_22_l5 i1 i2 g)), .val (.int (f2_22_l6 i1 i2 g)), .val (.int ((g ((nat (i1 + (1 : Int32))))) &&& (255 : Int32))), .val (.int (f2_v236 i1 i2 g)), .val (.int (((i1 + (2 : Int32)) + (1 : Int32)) + (1 : Int32)))] [])) _
            refine XS.iload X0.here hx rfl (hb hby d2_205) rfl ?_
            show Steps p.tables e below (s₁.setTop (mkF m 207 #[.val (.ref o0), .val (.int i1), .val (.int i2), .val (.int ((g ((nat i1))) &&& (255 : Int32))), .val (.int (f2_22_l4 i1 i2 g)), .val (.int (f2_22_l5 i1 i2 g)), .val (.int (f2_22_l6 i1 i2 g)), .val (.int ((g ((nat (i1 + (1 : Int32))))) &&& (255 : Int32))), .val (.int (f2_v236 i1 i2 g)), .val (.int (((i1 + (2 : Int32)) + (1 : Int32)) + (1 : Int32)))] [(.int (((i1 + (2 : Int32)) + (1 : Int32)) + (1 : Int32)))])) _
            refine XS.iloadN X0.here hx rfl (hb hby d2_207) rfl ?_
            show Steps p.tables e below (s₁.setTop (mkF m 208 #[.val (.ref o0), .val (.int i1), .val (.int i2), .val (.int ((g ((nat i1))) &&& (255 : Int32))), .val (.int (f2_22_l4 i1 i2 g)), .val (.int (f2_22_l5 i1 i2 g)), .val (.int (f2_22_l6 i1 i2 g)), .val (.int ((g ((nat (i1 + (1 : Int32))))) &&& (255 : Int32))), .val (.int (f2_v236 i1 i2 g)), .val (.int (((i1 + (2 : Int32)) + (1 : Int32)) + (1 : Int32)))] [(.int i1), (.int (((i1 + (2 : Int32)) + (1 : Int32)) + (1 : Int32)))])) _
            refine XS.iload X0.here hx rfl (hb hby d2_208) rfl ?_
            show Steps p.tables e below (s₁.setTop (mkF m 210 #[.val (.ref o0), .val (.int i1), .val (.int i2), .val (.int ((g ((nat i1))) &&& (255 : Int32))), .val (.int (f2_22_l4 i1 i2 g)), .val (.int (f2_22_l5 i1 i2 g)), .val (.int (f2_22_l6 i1 i2 g)), .val (.int ((g ((nat (i1 + (1 : Int32))))) &&& (255 : Int32))), .val (.int (f2_v236 i1 i2 g)), .val (.int (((i1 + (2 : Int32)) + (1 : Int32)) + (1 : Int32)))] [(.int (f2_22_l4 i1 i2 g)), (.int i1), (.int (((i1 + (2 : Int32)) + (1 : Int32)) + (1 : Int32)))])) _
            refine XS.iadd X0.here hx rfl (hb hby d2_210) rfl ?_
            show Steps p.tables e below (s₁.setTop (mkF m 211 #[.val (.ref o0), .val (.int i1), .val (.int i2), .val (.int ((g ((nat i1))) &&& (255 : Int32))), .val (.int (f2_22_l4 i1 i2 g)), .val (.int (f2_22_l5 i1 i2 g)), .val (.int (f2_22_l6 i1 i2 g)), .val (.int ((g ((nat (i1 + (1 : Int32))))) &&& (255 : Int32))), .val (.int (f2_v236 i1 i2 g)), .val (.int (((i1 + (2 : Int32)) + (1 : Int32)) + (1 : Int32)))] [(.int (i1 + (f2_22_l4 i1 i2 g))), (.int (((i1 + (2 : Int32)) + (1 : Int32)) + (1 : Int32)))])) _
            refine XS.icmpYes X0.here hx rfl (pc0 := 211) (pc' := 244) rfl (hb hby d2_211) rfl (flt (own_n5 i1 i2 g h1)).2.1 (by decide) (by decide) ?_
            show Steps p.tables e below (s₁.setTop (mkF m 244 #[.val (.ref o0), .val (.int i1), .val (.int i2), .val (.int ((g ((nat i1))) &&& (255 : Int32))), .val (.int (f2_22_l4 i1 i2 g)), .val (.int (f2_22_l5 i1 i2 g)), .val (.int (f2_22_l6 i1 i2 g)), .val (.int ((g ((nat (i1 + (1 : Int32))))) &&& (255 : Int32))), .val (.int (f2_v236 i1 i2 g)), .val (.int (((i1 + (2 : Int32)) + (1 : Int32)) + (1 : Int32)))] [])) _
            refine XS.iload X0.here hx rfl (hb hby d2_244) rfl ?_
            show Steps p.tables e below (s₁.setTop (mkF m 246 #[.val (.ref o0), .val (.int i1), .val (.int i2), .val (.int ((g ((nat i1))) &&& (255 : Int32))), .val (.int (f2_22_l4 i1 i2 g)), .val (.int (f2_22_l5 i1 i2 g)), .val (.int (f2_22_l6 i1 i2 g)), .val (.int ((g ((nat (i1 + (1 : Int32))))) &&& (255 : Int32))), .val (.int (f2_v236 i1 i2 g)), .val (.int (((i1 + (2 : Int32)) + (1 : Int32)) + (1 : Int32)))] [(.int (f2_v236 i1 i2 g))])) _
            by_cases hc246 : (f2_v236 i1 i2 g) = (0 : Int32)
            · refine XS.ifYes X0.here hx rfl (pc0 := 246) (pc' := 254) rfl (hb hby d2_246) rfl ((if0 _ _).trans (teq hc246).1) (by decide) (by decide) ?_
              show Steps p.tables e below (s₁.setTop (mkF m 254 #[.val (.ref o0), .val (.int i1), .val (.int i2), .val (.int ((g ((nat i1))) &&& (255 : Int32))), .val (.int (f2_22_l4 i1 i2 g)), .val (.int (f2_22_l5 i1 i2 g)), .val (.int (f2_22_l6 i1 i2 g)), .val (.int ((g ((nat (i1 + (1 : Int32))))) &&& (255 : Int32))), .val (.int (f2_v236 i1 i2 g)), .val (.int (((i1 + (2 : Int32)) + (1 : Int32)) + (1 : Int32)))] [])) _
              refine XS.iconst X0.here hx rfl (hb hby d2_254) ?_
              show Steps p.tables e below (s₁.setTop (mkF m 255 #[.val (.ref o0), .val (.int i1), .val (.int i2), .val (.int ((g ((nat i1))) &&& (255 : Int32))), .val (.int (f2_22_l4 i1 i2 g)), .val (.int (f2_22_l5 i1 i2 g)), .val (.int (f2_22_l6 i1 i2 g)), .val (.int ((g ((nat (i1 + (1 : Int32))))) &&& (255 : Int32))), .val (.int (f2_v236 i1 i2 g)), .val (.int (((i1 + (2 : Int32)) + (1 : Int32)) + (1 : Int32)))] [(.int (0 : Int32))])) _
              rw [show (f2_246_s0 i1 i2 g) = (0 : Int32) from (if_pos hc246)] at k
              exact k
            · refine XS.ifNo X0.here hx rfl (hb hby d2_246) rfl ((if0 _ _).trans (feq hc246).1) ?_
              show Steps p.tables e below (s₁.setTop (mkF m 249 #[.val (.ref o0), .val (.int i1), .val (.int i2), .val (.int ((g ((nat i1))) &&& (255 : Int32))), .val (.int (f2_22_l4 i1 i2 g)), .val (.int (f2_22_l5 i1 i2 g)), .val (.int (f2_22_l6 i1 i2 g)), .val (.int ((g ((nat (i1 + (1 : Int32))))) &&& (255 : Int32))), .val (.int (f2_v236 i1 i2 g)), .val (.int (((i1 + (2 : Int32)) + (1 : Int32)) + (1 : Int32)))] [])) _
              refine XS.iload X0.here hx rfl (hb hby d2_249) rfl ?_
              show Steps p.tables e below (s₁.setTop (mkF m 251 #[.val (.ref o0), .val (.int i1), .val (.int i2), .val (.int ((g ((nat i1))) &&& (255 : Int32))), .val (.int (f2_22_l4 i1 i2 g)), .val (.int (f2_22_l5 i1 i2 g)), .val (.int (f2_22_l6 i1 i2 g)), .val (.int ((g ((nat (i1 + (1 : Int32))))) &&& (255 : Int32))), .val (.int (f2_v236 i1 i2 g)), .val (.int (((i1 + (2 : Int32)) + (1 : Int32)) + (1 : Int32)))] [(.int (f2_22_l4 i1 i2 g))])) _
              refine XS.goto X0.here hx rfl (pc0 := 251) (pc' := 255) rfl (hb hby d2_251) (by decide) (by decide) ?_
              show Steps p.tables e below (s₁.setTop (mkF m 255 #[.val (.ref o0), .val (.int i1), .val (.int i2), .val (.int ((g ((nat i1))) &&& (255 : Int32))), .val (.int (f2_22_l4 i1 i2 g)), .val (.int (f2_22_l5 i1 i2 g)), .val (.int (f2_22_l6 i1 i2 g)), .val (.int ((g ((nat (i1 + (1 : Int32))))) &&& (255 : Int32))), .val (.int (f2_v236 i1 i2 g)), .val (.int (((i1 + (2 : Int32)) + (1 : Int32)) + (1 : Int32)))] [(.int (f2_22_l4 i1 i2 g))])) _
              rw [show (f2_246_s0 i1 i2 g) = (f2_22_l4 i1 i2 g) from (if_neg hc246)] at k
              exact k
          exact Outs.retI X0 hx hret (hb hby d2_255) hlk (by decide) (by decide) e0 ⟨congrArg (fun z_ => some (Value.int z_)) (show (F_f2 i1 i2 g) = (f2_246_s0 i1 i2 g) from ((if_neg hc155).trans ((if_neg hc163).trans ((if_pos hc211).trans (if_pos hc211_1))))).symm, N0, rfl⟩
        · refine Outs.of (U' := s₁.setTop (mkF m 244 #[.val (.ref o0), .val (.int i1), .val (.int i2), .val (.int ((g ((nat i1))) &&& (255 : Int32))), .val (.int (f2_22_l4 i1 i2 g)), .val (.int (f2_22_l5 i1 i2 g)), .val (.int (f2_22_l6 i1 i2 g)), .val (.int ((g ((nat (i1 + (1 : Int32))))) &&& (255 : Int32))), .val (.int ((f2_183_s0 i1 i2 g) &&& (f2_227_s0 i1 i2 g))), .val (.int ((i1 + (2 : Int32)) + (1 : Int32)))] [])) (fun t k => ?_) ?_
          · refine XS.icmpYes X0.here hx rfl (pc0 := 211) (pc' := 244) rfl (hb hby d2_211) rfl (flt hc211_1).2.1 (by decide) (by decide) ?_
            show Steps p.tables e below (s₁.setTop (mkF m 244 #[.val (.ref o0), .val (.int i1), .val (.int i2), .val (.int ((g ((nat i1))) &&& (255 : Int32))), .val (.int (f2_22_l4 i1 i2 g)), .val (.int (f2_22_l5 i1 i2 g)), .val (.int (f2_22_l6 i1 i2 g)), .val (.int ((g ((nat (i1 + (1 : Int32))))) &&& (255 : Int32))), .val (.int ((f2_183_s0 i1 i2 g) &&& (f2_227_s0 i1 i2 g))), .val (.int ((i1 + (2 : Int32)) + (1 : Int32)))] [])) _
            exact k
          refine Outs.of (U' := s₁.setTop (mkF m 255 #[.val (.ref o0), .val (.int i1), .val (.int i2), .val (.int ((g ((nat i1))) &&& (255 : Int32))), .val (.int (f2_22_l4 i1 i2 g)), .val (.int (f2_22_l5 i1 i2 g)), .val (.int (f2_22_l6 i1 i2 g)), .val (.int ((g ((nat (i1 + (1 : Int32))))) &&& (255 : Int32))), .val (.int ((f2_183_s0 i1 i2 g) &&& (f2_227_s0 i1 i2 g))), .val (.int ((i1 + (2 : Int32)) + (1 : Int32)))] [(.int (f2_246_s0a i1 i2 g))])) (fun t k => ?_) ?_
          · refine XS.iload X0.here hx rfl (hb hby d2_244) rfl ?_
            show Steps p.tables e below (s₁.setTop (mkF m 246 #[.val (.ref o0), .val (.int i1), .val (.int i2), .val (.int ((g ((nat i1))) &&& (255 : Int32))), .val (.int (f2_22_l4 i1 i2 g)), .val (.int (f2_22_l5 i1 i2 g)), .val (.int (f2_22_l6 i1 i2 g)), .val (.int ((g ((nat (i1 + (1 : Int32))))) &&& (255 : Int32))), .val (.int ((f2_183_s0 i1 i2 g) &&& (f2_227_s0 i1 i2 g))), .val (.int ((i1 + (2 : Int32)) + (1 : Int32)))] [(.int ((f2_183_s0 i1 i2 g) &&& (f2_227_s0 i1 i2 g)))])) _
            by_cases hc246 : ((f2_183_s0 i1 i2 g) &&& (f2_227_s0 i1 i2 g)) = (0 : Int32)
            · refine XS.ifYes X0.here hx rfl (pc0 := 246) (pc' := 254) rfl (hb hby d2_246) rfl ((if0 _ _).trans (teq hc246).1) (by decide) (by decide) ?_
              show Steps p.tables e below (s₁.setTop (mkF m 254 #[.val (.ref o0), .val (.int i1), .val (.int i2), .val (.int ((g ((nat i1))) &&& (255 : Int32))), .val (.int (f2_22_l4 i1 i2 g)), .val (.int (f2_22_l5 i1 i2 g)), .val (.int (f2_22_l6 i1 i2 g)), .val (.int ((g ((nat (i1 + (1 : Int32))))) &&& (255 : Int32))), .val (.int ((f2_183_s0 i1 i2 g) &&& (f2_227_s0 i1 i2 g))), .val (.int ((i1 + (2 : Int32)) + (1 : Int32)))] [])) _
              refine XS.iconst X0.here hx rfl (hb hby d2_254) ?_
              show Steps p.tables e below (s₁.setTop (mkF m 255 #[.val (.ref o0), .val (.int i1), .val (.int i2), .val (.int ((g ((nat i1))) &&& (255 : Int32))), .val (.int (f2_22_l4 i1 i2 g)), .val (.int (f2_22_l5 i1 i2 g)), .val (.int (f2_22_l6 i1 i2 g)), .val (.int ((g ((nat (i1 + (1 : Int32))))) &&& (255 : Int32))), .val (.int ((f2_183_s0 i1 i2 g) &&& (f2_227_s0 i1 i2 g))), .val (.int ((i1 + (2 : Int32)) + (1 : Int32)))] [(.int (0 : Int32))])) _
              rw [show (f2_246_s0a i1 i2 g) = (0 : Int32) from (if_pos hc246)] at k
              exact k
            · refine XS.ifNo X0.here hx rfl (hb hby d2_246) rfl ((if0 _ _).trans (feq hc246).1) ?_
              show Steps p.tables e below (s₁.setTop (mkF m 249 #[.val (.ref o0), .val (.int i1), .val (.int i2), .val (.int ((g ((nat i1))) &&& (255 : Int32))), .val (.int (f2_22_l4 i1 i2 g)), .val (.int (f2_22_l5 i1 i2 g)), .val (.int (f2_22_l6 i1 i2 g)), .val (.int ((g ((nat (i1 + (1 : Int32))))) &&& (255 : Int32))), .val (.int ((f2_183_s0 i1 i2 g) &&& (f2_227_s0 i1 i2 g))), .val (.int ((i1 + (2 : Int32)) + (1 : Int32)))] [])) _
              refine XS.iload X0.here hx rfl (hb hby d2_249) rfl ?_
              show Steps p.tables e below (s₁.setTop (mkF m 251 #[.val (.ref o0), .val (.int i1), .val (.int i2), .val (.int ((g ((nat i1))) &&& (255 : Int32))), .val (.int (f2_22_l4 i1 i2 g)), .val (.int (f2_22_l5 i1 i2 g)), .val (.int (f2_22_l6 i1 i2 g)), .val (.int ((g ((nat (i1 + (1 : Int32))))) &&& (255 : Int32))), .val (.int ((f2_183_s0 i1 i2 g) &&& (f2_227_s0 i1 i2 g))), .val (.int ((i1 + (2 : Int32)) + (1 : Int32)))] [(.int (f2_22_l4 i1 i2 g))])) _
              refine XS.goto X0.here hx rfl (pc0 := 251) (pc' := 255) rfl (hb hby d2_251) (by decide) (by decide) ?_
              show Steps p.tables e below (s₁.setTop (mkF m 255 #[.val (.ref o0), .val (.int i1), .val (.int i2), .val (.int ((g ((nat i1))) &&& (255 : Int32))), .val (.int (f2_22_l4 i1 i2 g)), .val (.int (f2_22_l5 i1 i2 g)), .val (.int (f2_22_l6 i1 i2 g)), .val (.int ((g ((nat (i1 + (1 : Int32))))) &&& (255 : Int32))), .val (.int ((f2_183_s0 i1 i2 g) &&& (f2_227_s0 i1 i2 g))), .val (.int ((i1 + (2 : Int32)) + (1 : Int32)))] [(.int (f2_22_l4 i1 i2 g))])) _
              rw [show (f2_246_s0a i1 i2 g) = (f2_22_l4 i1 i2 g) from (if_neg hc246)] at k
              exact k
          exact Outs.retI X0 hx hret (hb hby d2_255) hlk (by decide) (by decide) e0 ⟨congrArg (fun z_ => some (Value.int z_)) (show (F_f2 i1 i2 g) = (f2_246_s0a i1 i2 g) from ((if_neg hc155).trans ((if_neg hc163).trans ((if_pos hc211).trans (if_neg hc211_1))))).symm, N0, rfl⟩
      · refine Outs.of (U' := s₁.setTop (mkF m 244 #[.val (.ref o0), .val (.int i1), .val (.int i2), .val (.int ((g ((nat i1))) &&& (255 : Int32))), .val (.int (f2_22_l4 i1 i2 g)), .val (.int (f2_22_l5 i1 i2 g)), .val (.int (f2_22_l6 i1 i2 g)), .val (.int ((g ((nat (i1 + (1 : Int32))))) &&& (255 : Int32))), .val (.int (f2_183_s0 i1 i2 g)), .val (.int (i1 + (2 : Int32)))] [])) (fun t k => ?_) ?_
        · refine XS.icmpYes X0.here hx rfl (pc0 := 211) (pc' := 244) rfl (hb hby d2_211) rfl (flt hc211).2.1 (by decide) (by decide) ?_
          show Steps p.tables e below (s₁.setTop (mkF m 244 #[.val (.ref o0), .val (.int i1), .val (.int i2), .val (.int ((g ((nat i1))) &&& (255 : Int32))), .val (.int (f2_22_l4 i1 i2 g)), .val (.int (f2_22_l5 i1 i2 g)), .val (.int (f2_22_l6 i1 i2 g)), .val (.int ((g ((nat (i1 + (1 : Int32))))) &&& (255 : Int32))), .val (.int (f2_183_s0 i1 i2 g)), .val (.int (i1 + (2 : Int32)))] [])) _
          exact k
        refine Outs.of (U' := s₁.setTop (mkF m 255 #[.val (.ref o0), .val (.int i1), .val (.int i2), .val (.int ((g ((nat i1))) &&& (255 : Int32))), .val (.int (f2_22_l4 i1 i2 g)), .val (.int (f2_22_l5 i1 i2 g)), .val (.int (f2_22_l6 i1 i2 g)), .val (.int ((g ((nat (i1 + (1 : Int32))))) &&& (255 : Int32))), .val (.int (f2_183_s0 i1 i2 g)), .val (.int (i1 + (2 : Int32)))] [(.int (f2_246_s0b i1 i2 g))])) (fun t k => ?_) ?_
        · refine XS.iload X0.here hx rfl (hb hby d2_244) rfl ?_
          show Steps p.tables e below (s₁.setTop (mkF m 246 #[.val (.ref o0), .val (.int i1), .val (.int i2), .val (.int ((g ((nat i1))) &&& (255 : Int32))), .val (.int (f2_22_l4 i1 i2 g)), .val (.int (f2_22_l5 i1 i2 g)), .val (.int (f2_22_l6 i1 i2 g)), .val (.int ((g ((nat (i1 + (1 : Int32))))) &&& (255 : Int32))), .val (.int (f2_183_s0 i1 i2 g)), .val (.int (i1 + (2 : Int32)))] [(.int (f2_183_s0 i1 i2 g))])) _
          by_cases hc246 : (f2_183_s0 i1 i2 g) = (0 : Int32)
          · refine XS.ifYes X0.here hx rfl (pc0 := 246) (pc' := 254) rfl (hb hby d2_246) rfl ((if0 _ _).trans (teq hc246).1) (by decide) (by decide) ?_
            show Steps p.tables e below (s₁.setTop (mkF m 254 #[.val (.ref o0), .val (.int i1), .val (.int i2), .val (.int ((g ((nat i1))) &&& (255 : Int32))), .val (.int (f2_22_l4 i1 i2 g)), .val (.int (f2_22_l5 i1 i2 g)), .val (.int (f2_22_l6 i1 i2 g)), .val (.int ((g ((nat (i1 + (1 : Int32))))) &&& (255 : Int32))), .val (.int (f2_183_s0 i1 i2 g)), .val (.int (i1 + (2 : Int32)))] [])) _
            refine XS.iconst X0.here hx rfl (hb hby d2_254) ?_
            show Steps p.tables e below (s₁.setTop (mkF m 255 #[.val (.ref o0), .val (.int i1), .val (.int i2), .val (.int ((g ((nat i1))) &&& (255 : Int32))), .val (.int (f2_22_l4 i1 i2 g)), .val (.int (f2_22_l5 i1 i2 g)), .val (.int (f2_22_l6 i1 i2 g)), .val (.int ((g ((nat (i1 + (1 : Int32))))) &&& (255 : Int32))), .val (.int (f2_183_s0 i1 i2 g)), .val (.int (i1 + (2 : Int32)))] [(.int (0 : Int32))])) _
            rw [show (f2_246_s0b i1 i2 g) = (0 : Int32) from (if_pos hc246)] at k
            exact k
          · refine XS.ifNo X0.here hx rfl (hb hby d2_246) rfl ((if0 _ _).trans (feq hc246).1) ?_
            show Steps p.tables e below (s₁.setTop (mkF m 249 #[.val (.ref o0), .val (.int i1), .val (.int i2), .val (.int ((g ((nat i1))) &&& (255 : Int32))), .val (.int (f2_22_l4 i1 i2 g)), .val (.int (f2_22_l5 i1 i2 g)), .val (.int (f2_22_l6 i1 i2 g)), .val (.int ((g ((nat (i1 + (1 : Int32))))) &&& (255 : Int32))), .val (.int (f2_183_s0 i1 i2 g)), .val (.int (i1 + (2 : Int32)))] [])) _
            refine XS.iload X0.here hx rfl (hb hby d2_249) rfl ?_
            show Steps p.tables e below (s₁.setTop (mkF m 251 #[.val (.ref o0), .val (.int i1), .val (.int i2), .val (.int ((g ((nat i1))) &&& (255 : Int32))), .val (.int (f2_22_l4 i1 i2 g)), .val (.int (f2_22_l5 i1 i2 g)), .val (.int (f2_22_l6 i1 i2 g)), .val (.int ((g ((nat (i1 + (1 : Int32))))) &&& (255 : Int32))), .val (.int (f2_183_s0 i1 i2 g)), .val (.int (i1 + (2 : Int32)))] [(.int (f2_22_l4 i1 i2 g))])) _
            refine XS.goto X0.here hx rfl (pc0 := 251) (pc' := 255) rfl (hb hby d2_251) (by decide) (by decide) ?_
            show Steps p.tables e below (s₁.setTop (mkF m 255 #[.val (.ref o0), .val (.int i1), .val (.int i2), .val (.int ((g ((nat i1))) &&& (255 : Int32))), .val (.int (f2_22_l4 i1 i2 g)), .val (.int (f2_22_l5 i1 i2 g)), .val (.int (f2_22_l6 i1 i2 g)), .val (.int ((g ((nat (i1 + (1 : Int32))))) &&& (255 : Int32))), .val (.int (f2_183_s0 i1 i2 g)), .val (.int (i1 + (2 : Int32)))] [(.int (f2_22_l4 i1 i2 g))])) _
            rw [show (f2_246_s0b i1 i2 g) = (f2_22_l4 i1 i2 g) from (if_neg hc246)] at k
            exact k
        exact Outs.retI X0 hx hret (hb hby d2_255) hlk (by decide) (by decide) e0 ⟨congrArg (fun z_ => some (Value.int z_)) (show (F_f2 i1 i2 g) = (f2_246_s0b i1 i2 g) from ((if_neg hc155).trans ((if_neg hc163).trans (if_neg hc211)))).symm, N0, rfl⟩
def f0_g9 (i0 : Int32) (i1 : Int32) (i2 : Int32) : Nat → Int32 := (upv (fun _ => (0 : Int32)) 0 ((i0.toInt8.toInt32).toInt8.toInt32))
def f0_g17 (i0 : Int32) (i1 : Int32) (i2 : Int32) : Nat → Int32 := (upv (f0_g9 i0 i1 i2) 1 (((i0 >>> ((8 : Int32) &&& 31)).toInt8.toInt32).toInt8.toInt32))
def f0_g25 (i0 : Int32) (i1 : Int32) (i2 : Int32) : Nat → Int32 := (upv (f0_g17 i0 i1 i2) 2 (((i0 >>> ((16 : Int32) &&& 31)).toInt8.toInt32).toInt8.toInt32))
def f0_g33 (i0 : Int32) (i1 : Int32) (i2 : Int32) : Nat → Int32 := (upv (f0_g25 i0 i1 i2) 3 (((i0 >>> ((24 : Int32) &&& 31)).toInt8.toInt32).toInt8.toInt32))
def f0_g38 (i0 : Int32) (i1 : Int32) (i2 : Int32) : Nat → Int32 := (upv (f0_g33 i0 i1 i2) 4 ((i1.toInt8.toInt32).toInt8.toInt32))
def f0_g46 (i0 : Int32) (i1 : Int32) (i2 : Int32) : Nat → Int32 := (upv (f0_g38 i0 i1 i2) 5 (((i1 >>> ((8 : Int32) &&& 31)).toInt8.toInt32).toInt8.toInt32))
def f0_v62 (i0 : Int32) (i1 : Int32) (i2 : Int32) : Int32 := (((i2.toUInt32 >>> ((3 : Int32) &&& 31).toUInt32).toInt32) % (7 : Int32))
def f0_v72 (i0 : Int32) (i1 : Int32) (i2 : Int32) : Int32 := (F_f1 ((i2 &&& (7 : Int32)) % (6 : Int32)) (f0_v62 i0 i1 i2) (f0_g46 i0 i1 i2))
def f0_v82 (i0 : Int32) (i1 : Int32) (i2 : Int32) : Int32 := (F_f2 ((i2 &&& (7 : Int32)) % (6 : Int32)) (f0_v62 i0 i1 i2) (f0_g46 i0 i1 i2))
def f0_88_s0 (i0 : Int32) (i1 : Int32) (i2 : Int32) : Int32 := (if (f0_v82 i0 i1 i2) = (f0_v72 i0 i1 i2) then (1 : Int32) else (0 : Int32))
theorem own_s (i2 : Int32) : 0 ≤ ((i2 &&& (7 : Int32)) % (6 : Int32)).toInt ∧ ((i2 &&& (7 : Int32)) % (6 : Int32)).toInt < 6 := by
  have a := c_mask i2 7 3 (by decide) (by decide)
  have m := (c_irem (i2 &&& 7) 6 6 (by decide)).1 (by omega)
  omega
theorem own_e' (i0 i1 i2 : Int32) : 0 ≤ (f0_v62 i0 i1 i2).toInt ∧ (f0_v62 i0 i1 i2).toInt ≤ 6 := by
  unfold f0_v62
  have a := c_iushr i2 3 3 (by decide) (by decide)
  have r := rng32 i2
  have m := (c_irem ((i2.toUInt32 >>> ((3 : Int32) &&& 31).toUInt32).toInt32) 7 7 (by decide)).1 (by omega)
  omega
theorem own_byte (x : Int32) : ∃ k : Fin 256, x &&& 255 = Int32.ofNat k.val ∧ (x &&& 255).toInt = k.val := by
  have a := c_mask x 255 8 (by decide) (by decide)
  have h : (x &&& 255).toInt.toNat < 256 := by omega
  have all : ∀ k : Fin 256, (Int32.ofNat k.val).toInt = k.val := by decide +kernel
  refine ⟨⟨(x &&& 255).toInt.toNat, h⟩, ?_, ?_⟩
  · apply Int32.toInt_inj.mp
    rw [all ⟨(x &&& 255).toInt.toNat, h⟩]
    show _ = ((x &&& 255).toInt.toNat : Int)
    omega
  · show _ = ((x &&& 255).toInt.toNat : Int)
    omega
theorem own_all_l5 : ∀ k : Fin 256, (if ((Int32.ofNat k.val) &&& (224 : Int32)) = (192 : Int32) then (2 : Int32) else (if ((Int32.ofNat k.val) &&& (240 : Int32)) = (224 : Int32) then (3 : Int32) else (if ((Int32.ofNat k.val) &&& (248 : Int32)) = (240 : Int32) then (4 : Int32) else (0 : Int32)))) = (if k.val < 192 then (0 : Int32) else if k.val < 224 then 2 else if k.val < 240 then 3 else if k.val < 248 then 4 else 0) := by decide +kernel
theorem own_all_cont : ∀ k : Fin 256, ((Int32.ofNat k.val) &&& (192 : Int32) = (128 : Int32)) ↔ (128 ≤ k.val ∧ k.val < 192) := by decide +kernel
theorem own_cont (x : Int32) : ((x &&& 255) &&& (192 : Int32) = (128 : Int32)) ↔ (128 ≤ (x &&& 255).toInt ∧ (x &&& 255).toInt < 192) := by
  obtain ⟨k, h1, h2⟩ := own_byte x
  rw [h2, h1, own_all_cont k]; omega
theorem own_cont' (x : Int32) : (x &&& (192 : Int32) = (128 : Int32)) ↔ (128 ≤ (x &&& 255).toInt ∧ (x &&& 255).toInt < 192) := by
  rw [← own_cont x, Int32.and_assoc]; rfl
theorem own_l5v (s e : Int32) (g : Nat → Int32) : f1_22_l5 s e g = (if (g (nat s) &&& 255).toInt < 192 then (0 : Int32) else if (g (nat s) &&& 255).toInt < 224 then 2 else if (g (nat s) &&& 255).toInt < 240 then 3 else if (g (nat s) &&& 255).toInt < 248 then 4 else 0) := by
  obtain ⟨k, h1, h2⟩ := own_byte (g (nat s))
  unfold f1_22_l5
  rw [h1, own_all_l5 k, ← h1, h2]
  simp only [show ((k.val : Int) < 192) = (k.val < 192) by simp; omega, show ((k.val : Int) < 224) = (k.val < 224) by simp; omega, show ((k.val : Int) < 240) = (k.val < 240) by simp; omega, show ((k.val : Int) < 248) = (k.val < 248) by simp; omega]
theorem own_l4v (s e : Int32) (g : Nat → Int32) : (f2_22_l4 s e g = (if (g (nat s) &&& 255).toInt < 194 then (0 : Int32) else if (g (nat s) &&& 255).toInt < 224 then 2 else if (g (nat s) &&& 255).toInt < 240 then 3 else if (g (nat s) &&& 255).toInt < 245 then 4 else 0)) ∧
    (194 ≤ (g (nat s) &&& 255).toInt → (g (nat s) &&& 255).toInt < 245 → (f2_22_l5 s e g).toInt = (if (g (nat s) &&& 255).toInt = 224 then 160 else if (g (nat s) &&& 255).toInt = 240 then 144 else 128) ∧ (f2_22_l6 s e g).toInt = (if (g (nat s) &&& 255).toInt = 237 then 159 else if (g (nat s) &&& 255).toInt = 244 then 143 else 191)) := by
  obtain ⟨k, h1, h2⟩ := own_byte (g (nat s))
  unfold f2_22_l4 f2_22_l5 f2_22_l6
  rw [h2, h1]
  clear h1 h2
  revert k
  decide +kernel
theorem own_cp2 (s e : Int32) (g : Nat → Int32) : (f1_v203 s e g).toInt = (g (nat s) &&& 255).toInt % 32 * 64 + (g (nat (s + 1)) &&& 255).toInt % 64 := by
  unfold f1_v203
  generalize g (nat s) &&& 255 = b0
  generalize g (nat (s + 1)) &&& 255 = b1
  have m0 := c_mask b0 31 5 (by decide) (by decide)
  have m1 := c_mask b1 63 6 (by decide) (by decide)
  have l0 := c_ishl (b0 &&& 31) 6 6 (by decide)
  have r0 := rng32 ((b0 &&& 31) <<< ((6 : Int32) &&& 31))
  have o := c_or ((b0 &&& 31) <<< ((6 : Int32) &&& 31)) (b1 &&& 63) 6 (by decide) 64 (by decide) (by omega) (by omega) (by omega)
  have r := rng32 (((b0 &&& 31) <<< ((6 : Int32) &&& 31)) ||| (b1 &&& 63))
  omega
theorem own_cp3 (s e : Int32) (g : Nat → Int32) : (f1_v242a s e g).toInt = (g (nat s) &&& 255).toInt % 16 * 4096 + (g (nat (s + 1)) &&& 255).toInt % 64 * 64 + (g (nat (s + 2)) &&& 255).toInt % 64 := by
  unfold f1_v242a
  generalize g (nat s) &&& 255 = b0
  generalize g (nat (s + 1)) &&& 255 = b1
  generalize g (nat (s + 2)) &&& 255 = b2
  have m0 := c_mask b0 15 4 (by decide) (by decide)
  have m1 := c_mask b1 63 6 (by decide) (by decide)
  have m2 := c_mask b2 63 6 (by decide) (by decide)
  have l0 := c_ishl (b0 &&& 15) 12 12 (by decide)
  have l1 := c_ishl (b1 &&& 63) 6 6 (by decide)
  have r0 := rng32 ((b0 &&& 15) <<< ((12 : Int32) &&& 31))
  have r1 := rng32 ((b1 &&& 63) <<< ((6 : Int32) &&& 31))
  have o := c_or ((b0 &&& 15) <<< ((12 : Int32) &&& 31)) ((b1 &&& 63) <<< ((6 : Int32) &&& 31)) 12 (by decide) 4096 (by decide) (by omega) (by omega) (by omega)
  have r := rng32 (((b0 &&& 15) <<< ((12 : Int32) &&& 31)) ||| ((b1 &&& 63) <<< ((6 : Int32) &&& 31)))
  have k : ((((b0 &&& 15) <<< ((12 : Int32) &&& 31)) ||| ((b1 &&& 63) <<< ((6 : Int32) &&& 31)))).toInt = b0.toInt % 16 * 4096 + b1.toInt % 64 * 64 := by omega
  clear o r r0 r1 l0 l1 m0 m1
  generalize (((b0 &&& 15) <<< ((12 : Int32) &&& 31)) ||| ((b1 &&& 63) <<< ((6 : Int32) &&& 31))) = y at *
  have o := c_or y (b2 &&& 63) 6 (by decide) 64 (by decide) (by omega) (by omega) (by omega)
  have r := rng32 (y ||| (b2 &&& 63))
  omega
theorem own_cp4 (s e : Int32) (g : Nat → Int32) : (f1_v284a s e g).toInt = (g (nat s) &&& 255).toInt % 8 * 262144 + (g (nat (s + 1)) &&& 255).toInt % 64 * 4096 + (g (nat (s + 2)) &&& 255).toInt % 64 * 64 + (g (nat (s + 3)) &&& 255).toInt % 64 := by
  unfold f1_v284a
  generalize g (nat s) &&& 255 = b0
  generalize g (nat (s + 1)) &&& 255 = b1
  generalize g (nat (s + 2)) &&& 255 = b2
  generalize g (nat (s + 3)) &&& 255 = b3
  have m0 := c_mask b0 7 3 (by decide) (by decide)
  have m1 := c_mask b1 63 6 (by decide) (by decide)
  have m2 := c_mask b2 63 6 (by decide) (by decide)
  have m3 := c_mask b3 63 6 (by decide) (by decide)
  have l0 := c_ishl (b0 &&& 7) 18 18 (by decide)
  have l1 := c_ishl (b1 &&& 63) 12 12 (by decide)
  have l2 := c_ishl (b2 &&& 63) 6 6 (by decide)
  have r0 := rng32 ((b0 &&& 7) <<< ((18 : Int32) &&& 31))
  have r1 := rng32 ((b1 &&& 63) <<< ((12 : Int32) &&& 31))
  have r2 := rng32 ((b2 &&& 63) <<< ((6 : Int32) &&& 31))
  have o := c_or ((b0 &&& 7) <<< ((18 : Int32) &&& 31)) ((b1 &&& 63) <<< ((12 : Int32) &&& 31)) 18 (by decide) 262144 (by decide) (by omega) (by omega) (by omega)
  have r := rng32 (((b0 &&& 7) <<< ((18 : Int32) &&& 31)) ||| ((b1 &&& 63) <<< ((12 : Int32) &&& 31)))
  have k : ((((b0 &&& 7) <<< ((18 : Int32) &&& 31)) ||| ((b1 &&& 63) <<< ((12 : Int32) &&& 31)))).toInt = b0.toInt % 8 * 262144 + b1.toInt % 64 * 4096 := by omega
  clear o r r0 r1 l0 l1 m0 m1
  generalize (((b0 &&& 7) <<< ((18 : Int32) &&& 31)) ||| ((b1 &&& 63) <<< ((12 : Int32) &&& 31))) = y at *
  have o := c_or y ((b2 &&& 63) <<< ((6 : Int32) &&& 31)) 12 (by decide) 4096 (by decide) (by omega) (by omega) (by omega)
  have r := rng32 (y ||| ((b2 &&& 63) <<< ((6 : Int32) &&& 31)))
  have k2 : (y ||| ((b2 &&& 63) <<< ((6 : Int32) &&& 31))).toInt = b0.toInt % 8 * 262144 + b1.toInt % 64 * 4096 + b2.toInt % 64 * 64 := by omega
  clear o r l2 r2 m2 k
  generalize (y ||| ((b2 &&& 63) <<< ((6 : Int32) &&& 31))) = w at *
  have o := c_or w (b3 &&& 63) 6 (by decide) 64 (by decide) (by omega) (by omega) (by omega)
  have r := rng32 (w ||| (b3 &&& 63))
  omega
theorem own_tail (c q mn n : Int32) (h0 : ¬ n = 0) : (if (if c = (0 : Int32) then (0 : Int32) else (if q < mn then (0 : Int32) else (if (1114111 : Int32) < q then (0 : Int32) else (if (if q < (55296 : Int32) then (0 : Int32) else (if (57343 : Int32) < q then (0 : Int32) else (1 : Int32))) = (0 : Int32) then (1 : Int32) else (0 : Int32))))) = (0 : Int32) then (0 : Int32) else n)
    = if (¬ c = 0 ∧ mn.toInt ≤ q.toInt ∧ q.toInt ≤ 1114111 ∧ ¬ (55296 ≤ q.toInt ∧ q.toInt ≤ 57343)) then n else 0 := by
  have e1 : (1114111 : Int32).toInt = 1114111 := by decide
  have e2 : (55296 : Int32).toInt = 55296 := by decide
  have e3 : (57343 : Int32).toInt = 57343 := by decide
  have z1 : ¬ (1 : Int32) = 0 := by decide
  by_cases a : c = 0
  · simp [a]
  · by_cases b : q < mn
    · have b' := b; rw [Int32.lt_iff_toInt_lt] at b'
      rw [if_neg a, if_pos b, if_pos rfl, if_neg (by omega)]
    · have b' := b; rw [Int32.lt_iff_toInt_lt] at b'
      by_cases d : (1114111 : Int32) < q
      · have d' := d; rw [Int32.lt_iff_toInt_lt] at d'
        rw [if_neg a, if_neg b, if_pos d, if_pos rfl, if_neg (by omega)]
      · have d' := d; rw [Int32.lt_iff_toInt_lt] at d'
        by_cases f : q < (55296 : Int32)
        · have f' := f; rw [Int32.lt_iff_toInt_lt] at f'
          rw [if_neg a, if_neg b, if_neg d, if_pos f, if_pos rfl, if_neg z1, if_pos ⟨a, by omega, by omega, by omega⟩]
        · have f' := f; rw [Int32.lt_iff_toInt_lt] at f'
          by_cases k : (57343 : Int32) < q
          · have k' := k; rw [Int32.lt_iff_toInt_lt] at k'
            rw [if_neg a, if_neg b, if_neg d, if_neg f, if_pos k, if_pos rfl, if_neg z1, if_pos ⟨a, by omega, by omega, by omega⟩]
          · have k' := k; rw [Int32.lt_iff_toInt_lt] at k'
            rw [if_neg a, if_neg b, if_neg d, if_neg f, if_neg k, if_neg z1, if_pos rfl, if_neg (by omega)]
theorem own_f1_2 (s e : Int32) (g : Nat → Int32) (l5 : f1_22_l5 s e g = 2) (q : ¬ (e - s) < 2) : F_f1 s e g = if ((128 ≤ (g (nat (s + 1)) &&& 255).toInt ∧ (g (nat (s + 1)) &&& 255).toInt < 192) ∧ 128 ≤ (f1_v203 s e g).toInt ∧ (f1_v203 s e g).toInt ≤ 1114111 ∧ ¬ (55296 ≤ (f1_v203 s e g).toInt ∧ (f1_v203 s e g).toInt ≤ 57343)) then 2 else 0 := by
  have a : F_f1 s e g = f1_344_s0 s e g := by
    unfold F_f1
    rw [l5, if_neg (by decide), if_neg q, if_pos (by decide)]
  have b : f1_186_l10 s e g = f1_v203 s e g := by unfold f1_186_l10; rw [l5, if_pos rfl]
  have c : f1_186_l11 s e g = 128 := by unfold f1_186_l11; rw [l5, if_pos rfl]
  rw [a]
  unfold f1_344_s0 f1_313_s0 f1_294_s0
  rw [b, c, l5, own_tail _ _ _ _ (by decide), show (128 : Int32).toInt = 128 by decide]
  have d : (¬ f1_149_s0 s e g = 0) ↔ (128 ≤ (g (nat (s + 1)) &&& 255).toInt ∧ (g (nat (s + 1)) &&& 255).toInt < 192) := by
    rw [← own_cont]; unfold f1_149_s0; split <;> simp_all
  simp only [d]
theorem own_f1_3 (s e : Int32) (g : Nat → Int32) (l5 : f1_22_l5 s e g = 3) (q : ¬ (e - s) < 3) : F_f1 s e g = if (((128 ≤ (g (nat (s + 1)) &&& 255).toInt ∧ (g (nat (s + 1)) &&& 255).toInt < 192) ∧ (128 ≤ (g (nat (s + 2)) &&& 255).toInt ∧ (g (nat (s + 2)) &&& 255).toInt < 192)) ∧ 2048 ≤ (f1_v242a s e g).toInt ∧ (f1_v242a s e g).toInt ≤ 1114111 ∧ ¬ (55296 ≤ (f1_v242a s e g).toInt ∧ (f1_v242a s e g).toInt ≤ 57343)) then 3 else 0 := by
  have a : F_f1 s e g = f1_344_s0b s e g := by
    unfold F_f1
    rw [l5, if_neg (by decide), if_neg q, if_neg (by decide), if_neg (by decide)]
  have b : f1_186_l10b s e g = f1_v242a s e g := by unfold f1_186_l10b; rw [l5, if_neg (by decide), if_pos rfl]
  have c : f1_186_l11 s e g = 2048 := by unfold f1_186_l11; rw [l5, if_neg (by decide), if_pos rfl]
  rw [a]
  unfold f1_344_s0b f1_313_s0b f1_294_s0b
  rw [b, c, l5, own_tail _ _ _ _ (by decide), show (2048 : Int32).toInt = 2048 by decide]
  have d : (¬ f1_149_s0b s e g = 0) ↔ ((128 ≤ (g (nat (s + 1)) &&& 255).toInt ∧ (g (nat (s + 1)) &&& 255).toInt < 192) ∧ (128 ≤ (g (nat (s + 2)) &&& 255).toInt ∧ (g (nat (s + 2)) &&& 255).toInt < 192)) := by
    rw [← own_cont, ← own_cont]; unfold f1_149_s0b; split <;> (try split) <;> simp_all
  simp only [d]
theorem own_f1_4 (s e : Int32) (g : Nat → Int32) (l5 : f1_22_l5 s e g = 4) (q : ¬ (e - s) < 4) : F_f1 s e g = if (((128 ≤ (g (nat (s + 1)) &&& 255).toInt ∧ (g (nat (s + 1)) &&& 255).toInt < 192) ∧ (128 ≤ (g (nat (s + 2)) &&& 255).toInt ∧ (g (nat (s + 2)) &&& 255).toInt < 192) ∧ (128 ≤ (g (nat (s + 3)) &&& 255).toInt ∧ (g (nat (s + 3)) &&& 255).toInt < 192)) ∧ 65536 ≤ (f1_v284a s e g).toInt ∧ (f1_v284a s e g).toInt ≤ 1114111 ∧ ¬ (55296 ≤ (f1_v284a s e g).toInt ∧ (f1_v284a s e g).toInt ≤ 57343)) then 4 else 0 := by
  have a : F_f1 s e g = f1_344_s0a s e g := by
    unfold F_f1
    rw [l5, if_neg (by decide), if_neg q, if_neg (by decide), if_pos rfl]
  have b : f1_186_l10a s e g = f1_v284a s e g := by unfold f1_186_l10a; rw [l5, if_neg (by decide), if_neg (by decide)]
  have c : f1_186_l11 s e g = 65536 := by unfold f1_186_l11; rw [l5, if_neg (by decide), if_neg (by decide)]
  rw [a]
  unfold f1_344_s0a f1_313_s0a f1_294_s0a
  rw [b, c, l5, own_tail _ _ _ _ (by decide), show (65536 : Int32).toInt = 65536 by decide]
  have d : (¬ f1_149_s0a s e g = 0) ↔ ((128 ≤ (g (nat (s + 1)) &&& 255).toInt ∧ (g (nat (s + 1)) &&& 255).toInt < 192) ∧ (128 ≤ (g (nat (s + 2)) &&& 255).toInt ∧ (g (nat (s + 2)) &&& 255).toInt < 192) ∧ (128 ≤ (g (nat (s + 3)) &&& 255).toInt ∧ (g (nat (s + 3)) &&& 255).toInt < 192)) := by
    rw [← own_cont, ← own_cont, ← own_cont]; unfold f1_149_s0a; split <;> (try split) <;> (try split) <;> simp_all
  simp only [d]
theorem own_183 (s e : Int32) (g : Nat → Int32) : f2_183_s0 s e g = if ((f2_22_l5 s e g).toInt ≤ (g (nat (s + 1)) &&& 255).toInt ∧ (g (nat (s + 1)) &&& 255).toInt ≤ (f2_22_l6 s e g).toInt) then 1 else 0 := by
  unfold f2_183_s0
  simp only [Int32.lt_iff_toInt_lt]
  split
  · rw [if_neg (by omega)]
  · split
    · rw [if_neg (by omega)]
    · rw [if_pos (by omega)]
theorem own_227 (s e : Int32) (g : Nat → Int32) : f2_227_s0 s e g = if (128 ≤ (g (nat (s + 2)) &&& 255).toInt ∧ (g (nat (s + 2)) &&& 255).toInt < 192) then 1 else 0 := by
  unfold f2_227_s0
  simp only [own_cont']
theorem own_227a (s e : Int32) (g : Nat → Int32) : f2_227_s0a s e g = if (128 ≤ (g (nat (s + 3)) &&& 255).toInt ∧ (g (nat (s + 3)) &&& 255).toInt < 192) then 1 else 0 := by
  unfold f2_227_s0a
  rw [own_23]
  simp only [own_cont']
theorem own_lt_add {s a b : Int32} (h1 : 0 ≤ s.toInt ∧ s.toInt < 6) (ha : 0 ≤ a.toInt ∧ a.toInt ≤ 4) (hb : 0 ≤ b.toInt ∧ b.toInt ≤ 4) : (s + a < s + b) ↔ a.toInt < b.toInt := by
  rw [Int32.lt_iff_toInt_lt, own_addn h1 ha, own_addn h1 hb]; omega
theorem own_utf (s e : Int32) (g : Nat → Int32) (h1 : 0 ≤ s.toInt ∧ s.toInt < 6) : F_f2 s e g = F_f1 s e g := by
  have L5 := own_l5v s e g
  obtain ⟨L4, LH⟩ := own_l4v s e g
  have c2 := own_cp2 s e g
  have c3 := own_cp3 s e g
  have c4 := own_cp4 s e g
  have r0 := c_mask (g (nat s)) 255 8 (by decide) (by decide)
  have r1 := c_mask (g (nat (s + 1))) 255 8 (by decide) (by decide)
  have r2 := c_mask (g (nat (s + 2))) 255 8 (by decide) (by decide)
  have r3 := c_mask (g (nat (s + 3))) 255 8 (by decide) (by decide)
  have a1 := own_183 s e g
  have a2 := own_227 s e g
  have a3 := own_227a s e g
  have F2 := own_f1_2 s e g
  have F3 := own_f1_3 s e g
  have F4 := own_f1_4 s e g
  generalize (g (nat s) &&& 255).toInt = B0 at *
  generalize (g (nat (s + 1)) &&& 255).toInt = B1 at *
  generalize (g (nat (s + 2)) &&& 255).toInt = B2 at *
  generalize (g (nat (s + 3)) &&& 255).toInt = B3 at *
  have z0 : ∀ h : f2_22_l4 s e g = 0, F_f2 s e g = 0 := fun h => by unfold F_f2; rw [if_pos h]
  have y0 : ∀ h : f1_22_l5 s e g = 0, F_f1 s e g = 0 := fun h => by unfold F_f1; rw [if_pos h]
  have ysh : ∀ h : (e - s) < f1_22_l5 s e g, F_f1 s e g = 0 := fun h => by
    unfold F_f1
    by_cases q : f1_22_l5 s e g = 0
    · rw [if_pos q]
    · rw [if_neg q, if_pos h]
  have n1 : (1 : Int32) &&& 1 = 1 := rfl
  by_cases p1 : B0 < 192
  · rw [if_pos p1] at L5
    rw [if_pos (by omega)] at L4
    rw [z0 L4, y0 L5]
  by_cases p2 : B0 < 194
  · rw [if_pos p2] at L4
    rw [if_neg p1, if_pos (by omega)] at L5
    rw [z0 L4]
    by_cases q : (e - s) < 2
    · rw [ysh (by rw [L5]; exact q)]
    · rw [F2 L5 q, if_neg (by omega)]
  by_cases p3 : B0 < 224
  · rw [if_neg p2, if_pos p3] at L4
    rw [if_neg p1, if_pos p3] at L5
    obtain ⟨LO, HI⟩ := LH (by omega) (by omega)
    rw [if_neg (by omega), if_neg (by omega)] at LO HI
    rw [LO, HI] at a1
    have G : ¬ (e - s) < 2 → F_f2 s e g = if f2_183_s0 s e g = 0 then 0 else 2 := fun q => by
      unfold F_f2 f2_246_s0b
      rw [L4, if_neg (by decide), if_neg q, if_neg (by rw [own_lt_add h1 (by decide) (by decide)]; decide)]
    by_cases q : (e - s) < 2
    · rw [ysh (by rw [L5]; exact q)]; unfold F_f2; rw [L4, if_neg (by decide), if_pos q]
    · rw [G q, F2 L5 q, a1]
      by_cases w : 128 ≤ B1 ∧ B1 ≤ 191
      · rw [if_pos w, if_neg (by decide), if_pos (by omega)]
      · rw [if_neg w, if_pos rfl, if_neg (by omega)]
  by_cases p4 : B0 < 240
  · rw [if_neg p2, if_neg p3, if_pos p4] at L4
    rw [if_neg p1, if_neg p3, if_pos p4] at L5
    obtain ⟨LO, HI⟩ := LH (by omega) (by omega)
    have G : ¬ (e - s) < 3 → F_f2 s e g = if f2_183_s0 s e g &&& f2_227_s0 s e g = 0 then 0 else 3 := fun q => by
      unfold F_f2 f2_246_s0a
      rw [L4, if_neg (by decide), if_neg q, if_pos (by rw [own_lt_add h1 (by decide) (by decide)]; decide), own_23, if_neg (by rw [own_lt_add h1 (by decide) (by decide)]; decide)]
    by_cases q : (e - s) < 3
    · rw [ysh (by rw [L5]; exact q)]; unfold F_f2; rw [L4, if_neg (by decide), if_pos q]
    · have LO' : (B0 = 224 ∧ (f2_22_l5 s e g).toInt = 160) ∨ (¬ B0 = 224 ∧ (f2_22_l5 s e g).toInt = 128) := by
        rw [LO]; split
        · exact Or.inl ⟨by assumption, rfl⟩
        · rw [if_neg (by omega)]; exact Or.inr ⟨by assumption, rfl⟩
      have HI' : (B0 = 237 ∧ (f2_22_l6 s e g).toInt = 159) ∨ (¬ B0 = 237 ∧ (f2_22_l6 s e g).toInt = 191) := by
        rw [HI]; split
        · exact Or.inl ⟨by assumption, rfl⟩
        · rw [if_neg (by omega)]; exact Or.inr ⟨by assumption, rfl⟩
      rw [G q, F3 L5 q, a1, a2]
      clear LO HI LH F2 F3 F4 a1 a2 a3 G z0 y0 ysh
      generalize (f2_22_l5 s e g).toInt = lo at *
      generalize (f2_22_l6 s e g).toInt = hi at *
      by_cases w : (128 ≤ B2 ∧ B2 < 192)
      · rw [if_pos w]
        by_cases w1 : lo ≤ B1 ∧ B1 ≤ hi
        · rw [if_pos w1, if_neg (by decide), if_pos (by omega)]
        · rw [if_neg w1, if_pos (by decide), if_neg (by omega)]
      · rw [if_neg w, if_pos (by split <;> decide), if_neg (by omega)]
  by_cases p5 : B0 < 245
  · rw [if_neg p2, if_neg p3, if_neg p4, if_pos p5] at L4
    rw [if_neg p1, if_neg p3, if_neg p4, if_pos (by omega)] at L5
    obtain ⟨LO, HI⟩ := LH (by omega) (by omega)
    have G : ¬ (e - s) < 4 → F_f2 s e g = if (f2_183_s0 s e g &&& f2_227_s0 s e g) &&& f2_227_s0a s e g = 0 then 0 else 4 := fun q => by
      unfold F_f2 f2_246_s0 f2_v236
      rw [L4, if_neg (by decide), if_neg q, if_pos (by rw [own_lt_add h1 (by decide) (by decide)]; decide), own_23, if_pos (by rw [own_lt_add h1 (by decide) (by decide)]; decide)]
    by_cases q : (e - s) < 4
    · rw [ysh (by rw [L5]; exact q)]; unfold F_f2; rw [L4, if_neg (by decide), if_pos q]
    · have LO' : (B0 = 240 ∧ (f2_22_l5 s e g).toInt = 144) ∨ (¬ B0 = 240 ∧ (f2_22_l5 s e g).toInt = 128) := by
        rw [LO, if_neg (by omega)]; split
        · exact Or.inl ⟨by assumption, rfl⟩
        · exact Or.inr ⟨by assumption, rfl⟩
      have HI' : (B0 = 244 ∧ (f2_22_l6 s e g).toInt = 143) ∨ (¬ B0 = 244 ∧ (f2_22_l6 s e g).toInt = 191) := by
        rw [HI, if_neg (by omega)]; split
        · exact Or.inl ⟨by assumption, rfl⟩
        · exact Or.inr ⟨by assumption, rfl⟩
      rw [G q, F4 L5 q, a1, a2, a3]
      clear LO HI LH F2 F3 F4 a1 a2 a3 G z0 y0 ysh
      generalize (f2_22_l5 s e g).toInt = lo at *
      generalize (f2_22_l6 s e g).toInt = hi at *
      by_cases w : (128 ≤ B2 ∧ B2 < 192)
      · by_cases v : (128 ≤ B3 ∧ B3 < 192)
        · rw [if_pos w, if_pos v]
          by_cases w1 : lo ≤ B1 ∧ B1 ≤ hi
          · rw [if_pos w1, if_neg (by decide), if_pos (by omega)]
          · rw [if_neg w1, if_pos (by decide), if_neg (by omega)]
        · rw [if_neg v, if_pos (by repeat' split
                                   all_goals decide), if_neg (by omega)]
      · rw [if_neg w, if_pos (by repeat' split
                                 all_goals decide), if_neg (by omega)]
  rw [if_neg p2, if_neg p3, if_neg p4, if_neg p5] at L4
  rw [z0 L4]
  by_cases p6 : B0 < 248
  · rw [if_neg p1, if_neg p3, if_neg p4, if_pos p6] at L5
    by_cases q : (e - s) < 4
    · rw [ysh (by rw [L5]; exact q)]
    · rw [F4 L5 q, if_neg (by omega)]
  · rw [if_neg p1, if_neg p3, if_neg p4, if_neg p6] at L5
    rw [y0 L5]
theorem law_true (i0 i1 i2 : Int32) : nar .boolean (f0_88_s0 i0 i1 i2) = 1 := by
  have h : f0_v82 i0 i1 i2 = f0_v72 i0 i1 i2 := own_utf _ _ _ (own_s i2)
  unfold f0_88_s0
  rw [if_pos h]; rfl
theorem ef_0 (m : MethodId) (x0 : Int32) (x1 : Int32) (x2 : Int32) : entryFrame m #[(.int x0), (.int x1), (.int x2)] maxLocals = mkF m 0 #[.val (.int x0), .val (.int x1), .val (.int x2), .unset, .unset, .unset, .unset, .unset] [] := by first | (simp [entryFrame, mkF, argsToLocals, Value.category, maxLocals]; done) | rfl
theorem pd_0 : parseMethodDescriptor "([BII)I" = some ⟨[(.array .byte), .int, .int], some .int⟩ := by decide +kernel
set_option maxRecDepth 65536 in
set_option maxHeartbeats 40000000 in
theorem rm0 (l : Launch) (Z : State) (a0 : Array Value) (hw : ∀ d ∈ tables_1, d.before a0 Z = true) (ws : List Jvm.Cond) (i0 : Int32) (i1 : Int32) (i2 : Int32)  (h0 : Heap) (n0 : Nat) (Z0 : n0 ≤ h0.size) :
    MetFree l x (head1 (Jvm.Cond.code x code maxLocals ret :: ws) room_1) (fun a U => a = #[(.int i0), (.int i1), (.int i2)] ∧ Z.Warmed39 U.vm ∧ U.heap = h0) (fun _ _ _ _ _ => True) (fun _ U o U' => ∃ v L, o = .returned v ∧ QL n0 v U'.heap L ∧ FrameEnd U o U' L room_1.cells room_1.slots) := by
  refine MetFree.of_bodySF (plainFor_of_name pn_0) hisR ?_
  intro p e s m args below meth c s₁ Bd hml0 hP hK
  obtain ⟨rfl, hZ, hh⟩ := hP
  have hx := Bd.exec
  have hby := Bd.bytes
  have hml : c.maxLocals = 8 := hml0
  have hown : s.vm.findClass "com/example/brief_locator/brieflocator/sections/TextOrPetUtf8LengthPinLaw" = some m.cls := findClass_of_methodNamed Bd.named
  have hnm := (name_of_methodNamed Bd.named Bd.method).1
  have hret := Bd.returns
  have hlk : meth.locks = false := BodyLoose.notSynchronized Bd
  have X0 : Stand p l e room_1 s m #[(.int i0), (.int i1), (.int i2)] below meth c s₁ [] 0 0 := Stand.of_body Bd
  have e0 : s₁.heap = h0 := by rw [← hh, Bd.state]; rfl
  have N0 := Fr.nil n0
  show Outs p e below s (QL n0) _ _ _
  refine Outs.of (U' := s₁.setTop (mkF m 0 #[.val (.int i0), .val (.int i1), .val (.int i2), .unset, .unset, .unset, .unset, .unset] [])) (fun t k => castTop (ef_0 m i0 i1 i2) k) ?_
  refine Outs.of (U' := s₁.setTop (mkF m 2 #[.val (.int i0), .val (.int i1), .val (.int i2), .unset, .unset, .unset, .unset, .unset] [(.int (6 : Int32))])) (fun t k => ?_) ?_
  · refine XS.bipush X0.here hx rfl (hb hby at_0) ?_
    show Steps p.tables e below (s₁.setTop (mkF m 2 #[.val (.int i0), .val (.int i1), .val (.int i2), .unset, .unset, .unset, .unset, .unset] [(.int (6 : Int32))])) _
    exact k
  obtain ⟨T1, h1, X1, e1, E1, A1, st1⟩ := newAF X0 hx hZ (aty := .byte) (hw _ (List.mem_of_getElem? (i := 0) rfl)) e0 (f := (mkF m 2 #[.val (.int i0), .val (.int i1), .val (.int i2), .unset, .unset, .unset, .unset, .unset] [(.int (6 : Int32))])) rfl (hb hby at_2) rfl (k := 6) rfl (cap := 6) (by decide) (by decide) (by decide) (by decide)
  obtain ⟨b1, g1⟩ : ∃ z, z = h0.size := ⟨_, rfl⟩
  rw [← g1] at A1 st1
  have g_b1 : n0 ≤ b1 := Nat.le_trans Z0 (Nat.le_of_eq g1.symm)
  have V1 : AI Z h1 b1 .byte 6 (fun _ => (0 : Int32)) := A1
  refine Outs.of st1 ?_
  show Outs p e below s _ _ _ (T1.setTop (mkF m 4 #[.val (.int i0), .val (.int i1), .val (.int i2), .unset, .unset, .unset, .unset, .unset] [(.ref b1)]))
  refine Outs.of (U' := T1.setTop (mkF m 9 #[.val (.int i0), .val (.int i1), .val (.int i2), .val (.ref b1), .unset, .unset, .unset, .unset] [(.int (i0.toInt8.toInt32)), (.int (0 : Int32)), (.ref b1)])) (fun t k => ?_) ?_
  · refine XS.astoreN X1.here hx rfl (hb hby at_4) rfl rfl (l' := #[.val (.int i0), .val (.int i1), .val (.int i2), .val (.ref b1), .unset, .unset, .unset, .unset]) rfl ?_
    show Steps p.tables e below (T1.setTop (mkF m 5 #[.val (.int i0), .val (.int i1), .val (.int i2), .val (.ref b1), .unset, .unset, .unset, .unset] [])) _
    refine XS.aloadN X1.here hx rfl (hb hby at_5) rfl rfl ?_
    show Steps p.tables e below (T1.setTop (mkF m 6 #[.val (.int i0), .val (.int i1), .val (.int i2), .val (.ref b1), .unset, .unset, .unset, .unset] [(.ref b1)])) _
    refine XS.iconst X1.here hx rfl (hb hby at_6) ?_
    show Steps p.tables e below (T1.setTop (mkF m 7 #[.val (.int i0), .val (.int i1), .val (.int i2), .val (.ref b1), .unset, .unset, .unset, .unset] [(.int (0 : Int32)), (.ref b1)])) _
    refine XS.iloadN X1.here hx rfl (hb hby at_7) rfl ?_
    show Steps p.tables e below (T1.setTop (mkF m 8 #[.val (.int i0), .val (.int i1), .val (.int i2), .val (.ref b1), .unset, .unset, .unset, .unset] [(.int i0), (.int (0 : Int32)), (.ref b1)])) _
    refine XS.i2b X1.here hx rfl (hb hby at_8) rfl ?_
    show Steps p.tables e below (T1.setTop (mkF m 9 #[.val (.int i0), .val (.int i1), .val (.int i2), .val (.ref b1), .unset, .unset, .unset, .unset] [(.int (i0.toInt8.toInt32)), (.int (0 : Int32)), (.ref b1)])) _
    exact k
  obtain ⟨T2, h2, X2, e2, W2, V2, st2⟩ := puB X1 hx hZ e1 V1 (j := (0 : Int32)) (x := (i0.toInt8.toInt32)) (k := 0) rfl (by decide) (f := (mkF m 9 #[.val (.int i0), .val (.int i1), .val (.int i2), .val (.ref b1), .unset, .unset, .unset, .unset] [(.int (i0.toInt8.toInt32)), (.int (0 : Int32)), (.ref b1)])) rfl rfl (hb hby at_9)
  replace V2 : AI Z h2 b1 .byte 6 (f0_g9 i0 i1 i2) := V2
  have N2 := Fr.snoc X2 N0 g_b1
  obtain ⟨Lh2, X2, N2⟩ := hide X2 N2 (C := 1) (S := 6) (by decide) (by decide)
  refine Outs.of st2 ?_
  show Outs p e below s _ _ _ (T2.setTop (mkF m 10 #[.val (.int i0), .val (.int i1), .val (.int i2), .val (.ref b1), .unset, .unset, .unset, .unset] []))
  refine Outs.of (U' := T2.setTop (mkF m 17 #[.val (.int i0), .val (.int i1), .val (.int i2), .val (.ref b1), .unset, .unset, .unset, .unset] [(.int ((i0 >>> ((8 : Int32) &&& 31)).toInt8.toInt32)), (.int (1 : Int32)), (.ref b1)])) (fun t k => ?_) ?_
  · refine XS.aloadN X2.here hx rfl (hb hby at_10) rfl rfl ?_
    show Steps p.tables e below (T2.setTop (mkF m 11 #[.val (.int i0), .val (.int i1), .val (.int i2), .val (.ref b1), .unset, .unset, .unset, .unset] [(.ref b1)])) _
    refine XS.iconst X2.here hx rfl (hb hby at_11) ?_
    show Steps p.tables e below (T2.setTop (mkF m 12 #[.val (.int i0), .val (.int i1), .val (.int i2), .val (.ref b1), .unset, .unset, .unset, .unset] [(.int (1 : Int32)), (.ref b1)])) _
    refine XS.iloadN X2.here hx rfl (hb hby at_12) rfl ?_
    show Steps p.tables e below (T2.setTop (mkF m 13 #[.val (.int i0), .val (.int i1), .val (.int i2), .val (.ref b1), .unset, .unset, .unset, .unset] [(.int i0), (.int (1 : Int32)), (.ref b1)])) _
    refine XS.bipush X2.here hx rfl (hb hby at_13) ?_
    show Steps p.tables e below (T2.setTop (mkF m 15 #[.val (.int i0), .val (.int i1), .val (.int i2), .val (.ref b1), .unset, .unset, .unset, .unset] [(.int (8 : Int32)), (.int i0), (.int (1 : Int32)), (.ref b1)])) _
    refine XS.ishr X2.here hx rfl (hb hby at_15) rfl ?_
    show Steps p.tables e below (T2.setTop (mkF m 16 #[.val (.int i0), .val (.int i1), .val (.int i2), .val (.ref b1), .unset, .unset, .unset, .unset] [(.int (i0 >>> ((8 : Int32) &&& 31))), (.int (1 : Int32)), (.ref b1)])) _
    refine XS.i2b X2.here hx rfl (hb hby at_16) rfl ?_
    show Steps p.tables e below (T2.setTop (mkF m 17 #[.val (.int i0), .val (.int i1), .val (.int i2), .val (.ref b1), .unset, .unset, .unset, .unset] [(.int ((i0 >>> ((8 : Int32) &&& 31)).toInt8.toInt32)), (.int (1 : Int32)), (.ref b1)])) _
    exact k
  obtain ⟨T3, h3, X3, e3, W3, V3, st3⟩ := puB X2 hx hZ e2 V2 (j := (1 : Int32)) (x := ((i0 >>> ((8 : Int32) &&& 31)).toInt8.toInt32)) (k := 1) rfl (by decide) (f := (mkF m 17 #[.val (.int i0), .val (.int i1), .val (.int i2), .val (.ref b1), .unset, .unset, .unset, .unset] [(.int ((i0 >>> ((8 : Int32) &&& 31)).toInt8.toInt32)), (.int (1 : Int32)), (.ref b1)])) rfl rfl (hb hby at_17)
  replace V3 : AI Z h3 b1 .byte 6 (f0_g17 i0 i1 i2) := V3
  have N3 := Fr.snoc X3 N2 g_b1
  obtain ⟨Lh3, X3, N3⟩ := hide X3 N3 (C := 1) (S := 6) (by decide) (by decide)
  refine Outs.of st3 ?_
  show Outs p e below s _ _ _ (T3.setTop (mkF m 18 #[.val (.int i0), .val (.int i1), .val (.int i2), .val (.ref b1), .unset, .unset, .unset, .unset] []))
  refine Outs.of (U' := T3.setTop (mkF m 25 #[.val (.int i0), .val (.int i1), .val (.int i2), .val (.ref b1), .unset, .unset, .unset, .unset] [(.int ((i0 >>> ((16 : Int32) &&& 31)).toInt8.toInt32)), (.int (2 : Int32)), (.ref b1)])) (fun t k => ?_) ?_
  · refine XS.aloadN X3.here hx rfl (hb hby at_18) rfl rfl ?_
    show Steps p.tables e below (T3.setTop (mkF m 19 #[.val (.int i0), .val (.int i1), .val (.int i2), .val (.ref b1), .unset, .unset, .unset, .unset] [(.ref b1)])) _
    refine XS.iconst X3.here hx rfl (hb hby at_19) ?_
    show Steps p.tables e below (T3.setTop (mkF m 20 #[.val (.int i0), .val (.int i1), .val (.int i2), .val (.ref b1), .unset, .unset, .unset, .unset] [(.int (2 : Int32)), (.ref b1)])) _
    refine XS.iloadN X3.here hx rfl (hb hby at_20) rfl ?_
    show Steps p.tables e below (T3.setTop (mkF m 21 #[.val (.int i0), .val (.int i1), .val (.int i2), .val (.ref b1), .unset, .unset, .unset, .unset] [(.int i0), (.int (2 : Int32)), (.ref b1)])) _
    refine XS.bipush X3.here hx rfl (hb hby at_21) ?_
    show Steps p.tables e below (T3.setTop (mkF m 23 #[.val (.int i0), .val (.int i1), .val (.int i2), .val (.ref b1), .unset, .unset, .unset, .unset] [(.int (16 : Int32)), (.int i0), (.int (2 : Int32)), (.ref b1)])) _
    refine XS.ishr X3.here hx rfl (hb hby at_23) rfl ?_
    show Steps p.tables e below (T3.setTop (mkF m 24 #[.val (.int i0), .val (.int i1), .val (.int i2), .val (.ref b1), .unset, .unset, .unset, .unset] [(.int (i0 >>> ((16 : Int32) &&& 31))), (.int (2 : Int32)), (.ref b1)])) _
    refine XS.i2b X3.here hx rfl (hb hby at_24) rfl ?_
    show Steps p.tables e below (T3.setTop (mkF m 25 #[.val (.int i0), .val (.int i1), .val (.int i2), .val (.ref b1), .unset, .unset, .unset, .unset] [(.int ((i0 >>> ((16 : Int32) &&& 31)).toInt8.toInt32)), (.int (2 : Int32)), (.ref b1)])) _
    exact k
  obtain ⟨T4, h4, X4, e4, W4, V4, st4⟩ := puB X3 hx hZ e3 V3 (j := (2 : Int32)) (x := ((i0 >>> ((16 : Int32) &&& 31)).toInt8.toInt32)) (k := 2) rfl (by decide) (f := (mkF m 25 #[.val (.int i0), .val (.int i1), .val (.int i2), .val (.ref b1), .unset, .unset, .unset, .unset] [(.int ((i0 >>> ((16 : Int32) &&& 31)).toInt8.toInt32)), (.int (2 : Int32)), (.ref b1)])) rfl rfl (hb hby at_25)
  replace V4 : AI Z h4 b1 .byte 6 (f0_g25 i0 i1 i2) := V4
  have N4 := Fr.snoc X4 N3 g_b1
  obtain ⟨Lh4, X4, N4⟩ := hide X4 N4 (C := 1) (S := 6) (by decide) (by decide)
  refine Outs.of st4 ?_
  show Outs p e below s _ _ _ (T4.setTop (mkF m 26 #[.val (.int i0), .val (.int i1), .val (.int i2), .val (.ref b1), .unset, .unset, .unset, .unset] []))
  refine Outs.of (U' := T4.setTop (mkF m 33 #[.val (.int i0), .val (.int i1), .val (.int i2), .val (.ref b1), .unset, .unset, .unset, .unset] [(.int ((i0 >>> ((24 : Int32) &&& 31)).toInt8.toInt32)), (.int (3 : Int32)), (.ref b1)])) (fun t k => ?_) ?_
  · refine XS.aloadN X4.here hx rfl (hb hby at_26) rfl rfl ?_
    show Steps p.tables e below (T4.setTop (mkF m 27 #[.val (.int i0), .val (.int i1), .val (.int i2), .val (.ref b1), .unset, .unset, .unset, .unset] [(.ref b1)])) _
    refine XS.iconst X4.here hx rfl (hb hby at_27) ?_
    show Steps p.tables e below (T4.setTop (mkF m 28 #[.val (.int i0), .val (.int i1), .val (.int i2), .val (.ref b1), .unset, .unset, .unset, .unset] [(.int (3 : Int32)), (.ref b1)])) _
    refine XS.iloadN X4.here hx rfl (hb hby at_28) rfl ?_
    show Steps p.tables e below (T4.setTop (mkF m 29 #[.val (.int i0), .val (.int i1), .val (.int i2), .val (.ref b1), .unset, .unset, .unset, .unset] [(.int i0), (.int (3 : Int32)), (.ref b1)])) _
    refine XS.bipush X4.here hx rfl (hb hby at_29) ?_
    show Steps p.tables e below (T4.setTop (mkF m 31 #[.val (.int i0), .val (.int i1), .val (.int i2), .val (.ref b1), .unset, .unset, .unset, .unset] [(.int (24 : Int32)), (.int i0), (.int (3 : Int32)), (.ref b1)])) _
    refine XS.ishr X4.here hx rfl (hb hby at_31) rfl ?_
    show Steps p.tables e below (T4.setTop (mkF m 32 #[.val (.int i0), .val (.int i1), .val (.int i2), .val (.ref b1), .unset, .unset, .unset, .unset] [(.int (i0 >>> ((24 : Int32) &&& 31))), (.int (3 : Int32)), (.ref b1)])) _
    refine XS.i2b X4.here hx rfl (hb hby at_32) rfl ?_
    show Steps p.tables e below (T4.setTop (mkF m 33 #[.val (.int i0), .val (.int i1), .val (.int i2), .val (.ref b1), .unset, .unset, .unset, .unset] [(.int ((i0 >>> ((24 : Int32) &&& 31)).toInt8.toInt32)), (.int (3 : Int32)), (.ref b1)])) _
    exact k
  obtain ⟨T5, h5, X5, e5, W5, V5, st5⟩ := puB X4 hx hZ e4 V4 (j := (3 : Int32)) (x := ((i0 >>> ((24 : Int32) &&& 31)).toInt8.toInt32)) (k := 3) rfl (by decide) (f := (mkF m 33 #[.val (.int i0), .val (.int i1), .val (.int i2), .val (.ref b1), .unset, .unset, .unset, .unset] [(.int ((i0 >>> ((24 : Int32) &&& 31)).toInt8.toInt32)), (.int (3 : Int32)), (.ref b1)])) rfl rfl (hb hby at_33)
  replace V5 : AI Z h5 b1 .byte 6 (f0_g33 i0 i1 i2) := V5
  have N5 := Fr.snoc X5 N4 g_b1
  obtain ⟨Lh5, X5, N5⟩ := hide X5 N5 (C := 1) (S := 6) (by decide) (by decide)
  refine Outs.of st5 ?_
  show Outs p e below s _ _ _ (T5.setTop (mkF m 34 #[.val (.int i0), .val (.int i1), .val (.int i2), .val (.ref b1), .unset, .unset, .unset, .unset] []))
  refine Outs.of (U' := T5.setTop (mkF m 38 #[.val (.int i0), .val (.int i1), .val (.int i2), .val (.ref b1), .unset, .unset, .unset, .unset] [(.int (i1.toInt8.toInt32)), (.int (4 : Int32)), (.ref b1)])) (fun t k => ?_) ?_
  · refine XS.aloadN X5.here hx rfl (hb hby at_34) rfl rfl ?_
    show Steps p.tables e below (T5.setTop (mkF m 35 #[.val (.int i0), .val (.int i1), .val (.int i2), .val (.ref b1), .unset, .unset, .unset, .unset] [(.ref b1)])) _
    refine XS.iconst X5.here hx rfl (hb hby at_35) ?_
    show Steps p.tables e below (T5.setTop (mkF m 36 #[.val (.int i0), .val (.int i1), .val (.int i2), .val (.ref b1), .unset, .unset, .unset, .unset] [(.int (4 : Int32)), (.ref b1)])) _
    refine XS.iloadN X5.here hx rfl (hb hby at_36) rfl ?_
    show Steps p.tables e below (T5.setTop (mkF m 37 #[.val (.int i0), .val (.int i1), .val (.int i2), .val (.ref b1), .unset, .unset, .unset, .unset] [(.int i1), (.int (4 : Int32)), (.ref b1)])) _
    refine XS.i2b X5.here hx rfl (hb hby at_37) rfl ?_
    show Steps p.tables e below (T5.setTop (mkF m 38 #[.val (.int i0), .val (.int i1), .val (.int i2), .val (.ref b1), .unset, .unset, .unset, .unset] [(.int (i1.toInt8.toInt32)), (.int (4 : Int32)), (.ref b1)])) _
    exact k
  obtain ⟨T6, h6, X6, e6, W6, V6, st6⟩ := puB X5 hx hZ e5 V5 (j := (4 : Int32)) (x := (i1.toInt8.toInt32)) (k := 4) rfl (by decide) (f := (mkF m 38 #[.val (.int i0), .val (.int i1), .val (.int i2), .val (.ref b1), .unset, .unset, .unset, .unset] [(.int (i1.toInt8.toInt32)), (.int (4 : Int32)), (.ref b1)])) rfl rfl (hb hby at_38)
  replace V6 : AI Z h6 b1 .byte 6 (f0_g38 i0 i1 i2) := V6
  have N6 := Fr.snoc X6 N5 g_b1
  obtain ⟨Lh6, X6, N6⟩ := hide X6 N6 (C := 1) (S := 6) (by decide) (by decide)
  refine Outs.of st6 ?_
  show Outs p e below s _ _ _ (T6.setTop (mkF m 39 #[.val (.int i0), .val (.int i1), .val (.int i2), .val (.ref b1), .unset, .unset, .unset, .unset] []))
  refine Outs.of (U' := T6.setTop (mkF m 46 #[.val (.int i0), .val (.int i1), .val (.int i2), .val (.ref b1), .unset, .unset, .unset, .unset] [(.int ((i1 >>> ((8 : Int32) &&& 31)).toInt8.toInt32)), (.int (5 : Int32)), (.ref b1)])) (fun t k => ?_) ?_
  · refine XS.aloadN X6.here hx rfl (hb hby at_39) rfl rfl ?_
    show Steps p.tables e below (T6.setTop (mkF m 40 #[.val (.int i0), .val (.int i1), .val (.int i2), .val (.ref b1), .unset, .unset, .unset, .unset] [(.ref b1)])) _
    refine XS.iconst X6.here hx rfl (hb hby at_40) ?_
    show Steps p.tables e below (T6.setTop (mkF m 41 #[.val (.int i0), .val (.int i1), .val (.int i2), .val (.ref b1), .unset, .unset, .unset, .unset] [(.int (5 : Int32)), (.ref b1)])) _
    refine XS.iloadN X6.here hx rfl (hb hby at_41) rfl ?_
    show Steps p.tables e below (T6.setTop (mkF m 42 #[.val (.int i0), .val (.int i1), .val (.int i2), .val (.ref b1), .unset, .unset, .unset, .unset] [(.int i1), (.int (5 : Int32)), (.ref b1)])) _
    refine XS.bipush X6.here hx rfl (hb hby at_42) ?_
    show Steps p.tables e below (T6.setTop (mkF m 44 #[.val (.int i0), .val (.int i1), .val (.int i2), .val (.ref b1), .unset, .unset, .unset, .unset] [(.int (8 : Int32)), (.int i1), (.int (5 : Int32)), (.ref b1)])) _
    refine XS.ishr X6.here hx rfl (hb hby at_44) rfl ?_
    show Steps p.tables e below (T6.setTop (mkF m 45 #[.val (.int i0), .val (.int i1), .val (.int i2), .val (.ref b1), .unset, .unset, .unset, .unset] [(.int (i1 >>> ((8 : Int32) &&& 31))), (.int (5 : Int32)), (.ref b1)])) _
    refine XS.i2b X6.here hx rfl (hb hby at_45) rfl ?_
    show Steps p.tables e below (T6.setTop (mkF m 46 #[.val (.int i0), .val (.int i1), .val (.int i2), .val (.ref b1), .unset, .unset, .unset, .unset] [(.int ((i1 >>> ((8 : Int32) &&& 31)).toInt8.toInt32)), (.int (5 : Int32)), (.ref b1)])) _
    exact k
  obtain ⟨T7, h7, X7, e7, W7, V7, st7⟩ := puB X6 hx hZ e6 V6 (j := (5 : Int32)) (x := ((i1 >>> ((8 : Int32) &&& 31)).toInt8.toInt32)) (k := 5) rfl (by decide) (f := (mkF m 46 #[.val (.int i0), .val (.int i1), .val (.int i2), .val (.ref b1), .unset, .unset, .unset, .unset] [(.int ((i1 >>> ((8 : Int32) &&& 31)).toInt8.toInt32)), (.int (5 : Int32)), (.ref b1)])) rfl rfl (hb hby at_46)
  replace V7 : AI Z h7 b1 .byte 6 (f0_g46 i0 i1 i2) := V7
  have N7 := Fr.snoc X7 N6 g_b1
  obtain ⟨Lh7, X7, N7⟩ := hide X7 N7 (C := 1) (S := 6) (by decide) (by decide)
  refine Outs.of st7 ?_
  show Outs p e below s _ _ _ (T7.setTop (mkF m 47 #[.val (.int i0), .val (.int i1), .val (.int i2), .val (.ref b1), .unset, .unset, .unset, .unset] []))
  refine Outs.of (U' := T7.setTop (mkF m 69 #[.val (.int i0), .val (.int i1), .val (.int i2), .val (.ref b1), .val (.int ((i2 &&& (7 : Int32)) % (6 : Int32))), .val (.int (f0_v62 i0 i1 i2)), .unset, .unset] [(.int (f0_v62 i0 i1 i2)), (.int ((i2 &&& (7 : Int32)) % (6 : Int32))), (.ref b1)])) (fun t k => ?_) ?_
  · refine XS.iloadN X7.here hx rfl (hb hby at_47) rfl ?_
    show Steps p.tables e below (T7.setTop (mkF m 48 #[.val (.int i0), .val (.int i1), .val (.int i2), .val (.ref b1), .unset, .unset, .unset, .unset] [(.int i2)])) _
    refine XS.bipush X7.here hx rfl (hb hby at_48) ?_
    show Steps p.tables e below (T7.setTop (mkF m 50 #[.val (.int i0), .val (.int i1), .val (.int i2), .val (.ref b1), .unset, .unset, .unset, .unset] [(.int (7 : Int32)), (.int i2)])) _
    refine XS.iand X7.here hx rfl (hb hby at_50) rfl ?_
    show Steps p.tables e below (T7.setTop (mkF m 51 #[.val (.int i0), .val (.int i1), .val (.int i2), .val (.ref b1), .unset, .unset, .unset, .unset] [(.int (i2 &&& (7 : Int32)))])) _
    refine XS.bipush X7.here hx rfl (hb hby at_51) ?_
    show Steps p.tables e below (T7.setTop (mkF m 53 #[.val (.int i0), .val (.int i1), .val (.int i2), .val (.ref b1), .unset, .unset, .unset, .unset] [(.int (6 : Int32)), (.int (i2 &&& (7 : Int32)))])) _
    refine iremM X7 hx rfl (hb hby at_53) rfl (by decide) ?_
    show Steps p.tables e below (T7.setTop (mkF m 54 #[.val (.int i0), .val (.int i1), .val (.int i2), .val (.ref b1), .unset, .unset, .unset, .unset] [(.int ((i2 &&& (7 : Int32)) % (6 : Int32)))])) _
    refine XS.istore X7.here hx rfl (hb hby at_54) rfl (l' := #[.val (.int i0), .val (.int i1), .val (.int i2), .val (.ref b1), .val (.int ((i2 &&& (7 : Int32)) % (6 : Int32))), .unset, .unset, .unset]) rfl ?_
    show Steps p.tables e below (T7.setTop (mkF m 56 #[.val (.int i0), .val (.int i1), .val (.int i2), .val (.ref b1), .val (.int ((i2 &&& (7 : Int32)) % (6 : Int32))), .unset, .unset, .unset] [])) _
    refine XS.iloadN X7.here hx rfl (hb hby at_56) rfl ?_
    show Steps p.tables e below (T7.setTop (mkF m 57 #[.val (.int i0), .val (.int i1), .val (.int i2), .val (.ref b1), .val (.int ((i2 &&& (7 : Int32)) % (6 : Int32))), .unset, .unset, .unset] [(.int i2)])) _
    refine XS.iconst X7.here hx rfl (hb hby at_57) ?_
    show Steps p.tables e below (T7.setTop (mkF m 58 #[.val (.int i0), .val (.int i1), .val (.int i2), .val (.ref b1), .val (.int ((i2 &&& (7 : Int32)) % (6 : Int32))), .unset, .unset, .unset] [(.int (3 : Int32)), (.int i2)])) _
    refine XS.iushr X7.here hx rfl (hb hby at_58) rfl ?_
    show Steps p.tables e below (T7.setTop (mkF m 59 #[.val (.int i0), .val (.int i1), .val (.int i2), .val (.ref b1), .val (.int ((i2 &&& (7 : Int32)) % (6 : Int32))), .unset, .unset, .unset] [(.int ((i2.toUInt32 >>> ((3 : Int32) &&& 31).toUInt32).toInt32))])) _
    refine XS.bipush X7.here hx rfl (hb hby at_59) ?_
    show Steps p.tables e below (T7.setTop (mkF m 61 #[.val (.int i0), .val (.int i1), .val (.int i2), .val (.ref b1), .val (.int ((i2 &&& (7 : Int32)) % (6 : Int32))), .unset, .unset, .unset] [(.int (7 : Int32)), (.int ((i2.toUInt32 >>> ((3 : Int32) &&& 31).toUInt32).toInt32))])) _
    refine iremM X7 hx rfl (hb hby at_61) rfl (by decide) ?_
    show Steps p.tables e below (T7.setTop (mkF m 62 #[.val (.int i0), .val (.int i1), .val (.int i2), .val (.ref b1), .val (.int ((i2 &&& (7 : Int32)) % (6 : Int32))), .unset, .unset, .unset] [(.int (((i2.toUInt32 >>> ((3 : Int32) &&& 31).toUInt32).toInt32) % (7 : Int32)))])) _
    refine XS.istore X7.here hx rfl (hb hby at_62) rfl (l' := #[.val (.int i0), .val (.int i1), .val (.int i2), .val (.ref b1), .val (.int ((i2 &&& (7 : Int32)) % (6 : Int32))), .val (.int (f0_v62 i0 i1 i2)), .unset, .unset]) rfl ?_
    show Steps p.tables e below (T7.setTop (mkF m 64 #[.val (.int i0), .val (.int i1), .val (.int i2), .val (.ref b1), .val (.int ((i2 &&& (7 : Int32)) % (6 : Int32))), .val (.int (f0_v62 i0 i1 i2)), .unset, .unset] [])) _
    refine XS.aloadN X7.here hx rfl (hb hby at_64) rfl rfl ?_
    show Steps p.tables e below (T7.setTop (mkF m 65 #[.val (.int i0), .val (.int i1), .val (.int i2), .val (.ref b1), .val (.int ((i2 &&& (7 : Int32)) % (6 : Int32))), .val (.int (f0_v62 i0 i1 i2)), .unset, .unset] [(.ref b1)])) _
    refine XS.iload X7.here hx rfl (hb hby at_65) rfl ?_
    show Steps p.tables e below (T7.setTop (mkF m 67 #[.val (.int i0), .val (.int i1), .val (.int i2), .val (.ref b1), .val (.int ((i2 &&& (7 : Int32)) % (6 : Int32))), .val (.int (f0_v62 i0 i1 i2)), .unset, .unset] [(.int ((i2 &&& (7 : Int32)) % (6 : Int32))), (.ref b1)])) _
    refine XS.iload X7.here hx rfl (hb hby at_67) rfl ?_
    show Steps p.tables e below (T7.setTop (mkF m 69 #[.val (.int i0), .val (.int i1), .val (.int i2), .val (.ref b1), .val (.int ((i2 &&& (7 : Int32)) % (6 : Int32))), .val (.int (f0_v62 i0 i1 i2)), .unset, .unset] [(.int (f0_v62 i0 i1 i2)), (.int ((i2 &&& (7 : Int32)) % (6 : Int32))), (.ref b1)])) _
    exact k
  obtain ⟨_, _, ⟨T8, L8, k8, n8⟩, -, X8, ⟨Lc8, hQ8, l8, y8, z8⟩, st8⟩ := Jvm.LawKit.callS X7 hx (y := (⟨"com/example/brief_locator/brieflocator/sections/TextOrPetUtf8LengthPinLaw", "reference", "([BII)I"⟩ : MethodName)) hown (mvT hZ (hw _ (List.mem_of_getElem? (i := 1) rfl))) (mvT hZ (hw _ (List.mem_of_getElem? (i := 2) rfl))) (mvT hZ (hw _ (List.mem_of_getElem? (i := 3) rfl))) (mvT hZ (hw _ (List.mem_of_getElem? (i := 4) rfl))) (by decide) (backOf (W := 0) (rm1 l Z a0 hw [] b1 ((i2 &&& (7 : Int32)) % (6 : Int32)) (f0_v62 i0 i1 i2) (f0_g46 i0 i1 i2) h7 n0 V7 (own_s i2) (own_e' i0 i1 i2)) hZ (hw _ (List.mem_of_getElem? (i := 4) rfl)) (hw _ (List.mem_of_getElem? (i := 3) rfl)) (by decide) (by decide)) (g := (mkF m 69 #[.val (.int i0), .val (.int i1), .val (.int i2), .val (.ref b1), .val (.int ((i2 &&& (7 : Int32)) % (6 : Int32))), .val (.int (f0_v62 i0 i1 i2)), .unset, .unset] [(.int (f0_v62 i0 i1 i2)), (.int ((i2 &&& (7 : Int32)) % (6 : Int32))), (.ref b1)])) rfl (by rw [hml]; rfl) (argsL := [(.ref b1), (.int ((i2 &&& (7 : Int32)) % (6 : Int32))), (.int (f0_v62 i0 i1 i2))]) (rest := []) (lenOf pd_0 rfl) rfl (by show 2 * 0 + _ ≤ _; exact Nat.le_of_eq rfl) (hb hby at_69) (fun _ _ => ⟨rfl, e7, (by decide : 1 + 0 ≤ _), (by decide : 6 + 0 ≤ _)⟩)
  dsimp only [Pt.U, Pt.locs, Pt.cells, Pt.slots] at X8 l8 y8 z8 st8 hQ8
  subst l8 y8 z8
  obtain ⟨rfl, N8q, e8⟩ := hQ8
  have N8 := Fr.app N7 N8q
  obtain ⟨Lh8, X8, N8⟩ := hide X8 N8 (C := 1) (S := 6) (by decide) (by decide)
  refine Outs.of st8 ?_
  show Outs p e below s _ _ _ (T8.setTop (mkF m 72 #[.val (.int i0), .val (.int i1), .val (.int i2), .val (.ref b1), .val (.int ((i2 &&& (7 : Int32)) % (6 : Int32))), .val (.int (f0_v62 i0 i1 i2)), .unset, .unset] [(.int (F_f1 ((i2 &&& (7 : Int32)) % (6 : Int32)) (f0_v62 i0 i1 i2) (f0_g46 i0 i1 i2)))]))
  refine Outs.of (U' := T8.setTop (mkF m 79 #[.val (.int i0), .val (.int i1), .val (.int i2), .val (.ref b1), .val (.int ((i2 &&& (7 : Int32)) % (6 : Int32))), .val (.int (f0_v62 i0 i1 i2)), .val (.int (f0_v72 i0 i1 i2)), .unset] [(.int (f0_v62 i0 i1 i2)), (.int ((i2 &&& (7 : Int32)) % (6 : Int32))), (.ref b1)])) (fun t k => ?_) ?_
  · refine XS.istore X8.here hx rfl (hb hby at_72) rfl (l' := #[.val (.int i0), .val (.int i1), .val (.int i2), .val (.ref b1), .val (.int ((i2 &&& (7 : Int32)) % (6 : Int32))), .val (.int (f0_v62 i0 i1 i2)), .val (.int (f0_v72 i0 i1 i2)), .unset]) rfl ?_
    show Steps p.tables e below (T8.setTop (mkF m 74 #[.val (.int i0), .val (.int i1), .val (.int i2), .val (.ref b1), .val (.int ((i2 &&& (7 : Int32)) % (6 : Int32))), .val (.int (f0_v62 i0 i1 i2)), .val (.int (f0_v72 i0 i1 i2)), .unset] [])) _
    refine XS.aloadN X8.here hx rfl (hb hby at_74) rfl rfl ?_
    show Steps p.tables e below (T8.setTop (mkF m 75 #[.val (.int i0), .val (.int i1), .val (.int i2), .val (.ref b1), .val (.int ((i2 &&& (7 : Int32)) % (6 : Int32))), .val (.int (f0_v62 i0 i1 i2)), .val (.int (f0_v72 i0 i1 i2)), .unset] [(.ref b1)])) _
    refine XS.iload X8.here hx rfl (hb hby at_75) rfl ?_
    show Steps p.tables e below (T8.setTop (mkF m 77 #[.val (.int i0), .val (.int i1), .val (.int i2), .val (.ref b1), .val (.int ((i2 &&& (7 : Int32)) % (6 : Int32))), .val (.int (f0_v62 i0 i1 i2)), .val (.int (f0_v72 i0 i1 i2)), .unset] [(.int ((i2 &&& (7 : Int32)) % (6 : Int32))), (.ref b1)])) _
    refine XS.iload X8.here hx rfl (hb hby at_77) rfl ?_
    show Steps p.tables e below (T8.setTop (mkF m 79 #[.val (.int i0), .val (.int i1), .val (.int i2), .val (.ref b1), .val (.int ((i2 &&& (7 : Int32)) % (6 : Int32))), .val (.int (f0_v62 i0 i1 i2)), .val (.int (f0_v72 i0 i1 i2)), .unset] [(.int (f0_v62 i0 i1 i2)), (.int ((i2 &&& (7 : Int32)) % (6 : Int32))), (.ref b1)])) _
    exact k
  obtain ⟨_, _, ⟨T9, L9, k9, n9⟩, -, X9, ⟨Lc9, hQ9, l9, y9, z9⟩, st9⟩ := Jvm.LawKit.callS X8 hx (y := (⟨"com/example/brief_locator/brieflocator/sections/TextOrPet", "utf8Length", "([BII)I"⟩ : MethodName)) hown (mvT hZ (hw _ (List.mem_of_getElem? (i := 5) rfl))) (mvT hZ (hw _ (List.mem_of_getElem? (i := 6) rfl))) (mvT hZ (hw _ (List.mem_of_getElem? (i := 7) rfl))) (mvT hZ (hw _ (List.mem_of_getElem? (i := 8) rfl))) (by decide) (backOf (W := 0) (rm2 l Z a0 hw [] b1 ((i2 &&& (7 : Int32)) % (6 : Int32)) (f0_v62 i0 i1 i2) (f0_g46 i0 i1 i2) h7 n0 V7 (own_s i2) (own_e' i0 i1 i2)) hZ (hw _ (List.mem_of_getElem? (i := 8) rfl)) (hw _ (List.mem_of_getElem? (i := 7) rfl)) (by decide) (by decide)) (g := (mkF m 79 #[.val (.int i0), .val (.int i1), .val (.int i2), .val (.ref b1), .val (.int ((i2 &&& (7 : Int32)) % (6 : Int32))), .val (.int (f0_v62 i0 i1 i2)), .val (.int (f0_v72 i0 i1 i2)), .unset] [(.int (f0_v62 i0 i1 i2)), (.int ((i2 &&& (7 : Int32)) % (6 : Int32))), (.ref b1)])) rfl (by rw [hml]; rfl) (argsL := [(.ref b1), (.int ((i2 &&& (7 : Int32)) % (6 : Int32))), (.int (f0_v62 i0 i1 i2))]) (rest := []) (lenOf pd_0 rfl) rfl (by show 2 * 0 + _ ≤ _; exact Nat.le_of_eq rfl) (hb hby at_79) (fun _ _ => ⟨rfl, e8, (by decide : 1 + 0 ≤ _), (by decide : 6 + 0 ≤ _)⟩)
  dsimp only [Pt.U, Pt.locs, Pt.cells, Pt.slots] at X9 l9 y9 z9 st9 hQ9
  subst l9 y9 z9
  obtain ⟨rfl, N9q, e9⟩ := hQ9
  have N9 := Fr.app N8 N9q
  obtain ⟨Lh9, X9, N9⟩ := hide X9 N9 (C := 1) (S := 6) (by decide) (by decide)
  refine Outs.of st9 ?_
  show Outs p e below s _ _ _ (T9.setTop (mkF m 82 #[.val (.int i0), .val (.int i1), .val (.int i2), .val (.ref b1), .val (.int ((i2 &&& (7 : Int32)) % (6 : Int32))), .val (.int (f0_v62 i0 i1 i2)), .val (.int (f0_v72 i0 i1 i2)), .unset] [(.int (F_f2 ((i2 &&& (7 : Int32)) % (6 : Int32)) (f0_v62 i0 i1 i2) (f0_g46 i0 i1 i2)))]))
  refine Outs.of (U' := T9.setTop (mkF m 96 #[.val (.int i0), .val (.int i1), .val (.int i2), .val (.ref b1), .val (.int ((i2 &&& (7 : Int32)) % (6 : Int32))), .val (.int (f0_v62 i0 i1 i2)), .val (.int (f0_v72 i0 i1 i2)), .val (.int (f0_v82 i0 i1 i2))] [(.int (f0_88_s0 i0 i1 i2))])) (fun t k => ?_) ?_
  · refine XS.istore X9.here hx rfl (hb hby at_82) rfl (l' := #[.val (.int i0), .val (.int i1), .val (.int i2), .val (.ref b1), .val (.int ((i2 &&& (7 : Int32)) % (6 : Int32))), .val (.int (f0_v62 i0 i1 i2)), .val (.int (f0_v72 i0 i1 i2)), .val (.int (f0_v82 i0 i1 i2))]) rfl ?_
    show Steps p.tables e below (T9.setTop (mkF m 84 #[.val (.int i0), .val (.int i1), .val (.int i2), .val (.ref b1), .val (.int ((i2 &&& (7 : Int32)) % (6 : Int32))), .val (.int (f0_v62 i0 i1 i2)), .val (.int (f0_v72 i0 i1 i2)), .val (.int (f0_v82 i0 i1 i2))] [])) _
    refine XS.iload X9.here hx rfl (hb hby at_84) rfl ?_
    show Steps p.tables e below (T9.setTop (mkF m 86 #[.val (.int i0), .val (.int i1), .val (.int i2), .val (.ref b1), .val (.int ((i2 &&& (7 : Int32)) % (6 : Int32))), .val (.int (f0_v62 i0 i1 i2)), .val (.int (f0_v72 i0 i1 i2)), .val (.int (f0_v82 i0 i1 i2))] [(.int (f0_v82 i0 i1 i2))])) _
    refine XS.iload X9.here hx rfl (hb hby at_86) rfl ?_
    show Steps p.tables e below (T9.setTop (mkF m 88 #[.val (.int i0), .val (.int i1), .val (.int i2), .val (.ref b1), .val (.int ((i2 &&& (7 : Int32)) % (6 : Int32))), .val (.int (f0_v62 i0 i1 i2)), .val (.int (f0_v72 i0 i1 i2)), .val (.int (f0_v82 i0 i1 i2))] [(.int (f0_v72 i0 i1 i2)), (.int (f0_v82 i0 i1 i2))])) _
    by_cases hc88 : (f0_v82 i0 i1 i2) = (f0_v72 i0 i1 i2)
    · refine XS.icmpNo X9.here hx rfl (hb hby at_88) rfl (teq hc88).2 ?_
      show Steps p.tables e below (T9.setTop (mkF m 91 #[.val (.int i0), .val (.int i1), .val (.int i2), .val (.ref b1), .val (.int ((i2 &&& (7 : Int32)) % (6 : Int32))), .val (.int (f0_v62 i0 i1 i2)), .val (.int (f0_v72 i0 i1 i2)), .val (.int (f0_v82 i0 i1 i2))] [])) _
      refine XS.iconst X9.here hx rfl (hb hby at_91) ?_
      show Steps p.tables e below (T9.setTop (mkF m 92 #[.val (.int i0), .val (.int i1), .val (.int i2), .val (.ref b1), .val (.int ((i2 &&& (7 : Int32)) % (6 : Int32))), .val (.int (f0_v62 i0 i1 i2)), .val (.int (f0_v72 i0 i1 i2)), .val (.int (f0_v82 i0 i1 i2))] [(.int (1 : Int32))])) _
      refine XS.goto X9.here hx rfl (pc0 := 92) (pc' := 96) rfl (hb hby at_92) (by decide) (by decide) ?_
      show Steps p.tables e below (T9.setTop (mkF m 96 #[.val (.int i0), .val (.int i1), .val (.int i2), .val (.ref b1), .val (.int ((i2 &&& (7 : Int32)) % (6 : Int32))), .val (.int (f0_v62 i0 i1 i2)), .val (.int (f0_v72 i0 i1 i2)), .val (.int (f0_v82 i0 i1 i2))] [(.int (1 : Int32))])) _
      rw [show (f0_88_s0 i0 i1 i2) = (1 : Int32) from (if_pos hc88)] at k
      exact k
    · refine XS.icmpYes X9.here hx rfl (pc0 := 88) (pc' := 95) rfl (hb hby at_88) rfl (feq hc88).2 (by decide) (by decide) ?_
      show Steps p.tables e below (T9.setTop (mkF m 95 #[.val (.int i0), .val (.int i1), .val (.int i2), .val (.ref b1), .val (.int ((i2 &&& (7 : Int32)) % (6 : Int32))), .val (.int (f0_v62 i0 i1 i2)), .val (.int (f0_v72 i0 i1 i2)), .val (.int (f0_v82 i0 i1 i2))] [])) _
      refine XS.iconst X9.here hx rfl (hb hby at_95) ?_
      show Steps p.tables e below (T9.setTop (mkF m 96 #[.val (.int i0), .val (.int i1), .val (.int i2), .val (.ref b1), .val (.int ((i2 &&& (7 : Int32)) % (6 : Int32))), .val (.int (f0_v62 i0 i1 i2)), .val (.int (f0_v72 i0 i1 i2)), .val (.int (f0_v82 i0 i1 i2))] [(.int (0 : Int32))])) _
      rw [show (f0_88_s0 i0 i1 i2) = (0 : Int32) from (if_neg hc88)] at k
      exact k
  exact Outs.retN (t := .boolean) (z := (f0_88_s0 i0 i1 i2)) X9 hx hret (by simp) (hb hby at_96) hlk (by decide) (by decide) e9 ⟨congrArg (fun z_ => some (Value.int z_)) (law_true i0 i1 i2), N9⟩
set_option maxRecDepth 65536 in
set_option maxHeartbeats 40000000 in
theorem comes_1 {Post : Tables → Env → Array Value → State → Outcome → State → Prop} (hpost : ∀ tb e args s v u, (limb_1_1.after args s (.returned v) u = true ∧ limb_1_2.after args s (.returned v) u = true ∧ True) → FrameEnd s (.returned v) u (Jvm.fieldLocs frame_1_writes args s ++ Jvm.arrayLocs frame_1_arrays args s ++ Jvm.staticLocs frame_1_statics s) 16 128 → Post tb e args s (.returned v) u) :
    ArmFor flags0 classFile x code maxLocals ret World_1 tables_1 room_1 Calls_1 rest_1 Pre_1 Post := by
  intro l hfl _ _ p e ha hc hk s m args below hf hA hF happ hP
  obtain ⟨hcalls, hrest, hpre⟩ := hP
  obtain ⟨-, -, -, hnamed, -, -, -, hat⟩ := (Spec.applies_iff hf).mp happ
  obtain ⟨hg, hn⟩ := and_e (Cond.before_iff.mp (show (Jvm.Cond.and given_1 narrow_1).before args s = true from hpre))
  obtain ⟨g1, g2⟩ := and_e hg
  obtain ⟨g3, g4⟩ := and_e g2
  obtain ⟨g5, g6⟩ := and_e g4
  obtain ⟨w0, w1, w2, rfl⟩ : ∃ w0 w1 w2 : Value, args = #[w0, w1, w2] := by
    have hs : args.size = 3 := by simpa [Cond.value, given_1] using g1
    obtain ⟨L⟩ := args
    match L, hs with
    | [w0, w1, w2], _ => exact ⟨w0, w1, w2, rfl⟩
  have hw := fun d (hd : d ∈ tables_1) => atoms_spec (ws := Jvm.Cond.code x code maxLocals ret :: tables_1) hat d (List.mem_cons_of_mem _ hd)
  obtain ⟨i0, ei0⟩ := is_v g3
  obtain rfl : w0 = (.int i0) := Option.some.inj ei0
  obtain ⟨i1, ei1⟩ := is_v g5
  obtain rfl : w1 = (.int i1) := Option.some.inj ei1
  obtain ⟨i2, ei2⟩ := is_v g6
  obtain rfl : w2 = (.int i2) := Option.some.inj ei2
  obtain ⟨n, o, h1, h2, h3, v, L, rfl, hQ0, hq⟩ := rm0 l s _ hw tables_1 i0 i1 i2 s.heap s.heap.size (Nat.le_refl _) p e ha hc hk s m _ below hf ((Spec.applies_iff_loose hf).mp happ).1 ⟨rfl, State.Warmed39.refl s, rfl⟩ trivial
  obtain ⟨rfl, N⟩ : v = some (.int 1) ∧ Fr s.heap.size L := hQ0
  refine ⟨n, _, h1, h2, h3, hpost _ _ _ _ _ _ ⟨Cond.after_iff.mpr rfl, Cond.after_iff.mpr (eq_i res_at (Term.int_eval (1)) rfl), trivial⟩ ⟨hq.1, hq.2.1, (hq.2.2.sift fun y hy => Or.inr (N y hy)).mono (by decide) (by decide)⟩⟩
theorem main_1_1 : Claimed_1_1 := comes_1 fun _ _ _ _ _ _ h hF => ⟨h.1, hF⟩
theorem main_1_2 : Claimed_1_2 := comes_1 fun _ _ _ _ _ _ h hF => ⟨h.2.1, hF⟩
end Jvm.Pilot.@@N@@
namespace Jvm.Pilot.@@N@@
open Jvm Jvm.ClassFile Sem Op Lib Jvm.Free Jvm.Stand Jvm.Pilot.@@N@@.Jvm.D
/-! MADE BY PROGRAM (witnessworld.py) out of the Statement's table words and the real class files: 9 classes; the members and pool entries that the words name. The judged class is class 1, her method 1. -/
namespace start1
open Jvm.ClassFile
def u (s : String) : CpInfo := .utf8 (stringToUtf16 s)
/-- a pool by its gaps: so many unusable entries, then the entry; so many at the end -/
def gap : Nat → List CpInfo → List CpInfo
  | 0, r => r
  | n + 1, r => .unusable :: gap n r
def poolList (es : List (Nat × CpInfo)) (last : Nat) : List CpInfo := es.foldr (fun e r => gap e.1 (e.2 :: r)) (gap last [])
def pool (es : List (Nat × CpInfo)) (last : Nat) : Array CpInfo := ⟨poolList es last⟩
def fileOf (pool : Array CpInfo) (this : Nat) (attrs : Array Attribute := #[]) (ms : Array MethodInfo := #[]) (fl : Nat := 33) (sup : Nat := 0) (ifs : Array Nat := #[]) (fds : Array FieldInfo := #[]) : ClassFile where
  minorVersion := 0
  majorVersion := 65
  constantPool := pool
  accessFlags := fl
  thisClass := this
  superClass := sup
  interfaces := ifs
  fields := fds
  methods := ms
  attributes := attrs
def plain (name : String) (sup : Option ClassId) : Class where
  name := name
  kind := .ordinary
  loader := none
  accessFlags := 33
  super := sup
  interfaces := #[]
  cf := none
  fields := #[]
  methods := #[]
  instanceTypes := #[]
  staticTypes := #[]
  resolved := #[]
  callSites := []
  init := .initialized
  statics := none
  mirror := none

def pool0 : Array CpInfo := pool [(5, u "<init>"), (0, u "()V"), (1, .class_ 10), (1, u "java/lang/Object")] 113

def k0m0 : Method := { name := "<init>", desc := "()V", sig := { parameters := [], returnType := none }, accessFlags := 1, code := none }
/-- java/lang/Object -/
def k0 : Class := { plain "java/lang/Object" none with
  accessFlags := 33
  interfaces := #[]
  cf := some (fileOf pool0 8 #[] #[{ accessFlags := 1, nameIndex := 5, descriptorIndex := 6, attributes := #[] }] 33 0 #[] #[])
  fields := #[]
  methods := #[k0m0]
  instanceTypes := #[]
  staticTypes := #[]
  resolved := Array.replicate 124 none
  statics := none }

def pool1 : Array CpInfo := pool [(2, .class_ 4), (1, u "java/lang/Object"), (0, u "<init>"), (0, u "()V"), (0, .methodref 8 9), (0, .class_ 10), (0, .nameAndType 11 12), (0, u "com/example/brief_locator/brieflocator/sections/TextOrPetUtf8LengthPinLaw"), (0, u "reference"), (0, u "([BII)I"), (0, .methodref 14 15), (0, .class_ 16), (0, .nameAndType 17 12), (0, u "com/example/brief_locator/brieflocator/sections/TextOrPet"), (0, u "utf8Length"), (0, .integer 65536), (0, .integer 55296), (0, .integer 57343), (0, .integer 1114111), (2, u "law"), (0, u "(III)Z")] 5

def k1m0 : Method := { name := "<init>", desc := "()V", sig := { parameters := [], returnType := none }, accessFlags := 1, code := none }
def k1c1 : Code := { maxStack := 4, maxLocals := 8, code := code, exceptionTable := #[], attributes := #[] }
def k1m1 : Method := { name := "law", desc := "(III)Z", sig := { parameters := [.int, .int, .int], returnType := some .boolean }, accessFlags := 9, code := some k1c1 }
def k1c2 : Code := { maxStack := 3, maxLocals := 14, code := method_3_code, exceptionTable := #[], attributes := #[] }
def k1m2 : Method := { name := "reference", desc := "([BII)I", sig := { parameters := [(.array .byte), .int, .int], returnType := some .int }, accessFlags := 10, code := some k1c2 }
/-- com/example/brief_locator/brieflocator/sections/TextOrPetUtf8LengthPinLaw -/
def k1 : Class := { plain "com/example/brief_locator/brieflocator/sections/TextOrPetUtf8LengthPinLaw" (some 0) with
  accessFlags := 49
  interfaces := #[]
  cf := some (fileOf pool1 8 #[] #[{ accessFlags := 1, nameIndex := 5, descriptorIndex := 6, attributes := #[] }, { accessFlags := 9, nameIndex := 24, descriptorIndex := 25, attributes := #[] }, { accessFlags := 10, nameIndex := 11, descriptorIndex := 12, attributes := #[] }] 49 2 #[] #[])
  fields := #[]
  methods := #[k1m0, k1m1, k1m2]
  instanceTypes := #[]
  staticTypes := #[]
  resolved := Array.replicate 31 none
  statics := none }

def pool2 : Array CpInfo := pool [(2, .class_ 4), (1, u "java/lang/Object"), (3, .class_ 10), (1, u "com/example/brief_locator/brieflocator/sections/TextOrPet"), (0, u "text"), (0, u "Ljava/lang/String;"), (2, u "parts"), (0, u "Ljava/util/List;"), (39, .class_ 57), (0, u "com/example/brief_locator/brieflocator/sections/TextOrPet$Part"), (14, u "utf8Length"), (0, u "([BII)I"), (40, u "UNRESERVED")] 25

def k2c0 : Code := { maxStack := 3, maxLocals := 10, code := prog_24_method_11_code, exceptionTable := #[], attributes := #[] }
def k2m0 : Method := { name := "utf8Length", desc := "([BII)I", sig := { parameters := [(.array .byte), .int, .int], returnType := some .int }, accessFlags := 9, code := some k2c0 }
/-- com/example/brief_locator/brieflocator/sections/TextOrPet -/
def k2 : Class := { plain "com/example/brief_locator/brieflocator/sections/TextOrPet" (some 0) with
  accessFlags := 49
  interfaces := #[]
  cf := some (fileOf pool2 8 #[.nestMembers #[56]] #[{ accessFlags := 9, nameIndex := 72, descriptorIndex := 73, attributes := #[] }] 49 2 #[] #[{ accessFlags := 26, nameIndex := 114, descriptorIndex := 12, attributes := #[] }, { accessFlags := 18, nameIndex := 11, descriptorIndex := 12, attributes := #[] }, { accessFlags := 18, nameIndex := 15, descriptorIndex := 16, attributes := #[] }])
  fields := #[{ name := "UNRESERVED", type := (.object "java/lang/String"), accessFlags := 26, slot := 0, constantValue := 0 }, { name := "text", type := (.object "java/lang/String"), accessFlags := 18, slot := 0, constantValue := 0 }, { name := "parts", type := (.object "java/util/List"), accessFlags := 18, slot := 1, constantValue := 0 }]
  methods := #[k2m0]
  instanceTypes := #[(.object "java/lang/String"), (.object "java/util/List")]
  staticTypes := #[(.object "java/lang/String")]
  resolved := Array.replicate 140 none
  statics := none }

def pool3 : Array CpInfo := pool [(1, u "java/lang/Cloneable"), (0, .class_ 1), (0, u "java/lang/Object"), (0, .class_ 3)] 3

/-- java/lang/Cloneable -/
def k3 : Class := { plain "java/lang/Cloneable" (some 0) with
  accessFlags := 1537
  interfaces := #[]
  cf := some (fileOf pool3 2 #[] #[] 1537 4 #[] #[])
  fields := #[]
  methods := #[]
  instanceTypes := #[]
  staticTypes := #[]
  resolved := Array.replicate 8 none
  statics := none }

def pool4 : Array CpInfo := pool [(1, u "java/io/Serializable"), (0, .class_ 1), (0, u "java/lang/Object"), (0, .class_ 3)] 3

/-- java/io/Serializable -/
def k4 : Class := { plain "java/io/Serializable" (some 0) with
  accessFlags := 1537
  interfaces := #[]
  cf := some (fileOf pool4 2 #[] #[] 1537 4 #[] #[])
  fields := #[]
  methods := #[]
  instanceTypes := #[]
  staticTypes := #[]
  resolved := Array.replicate 8 none
  statics := none }

/-- the primitive byte -/
def k5 : Class := { plain "byte" none with kind := .primitive 'B', accessFlags := 0x411 }
/-- [B -/
def k6 : Class := { plain "[B" (some 0) with kind := .array 5 .byte, interfaces := #[3, 4], accessFlags := 1041 }

/-- the primitive int -/
def k7 : Class := { plain "int" none with kind := .primitive 'I', accessFlags := 0x411 }
/-- [I -/
def k8 : Class := { plain "[I" (some 0) with kind := .array 7 .int, interfaces := #[3, 4], accessFlags := 1041 }

def heap : Heap := #[]
def classes : Array Class := #[k0, k1, k2, k3, k4, k5, k6, k7, k8]
def interned : List (Array UInt16 × Addr) := []
def slotsUsed : Nat := 0
def theMethod : MethodId := ⟨1, 1⟩
def args0 : Array Value := #[.int 5, .int 7, .int 9]
def aboutOver (below : List Frame) : State where
  vm := { classes := classes, interned := interned.toArray }
  heap := heap
  slotsUsed := slotsUsed
  threads := #[{ frames := .invoking theMethod args0 :: below }]
def below0 : List Frame := [.native { method := ⟨0, 0⟩, args := #[] }]
def about1 : State := aboutOver below0
def p0 : Program := .bare "" "" ""
def e0 : Env := launch0.env 0 0 0
theorem w_frames : about1.frames = Frame.invoking theMethod args0 :: below0 := rfl
set_option maxRecDepth 65536 in
theorem w_args : argsFit about1.vm theMethod args0 = true := by decide +kernel
set_option maxRecDepth 65536 in
theorem w_heap : heapFits about1 = true := by decide +kernel
set_option maxRecDepth 65536 in
theorem w_runnable : about1.curStatus? = some .runnable := by decide +kernel
set_option maxRecDepth 65536 in
theorem w_alone : about1.alone = true := by decide +kernel
set_option maxRecDepth 65536 in
theorem w_named : about1.methodNamed? x = some theMethod := by decide +kernel
set_option maxRecDepth 65536 in
theorem w_hears : about1.hears theMethod below0 = true := by decide +kernel
set_option maxRecDepth 65536 in
theorem w_ripe : about1.ripe theMethod args0 below0 = true := by decide +kernel
theorem w_running : about1.status = .running := rfl
set_option maxRecDepth 65536 in
theorem w_room : about1.hasRoom e0.platform room_1 = true :=
  launch0.hasRoom_least _ room_1 (by decide +kernel) (by decide +kernel) (by decide +kernel) (by decide +kernel) (by decide +kernel) (by decide +kernel)
theorem allAtoms_all (ts : List Jvm.Cond) (a : Array Jvm.Value) (st : Jvm.State) : (allAtoms ts).before a st = ts.all (fun c => c.before a st) := by
  induction ts with
  | nil => rfl
  | cons c t ih =>
    show (Jvm.Cond.and c (allAtoms t)).before a st = _
    rw [Jvm.Cond.before_and, ih, List.all_cons]
def words1 : List Jvm.Cond := Jvm.Cond.code x code maxLocals ret :: tables_1
/-- a 'code' word, met by the world's own term for the bytes: nothing is compared byte by byte -/
theorem code_word {y : MethodName} {bytes : ByteArray} {mx : Nat} {rt : Option FieldType} {a : Array Value} {s : State} {m : MethodId} {meth : Method} {c : Code} (h1 : s.methodNamed? y = some m) (h2 : s.vm.method? m = some meth) (h3 : meth.code = some c) (h4 : c.code = bytes)
    (h5 : (c.maxLocals == mx && c.exceptionTable.isEmpty && decide (c.maxStack ≤ mostOperands) && decide (meth.sig.returnType = rt) && !meth.locks && decide (parseMethodDescriptor y.desc = some meth.sig)) = true) : (Jvm.Cond.code y bytes mx rt).before a s = true := by
  simp only [Bool.and_eq_true, beq_iff_eq, Bool.not_eq_true', decide_eq_true_eq] at h5
  obtain ⟨⟨⟨⟨⟨g1, g2⟩, g3⟩, g4⟩, g5⟩, g6⟩ := h5
  simp [Cond.before, Cond.holds, Cond.value, h1, h2, h3, h4, g1, g2, g3, g4, g5, g6]
def isCode : Jvm.Cond → Bool
  | .code _ _ _ _ => true
  | _ => false
theorem all_split {L : List Jvm.Cond} {P : Jvm.Cond → Bool} (h1 : L.all (fun c => isCode c || P c) = true) (h2 : ∀ c ∈ L.filter isCode, P c = true) : L.all P = true := by
  refine List.all_eq_true.mpr fun c hc => ?_
  have h := List.all_eq_true.mp h1 c hc
  rcases Bool.eq_false_or_eq_true (isCode c) with hi | hi
  · exact h2 c (List.mem_filter.mpr ⟨hc, hi⟩)
  · simpa [hi] using h
set_option maxRecDepth 65536 in
theorem w_c0 : (Jvm.Cond.code x code maxLocals ret).before args0 about1 = true := code_word (m := ⟨1, 1⟩) (meth := k1m1) (c := k1c1) (by decide +kernel) rfl rfl rfl (by decide +kernel)
set_option maxRecDepth 65536 in
theorem w_c1 : (Jvm.Cond.code ({ cls := "com/example/brief_locator/brieflocator/sections/TextOrPetUtf8LengthPinLaw", name := "reference", desc := "([BII)I" } : Jvm.MethodName) method_3_code (14 : Nat) (Option.some Jvm.ClassFile.FieldType.int)).before args0 about1 = true := code_word (m := ⟨1, 2⟩) (meth := k1m2) (c := k1c2) (by decide +kernel) rfl rfl rfl (by decide +kernel)
set_option maxRecDepth 65536 in
theorem w_c2 : (Jvm.Cond.code ({ cls := "com/example/brief_locator/brieflocator/sections/TextOrPet", name := "utf8Length", desc := "([BII)I" } : Jvm.MethodName) prog_24_method_11_code (10 : Nat) (Option.some Jvm.ClassFile.FieldType.int)).before args0 about1 = true := code_word (m := ⟨2, 0⟩) (meth := k2m0) (c := k2c0) (by decide +kernel) rfl rfl rfl (by decide +kernel)
def codes1 : List Jvm.Cond := [Jvm.Cond.code x code maxLocals ret, Jvm.Cond.code ({ cls := "com/example/brief_locator/brieflocator/sections/TextOrPetUtf8LengthPinLaw", name := "reference", desc := "([BII)I" } : Jvm.MethodName) method_3_code (14 : Nat) (Option.some Jvm.ClassFile.FieldType.int), Jvm.Cond.code ({ cls := "com/example/brief_locator/brieflocator/sections/TextOrPet", name := "utf8Length", desc := "([BII)I" } : Jvm.MethodName) prog_24_method_11_code (10 : Nat) (Option.some Jvm.ClassFile.FieldType.int)]
set_option maxRecDepth 65536 in
theorem codes_eq : words1.filter isCode = codes1 := rfl
theorem w_codes : ∀ c ∈ words1.filter isCode, c.before args0 about1 = true := by
  rw [codes_eq]
  intro c hc
  simp only [codes1, List.mem_cons, List.not_mem_nil, or_false] at hc
  rcases hc with rfl | rfl | rfl
  · exact w_c0
  · exact w_c1
  · exact w_c2
set_option maxRecDepth 65536 in
theorem w_t1 : words1.all (fun c => isCode c || c.before args0 about1) = true := by decide +kernel
theorem w_tables : (allAtoms (Jvm.Cond.code x code maxLocals ret :: tables_1)).before args0 about1 = true := by
  rw [allAtoms_all]
  show words1.all (fun c => c.before args0 about1) = true
  refine all_split ?_ w_codes
  rw [w_t1]
set_option maxRecDepth 65536 in
theorem w_case : (Jvm.Cond.and given_1 narrow_1).before args0 about1 = true := by decide +kernel
theorem w_applies : (headSpec (Jvm.Cond.code x code maxLocals ret :: tables_1) room_1).applies x e0.platform about1 = true :=
  (Spec.applies_iff w_frames).mpr ⟨w_running, w_runnable, w_alone, w_named, w_hears, w_ripe, w_room, w_tables⟩
theorem atStart : AtStart classFile x code maxLocals ret World_1 tables_1 room_1 Calls_1 rest_1 Pre_1 launch0 p0 e0 about1 theMethod args0 below0 :=
  ⟨lists_1, trivial, launch0.admits_env _ _ _, launch0.least_env, fairChoices_fair.cas, fairChoices_fair.clock, w_frames, w_args, w_heap, w_applies, trivial, trivial, w_case⟩
end start1
theorem witness_1 : WitnessClaimed_1 := ⟨start1.p0, start1.e0, start1.about1, start1.theMethod, start1.args0, start1.below0, start1.atStart⟩
end Jvm.Pilot.@@N@@
