import JvmDerived
import JvmDerived.Pilot.@@N@@Statement
import JvmDerived.Pilot.@@N@@Code
set_option linter.unusedVariables false
set_option linter.unusedSimpArgs false
namespace Jvm.RoadKit
open Sem ClassFile Op Lib Jvm.Stand Jvm.Free Jvm.LawKit
section Own
variable {p : Program} {l : Launch} {e : Env} {R : Room} {s : State} {m : MethodId} {args : Array Value} {below : List Frame} {meth : Method} {c : Code} {T : State} {locs : List Loc} {cells slots : Nat}
/-- from U the run ends, and Q holds of what it returns -/
def Outs (p : Program) (e : Env) (below : List Frame) (s : State) (Q : Option Value → Heap → List Loc → Prop) (C S : Nat) (U : State) : Prop :=
  ∃ s₂ o, Steps p.tables e below U s₂ ∧ s₂.status = .running ∧ Ended s₂ below o ∧ ∃ v L, o = .returned v ∧ Q v s₂.heap L ∧ FrameEnd s o s₂ L C S
variable {Q : Option Value → Heap → List Loc → Prop} {C S : Nat}
theorem Outs.of {U U' : State} (h : ∀ t, Steps p.tables e below U' t → Steps p.tables e below U t) (k : Outs p e below s Q C S U') : Outs p e below s Q C S U := by
  obtain ⟨t, o, st, r⟩ := k
  exact ⟨t, o, h t st, r⟩
theorem Outs.to {U U' : State} (h : Steps p.tables e below U U') (k : Outs p e below s Q C S U') : Outs p e below s Q C S U := by
  obtain ⟨t, o, st, r⟩ := k
  exact ⟨t, o, h.trans st, r⟩
theorem Outs.mono {U : State} {Q' : Option Value → Heap → List Loc → Prop} (k : Outs p e below s Q C S U) (h : ∀ v h L, Q v h L → Q' v h L) : Outs p e below s Q' C S U := by
  obtain ⟨t, o, st, h1, h2, v, L, h3, h4, h5⟩ := k
  exact ⟨t, o, st, h1, h2, v, L, h3, h _ _ _ h4, h5⟩
theorem Outs.ret (X : Stand p l e R s m args below meth c T locs cells slots) {g : JFrame} {v : Option Value} (hv : meth.sig.returnType = none → v = none) (hlk : meth.locks = false) (hC : cells ≤ C) (hS : slots ≤ S)
    (st : ∀ fs, (∀ (f : JFrame) (acts : List Action), f.method = m → f.locked = none → f.entered = [] → (doReturn e (T.setTop f) acts v).1 = T.setFrames fs) → Steps p.tables e below (T.setTop g) (T.setFrames fs))
    (q : Q v T.heap locs) : Outs p e below s Q C S (T.setTop g) := by
  obtain ⟨fs, hr, hrun, hended, hW, hsame⟩ := X.leave (v := v) hv hlk
  exact ⟨_, _, st fs hr, hrun, hended, v, locs, rfl, q, ⟨_, rfl⟩, hW, hsame.mono hC hS⟩
theorem Outs.retI (X : Stand p l e R s m args below meth c T locs cells slots) (hx : p.tables.exec = Jvm.exec) {pc : Nat} {Ls : Array Slot} {z : Int32} {rest : List Value} (hret : meth.sig.returnType = some .int) (hd : decode c.code pc = .ok (.ireturn, 1)) (hlk : meth.locks = false) (hC : cells ≤ C) (hS : slots ≤ S)
    (q : Q (some (.int z)) T.heap locs) : Outs p e below s Q C S (T.setTop (mkF m pc Ls (.int z :: rest))) :=
  Outs.ret X (fun h => by rw [hret] at h; cases h) hlk hC hS (fun fs hl => retOut X hx hret rfl (Or.inl ⟨rfl, Or.inl rfl, z, rfl⟩) hd hl) q
theorem Outs.retL (X : Stand p l e R s m args below meth c T locs cells slots) (hx : p.tables.exec = Jvm.exec) {pc : Nat} {Ls : Array Slot} {z : Int64} {rest : List Value} (hret : meth.sig.returnType = some .long) (hd : decode c.code pc = .ok (.lreturn, 1)) (hlk : meth.locks = false) (hC : cells ≤ C) (hS : slots ≤ S)
    (q : Q (some (.long z)) T.heap locs) : Outs p e below s Q C S (T.setTop (mkF m pc Ls (.long z :: rest))) :=
  Outs.ret X (fun h => by rw [hret] at h; cases h) hlk hC hS (fun fs hl => retOut X hx hret rfl (Or.inr (Or.inl ⟨rfl, rfl, z, rfl⟩)) hd hl) q
theorem Outs.retN (X : Stand p l e R s m args below meth c T locs cells slots) (hx : p.tables.exec = Jvm.exec) {pc : Nat} {Ls : Array Slot} {z : Int32} {t : FieldType} {rest : List Value} (hret : meth.sig.returnType = some t) (ht : t = .boolean ∨ t = .byte ∨ t = .char ∨ t = .short) (hd : decode c.code pc = .ok (.ireturn, 1)) (hlk : meth.locks = false) (hC : cells ≤ C) (hS : slots ≤ S)
    (q : Q (some (.int (nar t z))) T.heap locs) : Outs p e below s Q C S (T.setTop (mkF m pc Ls (.int z :: rest))) :=
  Outs.ret X (fun h => by rw [hret] at h; cases h) hlk hC hS (fun fs hl => Jvm.RoadKit.retN X hx hret ht hd hl) q
theorem Outs.retV (X : Stand p l e R s m args below meth c T locs cells slots) (hx : p.tables.exec = Jvm.exec) {pc : Nat} {Ls : Array Slot} (hret : meth.sig.returnType = none) (hd : decode c.code pc = .ok (.return_, 1)) (hlk : meth.locks = false) (hC : cells ≤ C) (hS : slots ≤ S)
    (q : Q none T.heap locs) : Outs p e below s Q C S (T.setTop (mkF m pc Ls [])) :=
  Outs.ret X (fun _ => rfl) hlk hC hS (fun fs hl => X.returnOut hx hret hd hl) q
theorem Outs.retA (X : Stand p l e R s m args below meth c T locs cells slots) (hx : p.tables.exec = Jvm.exec) {pc : Nat} {Ls : Array Slot} {w : Value} {t : FieldType} {rest : List Value} (hret : meth.sig.returnType = some t) (ht : t.isReference = true) (hw : w.isRef = true) (hn : narrow t w = w) (hd : decode c.code pc = .ok (.areturn, 1)) (hlk : meth.locks = false) (hC : cells ≤ C) (hS : slots ≤ S)
    (q : Q (some w) T.heap locs) : Outs p e below s Q C S (T.setTop (mkF m pc Ls (w :: rest))) :=
  Outs.ret X (fun h => by rw [hret] at h; cases h) hlk hC hS (fun fs hl => retOut X hx hret hn (Or.inr (Or.inr (Or.inr (Or.inr ⟨rfl, ht, hw⟩)))) hd hl) q
theorem lremM {g : JFrame} {target : State} (X : Stand p l e R s m args below meth c T locs cells slots) (hx : p.tables.exec = Jvm.exec) (hg : g.method = m) {x y : Int64} {rest : List Value} (hd : decode c.code g.pc = .ok (.lrem, 1)) (hs : g.stack = .long y :: .long x :: rest) (hy : y ≠ 0)
    (hr : Steps p.tables e below (T.setTop { g with pc := g.pc + 1, stack := .long (x % y) :: rest }) target) : Steps p.tables e below (T.setTop g) target :=
  XS.lrem X.here hx hg hd hs hy (by rw [lrem_mod]; exact hr)
/-- a body that returns v and leaves the heap as it was -/
def QR (z : Option Value) (h0 : Heap) (n0 : Nat) (v : Option Value) (h : Heap) (L : List Loc) : Prop := v = z ∧ Fr n0 L ∧ h = h0
/-- the law's own -/
def QL (n0 : Nat) (v : Option Value) (h : Heap) (L : List Loc) : Prop := v = some (.int 1) ∧ Fr n0 L
end Own
end Jvm.RoadKit
namespace Jvm.RoadKit
open Sem ClassFile Op Lib Jvm.Stand Jvm.Free Jvm.LawKit
section OwnHeap
variable {p : Program} {l : Launch} {e : Env} {R : Room} {s : State} {m : MethodId} {args : Array Value} {below : List Frame} {meth : Method} {c : Code} {T : State} {locs : List Loc} {cells slots : Nat} {Z : State} {a0 : Array Value} {h h' : Heap} {a b : Addr} {ty : FieldType} {n : Nat}
def upd {α : Type} (g : Nat → α) (k : Nat) (v : α) : Nat → α := fun j => if j = k then v else g j
theorem upd_same {α : Type} (g : Nat → α) (k : Nat) (v : α) : upd g k v k = v := if_pos rfl
theorem upd_ne {α : Type} (g : Nat → α) {k j : Nat} (v : α) (q : j ≠ k) : upd g k v j = g j := if_neg q
/-- an array of n places; place j holds f j -/
def AF (Z : State) (h : Heap) (a : Addr) (ty : FieldType) (n : Nat) (f : Nat → Value) : Prop :=
  ∃ c : Cell, Arr Z h a c ty ∧ c.slots.size = n ∧ n < 2147483648 ∧ ∀ j, j < n → c.slots[j]? = some (f j)
def AI (Z : State) (h : Heap) (a : Addr) (ty : FieldType) (n : Nat) (g : Nat → Int32) : Prop := AF Z h a ty n (fun j => .int (g j))
def AJ (Z : State) (h : Heap) (a : Addr) (ty : FieldType) (n : Nat) (g : Nat → Int64) : Prop := AF Z h a ty n (fun j => .long (g j))
theorem AF.lt {f : Nat → Value} (F : AF Z h a ty n f) : a < h.size := by obtain ⟨c, A, -⟩ := F; exact A.lt
theorem AF.ext {f : Nat → Value} (F : AF Z h a ty n f) (E : Ext h h') : AF Z h' a ty n f := by obtain ⟨c, A, r⟩ := F; exact ⟨c, A.ext E, r⟩
theorem AF.other {f : Nat → Value} {sl : Nat} {v : Value} (F : AF Z h b ty n f) (W : Wr h h' a sl v) (q : b ≠ a) : AF Z h' b ty n f := by obtain ⟨c, A, r⟩ := F; exact ⟨c, A.other W q, r⟩
theorem AF.keep {f : Nat → Value} {ws : List Addr} (F : AF Z h a ty n f) (K : Keep h h' ws) (q : a ∉ ws) : AF Z h' a ty n f := by obtain ⟨c, A, r⟩ := F; exact ⟨c, ⟨K.2.1 a c A.1 q, A.2⟩, r⟩
theorem AF.len {f : Nat → Value} (F : AF Z h a ty n f) : n < 2147483648 := by obtain ⟨c, A, -, M, -⟩ := F; exact M
theorem AF.cong {f f' : Nat → Value} (F : AF Z h a ty n f) (q : ∀ j, j < n → f j = f' j) : AF Z h a ty n f' := by
  obtain ⟨c, A, S, M, G⟩ := F
  exact ⟨c, A, S, M, fun j hj => by rw [← q j hj]; exact G j hj⟩
theorem AI.cong {g g' : Nat → Int32} (F : AI Z h a ty n g) (q : ∀ j, j < n → g j = g' j) : AI Z h a ty n g' := AF.cong F fun j hj => by rw [q j hj]
theorem AJ.cong {g g' : Nat → Int64} (F : AJ Z h a ty n g) (q : ∀ j, j < n → g j = g' j) : AJ Z h a ty n g' := AF.cong F fun j hj => by rw [q j hj]
theorem own_nat {j : Int32} {k : Nat} (hk : j.toInt = k) : j.toNatClampNeg = k := by
  show j.toInt.toNat = k
  rw [hk]; rfl
theorem own_in {cl : Cell} {j : Int32} {k : Nat} (S : cl.slots.size = n) (hk : j.toInt = k) (hn : k < n) : ¬ (j < 0 ∨ cl.slots.size ≤ j.toNatClampNeg) := by
  rw [own_nat hk, S, Int32.lt_iff_toInt_lt, hk]
  have : (0 : Int32).toInt = 0 := rfl
  omega
theorem AF.set {f : Nat → Value} {k : Nat} {v : Value} (F : AF Z h a ty n f) (W : Wr h h' a k v) : AF Z h' a ty n (upd f k v) := by
  obtain ⟨c, A, S, M, G⟩ := F
  refine ⟨c.setSlot k v, A.same W, by rw [sz_set]; exact S, M, fun j hj => ?_⟩
  have hz : j < c.slots.size := by omega
  simp only [Cell.setSlot, upd, Array.getElem?_setIfInBounds]
  by_cases q : j = k
  · subst q; simp [hz]
  · rw [if_neg (Ne.symm q), if_neg q]; exact G j hj
theorem AI.set {g : Nat → Int32} {k : Nat} {x : Int32} (F : AI Z h a ty n g) (W : Wr h h' a k (.int x)) : AI Z h' a ty n (upd g k x) :=
  AF.cong (AF.set F W) fun j _ => by simp only [upd]; split <;> rfl
theorem AJ.set {g : Nat → Int64} {k : Nat} {x : Int64} (F : AJ Z h a ty n g) (W : Wr h h' a k (.long x)) : AJ Z h' a ty n (upd g k x) :=
  AF.cong (AF.set F W) fun j _ => by simp only [upd]; split <;> rfl
theorem AF.fresh {k : ClassId} {z : Int32} {i : Nat} (A : Arr Z h a (newA k ty z) ty) (q : z.toInt = i) : AF Z h a ty i (fun _ => defaultValue ty) := by
  have S : (newA k ty z).slots.size = i := by rw [sz_new, own_nat q]
  refine ⟨_, A, S, ?_, fun j hj => ?_⟩
  · have := z.toInt_lt; omega
  · have hz : j < (newA k ty z).slots.size := by omega
    simp only [newA] at hz ⊢
    rw [Array.getElem?_eq_getElem hz]; simp
section Loads
theorem ldI (X : Stand p l e R s m args below meth c T locs cells slots) (hx : p.tables.exec = Jvm.exec) (hZ : Z.Warmed39 s.vm) (eT : T.heap = h) {g : Nat → Int32} (F : AI Z h a .int n g) {j : Int32} {k : Nat} (hk : j.toInt = k) (hn : k < n) {f : JFrame} (hg : f.method = m) {rest : List Value} (hs : f.stack = .int j :: .ref a :: rest) (hd : decode c.code f.pc = .ok (.iaload, 1)) :
    ∀ target, Steps p.tables e below (T.setTop { f with pc := f.pc + 1, stack := .int (g k) :: rest }) target → Steps p.tables e below (T.setTop f) target := by
  obtain ⟨cl, A, S, M, G⟩ := F
  intro target kt
  exact X.iaload hx (by rw [eT]; exact A.1) (State.isArrayOf_alike hZ.alike A.2.1) A.2.2 (own_in S hk hn) (by rw [own_nat hk]; exact G k hn) hg hs hd target kt
theorem ldB (X : Stand p l e R s m args below meth c T locs cells slots) (hx : p.tables.exec = Jvm.exec) (hZ : Z.Warmed39 s.vm) (eT : T.heap = h) {g : Nat → Int32} (F : AI Z h a .byte n g) {j : Int32} {k : Nat} (hk : j.toInt = k) (hn : k < n) {f : JFrame} (hg : f.method = m) {rest : List Value} (hs : f.stack = .int j :: .ref a :: rest) (hd : decode c.code f.pc = .ok (.baload, 1)) :
    ∀ target, Steps p.tables e below (T.setTop { f with pc := f.pc + 1, stack := .int (g k) :: rest }) target → Steps p.tables e below (T.setTop f) target := by
  obtain ⟨cl, A, S, M, G⟩ := F
  intro target kt
  exact X.baloadBytes hx (by rw [eT]; exact A.1) (State.isArrayOf_alike hZ.alike A.2.1) A.2.2 (own_in S hk hn) (by rw [own_nat hk]; exact G k hn) hg hs hd target kt
theorem ldJ (X : Stand p l e R s m args below meth c T locs cells slots) (hx : p.tables.exec = Jvm.exec) (hZ : Z.Warmed39 s.vm) (eT : T.heap = h) {g : Nat → Int64} (F : AJ Z h a .long n g) {j : Int32} {k : Nat} (hk : j.toInt = k) (hn : k < n) {f : JFrame} (hg : f.method = m) {rest : List Value} (hs : f.stack = .int j :: .ref a :: rest) (hd : decode c.code f.pc = .ok (.laload, 1)) :
    ∀ target, Steps p.tables e below (T.setTop { f with pc := f.pc + 1, stack := .long (g k) :: rest }) target → Steps p.tables e below (T.setTop f) target := by
  obtain ⟨cl, A, S, M, G⟩ := F
  intro target kt
  exact X.laload hx (by rw [eT]; exact A.1) (State.isArrayOf_alike hZ.alike A.2.1) A.2.2 (own_in S hk hn) (by rw [own_nat hk]; exact G k hn) hg hs hd target kt
theorem ldR (X : Stand p l e R s m args below meth c T locs cells slots) (hx : p.tables.exec = Jvm.exec) (hZ : Z.Warmed39 s.vm) (eT : T.heap = h) {g : Nat → Value} (F : AF Z h a ty n g) (hty : ty.isReference = true) {j : Int32} {k : Nat} (hk : j.toInt = k) (hn : k < n) {f : JFrame} (hg : f.method = m) {rest : List Value} (hs : f.stack = .int j :: .ref a :: rest) (hd : decode c.code f.pc = .ok (.aaload, 1)) :
    ∀ target, Steps p.tables e below (T.setTop { f with pc := f.pc + 1, stack := g k :: rest }) target → Steps p.tables e below (T.setTop f) target := by
  obtain ⟨cl, A, S, M, G⟩ := F
  intro target kt
  exact X.aaload hx (by rw [eT]; exact A.1) (State.isArrayOf_alike hZ.alike A.2.1) hty A.2.2 (own_in S hk hn) (by rw [own_nat hk]; exact G k hn) hg hs hd target kt
theorem alen (X : Stand p l e R s m args below meth c T locs cells slots) (hx : p.tables.exec = Jvm.exec) (hZ : Z.Warmed39 s.vm) (eT : T.heap = h) {g : Nat → Value} (F : AF Z h a ty n g) {z : Int32} (hz : z.toInt = n) {f : JFrame} (hg : f.method = m) {rest : List Value} (hs : f.stack = .ref a :: rest) (hd : decode c.code f.pc = .ok (.arraylength, 1)) :
    ∀ target, Steps p.tables e below (T.setTop { f with pc := f.pc + 1, stack := .int z :: rest }) target → Steps p.tables e below (T.setTop f) target := by
  obtain ⟨cl, A, S, M, G⟩ := F
  intro target kt
  have h0 : ¬ z < 0 := by
    rw [Int32.lt_iff_toInt_lt, hz]
    have : (0 : Int32).toInt = 0 := rfl
    omega
  have q : cl.slots.size.toInt32 = z := by rw [S, ← own_nat hz]; exact (back32 h0).1
  refine X.arraylength hx (by rw [eT]; exact A.1) (State.isArrayOf_alike hZ.alike A.2.1) hg hs hd target ?_
  rw [q]; exact kt
end Loads
section Stores
theorem puI (X : Stand p l e R s m args below meth c T locs cells slots) (hx : p.tables.exec = Jvm.exec) (hZ : Z.Warmed39 s.vm) (eT : T.heap = h) {g : Nat → Int32} (F : AI Z h a .int n g) {j x : Int32} {k : Nat} (hk : j.toInt = k) (hn : k < n) {f : JFrame} (hg : f.method = m) {rest : List Value} (hs : f.stack = .int x :: .int j :: .ref a :: rest) (hd : decode c.code f.pc = .ok (.iastore, 1)) :
    ∃ T' h', Stand p l e R s m args below meth c T' (locs ++ [⟨a, k⟩]) cells slots ∧ T'.heap = h' ∧ Wr h h' a k (.int x) ∧ AI Z h' a .int n (upd g k x) ∧ ∀ target, Steps p.tables e below (T'.setTop { f with pc := f.pc + 1, stack := rest }) target → Steps p.tables e below (T.setTop f) target := by
  obtain ⟨cl, A, S, M, G⟩ := id F
  obtain ⟨T', h', X', e', W, st⟩ := stI X hx hZ eT A (j := j) (own_in S hk hn) hg hs hd
  rw [own_nat hk] at X' W
  exact ⟨T', h', X', e', W, AI.set F W, st⟩
theorem puB (X : Stand p l e R s m args below meth c T locs cells slots) (hx : p.tables.exec = Jvm.exec) (hZ : Z.Warmed39 s.vm) (eT : T.heap = h) {g : Nat → Int32} (F : AI Z h a .byte n g) {j x : Int32} {k : Nat} (hk : j.toInt = k) (hn : k < n) {f : JFrame} (hg : f.method = m) {rest : List Value} (hs : f.stack = .int x :: .int j :: .ref a :: rest) (hd : decode c.code f.pc = .ok (.bastore, 1)) :
    ∃ T' h', Stand p l e R s m args below meth c T' (locs ++ [⟨a, k⟩]) cells slots ∧ T'.heap = h' ∧ Wr h h' a k (.int x.toInt8.toInt32) ∧ AI Z h' a .byte n (upd g k x.toInt8.toInt32) ∧ ∀ target, Steps p.tables e below (T'.setTop { f with pc := f.pc + 1, stack := rest }) target → Steps p.tables e below (T.setTop f) target := by
  obtain ⟨cl, A, S, M, G⟩ := id F
  obtain ⟨T', h', X', e', W, st⟩ := stB X hx hZ eT A (j := j) (own_in S hk hn) hg hs hd
  rw [own_nat hk] at X' W
  exact ⟨T', h', X', e', W, AI.set F W, st⟩
theorem puJ (X : Stand p l e R s m args below meth c T locs cells slots) (hx : p.tables.exec = Jvm.exec) (hZ : Z.Warmed39 s.vm) (eT : T.heap = h) {g : Nat → Int64} (F : AJ Z h a .long n g) {j : Int32} {x : Int64} {k : Nat} (hk : j.toInt = k) (hn : k < n) {f : JFrame} (hg : f.method = m) {rest : List Value} (hs : f.stack = .long x :: .int j :: .ref a :: rest) (hd : decode c.code f.pc = .ok (.lastore, 1)) :
    ∃ T' h', Stand p l e R s m args below meth c T' (locs ++ [⟨a, k⟩]) cells slots ∧ T'.heap = h' ∧ Wr h h' a k (.long x) ∧ AJ Z h' a .long n (upd g k x) ∧ ∀ target, Steps p.tables e below (T'.setTop { f with pc := f.pc + 1, stack := rest }) target → Steps p.tables e below (T.setTop f) target := by
  obtain ⟨cl, A, S, M, G⟩ := id F
  obtain ⟨T', h', X', e', W, st⟩ := stJ X hx hZ eT A (j := j) (own_in S hk hn) hg hs hd
  rw [own_nat hk] at X' W
  exact ⟨T', h', X', e', W, AJ.set F W, st⟩
theorem puR (X : Stand p l e R s m args below meth c T locs cells slots) (hx : p.tables.exec = Jvm.exec) (hZ : Z.Warmed39 s.vm) (eT : T.heap = h) {g : Nat → Value} (F : AF Z h a ty n g) (hty : ty.isReference = true) {j : Int32} {x : Value} (O : Sto Z h a x) {k : Nat} (hk : j.toInt = k) (hn : k < n) {f : JFrame} (hg : f.method = m) {rest : List Value} (hs : f.stack = x :: .int j :: .ref a :: rest) (hd : decode c.code f.pc = .ok (.aastore, 1)) :
    ∃ T' h', Stand p l e R s m args below meth c T' (locs ++ [⟨a, k⟩]) cells slots ∧ T'.heap = h' ∧ Wr h h' a k x ∧ AF Z h' a ty n (upd g k x) ∧ ∀ target, Steps p.tables e below (T'.setTop { f with pc := f.pc + 1, stack := rest }) target → Steps p.tables e below (T.setTop f) target := by
  obtain ⟨cl, A, S, M, G⟩ := id F
  obtain ⟨T', h', X', e', W, st⟩ := stR X hx hZ eT A (j := j) (own_in S hk hn) hty O hg hs hd
  rw [own_nat hk] at X' W
  exact ⟨T', h', X', e', W, AF.set F W, st⟩
theorem newAF (X : Stand p l e R s m args below meth c T locs cells slots) (hx : p.tables.exec = Jvm.exec) (hZ : Z.Warmed39 s.vm) {aty : ArrayType} (w : (Cond.arrayClass (newarray.typeOf aty)).before a0 Z = true) (eT : T.heap = h) {f : JFrame} (hg : f.method = m) (hd : decode c.code f.pc = .ok (.newarray aty, 2)) {z : Int32} {rest : List Value} (hs : f.stack = .int z :: rest)
    {k : Nat} (hk : z.toInt = k) {cap : Nat} (hcap : k ≤ cap) (hb : cap * 8 ≤ 536870912) (hc : cells + 1 ≤ R.cells) (hl : slots + cap ≤ R.slots) :
    ∃ T' h', Stand p l e R s m args below meth c T' locs (cells + 1) (slots + cap) ∧ T'.heap = h' ∧ Ext h h' ∧ AF Z h' h.size (newarray.typeOf aty) k (fun _ => defaultValue (newarray.typeOf aty)) ∧
      ∀ target, Steps p.tables e below (T'.setTop { f with pc := f.pc + 2, stack := .ref h.size :: rest }) target → Steps p.tables e below (T.setTop f) target := by
  have h0 : ¬ z < 0 := by
    rw [Int32.lt_iff_toInt_lt, hk]
    have : (0 : Int32).toInt = 0 := rfl
    omega
  obtain ⟨T', h', cA, X', e', E, A, st⟩ := newP X hx hZ w eT hg hd hs h0 (cap := cap) (by rw [own_nat hk]; exact hcap) hb hc hl
  exact ⟨T', h', X', e', E, AF.fresh A hk, st⟩
end Stores
theorem own_selects {args' : Array Value} {U : State} {y : MethodName} {k : Nat} (wi : (Cond.instantiable y.cls k).before args' U = true) (hpriv : U.PrivateAt y) (hinst : (Cond.instanceMethod y).before args' U = true) (hy : y.cls ≠ "java/lang/invoke/MethodHandle" ∧ y.cls ≠ "java/lang/invoke/VarHandle") : (Cond.selects y.cls y y).before args' U = true := by
  obtain ⟨c1, k1, i1, i2, -, i3, -⟩ := Cond.instantiable_spec wi
  have hni : k1.isInterface = false := by cases q : k1.isInterface <;> simp [q] at i3 ⊢
  exact Jvm.Stand.selects_self_of_private i1 i2 hni hpriv hinst hy
theorem isRef_cat {w : Value} (q : w.isRef = true) : w.category = 1 := by
  rcases ref_cases q with rfl | ⟨x, rfl⟩ <;> rfl
theorem mem1 {α : Type} (x : α) (L : List α) : x ∈ x :: L := List.mem_cons_self
theorem mem2 {α : Type} (x y : α) (L : List α) : x ∈ y :: x :: L := List.mem_cons_of_mem _ List.mem_cons_self
end OwnHeap
end Jvm.RoadKit
namespace Jvm.Pilot.@@N@@
open Jvm Jvm.ClassFile Sem Op Lib Jvm.Free Jvm.Stand Jvm.LawKit Jvm.RoadKit Bundle Jvm.Pilot.@@N@@.Jvm.D
theorem ef_1 (m : MethodId) (x0 : Int32) (x1 : Int32) : entryFrame m #[(.int x0), (.int x1)] 3 = mkF m 0 #[.val (.int x0), .val (.int x1), .unset] [] := by first | (simp [entryFrame, mkF, argsToLocals, Value.category]; done) | rfl
theorem d1_0 : decode method_2_code 0 = .ok (.iload_n 0, 1) := by decide +kernel
theorem d1_1 : decode method_2_code 1 = .ok (.iconst 3, 1) := by decide +kernel
theorem d1_2 : decode method_2_code 2 = .ok (.iand, 1) := by decide +kernel
theorem d1_3 : decode method_2_code 3 = .ok (.istore_n 2, 1) := by decide +kernel
theorem d1_4 : decode method_2_code 4 = .ok (.iload_n 2, 1) := by decide +kernel
theorem d1_5 : decode method_2_code 5 = .ok (.ifCond .ne 5, 3) := by decide +kernel
theorem d1_8 : decode method_2_code 8 = .ok (.iconst 1, 1) := by decide +kernel
theorem d1_9 : decode method_2_code 9 = .ok (.ireturn, 1) := by decide +kernel
theorem d1_10 : decode method_2_code 10 = .ok (.iload_n 2, 1) := by decide +kernel
theorem d1_11 : decode method_2_code 11 = .ok (.iconst 1, 1) := by decide +kernel
theorem d1_12 : decode method_2_code 12 = .ok (.if_icmp .ne 5, 3) := by decide +kernel
theorem d1_15 : decode method_2_code 15 = .ok (.iconst 2, 1) := by decide +kernel
theorem d1_16 : decode method_2_code 16 = .ok (.ireturn, 1) := by decide +kernel
theorem d1_17 : decode method_2_code 17 = .ok (.iload_n 2, 1) := by decide +kernel
theorem d1_18 : decode method_2_code 18 = .ok (.iconst 2, 1) := by decide +kernel
theorem d1_19 : decode method_2_code 19 = .ok (.if_icmp .ne 10, 3) := by decide +kernel
theorem d1_22 : decode method_2_code 22 = .ok (.iconst 1, 1) := by decide +kernel
theorem d1_23 : decode method_2_code 23 = .ok (.iload_n 1, 1) := by decide +kernel
theorem d1_24 : decode method_2_code 24 = .ok (.bipush 7, 2) := by decide +kernel
theorem d1_26 : decode method_2_code 26 = .ok (.iand, 1) := by decide +kernel
theorem d1_27 : decode method_2_code 27 = .ok (.iadd, 1) := by decide +kernel
theorem d1_28 : decode method_2_code 28 = .ok (.ireturn, 1) := by decide +kernel
theorem d1_29 : decode method_2_code 29 = .ok (.iconst 1, 1) := by decide +kernel
theorem d1_30 : decode method_2_code 30 = .ok (.iload_n 1, 1) := by decide +kernel
theorem d1_31 : decode method_2_code 31 = .ok (.ldc 7, 2) := by decide +kernel
theorem d1_33 : decode method_2_code 33 = .ok (.iand, 1) := by decide +kernel
theorem d1_34 : decode method_2_code 34 = .ok (.ldc 7, 2) := by decide +kernel
theorem d1_36 : decode method_2_code 36 = .ok (.irem, 1) := by decide +kernel
theorem d1_37 : decode method_2_code 37 = .ok (.iadd, 1) := by decide +kernel
theorem d1_38 : decode method_2_code 38 = .ok (.ireturn, 1) := by decide +kernel
theorem pn_0 : plainName "com/example/knotwork/knotwork/store/GroupStoredPinLaw" = true := by first | (simp [plainName, overriddenIn]; done) | decide +kernel
def F_f1 (i0 : Int32) (i1 : Int32) : Int32 := (if (i0 &&& (3 : Int32)) = (0 : Int32) then (1 : Int32) else (if (i0 &&& (3 : Int32)) = (1 : Int32) then (2 : Int32) else (if (i0 &&& (3 : Int32)) = (2 : Int32) then ((1 : Int32) + (i1 &&& (7 : Int32))) else ((1 : Int32) + ((i1 &&& (2147483647 : Int32)) % (2147483647 : Int32))))))
set_option maxRecDepth 65536 in
set_option maxHeartbeats 40000000 in
theorem rm1 (l : Launch) (Z : State) (a0 : Array Value) (hw : ∀ d ∈ tables_1, d.before a0 Z = true) (ws : List Jvm.Cond) (i0 : Int32) (i1 : Int32)  (h0 : Heap) (n0 : Nat)  :
    MetFree l (⟨"com/example/knotwork/knotwork/store/GroupStoredPinLaw", "sizeOf", "(II)I"⟩ : MethodName) (head1 (Jvm.Cond.code (⟨"com/example/knotwork/knotwork/store/GroupStoredPinLaw", "sizeOf", "(II)I"⟩ : MethodName) method_2_code 3 (some .int) :: ws) ({ frames := 0, cells := 0, slots := 0, locals := 0 } : Room)) (fun a U => a = #[(.int i0), (.int i1)] ∧ Z.Warmed39 U.vm ∧ U.heap = h0) (fun _ _ _ _ _ => True) (fun _ U o U' => ∃ v L, o = .returned v ∧ QR (some (.int (F_f1 i0 i1))) h0 n0 v U'.heap L ∧ FrameEnd U o U' L ({ frames := 0, cells := 0, slots := 0, locals := 0 } : Room).cells ({ frames := 0, cells := 0, slots := 0, locals := 0 } : Room).slots) := by
  refine MetFree.of_bodySF (plainFor_of_name pn_0) hisR ?_
  intro p e s m args below meth c s₁ Bd hml0 hP hK
  obtain ⟨rfl, hZ, hh⟩ := hP
  have hx := Bd.exec
  have hby := Bd.bytes
  have hml : c.maxLocals = 3 := hml0
  have hown : s.vm.findClass "com/example/knotwork/knotwork/store/GroupStoredPinLaw" = some m.cls := findClass_of_methodNamed Bd.named
  have hnm := (name_of_methodNamed Bd.named Bd.method).1
  have hret := Bd.returns
  have hlk : meth.locks = false := BodyLoose.notSynchronized Bd
  have X0 : Stand p l e ({ frames := 0, cells := 0, slots := 0, locals := 0 } : Room) s m #[(.int i0), (.int i1)] below meth c s₁ [] 0 0 := Stand.of_body Bd
  have e0 : s₁.heap = h0 := by rw [← hh, Bd.state]; rfl
  have N0 := Fr.nil n0
  show Outs p e below s (QR (some (.int (F_f1 i0 i1))) h0 n0) _ _ _
  refine Outs.of (U' := s₁.setTop (mkF m 0 #[.val (.int i0), .val (.int i1), .unset] [])) (fun t k => castTop (ef_1 m i0 i1) k) ?_
  refine Outs.of (U' := s₁.setTop (mkF m 5 #[.val (.int i0), .val (.int i1), .val (.int (i0 &&& (3 : Int32)))] [(.int (i0 &&& (3 : Int32)))])) (fun t k => ?_) ?_
  · refine XS.iloadN X0.here hx rfl (hb hby d1_0) rfl ?_
    show Steps p.tables e below (s₁.setTop (mkF m 1 #[.val (.int i0), .val (.int i1), .unset] [(.int i0)])) _
    refine XS.iconst X0.here hx rfl (hb hby d1_1) ?_
    show Steps p.tables e below (s₁.setTop (mkF m 2 #[.val (.int i0), .val (.int i1), .unset] [(.int (3 : Int32)), (.int i0)])) _
    refine XS.iand X0.here hx rfl (hb hby d1_2) rfl ?_
    show Steps p.tables e below (s₁.setTop (mkF m 3 #[.val (.int i0), .val (.int i1), .unset] [(.int (i0 &&& (3 : Int32)))])) _
    refine XS.istoreN X0.here hx rfl (hb hby d1_3) rfl (l' := #[.val (.int i0), .val (.int i1), .val (.int (i0 &&& (3 : Int32)))]) rfl ?_
    show Steps p.tables e below (s₁.setTop (mkF m 4 #[.val (.int i0), .val (.int i1), .val (.int (i0 &&& (3 : Int32)))] [])) _
    refine XS.iloadN X0.here hx rfl (hb hby d1_4) rfl ?_
    show Steps p.tables e below (s₁.setTop (mkF m 5 #[.val (.int i0), .val (.int i1), .val (.int (i0 &&& (3 : Int32)))] [(.int (i0 &&& (3 : Int32)))])) _
    exact k
  by_cases hc5 : (i0 &&& (3 : Int32)) = (0 : Int32)
  · refine Outs.of (U' := s₁.setTop (mkF m 8 #[.val (.int i0), .val (.int i1), .val (.int (i0 &&& (3 : Int32)))] [])) (fun t k => ?_) ?_
    · refine XS.ifNo X0.here hx rfl (hb hby d1_5) rfl ((if0 _ _).trans (teq hc5).2) ?_
      show Steps p.tables e below (s₁.setTop (mkF m 8 #[.val (.int i0), .val (.int i1), .val (.int (i0 &&& (3 : Int32)))] [])) _
      exact k
    refine Outs.of (U' := s₁.setTop (mkF m 9 #[.val (.int i0), .val (.int i1), .val (.int (i0 &&& (3 : Int32)))] [(.int (1 : Int32))])) (fun t k => ?_) ?_
    · refine XS.iconst X0.here hx rfl (hb hby d1_8) ?_
      show Steps p.tables e below (s₁.setTop (mkF m 9 #[.val (.int i0), .val (.int i1), .val (.int (i0 &&& (3 : Int32)))] [(.int (1 : Int32))])) _
      exact k
    exact Outs.retI X0 hx hret (hb hby d1_9) hlk (by decide) (by decide) ⟨congrArg (fun z_ => some (Value.int z_)) (show (F_f1 i0 i1) = (1 : Int32) from (if_pos hc5)).symm, N0, e0⟩
  · refine Outs.of (U' := s₁.setTop (mkF m 10 #[.val (.int i0), .val (.int i1), .val (.int (i0 &&& (3 : Int32)))] [])) (fun t k => ?_) ?_
    · refine XS.ifYes X0.here hx rfl (pc0 := 5) (pc' := 10) rfl (hb hby d1_5) rfl ((if0 _ _).trans (feq hc5).2) (by decide) (by decide) ?_
      show Steps p.tables e below (s₁.setTop (mkF m 10 #[.val (.int i0), .val (.int i1), .val (.int (i0 &&& (3 : Int32)))] [])) _
      exact k
    refine Outs.of (U' := s₁.setTop (mkF m 12 #[.val (.int i0), .val (.int i1), .val (.int (i0 &&& (3 : Int32)))] [(.int (1 : Int32)), (.int (i0 &&& (3 : Int32)))])) (fun t k => ?_) ?_
    · refine XS.iloadN X0.here hx rfl (hb hby d1_10) rfl ?_
      show Steps p.tables e below (s₁.setTop (mkF m 11 #[.val (.int i0), .val (.int i1), .val (.int (i0 &&& (3 : Int32)))] [(.int (i0 &&& (3 : Int32)))])) _
      refine XS.iconst X0.here hx rfl (hb hby d1_11) ?_
      show Steps p.tables e below (s₁.setTop (mkF m 12 #[.val (.int i0), .val (.int i1), .val (.int (i0 &&& (3 : Int32)))] [(.int (1 : Int32)), (.int (i0 &&& (3 : Int32)))])) _
      exact k
    by_cases hc12 : (i0 &&& (3 : Int32)) = (1 : Int32)
    · refine Outs.of (U' := s₁.setTop (mkF m 15 #[.val (.int i0), .val (.int i1), .val (.int (i0 &&& (3 : Int32)))] [])) (fun t k => ?_) ?_
      · refine XS.icmpNo X0.here hx rfl (hb hby d1_12) rfl (teq hc12).2 ?_
        show Steps p.tables e below (s₁.setTop (mkF m 15 #[.val (.int i0), .val (.int i1), .val (.int (i0 &&& (3 : Int32)))] [])) _
        exact k
      refine Outs.of (U' := s₁.setTop (mkF m 16 #[.val (.int i0), .val (.int i1), .val (.int (i0 &&& (3 : Int32)))] [(.int (2 : Int32))])) (fun t k => ?_) ?_
      · refine XS.iconst X0.here hx rfl (hb hby d1_15) ?_
        show Steps p.tables e below (s₁.setTop (mkF m 16 #[.val (.int i0), .val (.int i1), .val (.int (i0 &&& (3 : Int32)))] [(.int (2 : Int32))])) _
        exact k
      exact Outs.retI X0 hx hret (hb hby d1_16) hlk (by decide) (by decide) ⟨congrArg (fun z_ => some (Value.int z_)) (show (F_f1 i0 i1) = (2 : Int32) from ((if_neg hc5).trans (if_pos hc12))).symm, N0, e0⟩
    · refine Outs.of (U' := s₁.setTop (mkF m 17 #[.val (.int i0), .val (.int i1), .val (.int (i0 &&& (3 : Int32)))] [])) (fun t k => ?_) ?_
      · refine XS.icmpYes X0.here hx rfl (pc0 := 12) (pc' := 17) rfl (hb hby d1_12) rfl (feq hc12).2 (by decide) (by decide) ?_
        show Steps p.tables e below (s₁.setTop (mkF m 17 #[.val (.int i0), .val (.int i1), .val (.int (i0 &&& (3 : Int32)))] [])) _
        exact k
      refine Outs.of (U' := s₁.setTop (mkF m 19 #[.val (.int i0), .val (.int i1), .val (.int (i0 &&& (3 : Int32)))] [(.int (2 : Int32)), (.int (i0 &&& (3 : Int32)))])) (fun t k => ?_) ?_
      · refine XS.iloadN X0.here hx rfl (hb hby d1_17) rfl ?_
        show Steps p.tables e below (s₁.setTop (mkF m 18 #[.val (.int i0), .val (.int i1), .val (.int (i0 &&& (3 : Int32)))] [(.int (i0 &&& (3 : Int32)))])) _
        refine XS.iconst X0.here hx rfl (hb hby d1_18) ?_
        show Steps p.tables e below (s₁.setTop (mkF m 19 #[.val (.int i0), .val (.int i1), .val (.int (i0 &&& (3 : Int32)))] [(.int (2 : Int32)), (.int (i0 &&& (3 : Int32)))])) _
        exact k
      by_cases hc19 : (i0 &&& (3 : Int32)) = (2 : Int32)
      · refine Outs.of (U' := s₁.setTop (mkF m 22 #[.val (.int i0), .val (.int i1), .val (.int (i0 &&& (3 : Int32)))] [])) (fun t k => ?_) ?_
        · refine XS.icmpNo X0.here hx rfl (hb hby d1_19) rfl (teq hc19).2 ?_
          show Steps p.tables e below (s₁.setTop (mkF m 22 #[.val (.int i0), .val (.int i1), .val (.int (i0 &&& (3 : Int32)))] [])) _
          exact k
        refine Outs.of (U' := s₁.setTop (mkF m 28 #[.val (.int i0), .val (.int i1), .val (.int (i0 &&& (3 : Int32)))] [(.int ((1 : Int32) + (i1 &&& (7 : Int32))))])) (fun t k => ?_) ?_
        · refine XS.iconst X0.here hx rfl (hb hby d1_22) ?_
          show Steps p.tables e below (s₁.setTop (mkF m 23 #[.val (.int i0), .val (.int i1), .val (.int (i0 &&& (3 : Int32)))] [(.int (1 : Int32))])) _
          refine XS.iloadN X0.here hx rfl (hb hby d1_23) rfl ?_
          show Steps p.tables e below (s₁.setTop (mkF m 24 #[.val (.int i0), .val (.int i1), .val (.int (i0 &&& (3 : Int32)))] [(.int i1), (.int (1 : Int32))])) _
          refine XS.bipush X0.here hx rfl (hb hby d1_24) ?_
          show Steps p.tables e below (s₁.setTop (mkF m 26 #[.val (.int i0), .val (.int i1), .val (.int (i0 &&& (3 : Int32)))] [(.int (7 : Int32)), (.int i1), (.int (1 : Int32))])) _
          refine XS.iand X0.here hx rfl (hb hby d1_26) rfl ?_
          show Steps p.tables e below (s₁.setTop (mkF m 27 #[.val (.int i0), .val (.int i1), .val (.int (i0 &&& (3 : Int32)))] [(.int (i1 &&& (7 : Int32))), (.int (1 : Int32))])) _
          refine XS.iadd X0.here hx rfl (hb hby d1_27) rfl ?_
          show Steps p.tables e below (s₁.setTop (mkF m 28 #[.val (.int i0), .val (.int i1), .val (.int (i0 &&& (3 : Int32)))] [(.int ((1 : Int32) + (i1 &&& (7 : Int32))))])) _
          exact k
        exact Outs.retI X0 hx hret (hb hby d1_28) hlk (by decide) (by decide) ⟨congrArg (fun z_ => some (Value.int z_)) (show (F_f1 i0 i1) = ((1 : Int32) + (i1 &&& (7 : Int32))) from ((if_neg hc5).trans ((if_neg hc12).trans (if_pos hc19)))).symm, N0, e0⟩
      · refine Outs.of (U' := s₁.setTop (mkF m 29 #[.val (.int i0), .val (.int i1), .val (.int (i0 &&& (3 : Int32)))] [])) (fun t k => ?_) ?_
        · refine XS.icmpYes X0.here hx rfl (pc0 := 19) (pc' := 29) rfl (hb hby d1_19) rfl (feq hc19).2 (by decide) (by decide) ?_
          show Steps p.tables e below (s₁.setTop (mkF m 29 #[.val (.int i0), .val (.int i1), .val (.int (i0 &&& (3 : Int32)))] [])) _
          exact k
        refine Outs.of (U' := s₁.setTop (mkF m 38 #[.val (.int i0), .val (.int i1), .val (.int (i0 &&& (3 : Int32)))] [(.int ((1 : Int32) + ((i1 &&& (2147483647 : Int32)) % (2147483647 : Int32))))])) (fun t k => ?_) ?_
        · refine XS.iconst X0.here hx rfl (hb hby d1_29) ?_
          show Steps p.tables e below (s₁.setTop (mkF m 30 #[.val (.int i0), .val (.int i1), .val (.int (i0 &&& (3 : Int32)))] [(.int (1 : Int32))])) _
          refine XS.iloadN X0.here hx rfl (hb hby d1_30) rfl ?_
          show Steps p.tables e below (s₁.setTop (mkF m 31 #[.val (.int i0), .val (.int i1), .val (.int (i0 &&& (3 : Int32)))] [(.int i1), (.int (1 : Int32))])) _
          refine X0.ldcInt hx hown (mvT hZ (hw _ (List.mem_of_getElem? (i := 4) rfl))) (g := (mkF m 31 #[.val (.int i0), .val (.int i1), .val (.int (i0 &&& (3 : Int32)))] [(.int i1), (.int (1 : Int32))])) rfl (hb hby d1_31) _ ?_
          show Steps p.tables e below (s₁.setTop (mkF m 33 #[.val (.int i0), .val (.int i1), .val (.int (i0 &&& (3 : Int32)))] [(.int (2147483647 : Int32)), (.int i1), (.int (1 : Int32))])) _
          refine XS.iand X0.here hx rfl (hb hby d1_33) rfl ?_
          show Steps p.tables e below (s₁.setTop (mkF m 34 #[.val (.int i0), .val (.int i1), .val (.int (i0 &&& (3 : Int32)))] [(.int (i1 &&& (2147483647 : Int32))), (.int (1 : Int32))])) _
          refine X0.ldcInt hx hown (mvT hZ (hw _ (List.mem_of_getElem? (i := 4) rfl))) (g := (mkF m 34 #[.val (.int i0), .val (.int i1), .val (.int (i0 &&& (3 : Int32)))] [(.int (i1 &&& (2147483647 : Int32))), (.int (1 : Int32))])) rfl (hb hby d1_34) _ ?_
          show Steps p.tables e below (s₁.setTop (mkF m 36 #[.val (.int i0), .val (.int i1), .val (.int (i0 &&& (3 : Int32)))] [(.int (2147483647 : Int32)), (.int (i1 &&& (2147483647 : Int32))), (.int (1 : Int32))])) _
          refine iremM X0 hx rfl (hb hby d1_36) rfl (by decide) ?_
          show Steps p.tables e below (s₁.setTop (mkF m 37 #[.val (.int i0), .val (.int i1), .val (.int (i0 &&& (3 : Int32)))] [(.int ((i1 &&& (2147483647 : Int32)) % (2147483647 : Int32))), (.int (1 : Int32))])) _
          refine XS.iadd X0.here hx rfl (hb hby d1_37) rfl ?_
          show Steps p.tables e below (s₁.setTop (mkF m 38 #[.val (.int i0), .val (.int i1), .val (.int (i0 &&& (3 : Int32)))] [(.int ((1 : Int32) + ((i1 &&& (2147483647 : Int32)) % (2147483647 : Int32))))])) _
          exact k
        exact Outs.retI X0 hx hret (hb hby d1_38) hlk (by decide) (by decide) ⟨congrArg (fun z_ => some (Value.int z_)) (show (F_f1 i0 i1) = ((1 : Int32) + ((i1 &&& (2147483647 : Int32)) % (2147483647 : Int32))) from ((if_neg hc5).trans ((if_neg hc12).trans (if_neg hc19)))).symm, N0, e0⟩
theorem ef_2 (m : MethodId) (x0 : Int32) (x1 : Int32) : entryFrame m #[(.int x0), (.int x1)] 2 = mkF m 0 #[.val (.int x0), .val (.int x1)] [] := by first | (simp [entryFrame, mkF, argsToLocals, Value.category]; done) | rfl
theorem d2_0 : decode prog_62_method_4_code 0 = .ok (.iload_n 0, 1) := by decide +kernel
theorem d2_1 : decode prog_62_method_4_code 1 = .ok (.iconst 1, 1) := by decide +kernel
theorem d2_2 : decode prog_62_method_4_code 2 = .ok (.if_icmp .eq 8, 3) := by decide +kernel
theorem d2_10 : decode prog_62_method_4_code 10 = .ok (.iload_n 1, 1) := by decide +kernel
theorem d2_11 : decode prog_62_method_4_code 11 = .ok (.goto 6, 3) := by decide +kernel
theorem d2_5 : decode prog_62_method_4_code 5 = .ok (.iload_n 1, 1) := by decide +kernel
theorem d2_6 : decode prog_62_method_4_code 6 = .ok (.iconst 1, 1) := by decide +kernel
theorem d2_7 : decode prog_62_method_4_code 7 = .ok (.if_icmp .le 7, 3) := by decide +kernel
theorem d2_14 : decode prog_62_method_4_code 14 = .ok (.iconst 1, 1) := by decide +kernel
theorem d2_15 : decode prog_62_method_4_code 15 = .ok (.iload_n 1, 1) := by decide +kernel
theorem d2_16 : decode prog_62_method_4_code 16 = .ok (.isub, 1) := by decide +kernel
theorem d2_17 : decode prog_62_method_4_code 17 = .ok (.ireturn, 1) := by decide +kernel
theorem pn_2 : plainName "com/example/knotwork/knotwork/store/Group" = true := by first | (simp [plainName, overriddenIn]; done) | decide +kernel
def f2_2_s0 (i0 : Int32) (i1 : Int32) : Int32 := (if i0 = (1 : Int32) then i1 else (if (1 : Int32) < i1 then i1 else ((1 : Int32) - i1)))
def F_f2 (i0 : Int32) (i1 : Int32) : Int32 := (f2_2_s0 i0 i1)
set_option maxRecDepth 65536 in
set_option maxHeartbeats 40000000 in
theorem rm2 (l : Launch) (Z : State) (a0 : Array Value) (hw : ∀ d ∈ tables_1, d.before a0 Z = true) (ws : List Jvm.Cond) (i0 : Int32) (i1 : Int32)  (h0 : Heap) (n0 : Nat)  :
    MetFree l (⟨"com/example/knotwork/knotwork/store/Group", "stored", "(II)I"⟩ : MethodName) (head1 (Jvm.Cond.code (⟨"com/example/knotwork/knotwork/store/Group", "stored", "(II)I"⟩ : MethodName) prog_62_method_4_code 2 (some .int) :: ws) ({ frames := 0, cells := 0, slots := 0, locals := 0 } : Room)) (fun a U => a = #[(.int i0), (.int i1)] ∧ Z.Warmed39 U.vm ∧ U.heap = h0) (fun _ _ _ _ _ => True) (fun _ U o U' => ∃ v L, o = .returned v ∧ QR (some (.int (F_f2 i0 i1))) h0 n0 v U'.heap L ∧ FrameEnd U o U' L ({ frames := 0, cells := 0, slots := 0, locals := 0 } : Room).cells ({ frames := 0, cells := 0, slots := 0, locals := 0 } : Room).slots) := by
  refine MetFree.of_bodySF (plainFor_of_name pn_2) hisR ?_
  intro p e s m args below meth c s₁ Bd hml0 hP hK
  obtain ⟨rfl, hZ, hh⟩ := hP
  have hx := Bd.exec
  have hby := Bd.bytes
  have hml : c.maxLocals = 2 := hml0
  have hown : s.vm.findClass "com/example/knotwork/knotwork/store/Group" = some m.cls := findClass_of_methodNamed Bd.named
  have hnm := (name_of_methodNamed Bd.named Bd.method).1
  have hret := Bd.returns
  have hlk : meth.locks = false := BodyLoose.notSynchronized Bd
  have X0 : Stand p l e ({ frames := 0, cells := 0, slots := 0, locals := 0 } : Room) s m #[(.int i0), (.int i1)] below meth c s₁ [] 0 0 := Stand.of_body Bd
  have e0 : s₁.heap = h0 := by rw [← hh, Bd.state]; rfl
  have N0 := Fr.nil n0
  show Outs p e below s (QR (some (.int (F_f2 i0 i1))) h0 n0) _ _ _
  refine Outs.of (U' := s₁.setTop (mkF m 0 #[.val (.int i0), .val (.int i1)] [])) (fun t k => castTop (ef_2 m i0 i1) k) ?_
  refine Outs.of (U' := s₁.setTop (mkF m 17 #[.val (.int i0), .val (.int i1)] [(.int (f2_2_s0 i0 i1))])) (fun t k => ?_) ?_
  · refine XS.iloadN X0.here hx rfl (hb hby d2_0) rfl ?_
    show Steps p.tables e below (s₁.setTop (mkF m 1 #[.val (.int i0), .val (.int i1)] [(.int i0)])) _
    refine XS.iconst X0.here hx rfl (hb hby d2_1) ?_
    show Steps p.tables e below (s₁.setTop (mkF m 2 #[.val (.int i0), .val (.int i1)] [(.int (1 : Int32)), (.int i0)])) _
    by_cases hc2 : i0 = (1 : Int32)
    · refine XS.icmpYes X0.here hx rfl (pc0 := 2) (pc' := 10) rfl (hb hby d2_2) rfl (teq hc2).1 (by decide) (by decide) ?_
      show Steps p.tables e below (s₁.setTop (mkF m 10 #[.val (.int i0), .val (.int i1)] [])) _
      refine XS.iloadN X0.here hx rfl (hb hby d2_10) rfl ?_
      show Steps p.tables e below (s₁.setTop (mkF m 11 #[.val (.int i0), .val (.int i1)] [(.int i1)])) _
      refine XS.goto X0.here hx rfl (pc0 := 11) (pc' := 17) rfl (hb hby d2_11) (by decide) (by decide) ?_
      show Steps p.tables e below (s₁.setTop (mkF m 17 #[.val (.int i0), .val (.int i1)] [(.int i1)])) _
      rw [show (f2_2_s0 i0 i1) = i1 from (if_pos hc2)] at k
      exact k
    · refine XS.icmpNo X0.here hx rfl (hb hby d2_2) rfl (feq hc2).1 ?_
      show Steps p.tables e below (s₁.setTop (mkF m 5 #[.val (.int i0), .val (.int i1)] [])) _
      refine XS.iloadN X0.here hx rfl (hb hby d2_5) rfl ?_
      show Steps p.tables e below (s₁.setTop (mkF m 6 #[.val (.int i0), .val (.int i1)] [(.int i1)])) _
      refine XS.iconst X0.here hx rfl (hb hby d2_6) ?_
      show Steps p.tables e below (s₁.setTop (mkF m 7 #[.val (.int i0), .val (.int i1)] [(.int (1 : Int32)), (.int i1)])) _
      by_cases hc7 : (1 : Int32) < i1
      · refine XS.icmpNo X0.here hx rfl (hb hby d2_7) rfl (tlt hc7).2.2.2 ?_
        show Steps p.tables e below (s₁.setTop (mkF m 10 #[.val (.int i0), .val (.int i1)] [])) _
        refine XS.iloadN X0.here hx rfl (hb hby d2_10) rfl ?_
        show Steps p.tables e below (s₁.setTop (mkF m 11 #[.val (.int i0), .val (.int i1)] [(.int i1)])) _
        refine XS.goto X0.here hx rfl (pc0 := 11) (pc' := 17) rfl (hb hby d2_11) (by decide) (by decide) ?_
        show Steps p.tables e below (s₁.setTop (mkF m 17 #[.val (.int i0), .val (.int i1)] [(.int i1)])) _
        rw [show (f2_2_s0 i0 i1) = i1 from ((if_neg hc2).trans (if_pos hc7))] at k
        exact k
      · refine XS.icmpYes X0.here hx rfl (pc0 := 7) (pc' := 14) rfl (hb hby d2_7) rfl (flt hc7).2.2.2 (by decide) (by decide) ?_
        show Steps p.tables e below (s₁.setTop (mkF m 14 #[.val (.int i0), .val (.int i1)] [])) _
        refine XS.iconst X0.here hx rfl (hb hby d2_14) ?_
        show Steps p.tables e below (s₁.setTop (mkF m 15 #[.val (.int i0), .val (.int i1)] [(.int (1 : Int32))])) _
        refine XS.iloadN X0.here hx rfl (hb hby d2_15) rfl ?_
        show Steps p.tables e below (s₁.setTop (mkF m 16 #[.val (.int i0), .val (.int i1)] [(.int i1), (.int (1 : Int32))])) _
        refine XS.isub X0.here hx rfl (hb hby d2_16) rfl ?_
        show Steps p.tables e below (s₁.setTop (mkF m 17 #[.val (.int i0), .val (.int i1)] [(.int ((1 : Int32) - i1))])) _
        rw [show (f2_2_s0 i0 i1) = ((1 : Int32) - i1) from ((if_neg hc2).trans (if_neg hc7))] at k
        exact k
  exact Outs.retI X0 hx hret (hb hby d2_17) hlk (by decide) (by decide) ⟨congrArg (fun z_ => some (Value.int z_)) (show (F_f2 i0 i1) = (f2_2_s0 i0 i1) from rfl).symm, N0, e0⟩
theorem ef_3 (m : MethodId) (x0 : Int32) (x1 : Int32) : entryFrame m #[(.int x0), (.int x1)] 2 = mkF m 0 #[.val (.int x0), .val (.int x1)] [] := by first | (simp [entryFrame, mkF, argsToLocals, Value.category]; done) | rfl
theorem d3_0 : decode method_3_code 0 = .ok (.iload_n 0, 1) := by decide +kernel
theorem d3_1 : decode method_3_code 1 = .ok (.iconst 2, 1) := by decide +kernel
theorem d3_2 : decode method_3_code 2 = .ok (.if_icmp .lt 16, 3) := by decide +kernel
theorem d3_18 : decode method_3_code 18 = .ok (.iload_n 1, 1) := by decide +kernel
theorem d3_19 : decode method_3_code 19 = .ok (.ireturn, 1) := by decide +kernel
theorem d3_5 : decode method_3_code 5 = .ok (.iload_n 1, 1) := by decide +kernel
theorem d3_6 : decode method_3_code 6 = .ok (.ifCond .ne 5, 3) := by decide +kernel
theorem d3_9 : decode method_3_code 9 = .ok (.iconst 1, 1) := by decide +kernel
theorem d3_10 : decode method_3_code 10 = .ok (.ireturn, 1) := by decide +kernel
theorem d3_11 : decode method_3_code 11 = .ok (.iload_n 1, 1) := by decide +kernel
theorem d3_12 : decode method_3_code 12 = .ok (.iconst 1, 1) := by decide +kernel
theorem d3_13 : decode method_3_code 13 = .ok (.if_icmp .ne 5, 3) := by decide +kernel
theorem d3_16 : decode method_3_code 16 = .ok (.iconst 0, 1) := by decide +kernel
theorem d3_17 : decode method_3_code 17 = .ok (.ireturn, 1) := by decide +kernel
def F_f3 (i0 : Int32) (i1 : Int32) : Int32 := (if i0 < (2 : Int32) then i1 else (if i1 = (0 : Int32) then (1 : Int32) else (if i1 = (1 : Int32) then (0 : Int32) else i1)))
set_option maxRecDepth 65536 in
set_option maxHeartbeats 40000000 in
theorem rm3 (l : Launch) (Z : State) (a0 : Array Value) (hw : ∀ d ∈ tables_1, d.before a0 Z = true) (ws : List Jvm.Cond) (i0 : Int32) (i1 : Int32)  (h0 : Heap) (n0 : Nat)  :
    MetFree l (⟨"com/example/knotwork/knotwork/store/GroupStoredPinLaw", "expected", "(II)I"⟩ : MethodName) (head1 (Jvm.Cond.code (⟨"com/example/knotwork/knotwork/store/GroupStoredPinLaw", "expected", "(II)I"⟩ : MethodName) method_3_code 2 (some .int) :: ws) ({ frames := 0, cells := 0, slots := 0, locals := 0 } : Room)) (fun a U => a = #[(.int i0), (.int i1)] ∧ Z.Warmed39 U.vm ∧ U.heap = h0) (fun _ _ _ _ _ => True) (fun _ U o U' => ∃ v L, o = .returned v ∧ QR (some (.int (F_f3 i0 i1))) h0 n0 v U'.heap L ∧ FrameEnd U o U' L ({ frames := 0, cells := 0, slots := 0, locals := 0 } : Room).cells ({ frames := 0, cells := 0, slots := 0, locals := 0 } : Room).slots) := by
  refine MetFree.of_bodySF (plainFor_of_name pn_0) hisR ?_
  intro p e s m args below meth c s₁ Bd hml0 hP hK
  obtain ⟨rfl, hZ, hh⟩ := hP
  have hx := Bd.exec
  have hby := Bd.bytes
  have hml : c.maxLocals = 2 := hml0
  have hown : s.vm.findClass "com/example/knotwork/knotwork/store/GroupStoredPinLaw" = some m.cls := findClass_of_methodNamed Bd.named
  have hnm := (name_of_methodNamed Bd.named Bd.method).1
  have hret := Bd.returns
  have hlk : meth.locks = false := BodyLoose.notSynchronized Bd
  have X0 : Stand p l e ({ frames := 0, cells := 0, slots := 0, locals := 0 } : Room) s m #[(.int i0), (.int i1)] below meth c s₁ [] 0 0 := Stand.of_body Bd
  have e0 : s₁.heap = h0 := by rw [← hh, Bd.state]; rfl
  have N0 := Fr.nil n0
  show Outs p e below s (QR (some (.int (F_f3 i0 i1))) h0 n0) _ _ _
  refine Outs.of (U' := s₁.setTop (mkF m 0 #[.val (.int i0), .val (.int i1)] [])) (fun t k => castTop (ef_3 m i0 i1) k) ?_
  refine Outs.of (U' := s₁.setTop (mkF m 2 #[.val (.int i0), .val (.int i1)] [(.int (2 : Int32)), (.int i0)])) (fun t k => ?_) ?_
  · refine XS.iloadN X0.here hx rfl (hb hby d3_0) rfl ?_
    show Steps p.tables e below (s₁.setTop (mkF m 1 #[.val (.int i0), .val (.int i1)] [(.int i0)])) _
    refine XS.iconst X0.here hx rfl (hb hby d3_1) ?_
    show Steps p.tables e below (s₁.setTop (mkF m 2 #[.val (.int i0), .val (.int i1)] [(.int (2 : Int32)), (.int i0)])) _
    exact k
  by_cases hc2 : i0 < (2 : Int32)
  · refine Outs.of (U' := s₁.setTop (mkF m 18 #[.val (.int i0), .val (.int i1)] [])) (fun t k => ?_) ?_
    · refine XS.icmpYes X0.here hx rfl (pc0 := 2) (pc' := 18) rfl (hb hby d3_2) rfl (tlt hc2).1 (by decide) (by decide) ?_
      show Steps p.tables e below (s₁.setTop (mkF m 18 #[.val (.int i0), .val (.int i1)] [])) _
      exact k
    refine Outs.of (U' := s₁.setTop (mkF m 19 #[.val (.int i0), .val (.int i1)] [(.int i1)])) (fun t k => ?_) ?_
    · refine XS.iloadN X0.here hx rfl (hb hby d3_18) rfl ?_
      show Steps p.tables e below (s₁.setTop (mkF m 19 #[.val (.int i0), .val (.int i1)] [(.int i1)])) _
      exact k
    exact Outs.retI X0 hx hret (hb hby d3_19) hlk (by decide) (by decide) ⟨congrArg (fun z_ => some (Value.int z_)) (show (F_f3 i0 i1) = i1 from (if_pos hc2)).symm, N0, e0⟩
  · refine Outs.of (U' := s₁.setTop (mkF m 5 #[.val (.int i0), .val (.int i1)] [])) (fun t k => ?_) ?_
    · refine XS.icmpNo X0.here hx rfl (hb hby d3_2) rfl (flt hc2).1 ?_
      show Steps p.tables e below (s₁.setTop (mkF m 5 #[.val (.int i0), .val (.int i1)] [])) _
      exact k
    refine Outs.of (U' := s₁.setTop (mkF m 6 #[.val (.int i0), .val (.int i1)] [(.int i1)])) (fun t k => ?_) ?_
    · refine XS.iloadN X0.here hx rfl (hb hby d3_5) rfl ?_
      show Steps p.tables e below (s₁.setTop (mkF m 6 #[.val (.int i0), .val (.int i1)] [(.int i1)])) _
      exact k
    by_cases hc6 : i1 = (0 : Int32)
    · refine Outs.of (U' := s₁.setTop (mkF m 9 #[.val (.int i0), .val (.int i1)] [])) (fun t k => ?_) ?_
      · refine XS.ifNo X0.here hx rfl (hb hby d3_6) rfl ((if0 _ _).trans (teq hc6).2) ?_
        show Steps p.tables e below (s₁.setTop (mkF m 9 #[.val (.int i0), .val (.int i1)] [])) _
        exact k
      refine Outs.of (U' := s₁.setTop (mkF m 10 #[.val (.int i0), .val (.int i1)] [(.int (1 : Int32))])) (fun t k => ?_) ?_
      · refine XS.iconst X0.here hx rfl (hb hby d3_9) ?_
        show Steps p.tables e below (s₁.setTop (mkF m 10 #[.val (.int i0), .val (.int i1)] [(.int (1 : Int32))])) _
        exact k
      exact Outs.retI X0 hx hret (hb hby d3_10) hlk (by decide) (by decide) ⟨congrArg (fun z_ => some (Value.int z_)) (show (F_f3 i0 i1) = (1 : Int32) from ((if_neg hc2).trans (if_pos hc6))).symm, N0, e0⟩
    · refine Outs.of (U' := s₁.setTop (mkF m 11 #[.val (.int i0), .val (.int i1)] [])) (fun t k => ?_) ?_
      · refine XS.ifYes X0.here hx rfl (pc0 := 6) (pc' := 11) rfl (hb hby d3_6) rfl ((if0 _ _).trans (feq hc6).2) (by decide) (by decide) ?_
        show Steps p.tables e below (s₁.setTop (mkF m 11 #[.val (.int i0), .val (.int i1)] [])) _
        exact k
      refine Outs.of (U' := s₁.setTop (mkF m 13 #[.val (.int i0), .val (.int i1)] [(.int (1 : Int32)), (.int i1)])) (fun t k => ?_) ?_
      · refine XS.iloadN X0.here hx rfl (hb hby d3_11) rfl ?_
        show Steps p.tables e below (s₁.setTop (mkF m 12 #[.val (.int i0), .val (.int i1)] [(.int i1)])) _
        refine XS.iconst X0.here hx rfl (hb hby d3_12) ?_
        show Steps p.tables e below (s₁.setTop (mkF m 13 #[.val (.int i0), .val (.int i1)] [(.int (1 : Int32)), (.int i1)])) _
        exact k
      by_cases hc13 : i1 = (1 : Int32)
      · refine Outs.of (U' := s₁.setTop (mkF m 16 #[.val (.int i0), .val (.int i1)] [])) (fun t k => ?_) ?_
        · refine XS.icmpNo X0.here hx rfl (hb hby d3_13) rfl (teq hc13).2 ?_
          show Steps p.tables e below (s₁.setTop (mkF m 16 #[.val (.int i0), .val (.int i1)] [])) _
          exact k
        refine Outs.of (U' := s₁.setTop (mkF m 17 #[.val (.int i0), .val (.int i1)] [(.int (0 : Int32))])) (fun t k => ?_) ?_
        · refine XS.iconst X0.here hx rfl (hb hby d3_16) ?_
          show Steps p.tables e below (s₁.setTop (mkF m 17 #[.val (.int i0), .val (.int i1)] [(.int (0 : Int32))])) _
          exact k
        exact Outs.retI X0 hx hret (hb hby d3_17) hlk (by decide) (by decide) ⟨congrArg (fun z_ => some (Value.int z_)) (show (F_f3 i0 i1) = (0 : Int32) from ((if_neg hc2).trans ((if_neg hc6).trans (if_pos hc13)))).symm, N0, e0⟩
      · refine Outs.of (U' := s₁.setTop (mkF m 18 #[.val (.int i0), .val (.int i1)] [])) (fun t k => ?_) ?_
        · refine XS.icmpYes X0.here hx rfl (pc0 := 13) (pc' := 18) rfl (hb hby d3_13) rfl (feq hc13).2 (by decide) (by decide) ?_
          show Steps p.tables e below (s₁.setTop (mkF m 18 #[.val (.int i0), .val (.int i1)] [])) _
          exact k
        refine Outs.of (U' := s₁.setTop (mkF m 19 #[.val (.int i0), .val (.int i1)] [(.int i1)])) (fun t k => ?_) ?_
        · refine XS.iloadN X0.here hx rfl (hb hby d3_18) rfl ?_
          show Steps p.tables e below (s₁.setTop (mkF m 19 #[.val (.int i0), .val (.int i1)] [(.int i1)])) _
          exact k
        exact Outs.retI X0 hx hret (hb hby d3_19) hlk (by decide) (by decide) ⟨congrArg (fun z_ => some (Value.int z_)) (show (F_f3 i0 i1) = i1 from ((if_neg hc2).trans ((if_neg hc6).trans (if_neg hc13)))).symm, N0, e0⟩
def f0_v20 (i0 : Int32) (i1 : Int32) (i2 : Int32) : Int32 := (F_f2 (F_f1 i0 i1) ((i2 &&& (2147483647 : Int32)) % (F_f1 i0 i1)))
def f0_24_s0 (i0 : Int32) (i1 : Int32) (i2 : Int32) : Int32 := (if (f0_v20 i0 i1 i2) < (0 : Int32) then (0 : Int32) else (if (f0_v20 i0 i1 i2) < (F_f1 i0 i1) then (1 : Int32) else (0 : Int32)))
def f0_48_s0 (i0 : Int32) (i1 : Int32) (i2 : Int32) : Int32 := (if (f0_v20 i0 i1 i2) = (F_f3 (F_f1 i0 i1) ((i2 &&& (2147483647 : Int32)) % (F_f1 i0 i1))) then (1 : Int32) else (0 : Int32))
def f0_66_s0 (i0 : Int32) (i1 : Int32) (i2 : Int32) : Int32 := (if (F_f2 (F_f1 i0 i1) (f0_v20 i0 i1 i2)) = ((i2 &&& (2147483647 : Int32)) % (F_f1 i0 i1)) then (1 : Int32) else (0 : Int32))
def f0_78_s0 (i0 : Int32) (i1 : Int32) (i2 : Int32) : Int32 := (if (f0_24_s0 i0 i1 i2) = (0 : Int32) then (0 : Int32) else (if (f0_48_s0 i0 i1 i2) = (0 : Int32) then (0 : Int32) else (if (f0_66_s0 i0 i1 i2) = (0 : Int32) then (0 : Int32) else (1 : Int32))))
theorem own_size (i0 i1 : Int32) : 1 ≤ (F_f1 i0 i1).toInt := by
  have h1 : (1 : Int32).toInt = 1 := by decide
  have h2 : (2 : Int32).toInt = 2 := by decide
  unfold F_f1
  split
  · omega
  · split
    · omega
    · split
      · have a := c_mask i1 7 3 (by decide) (by decide)
        have b := c_iadd 1 (i1 &&& 7)
        have r := rng32 (1 + (i1 &&& 7))
        omega
      · have a := c_mask i1 2147483647 31 (by decide) (by decide)
        have d : (2147483647 : Int32).toInt = 2147483647 := by decide
        have m := (c_irem (i1 &&& 2147483647) 2147483647 2147483647 d).1
        have b := c_iadd 1 ((i1 &&& 2147483647) % 2147483647)
        have r := rng32 (1 + ((i1 &&& 2147483647) % 2147483647))
        have r2 := rng32 ((i1 &&& 2147483647) % 2147483647)
        omega
theorem size_nz (i0 i1 : Int32) : F_f1 i0 i1 ≠ 0 := fun q => by
  have := own_size i0 i1
  rw [q] at this
  exact absurd this (by decide)
theorem own_stored (n i : Int32) (hn : 1 ≤ n.toInt) (h0 : 0 ≤ i.toInt) (h1 : i.toInt < n.toInt) :
    ¬ F_f2 n i < 0 ∧ F_f2 n i < n ∧ F_f2 n i = F_f3 n i ∧ F_f2 n (F_f2 n i) = i := by
  have k0 : (0 : Int32).toInt = 0 := by decide
  have k1 : (1 : Int32).toInt = 1 := by decide
  have k2 : (2 : Int32).toInt = 2 := by decide
  by_cases p : n = 1
  · have e : F_f2 n i = i := by unfold F_f2 f2_2_s0; rw [if_pos p]
    rw [e, e]
    have e3 : F_f3 n i = i := by
      unfold F_f3
      rw [if_pos (by rw [p]; decide)]
    rw [e3]
    refine ⟨?_, ?_, rfl, rfl⟩
    · rw [Int32.lt_iff_toInt_lt]; omega
    · rw [Int32.lt_iff_toInt_lt]; omega
  · have p2 : ¬ n < 2 := by
      rw [Int32.lt_iff_toInt_lt]
      intro q
      apply p
      apply Int32.toInt_inj.mp
      omega
    by_cases q : (1 : Int32) < i
    · have e : F_f2 n i = i := by unfold F_f2 f2_2_s0; rw [if_neg p, if_pos q]
      rw [e, e]
      rw [Int32.lt_iff_toInt_lt] at q
      have e3 : F_f3 n i = i := by
        unfold F_f3
        rw [if_neg p2, if_neg (fun w => by rw [w] at q; omega), if_neg (fun w => by rw [w] at q; omega)]
      rw [e3]
      refine ⟨?_, ?_, rfl, rfl⟩
      · rw [Int32.lt_iff_toInt_lt]; omega
      · rw [Int32.lt_iff_toInt_lt]; omega
    · rw [Int32.lt_iff_toInt_lt] at q p2
      have c : i = 0 ∨ i = 1 := by
        rcases (by omega : i.toInt = 0 ∨ i.toInt = 1) with w | w
        · exact Or.inl (Int32.toInt_inj.mp (by omega))
        · exact Or.inr (Int32.toInt_inj.mp (by omega))
      have p2' : ¬ n < 2 := by rw [Int32.lt_iff_toInt_lt]; omega
      have a0 : F_f2 n 0 = 1 := by unfold F_f2 f2_2_s0; rw [if_neg p, if_neg (by decide)]; rfl
      have a1 : F_f2 n 1 = 0 := by unfold F_f2 f2_2_s0; rw [if_neg p, if_neg (by decide)]; rfl
      rcases c with rfl | rfl
      · rw [a0, a1]
        refine ⟨by decide, by rw [Int32.lt_iff_toInt_lt]; omega, ?_, rfl⟩
        unfold F_f3; rw [if_neg p2', if_pos rfl]
      · rw [a1, a0]
        refine ⟨by decide, by rw [Int32.lt_iff_toInt_lt]; omega, ?_, rfl⟩
        unfold F_f3; rw [if_neg p2', if_neg (by decide), if_pos rfl]
theorem law_true (i0 i1 i2 : Int32) : nar .boolean (f0_78_s0 i0 i1 i2) = 1 := by
  have hn := own_size i0 i1
  have a := c_mask i2 2147483647 31 (by decide) (by decide)
  have m := (c_iremV (i2 &&& 2147483647) (F_f1 i0 i1)).1 (by omega) (by omega)
  obtain ⟨h1, h2, h3, h4⟩ := own_stored (F_f1 i0 i1) ((i2 &&& 2147483647) % F_f1 i0 i1) hn m.1 m.2.1
  have e1 : f0_24_s0 i0 i1 i2 = 1 := by unfold f0_24_s0 f0_v20; rw [if_neg h1, if_pos h2]
  have e2 : f0_48_s0 i0 i1 i2 = 1 := by unfold f0_48_s0 f0_v20; rw [if_pos h3]
  have e3 : f0_66_s0 i0 i1 i2 = 1 := by unfold f0_66_s0 f0_v20; rw [if_pos h4]
  unfold f0_78_s0
  rw [e1, e2, e3]; rfl
theorem ef_0 (m : MethodId) (x0 : Int32) (x1 : Int32) (x2 : Int32) : entryFrame m #[(.int x0), (.int x1), (.int x2)] maxLocals = mkF m 0 #[.val (.int x0), .val (.int x1), .val (.int x2), .unset, .unset, .unset, .unset, .unset, .unset] [] := by first | (simp [entryFrame, mkF, argsToLocals, Value.category, maxLocals]; done) | rfl
theorem pd_0 : parseMethodDescriptor "(II)I" = some ⟨[.int, .int], some .int⟩ := by decide +kernel
set_option maxRecDepth 65536 in
set_option maxHeartbeats 40000000 in
theorem rm0 (l : Launch) (Z : State) (a0 : Array Value) (hw : ∀ d ∈ tables_1, d.before a0 Z = true) (ws : List Jvm.Cond) (i0 : Int32) (i1 : Int32) (i2 : Int32)  (h0 : Heap) (n0 : Nat)  :
    MetFree l x (head1 (Jvm.Cond.code x code maxLocals ret :: ws) room_1) (fun a U => a = #[(.int i0), (.int i1), (.int i2)] ∧ Z.Warmed39 U.vm ∧ U.heap = h0) (fun _ _ _ _ _ => True) (fun _ U o U' => ∃ v L, o = .returned v ∧ QL n0 v U'.heap L ∧ FrameEnd U o U' L room_1.cells room_1.slots) := by
  refine MetFree.of_bodySF (plainFor_of_name pn_0) hisR ?_
  intro p e s m args below meth c s₁ Bd hml0 hP hK
  obtain ⟨rfl, hZ, hh⟩ := hP
  have hx := Bd.exec
  have hby := Bd.bytes
  have hml : c.maxLocals = 9 := hml0
  have hown : s.vm.findClass "com/example/knotwork/knotwork/store/GroupStoredPinLaw" = some m.cls := findClass_of_methodNamed Bd.named
  have hnm := (name_of_methodNamed Bd.named Bd.method).1
  have hret := Bd.returns
  have hlk : meth.locks = false := BodyLoose.notSynchronized Bd
  have X0 : Stand p l e room_1 s m #[(.int i0), (.int i1), (.int i2)] below meth c s₁ [] 0 0 := Stand.of_body Bd
  have e0 : s₁.heap = h0 := by rw [← hh, Bd.state]; rfl
  have N0 := Fr.nil n0
  show Outs p e below s (QL n0) _ _ _
  refine Outs.of (U' := s₁.setTop (mkF m 0 #[.val (.int i0), .val (.int i1), .val (.int i2), .unset, .unset, .unset, .unset, .unset, .unset] [])) (fun t k => castTop (ef_0 m i0 i1 i2) k) ?_
  refine Outs.of (U' := s₁.setTop (mkF m 2 #[.val (.int i0), .val (.int i1), .val (.int i2), .unset, .unset, .unset, .unset, .unset, .unset] [(.int i1), (.int i0)])) (fun t k => ?_) ?_
  · refine XS.iloadN X0.here hx rfl (hb hby at_0) rfl ?_
    show Steps p.tables e below (s₁.setTop (mkF m 1 #[.val (.int i0), .val (.int i1), .val (.int i2), .unset, .unset, .unset, .unset, .unset, .unset] [(.int i0)])) _
    refine XS.iloadN X0.here hx rfl (hb hby at_1) rfl ?_
    show Steps p.tables e below (s₁.setTop (mkF m 2 #[.val (.int i0), .val (.int i1), .val (.int i2), .unset, .unset, .unset, .unset, .unset, .unset] [(.int i1), (.int i0)])) _
    exact k
  obtain ⟨_, _, ⟨T1, L1, k1, n1⟩, -, X1, ⟨Lc1, hQ1, l1, y1, z1⟩, st1⟩ := Jvm.LawKit.callS X0 hx (y := (⟨"com/example/knotwork/knotwork/store/GroupStoredPinLaw", "sizeOf", "(II)I"⟩ : MethodName)) hown (mvT hZ (hw _ (List.mem_of_getElem? (i := 0) rfl))) (mvT hZ (hw _ (List.mem_of_getElem? (i := 1) rfl))) (mvT hZ (hw _ (List.mem_of_getElem? (i := 2) rfl))) (mvT hZ (hw _ (List.mem_of_getElem? (i := 3) rfl))) (by decide) (backOf (W := 0) (rm1 l Z a0 hw [] i0 i1 h0 n0 ) hZ (hw _ (List.mem_of_getElem? (i := 3) rfl)) (hw _ (List.mem_of_getElem? (i := 2) rfl)) (by decide) (by decide)) (g := (mkF m 2 #[.val (.int i0), .val (.int i1), .val (.int i2), .unset, .unset, .unset, .unset, .unset, .unset] [(.int i1), (.int i0)])) rfl (by rw [hml]; rfl) (argsL := [(.int i0), (.int i1)]) (rest := []) (lenOf pd_0 rfl) rfl (by show 2 * 0 + _ ≤ _; exact Nat.le_of_eq rfl) (hb hby at_2) (fun _ _ => ⟨rfl, e0, (by decide : 0 + 0 ≤ _), (by decide : 0 + 0 ≤ _)⟩)
  dsimp only [Pt.U, Pt.locs, Pt.cells, Pt.slots] at X1 l1 y1 z1 st1 hQ1
  subst l1 y1 z1
  obtain ⟨rfl, N1q, e1⟩ := hQ1
  have N1 := Fr.app N0 N1q
  refine Outs.of st1 ?_
  show Outs p e below s _ _ _ (T1.setTop (mkF m 5 #[.val (.int i0), .val (.int i1), .val (.int i2), .unset, .unset, .unset, .unset, .unset, .unset] [(.int (F_f1 i0 i1))]))
  refine Outs.of (U' := T1.setTop (mkF m 17 #[.val (.int i0), .val (.int i1), .val (.int i2), .val (.int (F_f1 i0 i1)), .val (.int ((i2 &&& (2147483647 : Int32)) % (F_f1 i0 i1))), .unset, .unset, .unset, .unset] [(.int ((i2 &&& (2147483647 : Int32)) % (F_f1 i0 i1))), (.int (F_f1 i0 i1))])) (fun t k => ?_) ?_
  · refine XS.istoreN X1.here hx rfl (hb hby at_5) rfl (l' := #[.val (.int i0), .val (.int i1), .val (.int i2), .val (.int (F_f1 i0 i1)), .unset, .unset, .unset, .unset, .unset]) rfl ?_
    show Steps p.tables e below (T1.setTop (mkF m 6 #[.val (.int i0), .val (.int i1), .val (.int i2), .val (.int (F_f1 i0 i1)), .unset, .unset, .unset, .unset, .unset] [])) _
    refine XS.iloadN X1.here hx rfl (hb hby at_6) rfl ?_
    show Steps p.tables e below (T1.setTop (mkF m 7 #[.val (.int i0), .val (.int i1), .val (.int i2), .val (.int (F_f1 i0 i1)), .unset, .unset, .unset, .unset, .unset] [(.int i2)])) _
    refine X1.ldcInt hx hown (mvT hZ (hw _ (List.mem_of_getElem? (i := 4) rfl))) (g := (mkF m 7 #[.val (.int i0), .val (.int i1), .val (.int i2), .val (.int (F_f1 i0 i1)), .unset, .unset, .unset, .unset, .unset] [(.int i2)])) rfl (hb hby at_7) _ ?_
    show Steps p.tables e below (T1.setTop (mkF m 9 #[.val (.int i0), .val (.int i1), .val (.int i2), .val (.int (F_f1 i0 i1)), .unset, .unset, .unset, .unset, .unset] [(.int (2147483647 : Int32)), (.int i2)])) _
    refine XS.iand X1.here hx rfl (hb hby at_9) rfl ?_
    show Steps p.tables e below (T1.setTop (mkF m 10 #[.val (.int i0), .val (.int i1), .val (.int i2), .val (.int (F_f1 i0 i1)), .unset, .unset, .unset, .unset, .unset] [(.int (i2 &&& (2147483647 : Int32)))])) _
    refine XS.iloadN X1.here hx rfl (hb hby at_10) rfl ?_
    show Steps p.tables e below (T1.setTop (mkF m 11 #[.val (.int i0), .val (.int i1), .val (.int i2), .val (.int (F_f1 i0 i1)), .unset, .unset, .unset, .unset, .unset] [(.int (F_f1 i0 i1)), (.int (i2 &&& (2147483647 : Int32)))])) _
    refine iremM X1 hx rfl (hb hby at_11) rfl (size_nz i0 i1) ?_
    show Steps p.tables e below (T1.setTop (mkF m 12 #[.val (.int i0), .val (.int i1), .val (.int i2), .val (.int (F_f1 i0 i1)), .unset, .unset, .unset, .unset, .unset] [(.int ((i2 &&& (2147483647 : Int32)) % (F_f1 i0 i1)))])) _
    refine XS.istore X1.here hx rfl (hb hby at_12) rfl (l' := #[.val (.int i0), .val (.int i1), .val (.int i2), .val (.int (F_f1 i0 i1)), .val (.int ((i2 &&& (2147483647 : Int32)) % (F_f1 i0 i1))), .unset, .unset, .unset, .unset]) rfl ?_
    show Steps p.tables e below (T1.setTop (mkF m 14 #[.val (.int i0), .val (.int i1), .val (.int i2), .val (.int (F_f1 i0 i1)), .val (.int ((i2 &&& (2147483647 : Int32)) % (F_f1 i0 i1))), .unset, .unset, .unset, .unset] [])) _
    refine XS.iloadN X1.here hx rfl (hb hby at_14) rfl ?_
    show Steps p.tables e below (T1.setTop (mkF m 15 #[.val (.int i0), .val (.int i1), .val (.int i2), .val (.int (F_f1 i0 i1)), .val (.int ((i2 &&& (2147483647 : Int32)) % (F_f1 i0 i1))), .unset, .unset, .unset, .unset] [(.int (F_f1 i0 i1))])) _
    refine XS.iload X1.here hx rfl (hb hby at_15) rfl ?_
    show Steps p.tables e below (T1.setTop (mkF m 17 #[.val (.int i0), .val (.int i1), .val (.int i2), .val (.int (F_f1 i0 i1)), .val (.int ((i2 &&& (2147483647 : Int32)) % (F_f1 i0 i1))), .unset, .unset, .unset, .unset] [(.int ((i2 &&& (2147483647 : Int32)) % (F_f1 i0 i1))), (.int (F_f1 i0 i1))])) _
    exact k
  obtain ⟨_, _, ⟨T2, L2, k2, n2⟩, -, X2, ⟨Lc2, hQ2, l2, y2, z2⟩, st2⟩ := Jvm.LawKit.callS X1 hx (y := (⟨"com/example/knotwork/knotwork/store/Group", "stored", "(II)I"⟩ : MethodName)) hown (mvT hZ (hw _ (List.mem_of_getElem? (i := 5) rfl))) (mvT hZ (hw _ (List.mem_of_getElem? (i := 6) rfl))) (mvT hZ (hw _ (List.mem_of_getElem? (i := 7) rfl))) (mvT hZ (hw _ (List.mem_of_getElem? (i := 8) rfl))) (by decide) (backOf (W := 0) (rm2 l Z a0 hw [] (F_f1 i0 i1) ((i2 &&& (2147483647 : Int32)) % (F_f1 i0 i1)) h0 n0 ) hZ (hw _ (List.mem_of_getElem? (i := 8) rfl)) (hw _ (List.mem_of_getElem? (i := 7) rfl)) (by decide) (by decide)) (g := (mkF m 17 #[.val (.int i0), .val (.int i1), .val (.int i2), .val (.int (F_f1 i0 i1)), .val (.int ((i2 &&& (2147483647 : Int32)) % (F_f1 i0 i1))), .unset, .unset, .unset, .unset] [(.int ((i2 &&& (2147483647 : Int32)) % (F_f1 i0 i1))), (.int (F_f1 i0 i1))])) rfl (by rw [hml]; rfl) (argsL := [(.int (F_f1 i0 i1)), (.int ((i2 &&& (2147483647 : Int32)) % (F_f1 i0 i1)))]) (rest := []) (lenOf pd_0 rfl) rfl (by show 2 * 0 + _ ≤ _; exact Nat.le_of_eq rfl) (hb hby at_17) (fun _ _ => ⟨rfl, e1, (by decide : 0 + 0 ≤ _), (by decide : 0 + 0 ≤ _)⟩)
  dsimp only [Pt.U, Pt.locs, Pt.cells, Pt.slots] at X2 l2 y2 z2 st2 hQ2
  subst l2 y2 z2
  obtain ⟨rfl, N2q, e2⟩ := hQ2
  have N2 := Fr.app N1 N2q
  refine Outs.of st2 ?_
  show Outs p e below s _ _ _ (T2.setTop (mkF m 20 #[.val (.int i0), .val (.int i1), .val (.int i2), .val (.int (F_f1 i0 i1)), .val (.int ((i2 &&& (2147483647 : Int32)) % (F_f1 i0 i1))), .unset, .unset, .unset, .unset] [(.int (F_f2 (F_f1 i0 i1) ((i2 &&& (2147483647 : Int32)) % (F_f1 i0 i1))))]))
  refine Outs.of (U' := T2.setTop (mkF m 38 #[.val (.int i0), .val (.int i1), .val (.int i2), .val (.int (F_f1 i0 i1)), .val (.int ((i2 &&& (2147483647 : Int32)) % (F_f1 i0 i1))), .val (.int (f0_v20 i0 i1 i2)), .unset, .unset, .unset] [(.int (f0_24_s0 i0 i1 i2))])) (fun t k => ?_) ?_
  · refine XS.istore X2.here hx rfl (hb hby at_20) rfl (l' := #[.val (.int i0), .val (.int i1), .val (.int i2), .val (.int (F_f1 i0 i1)), .val (.int ((i2 &&& (2147483647 : Int32)) % (F_f1 i0 i1))), .val (.int (f0_v20 i0 i1 i2)), .unset, .unset, .unset]) rfl ?_
    show Steps p.tables e below (T2.setTop (mkF m 22 #[.val (.int i0), .val (.int i1), .val (.int i2), .val (.int (F_f1 i0 i1)), .val (.int ((i2 &&& (2147483647 : Int32)) % (F_f1 i0 i1))), .val (.int (f0_v20 i0 i1 i2)), .unset, .unset, .unset] [])) _
    refine XS.iload X2.here hx rfl (hb hby at_22) rfl ?_
    show Steps p.tables e below (T2.setTop (mkF m 24 #[.val (.int i0), .val (.int i1), .val (.int i2), .val (.int (F_f1 i0 i1)), .val (.int ((i2 &&& (2147483647 : Int32)) % (F_f1 i0 i1))), .val (.int (f0_v20 i0 i1 i2)), .unset, .unset, .unset] [(.int (f0_v20 i0 i1 i2))])) _
    by_cases hc24 : (f0_v20 i0 i1 i2) < (0 : Int32)
    · refine XS.ifYes X2.here hx rfl (pc0 := 24) (pc' := 37) rfl (hb hby at_24) rfl ((if0 _ _).trans (tlt hc24).1) (by decide) (by decide) ?_
      show Steps p.tables e below (T2.setTop (mkF m 37 #[.val (.int i0), .val (.int i1), .val (.int i2), .val (.int (F_f1 i0 i1)), .val (.int ((i2 &&& (2147483647 : Int32)) % (F_f1 i0 i1))), .val (.int (f0_v20 i0 i1 i2)), .unset, .unset, .unset] [])) _
      refine XS.iconst X2.here hx rfl (hb hby at_37) ?_
      show Steps p.tables e below (T2.setTop (mkF m 38 #[.val (.int i0), .val (.int i1), .val (.int i2), .val (.int (F_f1 i0 i1)), .val (.int ((i2 &&& (2147483647 : Int32)) % (F_f1 i0 i1))), .val (.int (f0_v20 i0 i1 i2)), .unset, .unset, .unset] [(.int (0 : Int32))])) _
      rw [show (f0_24_s0 i0 i1 i2) = (0 : Int32) from (if_pos hc24)] at k
      exact k
    · refine XS.ifNo X2.here hx rfl (hb hby at_24) rfl ((if0 _ _).trans (flt hc24).1) ?_
      show Steps p.tables e below (T2.setTop (mkF m 27 #[.val (.int i0), .val (.int i1), .val (.int i2), .val (.int (F_f1 i0 i1)), .val (.int ((i2 &&& (2147483647 : Int32)) % (F_f1 i0 i1))), .val (.int (f0_v20 i0 i1 i2)), .unset, .unset, .unset] [])) _
      refine XS.iload X2.here hx rfl (hb hby at_27) rfl ?_
      show Steps p.tables e below (T2.setTop (mkF m 29 #[.val (.int i0), .val (.int i1), .val (.int i2), .val (.int (F_f1 i0 i1)), .val (.int ((i2 &&& (2147483647 : Int32)) % (F_f1 i0 i1))), .val (.int (f0_v20 i0 i1 i2)), .unset, .unset, .unset] [(.int (f0_v20 i0 i1 i2))])) _
      refine XS.iloadN X2.here hx rfl (hb hby at_29) rfl ?_
      show Steps p.tables e below (T2.setTop (mkF m 30 #[.val (.int i0), .val (.int i1), .val (.int i2), .val (.int (F_f1 i0 i1)), .val (.int ((i2 &&& (2147483647 : Int32)) % (F_f1 i0 i1))), .val (.int (f0_v20 i0 i1 i2)), .unset, .unset, .unset] [(.int (F_f1 i0 i1)), (.int (f0_v20 i0 i1 i2))])) _
      by_cases hc30 : (f0_v20 i0 i1 i2) < (F_f1 i0 i1)
      · refine XS.icmpNo X2.here hx rfl (hb hby at_30) rfl (tlt hc30).2.1 ?_
        show Steps p.tables e below (T2.setTop (mkF m 33 #[.val (.int i0), .val (.int i1), .val (.int i2), .val (.int (F_f1 i0 i1)), .val (.int ((i2 &&& (2147483647 : Int32)) % (F_f1 i0 i1))), .val (.int (f0_v20 i0 i1 i2)), .unset, .unset, .unset] [])) _
        refine XS.iconst X2.here hx rfl (hb hby at_33) ?_
        show Steps p.tables e below (T2.setTop (mkF m 34 #[.val (.int i0), .val (.int i1), .val (.int i2), .val (.int (F_f1 i0 i1)), .val (.int ((i2 &&& (2147483647 : Int32)) % (F_f1 i0 i1))), .val (.int (f0_v20 i0 i1 i2)), .unset, .unset, .unset] [(.int (1 : Int32))])) _
        refine XS.goto X2.here hx rfl (pc0 := 34) (pc' := 38) rfl (hb hby at_34) (by decide) (by decide) ?_
        show Steps p.tables e below (T2.setTop (mkF m 38 #[.val (.int i0), .val (.int i1), .val (.int i2), .val (.int (F_f1 i0 i1)), .val (.int ((i2 &&& (2147483647 : Int32)) % (F_f1 i0 i1))), .val (.int (f0_v20 i0 i1 i2)), .unset, .unset, .unset] [(.int (1 : Int32))])) _
        rw [show (f0_24_s0 i0 i1 i2) = (1 : Int32) from ((if_neg hc24).trans (if_pos hc30))] at k
        exact k
      · refine XS.icmpYes X2.here hx rfl (pc0 := 30) (pc' := 37) rfl (hb hby at_30) rfl (flt hc30).2.1 (by decide) (by decide) ?_
        show Steps p.tables e below (T2.setTop (mkF m 37 #[.val (.int i0), .val (.int i1), .val (.int i2), .val (.int (F_f1 i0 i1)), .val (.int ((i2 &&& (2147483647 : Int32)) % (F_f1 i0 i1))), .val (.int (f0_v20 i0 i1 i2)), .unset, .unset, .unset] [])) _
        refine XS.iconst X2.here hx rfl (hb hby at_37) ?_
        show Steps p.tables e below (T2.setTop (mkF m 38 #[.val (.int i0), .val (.int i1), .val (.int i2), .val (.int (F_f1 i0 i1)), .val (.int ((i2 &&& (2147483647 : Int32)) % (F_f1 i0 i1))), .val (.int (f0_v20 i0 i1 i2)), .unset, .unset, .unset] [(.int (0 : Int32))])) _
        rw [show (f0_24_s0 i0 i1 i2) = (0 : Int32) from ((if_neg hc24).trans (if_neg hc30))] at k
        exact k
  refine Outs.of (U' := T2.setTop (mkF m 45 #[.val (.int i0), .val (.int i1), .val (.int i2), .val (.int (F_f1 i0 i1)), .val (.int ((i2 &&& (2147483647 : Int32)) % (F_f1 i0 i1))), .val (.int (f0_v20 i0 i1 i2)), .val (.int (f0_24_s0 i0 i1 i2)), .unset, .unset] [(.int ((i2 &&& (2147483647 : Int32)) % (F_f1 i0 i1))), (.int (F_f1 i0 i1)), (.int (f0_v20 i0 i1 i2))])) (fun t k => ?_) ?_
  · refine XS.istore X2.here hx rfl (hb hby at_38) rfl (l' := #[.val (.int i0), .val (.int i1), .val (.int i2), .val (.int (F_f1 i0 i1)), .val (.int ((i2 &&& (2147483647 : Int32)) % (F_f1 i0 i1))), .val (.int (f0_v20 i0 i1 i2)), .val (.int (f0_24_s0 i0 i1 i2)), .unset, .unset]) rfl ?_
    show Steps p.tables e below (T2.setTop (mkF m 40 #[.val (.int i0), .val (.int i1), .val (.int i2), .val (.int (F_f1 i0 i1)), .val (.int ((i2 &&& (2147483647 : Int32)) % (F_f1 i0 i1))), .val (.int (f0_v20 i0 i1 i2)), .val (.int (f0_24_s0 i0 i1 i2)), .unset, .unset] [])) _
    refine XS.iload X2.here hx rfl (hb hby at_40) rfl ?_
    show Steps p.tables e below (T2.setTop (mkF m 42 #[.val (.int i0), .val (.int i1), .val (.int i2), .val (.int (F_f1 i0 i1)), .val (.int ((i2 &&& (2147483647 : Int32)) % (F_f1 i0 i1))), .val (.int (f0_v20 i0 i1 i2)), .val (.int (f0_24_s0 i0 i1 i2)), .unset, .unset] [(.int (f0_v20 i0 i1 i2))])) _
    refine XS.iloadN X2.here hx rfl (hb hby at_42) rfl ?_
    show Steps p.tables e below (T2.setTop (mkF m 43 #[.val (.int i0), .val (.int i1), .val (.int i2), .val (.int (F_f1 i0 i1)), .val (.int ((i2 &&& (2147483647 : Int32)) % (F_f1 i0 i1))), .val (.int (f0_v20 i0 i1 i2)), .val (.int (f0_24_s0 i0 i1 i2)), .unset, .unset] [(.int (F_f1 i0 i1)), (.int (f0_v20 i0 i1 i2))])) _
    refine XS.iload X2.here hx rfl (hb hby at_43) rfl ?_
    show Steps p.tables e below (T2.setTop (mkF m 45 #[.val (.int i0), .val (.int i1), .val (.int i2), .val (.int (F_f1 i0 i1)), .val (.int ((i2 &&& (2147483647 : Int32)) % (F_f1 i0 i1))), .val (.int (f0_v20 i0 i1 i2)), .val (.int (f0_24_s0 i0 i1 i2)), .unset, .unset] [(.int ((i2 &&& (2147483647 : Int32)) % (F_f1 i0 i1))), (.int (F_f1 i0 i1)), (.int (f0_v20 i0 i1 i2))])) _
    exact k
  obtain ⟨_, _, ⟨T3, L3, k3, n3⟩, -, X3, ⟨Lc3, hQ3, l3, y3, z3⟩, st3⟩ := Jvm.LawKit.callS X2 hx (y := (⟨"com/example/knotwork/knotwork/store/GroupStoredPinLaw", "expected", "(II)I"⟩ : MethodName)) hown (mvT hZ (hw _ (List.mem_of_getElem? (i := 9) rfl))) (mvT hZ (hw _ (List.mem_of_getElem? (i := 10) rfl))) (mvT hZ (hw _ (List.mem_of_getElem? (i := 2) rfl))) (mvT hZ (hw _ (List.mem_of_getElem? (i := 11) rfl))) (by decide) (backOf (W := 1) (rm3 l Z a0 hw [] (F_f1 i0 i1) ((i2 &&& (2147483647 : Int32)) % (F_f1 i0 i1)) h0 n0 ) hZ (hw _ (List.mem_of_getElem? (i := 11) rfl)) (hw _ (List.mem_of_getElem? (i := 2) rfl)) (by decide) (by decide)) (g := (mkF m 45 #[.val (.int i0), .val (.int i1), .val (.int i2), .val (.int (F_f1 i0 i1)), .val (.int ((i2 &&& (2147483647 : Int32)) % (F_f1 i0 i1))), .val (.int (f0_v20 i0 i1 i2)), .val (.int (f0_24_s0 i0 i1 i2)), .unset, .unset] [(.int ((i2 &&& (2147483647 : Int32)) % (F_f1 i0 i1))), (.int (F_f1 i0 i1)), (.int (f0_v20 i0 i1 i2))])) rfl (by rw [hml]; rfl) (argsL := [(.int (F_f1 i0 i1)), (.int ((i2 &&& (2147483647 : Int32)) % (F_f1 i0 i1)))]) (rest := [(.int (f0_v20 i0 i1 i2))]) (lenOf pd_0 rfl) rfl (by show 2 * 0 + _ ≤ _; exact Nat.le_of_eq rfl) (hb hby at_45) (fun _ _ => ⟨rfl, e2, (by decide : 0 + 0 ≤ _), (by decide : 0 + 0 ≤ _)⟩)
  dsimp only [Pt.U, Pt.locs, Pt.cells, Pt.slots] at X3 l3 y3 z3 st3 hQ3
  subst l3 y3 z3
  obtain ⟨rfl, N3q, e3⟩ := hQ3
  have N3 := Fr.app N2 N3q
  refine Outs.of st3 ?_
  show Outs p e below s _ _ _ (T3.setTop (mkF m 48 #[.val (.int i0), .val (.int i1), .val (.int i2), .val (.int (F_f1 i0 i1)), .val (.int ((i2 &&& (2147483647 : Int32)) % (F_f1 i0 i1))), .val (.int (f0_v20 i0 i1 i2)), .val (.int (f0_24_s0 i0 i1 i2)), .unset, .unset] [(.int (F_f3 (F_f1 i0 i1) ((i2 &&& (2147483647 : Int32)) % (F_f1 i0 i1)))), (.int (f0_v20 i0 i1 i2))]))
  refine Outs.of (U' := T3.setTop (mkF m 56 #[.val (.int i0), .val (.int i1), .val (.int i2), .val (.int (F_f1 i0 i1)), .val (.int ((i2 &&& (2147483647 : Int32)) % (F_f1 i0 i1))), .val (.int (f0_v20 i0 i1 i2)), .val (.int (f0_24_s0 i0 i1 i2)), .unset, .unset] [(.int (f0_48_s0 i0 i1 i2))])) (fun t k => ?_) ?_
  · by_cases hc48 : (f0_v20 i0 i1 i2) = (F_f3 (F_f1 i0 i1) ((i2 &&& (2147483647 : Int32)) % (F_f1 i0 i1)))
    · refine XS.icmpNo X3.here hx rfl (hb hby at_48) rfl (teq hc48).2 ?_
      show Steps p.tables e below (T3.setTop (mkF m 51 #[.val (.int i0), .val (.int i1), .val (.int i2), .val (.int (F_f1 i0 i1)), .val (.int ((i2 &&& (2147483647 : Int32)) % (F_f1 i0 i1))), .val (.int (f0_v20 i0 i1 i2)), .val (.int (f0_24_s0 i0 i1 i2)), .unset, .unset] [])) _
      refine XS.iconst X3.here hx rfl (hb hby at_51) ?_
      show Steps p.tables e below (T3.setTop (mkF m 52 #[.val (.int i0), .val (.int i1), .val (.int i2), .val (.int (F_f1 i0 i1)), .val (.int ((i2 &&& (2147483647 : Int32)) % (F_f1 i0 i1))), .val (.int (f0_v20 i0 i1 i2)), .val (.int (f0_24_s0 i0 i1 i2)), .unset, .unset] [(.int (1 : Int32))])) _
      refine XS.goto X3.here hx rfl (pc0 := 52) (pc' := 56) rfl (hb hby at_52) (by decide) (by decide) ?_
      show Steps p.tables e below (T3.setTop (mkF m 56 #[.val (.int i0), .val (.int i1), .val (.int i2), .val (.int (F_f1 i0 i1)), .val (.int ((i2 &&& (2147483647 : Int32)) % (F_f1 i0 i1))), .val (.int (f0_v20 i0 i1 i2)), .val (.int (f0_24_s0 i0 i1 i2)), .unset, .unset] [(.int (1 : Int32))])) _
      rw [show (f0_48_s0 i0 i1 i2) = (1 : Int32) from (if_pos hc48)] at k
      exact k
    · refine XS.icmpYes X3.here hx rfl (pc0 := 48) (pc' := 55) rfl (hb hby at_48) rfl (feq hc48).2 (by decide) (by decide) ?_
      show Steps p.tables e below (T3.setTop (mkF m 55 #[.val (.int i0), .val (.int i1), .val (.int i2), .val (.int (F_f1 i0 i1)), .val (.int ((i2 &&& (2147483647 : Int32)) % (F_f1 i0 i1))), .val (.int (f0_v20 i0 i1 i2)), .val (.int (f0_24_s0 i0 i1 i2)), .unset, .unset] [])) _
      refine XS.iconst X3.here hx rfl (hb hby at_55) ?_
      show Steps p.tables e below (T3.setTop (mkF m 56 #[.val (.int i0), .val (.int i1), .val (.int i2), .val (.int (F_f1 i0 i1)), .val (.int ((i2 &&& (2147483647 : Int32)) % (F_f1 i0 i1))), .val (.int (f0_v20 i0 i1 i2)), .val (.int (f0_24_s0 i0 i1 i2)), .unset, .unset] [(.int (0 : Int32))])) _
      rw [show (f0_48_s0 i0 i1 i2) = (0 : Int32) from (if_neg hc48)] at k
      exact k
  refine Outs.of (U' := T3.setTop (mkF m 61 #[.val (.int i0), .val (.int i1), .val (.int i2), .val (.int (F_f1 i0 i1)), .val (.int ((i2 &&& (2147483647 : Int32)) % (F_f1 i0 i1))), .val (.int (f0_v20 i0 i1 i2)), .val (.int (f0_24_s0 i0 i1 i2)), .val (.int (f0_48_s0 i0 i1 i2)), .unset] [(.int (f0_v20 i0 i1 i2)), (.int (F_f1 i0 i1))])) (fun t k => ?_) ?_
  · refine XS.istore X3.here hx rfl (hb hby at_56) rfl (l' := #[.val (.int i0), .val (.int i1), .val (.int i2), .val (.int (F_f1 i0 i1)), .val (.int ((i2 &&& (2147483647 : Int32)) % (F_f1 i0 i1))), .val (.int (f0_v20 i0 i1 i2)), .val (.int (f0_24_s0 i0 i1 i2)), .val (.int (f0_48_s0 i0 i1 i2)), .unset]) rfl ?_
    show Steps p.tables e below (T3.setTop (mkF m 58 #[.val (.int i0), .val (.int i1), .val (.int i2), .val (.int (F_f1 i0 i1)), .val (.int ((i2 &&& (2147483647 : Int32)) % (F_f1 i0 i1))), .val (.int (f0_v20 i0 i1 i2)), .val (.int (f0_24_s0 i0 i1 i2)), .val (.int (f0_48_s0 i0 i1 i2)), .unset] [])) _
    refine XS.iloadN X3.here hx rfl (hb hby at_58) rfl ?_
    show Steps p.tables e below (T3.setTop (mkF m 59 #[.val (.int i0), .val (.int i1), .val (.int i2), .val (.int (F_f1 i0 i1)), .val (.int ((i2 &&& (2147483647 : Int32)) % (F_f1 i0 i1))), .val (.int (f0_v20 i0 i1 i2)), .val (.int (f0_24_s0 i0 i1 i2)), .val (.int (f0_48_s0 i0 i1 i2)), .unset] [(.int (F_f1 i0 i1))])) _
    refine XS.iload X3.here hx rfl (hb hby at_59) rfl ?_
    show Steps p.tables e below (T3.setTop (mkF m 61 #[.val (.int i0), .val (.int i1), .val (.int i2), .val (.int (F_f1 i0 i1)), .val (.int ((i2 &&& (2147483647 : Int32)) % (F_f1 i0 i1))), .val (.int (f0_v20 i0 i1 i2)), .val (.int (f0_24_s0 i0 i1 i2)), .val (.int (f0_48_s0 i0 i1 i2)), .unset] [(.int (f0_v20 i0 i1 i2)), (.int (F_f1 i0 i1))])) _
    exact k
  obtain ⟨_, _, ⟨T4, L4, k4, n4⟩, -, X4, ⟨Lc4, hQ4, l4, y4, z4⟩, st4⟩ := Jvm.LawKit.callS X3 hx (y := (⟨"com/example/knotwork/knotwork/store/Group", "stored", "(II)I"⟩ : MethodName)) hown (mvT hZ (hw _ (List.mem_of_getElem? (i := 5) rfl))) (mvT hZ (hw _ (List.mem_of_getElem? (i := 6) rfl))) (mvT hZ (hw _ (List.mem_of_getElem? (i := 7) rfl))) (mvT hZ (hw _ (List.mem_of_getElem? (i := 8) rfl))) (by decide) (backOf (W := 0) (rm2 l Z a0 hw [] (F_f1 i0 i1) (f0_v20 i0 i1 i2) h0 n0 ) hZ (hw _ (List.mem_of_getElem? (i := 8) rfl)) (hw _ (List.mem_of_getElem? (i := 7) rfl)) (by decide) (by decide)) (g := (mkF m 61 #[.val (.int i0), .val (.int i1), .val (.int i2), .val (.int (F_f1 i0 i1)), .val (.int ((i2 &&& (2147483647 : Int32)) % (F_f1 i0 i1))), .val (.int (f0_v20 i0 i1 i2)), .val (.int (f0_24_s0 i0 i1 i2)), .val (.int (f0_48_s0 i0 i1 i2)), .unset] [(.int (f0_v20 i0 i1 i2)), (.int (F_f1 i0 i1))])) rfl (by rw [hml]; rfl) (argsL := [(.int (F_f1 i0 i1)), (.int (f0_v20 i0 i1 i2))]) (rest := []) (lenOf pd_0 rfl) rfl (by show 2 * 0 + _ ≤ _; exact Nat.le_of_eq rfl) (hb hby at_61) (fun _ _ => ⟨rfl, e3, (by decide : 0 + 0 ≤ _), (by decide : 0 + 0 ≤ _)⟩)
  dsimp only [Pt.U, Pt.locs, Pt.cells, Pt.slots] at X4 l4 y4 z4 st4 hQ4
  subst l4 y4 z4
  obtain ⟨rfl, N4q, e4⟩ := hQ4
  have N4 := Fr.app N3 N4q
  refine Outs.of st4 ?_
  show Outs p e below s _ _ _ (T4.setTop (mkF m 64 #[.val (.int i0), .val (.int i1), .val (.int i2), .val (.int (F_f1 i0 i1)), .val (.int ((i2 &&& (2147483647 : Int32)) % (F_f1 i0 i1))), .val (.int (f0_v20 i0 i1 i2)), .val (.int (f0_24_s0 i0 i1 i2)), .val (.int (f0_48_s0 i0 i1 i2)), .unset] [(.int (F_f2 (F_f1 i0 i1) (f0_v20 i0 i1 i2)))]))
  refine Outs.of (U' := T4.setTop (mkF m 74 #[.val (.int i0), .val (.int i1), .val (.int i2), .val (.int (F_f1 i0 i1)), .val (.int ((i2 &&& (2147483647 : Int32)) % (F_f1 i0 i1))), .val (.int (f0_v20 i0 i1 i2)), .val (.int (f0_24_s0 i0 i1 i2)), .val (.int (f0_48_s0 i0 i1 i2)), .unset] [(.int (f0_66_s0 i0 i1 i2))])) (fun t k => ?_) ?_
  · refine XS.iload X4.here hx rfl (hb hby at_64) rfl ?_
    show Steps p.tables e below (T4.setTop (mkF m 66 #[.val (.int i0), .val (.int i1), .val (.int i2), .val (.int (F_f1 i0 i1)), .val (.int ((i2 &&& (2147483647 : Int32)) % (F_f1 i0 i1))), .val (.int (f0_v20 i0 i1 i2)), .val (.int (f0_24_s0 i0 i1 i2)), .val (.int (f0_48_s0 i0 i1 i2)), .unset] [(.int ((i2 &&& (2147483647 : Int32)) % (F_f1 i0 i1))), (.int (F_f2 (F_f1 i0 i1) (f0_v20 i0 i1 i2)))])) _
    by_cases hc66 : (F_f2 (F_f1 i0 i1) (f0_v20 i0 i1 i2)) = ((i2 &&& (2147483647 : Int32)) % (F_f1 i0 i1))
    · refine XS.icmpNo X4.here hx rfl (hb hby at_66) rfl (teq hc66).2 ?_
      show Steps p.tables e below (T4.setTop (mkF m 69 #[.val (.int i0), .val (.int i1), .val (.int i2), .val (.int (F_f1 i0 i1)), .val (.int ((i2 &&& (2147483647 : Int32)) % (F_f1 i0 i1))), .val (.int (f0_v20 i0 i1 i2)), .val (.int (f0_24_s0 i0 i1 i2)), .val (.int (f0_48_s0 i0 i1 i2)), .unset] [])) _
      refine XS.iconst X4.here hx rfl (hb hby at_69) ?_
      show Steps p.tables e below (T4.setTop (mkF m 70 #[.val (.int i0), .val (.int i1), .val (.int i2), .val (.int (F_f1 i0 i1)), .val (.int ((i2 &&& (2147483647 : Int32)) % (F_f1 i0 i1))), .val (.int (f0_v20 i0 i1 i2)), .val (.int (f0_24_s0 i0 i1 i2)), .val (.int (f0_48_s0 i0 i1 i2)), .unset] [(.int (1 : Int32))])) _
      refine XS.goto X4.here hx rfl (pc0 := 70) (pc' := 74) rfl (hb hby at_70) (by decide) (by decide) ?_
      show Steps p.tables e below (T4.setTop (mkF m 74 #[.val (.int i0), .val (.int i1), .val (.int i2), .val (.int (F_f1 i0 i1)), .val (.int ((i2 &&& (2147483647 : Int32)) % (F_f1 i0 i1))), .val (.int (f0_v20 i0 i1 i2)), .val (.int (f0_24_s0 i0 i1 i2)), .val (.int (f0_48_s0 i0 i1 i2)), .unset] [(.int (1 : Int32))])) _
      rw [show (f0_66_s0 i0 i1 i2) = (1 : Int32) from (if_pos hc66)] at k
      exact k
    · refine XS.icmpYes X4.here hx rfl (pc0 := 66) (pc' := 73) rfl (hb hby at_66) rfl (feq hc66).2 (by decide) (by decide) ?_
      show Steps p.tables e below (T4.setTop (mkF m 73 #[.val (.int i0), .val (.int i1), .val (.int i2), .val (.int (F_f1 i0 i1)), .val (.int ((i2 &&& (2147483647 : Int32)) % (F_f1 i0 i1))), .val (.int (f0_v20 i0 i1 i2)), .val (.int (f0_24_s0 i0 i1 i2)), .val (.int (f0_48_s0 i0 i1 i2)), .unset] [])) _
      refine XS.iconst X4.here hx rfl (hb hby at_73) ?_
      show Steps p.tables e below (T4.setTop (mkF m 74 #[.val (.int i0), .val (.int i1), .val (.int i2), .val (.int (F_f1 i0 i1)), .val (.int ((i2 &&& (2147483647 : Int32)) % (F_f1 i0 i1))), .val (.int (f0_v20 i0 i1 i2)), .val (.int (f0_24_s0 i0 i1 i2)), .val (.int (f0_48_s0 i0 i1 i2)), .unset] [(.int (0 : Int32))])) _
      rw [show (f0_66_s0 i0 i1 i2) = (0 : Int32) from (if_neg hc66)] at k
      exact k
  refine Outs.of (U' := T4.setTop (mkF m 96 #[.val (.int i0), .val (.int i1), .val (.int i2), .val (.int (F_f1 i0 i1)), .val (.int ((i2 &&& (2147483647 : Int32)) % (F_f1 i0 i1))), .val (.int (f0_v20 i0 i1 i2)), .val (.int (f0_24_s0 i0 i1 i2)), .val (.int (f0_48_s0 i0 i1 i2)), .val (.int (f0_66_s0 i0 i1 i2))] [(.int (f0_78_s0 i0 i1 i2))])) (fun t k => ?_) ?_
  · refine XS.istore X4.here hx rfl (hb hby at_74) rfl (l' := #[.val (.int i0), .val (.int i1), .val (.int i2), .val (.int (F_f1 i0 i1)), .val (.int ((i2 &&& (2147483647 : Int32)) % (F_f1 i0 i1))), .val (.int (f0_v20 i0 i1 i2)), .val (.int (f0_24_s0 i0 i1 i2)), .val (.int (f0_48_s0 i0 i1 i2)), .val (.int (f0_66_s0 i0 i1 i2))]) rfl ?_
    show Steps p.tables e below (T4.setTop (mkF m 76 #[.val (.int i0), .val (.int i1), .val (.int i2), .val (.int (F_f1 i0 i1)), .val (.int ((i2 &&& (2147483647 : Int32)) % (F_f1 i0 i1))), .val (.int (f0_v20 i0 i1 i2)), .val (.int (f0_24_s0 i0 i1 i2)), .val (.int (f0_48_s0 i0 i1 i2)), .val (.int (f0_66_s0 i0 i1 i2))] [])) _
    refine XS.iload X4.here hx rfl (hb hby at_76) rfl ?_
    show Steps p.tables e below (T4.setTop (mkF m 78 #[.val (.int i0), .val (.int i1), .val (.int i2), .val (.int (F_f1 i0 i1)), .val (.int ((i2 &&& (2147483647 : Int32)) % (F_f1 i0 i1))), .val (.int (f0_v20 i0 i1 i2)), .val (.int (f0_24_s0 i0 i1 i2)), .val (.int (f0_48_s0 i0 i1 i2)), .val (.int (f0_66_s0 i0 i1 i2))] [(.int (f0_24_s0 i0 i1 i2))])) _
    by_cases hc78 : (f0_24_s0 i0 i1 i2) = (0 : Int32)
    · refine XS.ifYes X4.here hx rfl (pc0 := 78) (pc' := 95) rfl (hb hby at_78) rfl ((if0 _ _).trans (teq hc78).1) (by decide) (by decide) ?_
      show Steps p.tables e below (T4.setTop (mkF m 95 #[.val (.int i0), .val (.int i1), .val (.int i2), .val (.int (F_f1 i0 i1)), .val (.int ((i2 &&& (2147483647 : Int32)) % (F_f1 i0 i1))), .val (.int (f0_v20 i0 i1 i2)), .val (.int (f0_24_s0 i0 i1 i2)), .val (.int (f0_48_s0 i0 i1 i2)), .val (.int (f0_66_s0 i0 i1 i2))] [])) _
      refine XS.iconst X4.here hx rfl (hb hby at_95) ?_
      show Steps p.tables e below (T4.setTop (mkF m 96 #[.val (.int i0), .val (.int i1), .val (.int i2), .val (.int (F_f1 i0 i1)), .val (.int ((i2 &&& (2147483647 : Int32)) % (F_f1 i0 i1))), .val (.int (f0_v20 i0 i1 i2)), .val (.int (f0_24_s0 i0 i1 i2)), .val (.int (f0_48_s0 i0 i1 i2)), .val (.int (f0_66_s0 i0 i1 i2))] [(.int (0 : Int32))])) _
      rw [show (f0_78_s0 i0 i1 i2) = (0 : Int32) from (if_pos hc78)] at k
      exact k
    · refine XS.ifNo X4.here hx rfl (hb hby at_78) rfl ((if0 _ _).trans (feq hc78).1) ?_
      show Steps p.tables e below (T4.setTop (mkF m 81 #[.val (.int i0), .val (.int i1), .val (.int i2), .val (.int (F_f1 i0 i1)), .val (.int ((i2 &&& (2147483647 : Int32)) % (F_f1 i0 i1))), .val (.int (f0_v20 i0 i1 i2)), .val (.int (f0_24_s0 i0 i1 i2)), .val (.int (f0_48_s0 i0 i1 i2)), .val (.int (f0_66_s0 i0 i1 i2))] [])) _
      refine XS.iload X4.here hx rfl (hb hby at_81) rfl ?_
      show Steps p.tables e below (T4.setTop (mkF m 83 #[.val (.int i0), .val (.int i1), .val (.int i2), .val (.int (F_f1 i0 i1)), .val (.int ((i2 &&& (2147483647 : Int32)) % (F_f1 i0 i1))), .val (.int (f0_v20 i0 i1 i2)), .val (.int (f0_24_s0 i0 i1 i2)), .val (.int (f0_48_s0 i0 i1 i2)), .val (.int (f0_66_s0 i0 i1 i2))] [(.int (f0_48_s0 i0 i1 i2))])) _
      by_cases hc83 : (f0_48_s0 i0 i1 i2) = (0 : Int32)
      · refine XS.ifYes X4.here hx rfl (pc0 := 83) (pc' := 95) rfl (hb hby at_83) rfl ((if0 _ _).trans (teq hc83).1) (by decide) (by decide) ?_
        show Steps p.tables e below (T4.setTop (mkF m 95 #[.val (.int i0), .val (.int i1), .val (.int i2), .val (.int (F_f1 i0 i1)), .val (.int ((i2 &&& (2147483647 : Int32)) % (F_f1 i0 i1))), .val (.int (f0_v20 i0 i1 i2)), .val (.int (f0_24_s0 i0 i1 i2)), .val (.int (f0_48_s0 i0 i1 i2)), .val (.int (f0_66_s0 i0 i1 i2))] [])) _
        refine XS.iconst X4.here hx rfl (hb hby at_95) ?_
        show Steps p.tables e below (T4.setTop (mkF m 96 #[.val (.int i0), .val (.int i1), .val (.int i2), .val (.int (F_f1 i0 i1)), .val (.int ((i2 &&& (2147483647 : Int32)) % (F_f1 i0 i1))), .val (.int (f0_v20 i0 i1 i2)), .val (.int (f0_24_s0 i0 i1 i2)), .val (.int (f0_48_s0 i0 i1 i2)), .val (.int (f0_66_s0 i0 i1 i2))] [(.int (0 : Int32))])) _
        rw [show (f0_78_s0 i0 i1 i2) = (0 : Int32) from ((if_neg hc78).trans (if_pos hc83))] at k
        exact k
      · refine XS.ifNo X4.here hx rfl (hb hby at_83) rfl ((if0 _ _).trans (feq hc83).1) ?_
        show Steps p.tables e below (T4.setTop (mkF m 86 #[.val (.int i0), .val (.int i1), .val (.int i2), .val (.int (F_f1 i0 i1)), .val (.int ((i2 &&& (2147483647 : Int32)) % (F_f1 i0 i1))), .val (.int (f0_v20 i0 i1 i2)), .val (.int (f0_24_s0 i0 i1 i2)), .val (.int (f0_48_s0 i0 i1 i2)), .val (.int (f0_66_s0 i0 i1 i2))] [])) _
        refine XS.iload X4.here hx rfl (hb hby at_86) rfl ?_
        show Steps p.tables e below (T4.setTop (mkF m 88 #[.val (.int i0), .val (.int i1), .val (.int i2), .val (.int (F_f1 i0 i1)), .val (.int ((i2 &&& (2147483647 : Int32)) % (F_f1 i0 i1))), .val (.int (f0_v20 i0 i1 i2)), .val (.int (f0_24_s0 i0 i1 i2)), .val (.int (f0_48_s0 i0 i1 i2)), .val (.int (f0_66_s0 i0 i1 i2))] [(.int (f0_66_s0 i0 i1 i2))])) _
        by_cases hc88 : (f0_66_s0 i0 i1 i2) = (0 : Int32)
        · refine XS.ifYes X4.here hx rfl (pc0 := 88) (pc' := 95) rfl (hb hby at_88) rfl ((if0 _ _).trans (teq hc88).1) (by decide) (by decide) ?_
          show Steps p.tables e below (T4.setTop (mkF m 95 #[.val (.int i0), .val (.int i1), .val (.int i2), .val (.int (F_f1 i0 i1)), .val (.int ((i2 &&& (2147483647 : Int32)) % (F_f1 i0 i1))), .val (.int (f0_v20 i0 i1 i2)), .val (.int (f0_24_s0 i0 i1 i2)), .val (.int (f0_48_s0 i0 i1 i2)), .val (.int (f0_66_s0 i0 i1 i2))] [])) _
          refine XS.iconst X4.here hx rfl (hb hby at_95) ?_
          show Steps p.tables e below (T4.setTop (mkF m 96 #[.val (.int i0), .val (.int i1), .val (.int i2), .val (.int (F_f1 i0 i1)), .val (.int ((i2 &&& (2147483647 : Int32)) % (F_f1 i0 i1))), .val (.int (f0_v20 i0 i1 i2)), .val (.int (f0_24_s0 i0 i1 i2)), .val (.int (f0_48_s0 i0 i1 i2)), .val (.int (f0_66_s0 i0 i1 i2))] [(.int (0 : Int32))])) _
          rw [show (f0_78_s0 i0 i1 i2) = (0 : Int32) from ((if_neg hc78).trans ((if_neg hc83).trans (if_pos hc88)))] at k
          exact k
        · refine XS.ifNo X4.here hx rfl (hb hby at_88) rfl ((if0 _ _).trans (feq hc88).1) ?_
          show Steps p.tables e below (T4.setTop (mkF m 91 #[.val (.int i0), .val (.int i1), .val (.int i2), .val (.int (F_f1 i0 i1)), .val (.int ((i2 &&& (2147483647 : Int32)) % (F_f1 i0 i1))), .val (.int (f0_v20 i0 i1 i2)), .val (.int (f0_24_s0 i0 i1 i2)), .val (.int (f0_48_s0 i0 i1 i2)), .val (.int (f0_66_s0 i0 i1 i2))] [])) _
          refine XS.iconst X4.here hx rfl (hb hby at_91) ?_
          show Steps p.tables e below (T4.setTop (mkF m 92 #[.val (.int i0), .val (.int i1), .val (.int i2), .val (.int (F_f1 i0 i1)), .val (.int ((i2 &&& (2147483647 : Int32)) % (F_f1 i0 i1))), .val (.int (f0_v20 i0 i1 i2)), .val (.int (f0_24_s0 i0 i1 i2)), .val (.int (f0_48_s0 i0 i1 i2)), .val (.int (f0_66_s0 i0 i1 i2))] [(.int (1 : Int32))])) _
          refine XS.goto X4.here hx rfl (pc0 := 92) (pc' := 96) rfl (hb hby at_92) (by decide) (by decide) ?_
          show Steps p.tables e below (T4.setTop (mkF m 96 #[.val (.int i0), .val (.int i1), .val (.int i2), .val (.int (F_f1 i0 i1)), .val (.int ((i2 &&& (2147483647 : Int32)) % (F_f1 i0 i1))), .val (.int (f0_v20 i0 i1 i2)), .val (.int (f0_24_s0 i0 i1 i2)), .val (.int (f0_48_s0 i0 i1 i2)), .val (.int (f0_66_s0 i0 i1 i2))] [(.int (1 : Int32))])) _
          rw [show (f0_78_s0 i0 i1 i2) = (1 : Int32) from ((if_neg hc78).trans ((if_neg hc83).trans (if_neg hc88)))] at k
          exact k
  exact Outs.retN (t := .boolean) (z := (f0_78_s0 i0 i1 i2)) X4 hx hret (by simp) (hb hby at_96) hlk (by decide) (by decide) ⟨congrArg (fun z_ => some (Value.int z_)) (law_true i0 i1 i2), N4⟩
set_option maxRecDepth 65536 in
set_option maxHeartbeats 40000000 in
theorem comes_1 {Post : Tables → Env → Array Value → State → Outcome → State → Prop} (hpost : ∀ tb e args s v u, (limb_1_1.after args s (.returned v) u = true ∧ limb_1_2.after args s (.returned v) u = true ∧ True) → FrameEnd s (.returned v) u (Jvm.fieldLocs frame_1_writes args s ++ Jvm.arrayLocs frame_1_arrays args s ++ Jvm.staticLocs frame_1_statics s) 0 0 → Post tb e args s (.returned v) u) :
    ArmFor flags0 classFile x code maxLocals ret World_1 tables_1 room_1 Calls_1 rest_1 Pre_1 Post := by
  intro l hfl _ _ p e ha hc hk s m args below hf hA hF happ hP
  obtain ⟨hcalls, hrest, hpre⟩ := hP
  obtain ⟨-, -, -, hnamed, -, -, -, hat⟩ := (Spec.applies_iff hf).mp happ
  obtain ⟨hg, hn⟩ := and_e (Cond.before_iff.mp (show (Jvm.Cond.and given_1 narrow_1).before args s = true from hpre))
  obtain ⟨g1, g2⟩ := and_e hg
  obtain ⟨g3, g4⟩ := and_e g2
  obtain ⟨g5, g6⟩ := and_e g4
  obtain ⟨w0, w1, w2, rfl⟩ : ∃ w0 w1 w2 : Value, args = #[w0, w1, w2] := by
    have hs : args.size = 3 := by simpa [Cond.value, given_1] using g1
    obtain ⟨L⟩ := args
    match L, hs with
    | [w0, w1, w2], _ => exact ⟨w0, w1, w2, rfl⟩
  have hw := fun d (hd : d ∈ tables_1) => atoms_spec (ws := Jvm.Cond.code x code maxLocals ret :: tables_1) hat d (List.mem_cons_of_mem _ hd)
  obtain ⟨i0, ei0⟩ := is_v g3
  obtain rfl : w0 = (.int i0) := Option.some.inj ei0
  obtain ⟨i1, ei1⟩ := is_v g5
  obtain rfl : w1 = (.int i1) := Option.some.inj ei1
  obtain ⟨i2, ei2⟩ := is_v g6
  obtain rfl : w2 = (.int i2) := Option.some.inj ei2
  obtain ⟨n, o, h1, h2, h3, v, L, rfl, hQ0, hq⟩ := rm0 l s _ hw tables_1 i0 i1 i2 s.heap s.heap.size  p e ha hc hk s m _ below hf ((Spec.applies_iff_loose hf).mp happ).1 ⟨rfl, State.Warmed39.refl s, rfl⟩ trivial
  obtain ⟨rfl, N⟩ : v = some (.int 1) ∧ Fr s.heap.size L := hQ0
  refine ⟨n, _, h1, h2, h3, hpost _ _ _ _ _ _ ⟨Cond.after_iff.mpr rfl, Cond.after_iff.mpr (eq_i res_at (Term.int_eval (1)) rfl), trivial⟩ ⟨hq.1, hq.2.1, (hq.2.2.sift fun y hy => Or.inr (N y hy)).mono (by decide) (by decide)⟩⟩
theorem main_1_1 : Claimed_1_1 := comes_1 fun _ _ _ _ _ _ h hF => ⟨h.1, hF⟩
theorem main_1_2 : Claimed_1_2 := comes_1 fun _ _ _ _ _ _ h hF => ⟨h.2.1, hF⟩
end Jvm.Pilot.@@N@@
namespace Jvm.Pilot.@@N@@
open Jvm Jvm.ClassFile Sem Op Lib Jvm.Free Jvm.Stand Jvm.Pilot.@@N@@.Jvm.D
/-! MADE BY PROGRAM (witnessworld.py) out of the Statement's table words and the real class files: 7 classes; the members and pool entries that the words name. The judged class is class 1, her method 3. -/
namespace start1
open Jvm.ClassFile
def u (s : String) : CpInfo := .utf8 (stringToUtf16 s)
/-- a pool by its gaps: so many unusable entries, then the entry; so many at the end -/
def gap : Nat → List CpInfo → List CpInfo
  | 0, r => r
  | n + 1, r => .unusable :: gap n r
def poolList (es : List (Nat × CpInfo)) (last : Nat) : List CpInfo := es.foldr (fun e r => gap e.1 (e.2 :: r)) (gap last [])
def pool (es : List (Nat × CpInfo)) (last : Nat) : Array CpInfo := ⟨poolList es last⟩
def fileOf (pool : Array CpInfo) (this : Nat) (attrs : Array Attribute := #[]) (ms : Array MethodInfo := #[]) (fl : Nat := 33) (sup : Nat := 0) (ifs : Array Nat := #[]) (fds : Array FieldInfo := #[]) : ClassFile where
  minorVersion := 0
  majorVersion := 65
  constantPool := pool
  accessFlags := fl
  thisClass := this
  superClass := sup
  interfaces := ifs
  fields := fds
  methods := ms
  attributes := attrs
def plain (name : String) (sup : Option ClassId) : Class where
  name := name
  kind := .ordinary
  loader := none
  accessFlags := 33
  super := sup
  interfaces := #[]
  cf := none
  fields := #[]
  methods := #[]
  instanceTypes := #[]
  staticTypes := #[]
  resolved := #[]
  callSites := []
  init := .initialized
  statics := none
  mirror := none

def pool0 : Array CpInfo := pool [(5, u "<init>"), (0, u "()V"), (1, .class_ 10), (1, u "java/lang/Object")] 113

def k0m0 : Method := { name := "<init>", desc := "()V", sig := { parameters := [], returnType := none }, accessFlags := 1, code := none }
/-- java/lang/Object -/
def k0 : Class := { plain "java/lang/Object" none with
  accessFlags := 33
  interfaces := #[]
  cf := some (fileOf pool0 8 #[] #[{ accessFlags := 1, nameIndex := 5, descriptorIndex := 6, attributes := #[] }] 33 0 #[] #[])
  fields := #[]
  methods := #[k0m0]
  instanceTypes := #[]
  staticTypes := #[]
  resolved := Array.replicate 124 none
  statics := none }

def pool1 : Array CpInfo := pool [(2, .class_ 4), (1, u "java/lang/Object"), (0, u "<init>"), (0, u "()V"), (0, .integer 2147483647), (0, .methodref 9 10), (0, .class_ 11), (0, .nameAndType 12 13), (0, u "com/example/knotwork/knotwork/store/GroupStoredPinLaw"), (0, u "sizeOf"), (0, u "(II)I"), (0, .methodref 15 16), (0, .class_ 17), (0, .nameAndType 18 13), (0, u "com/example/knotwork/knotwork/store/Group"), (0, u "stored"), (0, .methodref 9 20), (0, .nameAndType 21 13), (0, u "expected"), (3, u "law"), (0, u "(III)Z")] 2

def k1m0 : Method := { name := "<init>", desc := "()V", sig := { parameters := [], returnType := none }, accessFlags := 2, code := none }
def k1c1 : Code := { maxStack := 3, maxLocals := 3, code := method_2_code, exceptionTable := #[], attributes := #[] }
def k1m1 : Method := { name := "sizeOf", desc := "(II)I", sig := { parameters := [.int, .int], returnType := some .int }, accessFlags := 10, code := some k1c1 }
def k1c2 : Code := { maxStack := 2, maxLocals := 2, code := method_3_code, exceptionTable := #[], attributes := #[] }
def k1m2 : Method := { name := "expected", desc := "(II)I", sig := { parameters := [.int, .int], returnType := some .int }, accessFlags := 10, code := some k1c2 }
def k1c3 : Code := { maxStack := 3, maxLocals := 9, code := code, exceptionTable := #[], attributes := #[] }
def k1m3 : Method := { name := "law", desc := "(III)Z", sig := { parameters := [.int, .int, .int], returnType := some .boolean }, accessFlags := 9, code := some k1c3 }
/-- com/example/knotwork/knotwork/store/GroupStoredPinLaw -/
def k1 : Class := { plain "com/example/knotwork/knotwork/store/GroupStoredPinLaw" (some 0) with
  accessFlags := 49
  interfaces := #[]
  cf := some (fileOf pool1 9 #[] #[{ accessFlags := 2, nameIndex := 5, descriptorIndex := 6, attributes := #[] }, { accessFlags := 10, nameIndex := 12, descriptorIndex := 13, attributes := #[] }, { accessFlags := 10, nameIndex := 21, descriptorIndex := 13, attributes := #[] }, { accessFlags := 9, nameIndex := 25, descriptorIndex := 26, attributes := #[] }] 49 2 #[] #[])
  fields := #[]
  methods := #[k1m0, k1m1, k1m2, k1m3]
  instanceTypes := #[]
  staticTypes := #[]
  resolved := Array.replicate 29 none
  statics := none }

def pool2 : Array CpInfo := pool [(2, .class_ 4), (1, u "java/lang/Object"), (3, .class_ 10), (1, u "com/example/knotwork/knotwork/store/Group"), (0, u "size"), (0, u "I"), (2, u "width"), (2, u "prefixes"), (0, u "[I"), (3, u "lists"), (0, u "[[I"), (2, u "shapes"), (2, u "byShape"), (0, u "Ljava/util/Map;"), (0, .class_ 33), (0, u "com/example/knotwork/knotwork/store/Group$Prefixes"), (58, u "stored"), (0, u "(II)I")] 6

def k2c0 : Code := { maxStack := 2, maxLocals := 2, code := prog_62_method_4_code, exceptionTable := #[], attributes := #[] }
def k2m0 : Method := { name := "stored", desc := "(II)I", sig := { parameters := [.int, .int], returnType := some .int }, accessFlags := 8, code := some k2c0 }
/-- com/example/knotwork/knotwork/store/Group -/
def k2 : Class := { plain "com/example/knotwork/knotwork/store/Group" (some 0) with
  accessFlags := 48
  interfaces := #[]
  cf := some (fileOf pool2 8 #[.nestMembers #[32]] #[{ accessFlags := 8, nameIndex := 92, descriptorIndex := 93, attributes := #[] }] 48 2 #[] #[{ accessFlags := 16, nameIndex := 11, descriptorIndex := 12, attributes := #[] }, { accessFlags := 16, nameIndex := 15, descriptorIndex := 12, attributes := #[] }, { accessFlags := 16, nameIndex := 18, descriptorIndex := 19, attributes := #[] }, { accessFlags := 16, nameIndex := 23, descriptorIndex := 24, attributes := #[] }, { accessFlags := 18, nameIndex := 27, descriptorIndex := 19, attributes := #[] }, { accessFlags := 18, nameIndex := 30, descriptorIndex := 31, attributes := #[] }])
  fields := #[{ name := "size", type := .int, accessFlags := 16, slot := 0, constantValue := 0 }, { name := "width", type := .int, accessFlags := 16, slot := 1, constantValue := 0 }, { name := "prefixes", type := (.array .int), accessFlags := 16, slot := 2, constantValue := 0 }, { name := "lists", type := (.array (.array .int)), accessFlags := 16, slot := 3, constantValue := 0 }, { name := "shapes", type := (.array .int), accessFlags := 18, slot := 4, constantValue := 0 }, { name := "byShape", type := (.object "java/util/Map"), accessFlags := 18, slot := 5, constantValue := 0 }]
  methods := #[k2m0]
  instanceTypes := #[.int, .int, (.array .int), (.array (.array .int)), (.array .int), (.object "java/util/Map")]
  staticTypes := #[]
  resolved := Array.replicate 100 none
  statics := none }

def pool3 : Array CpInfo := pool [(1, u "java/lang/Cloneable"), (0, .class_ 1), (0, u "java/lang/Object"), (0, .class_ 3)] 3

/-- java/lang/Cloneable -/
def k3 : Class := { plain "java/lang/Cloneable" (some 0) with
  accessFlags := 1537
  interfaces := #[]
  cf := some (fileOf pool3 2 #[] #[] 1537 4 #[] #[])
  fields := #[]
  methods := #[]
  instanceTypes := #[]
  staticTypes := #[]
  resolved := Array.replicate 8 none
  statics := none }

def pool4 : Array CpInfo := pool [(1, u "java/io/Serializable"), (0, .class_ 1), (0, u "java/lang/Object"), (0, .class_ 3)] 3

/-- java/io/Serializable -/
def k4 : Class := { plain "java/io/Serializable" (some 0) with
  accessFlags := 1537
  interfaces := #[]
  cf := some (fileOf pool4 2 #[] #[] 1537 4 #[] #[])
  fields := #[]
  methods := #[]
  instanceTypes := #[]
  staticTypes := #[]
  resolved := Array.replicate 8 none
  statics := none }

/-- the primitive byte -/
def k5 : Class := { plain "byte" none with kind := .primitive 'B', accessFlags := 0x411 }
/-- [B -/
def k6 : Class := { plain "[B" (some 0) with kind := .array 5 .byte, interfaces := #[3, 4], accessFlags := 1041 }

def heap : Heap := #[]
def classes : Array Class := #[k0, k1, k2, k3, k4, k5, k6]
def interned : List (Array UInt16 × Addr) := []
def slotsUsed : Nat := 0
def theMethod : MethodId := ⟨1, 3⟩
def args0 : Array Value := #[.int 5, .int 7, .int 1]
def aboutOver (below : List Frame) : State where
  vm := { classes := classes, interned := interned.toArray }
  heap := heap
  slotsUsed := slotsUsed
  threads := #[{ frames := .invoking theMethod args0 :: below }]
def below0 : List Frame := [.native { method := ⟨0, 0⟩, args := #[] }]
def about1 : State := aboutOver below0
def p0 : Program := .bare "" "" ""
def e0 : Env := launch0.env 0 0 0
theorem w_frames : about1.frames = Frame.invoking theMethod args0 :: below0 := rfl
set_option maxRecDepth 65536 in
theorem w_args : argsFit about1.vm theMethod args0 = true := by decide +kernel
set_option maxRecDepth 65536 in
theorem w_heap : heapFits about1 = true := by decide +kernel
set_option maxRecDepth 65536 in
theorem w_runnable : about1.curStatus? = some .runnable := by decide +kernel
set_option maxRecDepth 65536 in
theorem w_alone : about1.alone = true := by decide +kernel
set_option maxRecDepth 65536 in
theorem w_named : about1.methodNamed? x = some theMethod := by decide +kernel
set_option maxRecDepth 65536 in
theorem w_hears : about1.hears theMethod below0 = true := by decide +kernel
set_option maxRecDepth 65536 in
theorem w_ripe : about1.ripe theMethod args0 below0 = true := by decide +kernel
theorem w_running : about1.status = .running := rfl
set_option maxRecDepth 65536 in
theorem w_room : about1.hasRoom e0.platform room_1 = true :=
  launch0.hasRoom_least _ room_1 (by decide +kernel) (by decide +kernel) (by decide +kernel) (by decide +kernel) (by decide +kernel) (by decide +kernel)
theorem allAtoms_all (ts : List Jvm.Cond) (a : Array Jvm.Value) (st : Jvm.State) : (allAtoms ts).before a st = ts.all (fun c => c.before a st) := by
  induction ts with
  | nil => rfl
  | cons c t ih =>
    show (Jvm.Cond.and c (allAtoms t)).before a st = _
    rw [Jvm.Cond.before_and, ih, List.all_cons]
def words1 : List Jvm.Cond := Jvm.Cond.code x code maxLocals ret :: tables_1
/-- a 'code' word, met by the world's own term for the bytes: nothing is compared byte by byte -/
theorem code_word {y : MethodName} {bytes : ByteArray} {mx : Nat} {rt : Option FieldType} {a : Array Value} {s : State} {m : MethodId} {meth : Method} {c : Code} (h1 : s.methodNamed? y = some m) (h2 : s.vm.method? m = some meth) (h3 : meth.code = some c) (h4 : c.code = bytes)
    (h5 : (c.maxLocals == mx && c.exceptionTable.isEmpty && decide (c.maxStack ≤ mostOperands) && decide (meth.sig.returnType = rt) && !meth.locks && decide (parseMethodDescriptor y.desc = some meth.sig)) = true) : (Jvm.Cond.code y bytes mx rt).before a s = true := by
  simp only [Bool.and_eq_true, beq_iff_eq, Bool.not_eq_true', decide_eq_true_eq] at h5
  obtain ⟨⟨⟨⟨⟨g1, g2⟩, g3⟩, g4⟩, g5⟩, g6⟩ := h5
  simp [Cond.before, Cond.holds, Cond.value, h1, h2, h3, h4, g1, g2, g3, g4, g5, g6]
def isCode : Jvm.Cond → Bool
  | .code _ _ _ _ => true
  | _ => false
theorem all_split {L : List Jvm.Cond} {P : Jvm.Cond → Bool} (h1 : L.all (fun c => isCode c || P c) = true) (h2 : ∀ c ∈ L.filter isCode, P c = true) : L.all P = true := by
  refine List.all_eq_true.mpr fun c hc => ?_
  have h := List.all_eq_true.mp h1 c hc
  rcases Bool.eq_false_or_eq_true (isCode c) with hi | hi
  · exact h2 c (List.mem_filter.mpr ⟨hc, hi⟩)
  · simpa [hi] using h
set_option maxRecDepth 65536 in
theorem w_c0 : (Jvm.Cond.code x code maxLocals ret).before args0 about1 = true := code_word (m := ⟨1, 3⟩) (meth := k1m3) (c := k1c3) (by decide +kernel) rfl rfl rfl (by decide +kernel)
set_option maxRecDepth 65536 in
theorem w_c1 : (Jvm.Cond.code ({ cls := "com/example/knotwork/knotwork/store/GroupStoredPinLaw", name := "sizeOf", desc := "(II)I" } : Jvm.MethodName) method_2_code (3 : Nat) (Option.some Jvm.ClassFile.FieldType.int)).before args0 about1 = true := code_word (m := ⟨1, 1⟩) (meth := k1m1) (c := k1c1) (by decide +kernel) rfl rfl rfl (by decide +kernel)
set_option maxRecDepth 65536 in
theorem w_c2 : (Jvm.Cond.code ({ cls := "com/example/knotwork/knotwork/store/Group", name := "stored", desc := "(II)I" } : Jvm.MethodName) prog_62_method_4_code (2 : Nat) (Option.some Jvm.ClassFile.FieldType.int)).before args0 about1 = true := code_word (m := ⟨2, 0⟩) (meth := k2m0) (c := k2c0) (by decide +kernel) rfl rfl rfl (by decide +kernel)
set_option maxRecDepth 65536 in
theorem w_c3 : (Jvm.Cond.code ({ cls := "com/example/knotwork/knotwork/store/GroupStoredPinLaw", name := "expected", desc := "(II)I" } : Jvm.MethodName) method_3_code (2 : Nat) (Option.some Jvm.ClassFile.FieldType.int)).before args0 about1 = true := code_word (m := ⟨1, 2⟩) (meth := k1m2) (c := k1c2) (by decide +kernel) rfl rfl rfl (by decide +kernel)
def codes1 : List Jvm.Cond := [Jvm.Cond.code x code maxLocals ret, Jvm.Cond.code ({ cls := "com/example/knotwork/knotwork/store/GroupStoredPinLaw", name := "sizeOf", desc := "(II)I" } : Jvm.MethodName) method_2_code (3 : Nat) (Option.some Jvm.ClassFile.FieldType.int), Jvm.Cond.code ({ cls := "com/example/knotwork/knotwork/store/Group", name := "stored", desc := "(II)I" } : Jvm.MethodName) prog_62_method_4_code (2 : Nat) (Option.some Jvm.ClassFile.FieldType.int), Jvm.Cond.code ({ cls := "com/example/knotwork/knotwork/store/GroupStoredPinLaw", name := "expected", desc := "(II)I" } : Jvm.MethodName) method_3_code (2 : Nat) (Option.some Jvm.ClassFile.FieldType.int)]
set_option maxRecDepth 65536 in
theorem codes_eq : words1.filter isCode = codes1 := rfl
theorem w_codes : ∀ c ∈ words1.filter isCode, c.before args0 about1 = true := by
  rw [codes_eq]
  intro c hc
  simp only [codes1, List.mem_cons, List.not_mem_nil, or_false] at hc
  rcases hc with rfl | rfl | rfl | rfl
  · exact w_c0
  · exact w_c1
  · exact w_c2
  · exact w_c3
set_option maxRecDepth 65536 in
theorem w_t1 : words1.all (fun c => isCode c || c.before args0 about1) = true := by decide +kernel
theorem w_tables : (allAtoms (Jvm.Cond.code x code maxLocals ret :: tables_1)).before args0 about1 = true := by
  rw [allAtoms_all]
  show words1.all (fun c => c.before args0 about1) = true
  refine all_split ?_ w_codes
  rw [w_t1]
set_option maxRecDepth 65536 in
theorem w_case : (Jvm.Cond.and given_1 narrow_1).before args0 about1 = true := by decide +kernel
theorem w_applies : (headSpec (Jvm.Cond.code x code maxLocals ret :: tables_1) room_1).applies x e0.platform about1 = true :=
  (Spec.applies_iff w_frames).mpr ⟨w_running, w_runnable, w_alone, w_named, w_hears, w_ripe, w_room, w_tables⟩
theorem atStart : AtStart classFile x code maxLocals ret World_1 tables_1 room_1 Calls_1 rest_1 Pre_1 launch0 p0 e0 about1 theMethod args0 below0 :=
  ⟨lists_1, trivial, launch0.admits_env _ _ _, launch0.least_env, fairChoices_fair.cas, fairChoices_fair.clock, w_frames, w_args, w_heap, w_applies, trivial, trivial, w_case⟩
end start1
theorem witness_1 : WitnessClaimed_1 := ⟨start1.p0, start1.e0, start1.about1, start1.theMethod, start1.args0, start1.below0, start1.atStart⟩
end Jvm.Pilot.@@N@@
