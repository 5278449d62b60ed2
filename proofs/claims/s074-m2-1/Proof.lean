import JvmDerived
import JvmDerived.Pilot.@@N@@Statement
import JvmDerived.Pilot.@@N@@Code
set_option linter.unusedVariables false
set_option linter.unusedSimpArgs false
namespace Jvm.RoadKit
open Sem ClassFile Op Lib Jvm.Stand Jvm.Free Jvm.LawKit
section Own
variable {p : Program} {l : Launch} {e : Env} {R : Room} {s : State} {m : MethodId} {args : Array Value} {below : List Frame} {meth : Method} {c : Code} {T : State} {locs : List Loc} {cells slots : Nat}
/-- from U the run ends, and Q holds of what it returns -/
def Outs (p : Program) (e : Env) (below : List Frame) (s : State) (Q : Option Value → Heap → List Loc → Prop) (C S : Nat) (U : State) : Prop :=
  ∃ s₂ o, Steps p.tables e below U s₂ ∧ s₂.status = .running ∧ Ended s₂ below o ∧ ∃ v L, o = .returned v ∧ Q v s₂.heap L ∧ FrameEnd s o s₂ L C S
variable {Q : Option Value → Heap → List Loc → Prop} {C S : Nat}
theorem Outs.of {U U' : State} (h : ∀ t, Steps p.tables e below U' t → Steps p.tables e below U t) (k : Outs p e below s Q C S U') : Outs p e below s Q C S U := by
  obtain ⟨t, o, st, r⟩ := k
  exact ⟨t, o, h t st, r⟩
theorem Outs.to {U U' : State} (h : Steps p.tables e below U U') (k : Outs p e below s Q C S U') : Outs p e below s Q C S U := by
  obtain ⟨t, o, st, r⟩ := k
  exact ⟨t, o, h.trans st, r⟩
theorem Outs.mono {U : State} {Q' : Option Value → Heap → List Loc → Prop} (k : Outs p e below s Q C S U) (h : ∀ v h L, Q v h L → Q' v h L) : Outs p e below s Q' C S U := by
  obtain ⟨t, o, st, h1, h2, v, L, h3, h4, h5⟩ := k
  exact ⟨t, o, st, h1, h2, v, L, h3, h _ _ _ h4, h5⟩
theorem Outs.ret (X : Stand p l e R s m args below meth c T locs cells slots) {g : JFrame} {v : Option Value} (hv : meth.sig.returnType = none → v = none) (hlk : meth.locks = false) (hC : cells ≤ C) (hS : slots ≤ S)
    (st : ∀ fs, (∀ (f : JFrame) (acts : List Action), f.method = m → f.locked = none → f.entered = [] → (doReturn e (T.setTop f) acts v).1 = T.setFrames fs) → Steps p.tables e below (T.setTop g) (T.setFrames fs))
    {h : Heap} (eT : T.heap = h) (q : Q v h locs) : Outs p e below s Q C S (T.setTop g) := by
  subst eT
  obtain ⟨fs, hr, hrun, hended, hW, hsame⟩ := X.leave (v := v) hv hlk
  exact ⟨_, _, st fs hr, hrun, hended, v, locs, rfl, q, ⟨_, rfl⟩, hW, hsame.mono hC hS⟩
theorem Outs.retI (X : Stand p l e R s m args below meth c T locs cells slots) (hx : p.tables.exec = Jvm.exec) {pc : Nat} {Ls : Array Slot} {z : Int32} {rest : List Value} (hret : meth.sig.returnType = some .int) (hd : decode c.code pc = .ok (.ireturn, 1)) (hlk : meth.locks = false) (hC : cells ≤ C) (hS : slots ≤ S)
    {h : Heap} (eT : T.heap = h) (q : Q (some (.int z)) h locs) : Outs p e below s Q C S (T.setTop (mkF m pc Ls (.int z :: rest))) :=
  Outs.ret X (fun h => by rw [hret] at h; cases h) hlk hC hS (fun fs hl => retOut X hx hret rfl (Or.inl ⟨rfl, Or.inl rfl, z, rfl⟩) hd hl) eT q
theorem Outs.retL (X : Stand p l e R s m args below meth c T locs cells slots) (hx : p.tables.exec = Jvm.exec) {pc : Nat} {Ls : Array Slot} {z : Int64} {rest : List Value} (hret : meth.sig.returnType = some .long) (hd : decode c.code pc = .ok (.lreturn, 1)) (hlk : meth.locks = false) (hC : cells ≤ C) (hS : slots ≤ S)
    {h : Heap} (eT : T.heap = h) (q : Q (some (.long z)) h locs) : Outs p e below s Q C S (T.setTop (mkF m pc Ls (.long z :: rest))) :=
  Outs.ret X (fun h => by rw [hret] at h; cases h) hlk hC hS (fun fs hl => retOut X hx hret rfl (Or.inr (Or.inl ⟨rfl, rfl, z, rfl⟩)) hd hl) eT q
theorem Outs.retN (X : Stand p l e R s m args below meth c T locs cells slots) (hx : p.tables.exec = Jvm.exec) {pc : Nat} {Ls : Array Slot} {z : Int32} {t : FieldType} {rest : List Value} (hret : meth.sig.returnType = some t) (ht : t = .boolean ∨ t = .byte ∨ t = .char ∨ t = .short) (hd : decode c.code pc = .ok (.ireturn, 1)) (hlk : meth.locks = false) (hC : cells ≤ C) (hS : slots ≤ S)
    {h : Heap} (eT : T.heap = h) (q : Q (some (.int (nar t z))) h locs) : Outs p e below s Q C S (T.setTop (mkF m pc Ls (.int z :: rest))) :=
  Outs.ret X (fun h => by rw [hret] at h; cases h) hlk hC hS (fun fs hl => Jvm.RoadKit.retN X hx hret ht hd hl) eT q
theorem Outs.retV (X : Stand p l e R s m args below meth c T locs cells slots) (hx : p.tables.exec = Jvm.exec) {pc : Nat} {Ls : Array Slot} (hret : meth.sig.returnType = none) (hd : decode c.code pc = .ok (.return_, 1)) (hlk : meth.locks = false) (hC : cells ≤ C) (hS : slots ≤ S)
    {h : Heap} (eT : T.heap = h) (q : Q none h locs) : Outs p e below s Q C S (T.setTop (mkF m pc Ls [])) :=
  Outs.ret X (fun _ => rfl) hlk hC hS (fun fs hl => X.returnOut hx hret hd hl) eT q
theorem Outs.retA (X : Stand p l e R s m args below meth c T locs cells slots) (hx : p.tables.exec = Jvm.exec) {pc : Nat} {Ls : Array Slot} {w : Value} {t : FieldType} {rest : List Value} (hret : meth.sig.returnType = some t) (ht : t.isReference = true) (hw : w.isRef = true) (hn : narrow t w = w) (hd : decode c.code pc = .ok (.areturn, 1)) (hlk : meth.locks = false) (hC : cells ≤ C) (hS : slots ≤ S)
    {h : Heap} (eT : T.heap = h) (q : Q (some w) h locs) : Outs p e below s Q C S (T.setTop (mkF m pc Ls (w :: rest))) :=
  Outs.ret X (fun h => by rw [hret] at h; cases h) hlk hC hS (fun fs hl => retOut X hx hret hn (Or.inr (Or.inr (Or.inr (Or.inr ⟨rfl, ht, hw⟩)))) hd hl) eT q
theorem lremM {g : JFrame} {target : State} (X : Stand p l e R s m args below meth c T locs cells slots) (hx : p.tables.exec = Jvm.exec) (hg : g.method = m) {x y : Int64} {rest : List Value} (hd : decode c.code g.pc = .ok (.lrem, 1)) (hs : g.stack = .long y :: .long x :: rest) (hy : y ≠ 0)
    (hr : Steps p.tables e below (T.setTop { g with pc := g.pc + 1, stack := .long (x % y) :: rest }) target) : Steps p.tables e below (T.setTop g) target :=
  XS.lrem X.here hx hg hd hs hy (by rw [lrem_mod]; exact hr)
/-- a body that returns v and leaves the heap as it was -/
def QR (z : Option Value) (h0 : Heap) (n0 : Nat) (v : Option Value) (h : Heap) (L : List Loc) : Prop := v = z ∧ Fr n0 L ∧ h = h0
/-- the law's own -/
def QL (n0 : Nat) (v : Option Value) (h : Heap) (L : List Loc) : Prop := v = some (.int 1) ∧ Fr n0 L
end Own
end Jvm.RoadKit
namespace Jvm.RoadKit
open Sem ClassFile Op Lib Jvm.Stand Jvm.Free Jvm.LawKit
section OwnHeap
variable {p : Program} {l : Launch} {e : Env} {R : Room} {s : State} {m : MethodId} {args : Array Value} {below : List Frame} {meth : Method} {c : Code} {T : State} {locs : List Loc} {cells slots : Nat} {Z : State} {a0 : Array Value} {h h' : Heap} {a b : Addr} {ty : FieldType} {n : Nat}
def upv {α : Type} (g : Nat → α) (k : Nat) (v : α) : Nat → α := fun j => if j = k then v else g j
theorem upv_same {α : Type} (g : Nat → α) (k : Nat) (v : α) : upv g k v k = v := if_pos rfl
theorem upv_ne {α : Type} (g : Nat → α) {k j : Nat} (v : α) (q : j ≠ k) : upv g k v j = g j := if_neg q
/-- an array of n places; place j holds f j -/
def AF (Z : State) (h : Heap) (a : Addr) (ty : FieldType) (n : Nat) (f : Nat → Value) : Prop :=
  ∃ c : Cell, Arr Z h a c ty ∧ c.slots.size = n ∧ n < 2147483648 ∧ ∀ j, j < n → c.slots[j]? = some (f j)
def AI (Z : State) (h : Heap) (a : Addr) (ty : FieldType) (n : Nat) (g : Nat → Int32) : Prop := AF Z h a ty n (fun j => .int (g j))
def AJ (Z : State) (h : Heap) (a : Addr) (ty : FieldType) (n : Nat) (g : Nat → Int64) : Prop := AF Z h a ty n (fun j => .long (g j))
theorem AF.lt {f : Nat → Value} (F : AF Z h a ty n f) : a < h.size := by obtain ⟨c, A, -⟩ := F; exact A.lt
theorem AF.ext {f : Nat → Value} (F : AF Z h a ty n f) (E : Ext h h') : AF Z h' a ty n f := by obtain ⟨c, A, r⟩ := F; exact ⟨c, A.ext E, r⟩
theorem AF.other {f : Nat → Value} {sl : Nat} {v : Value} (F : AF Z h b ty n f) (W : Wr h h' a sl v) (q : b ≠ a) : AF Z h' b ty n f := by obtain ⟨c, A, r⟩ := F; exact ⟨c, A.other W q, r⟩
theorem AF.keep {f : Nat → Value} {ws : List Addr} (F : AF Z h a ty n f) (K : Keep h h' ws) (q : a ∉ ws) : AF Z h' a ty n f := by obtain ⟨c, A, r⟩ := F; exact ⟨c, ⟨K.2.1 a c A.1 q, A.2⟩, r⟩
theorem AF.len {f : Nat → Value} (F : AF Z h a ty n f) : n < 2147483648 := by obtain ⟨c, A, -, M, -⟩ := F; exact M
theorem AF.cong {f f' : Nat → Value} (F : AF Z h a ty n f) (q : ∀ j, j < n → f j = f' j) : AF Z h a ty n f' := by
  obtain ⟨c, A, S, M, G⟩ := F
  exact ⟨c, A, S, M, fun j hj => by rw [← q j hj]; exact G j hj⟩
theorem AI.cong {g g' : Nat → Int32} (F : AI Z h a ty n g) (q : ∀ j, j < n → g j = g' j) : AI Z h a ty n g' := AF.cong F fun j hj => by rw [q j hj]
theorem AJ.cong {g g' : Nat → Int64} (F : AJ Z h a ty n g) (q : ∀ j, j < n → g j = g' j) : AJ Z h a ty n g' := AF.cong F fun j hj => by rw [q j hj]
theorem own_nat {j : Int32} {k : Nat} (hk : j.toInt = k) : j.toNatClampNeg = k := by
  show j.toInt.toNat = k
  rw [hk]; rfl
theorem own_in {cl : Cell} {j : Int32} {k : Nat} (S : cl.slots.size = n) (hk : j.toInt = k) (hn : k < n) : ¬ (j < 0 ∨ cl.slots.size ≤ j.toNatClampNeg) := by
  rw [own_nat hk, S, Int32.lt_iff_toInt_lt, hk]
  have : (0 : Int32).toInt = 0 := rfl
  omega
theorem AF.set {f : Nat → Value} {k : Nat} {v : Value} (F : AF Z h a ty n f) (W : Wr h h' a k v) : AF Z h' a ty n (upv f k v) := by
  obtain ⟨c, A, S, M, G⟩ := F
  refine ⟨c.setSlot k v, A.same W, by rw [sz_set]; exact S, M, fun j hj => ?_⟩
  have hz : j < c.slots.size := by omega
  simp only [Cell.setSlot, upv, Array.getElem?_setIfInBounds]
  by_cases q : j = k
  · subst q; simp [hz]
  · rw [if_neg (Ne.symm q), if_neg q]; exact G j hj
theorem AI.set {g : Nat → Int32} {k : Nat} {x : Int32} (F : AI Z h a ty n g) (W : Wr h h' a k (.int x)) : AI Z h' a ty n (upv g k x) :=
  AF.cong (AF.set F W) fun j _ => by simp only [upv]; split <;> rfl
theorem AJ.set {g : Nat → Int64} {k : Nat} {x : Int64} (F : AJ Z h a ty n g) (W : Wr h h' a k (.long x)) : AJ Z h' a ty n (upv g k x) :=
  AF.cong (AF.set F W) fun j _ => by simp only [upv]; split <;> rfl
theorem AF.fresh {k : ClassId} {z : Int32} {i : Nat} (A : Arr Z h a (newA k ty z) ty) (q : z.toInt = i) : AF Z h a ty i (fun _ => defaultValue ty) := by
  have S : (newA k ty z).slots.size = i := by rw [sz_new, own_nat q]
  refine ⟨_, A, S, ?_, fun j hj => ?_⟩
  · have := z.toInt_lt; omega
  · have hz : j < (newA k ty z).slots.size := by omega
    simp only [newA] at hz ⊢
    rw [Array.getElem?_eq_getElem hz]; simp
section Loads
theorem ldI (X : Stand p l e R s m args below meth c T locs cells slots) (hx : p.tables.exec = Jvm.exec) (hZ : Z.Warmed39 s.vm) (eT : T.heap = h) {g : Nat → Int32} (F : AI Z h a .int n g) {j : Int32} {k : Nat} (hk : j.toInt = k) (hn : k < n) {f : JFrame} (hg : f.method = m) {rest : List Value} (hs : f.stack = .int j :: .ref a :: rest) (hd : decode c.code f.pc = .ok (.iaload, 1)) :
    ∀ target, Steps p.tables e below (T.setTop { f with pc := f.pc + 1, stack := .int (g k) :: rest }) target → Steps p.tables e below (T.setTop f) target := by
  obtain ⟨cl, A, S, M, G⟩ := F
  intro target kt
  exact X.iaload hx (by rw [eT]; exact A.1) (State.isArrayOf_alike hZ.alike A.2.1) A.2.2 (own_in S hk hn) (by rw [own_nat hk]; exact G k hn) hg hs hd target kt
theorem ldB (X : Stand p l e R s m args below meth c T locs cells slots) (hx : p.tables.exec = Jvm.exec) (hZ : Z.Warmed39 s.vm) (eT : T.heap = h) {g : Nat → Int32} (F : AI Z h a .byte n g) {j : Int32} {k : Nat} (hk : j.toInt = k) (hn : k < n) {f : JFrame} (hg : f.method = m) {rest : List Value} (hs : f.stack = .int j :: .ref a :: rest) (hd : decode c.code f.pc = .ok (.baload, 1)) :
    ∀ target, Steps p.tables e below (T.setTop { f with pc := f.pc + 1, stack := .int (g k) :: rest }) target → Steps p.tables e below (T.setTop f) target := by
  obtain ⟨cl, A, S, M, G⟩ := F
  intro target kt
  exact X.baloadBytes hx (by rw [eT]; exact A.1) (State.isArrayOf_alike hZ.alike A.2.1) A.2.2 (own_in S hk hn) (by rw [own_nat hk]; exact G k hn) hg hs hd target kt
theorem ldJ (X : Stand p l e R s m args below meth c T locs cells slots) (hx : p.tables.exec = Jvm.exec) (hZ : Z.Warmed39 s.vm) (eT : T.heap = h) {g : Nat → Int64} (F : AJ Z h a .long n g) {j : Int32} {k : Nat} (hk : j.toInt = k) (hn : k < n) {f : JFrame} (hg : f.method = m) {rest : List Value} (hs : f.stack = .int j :: .ref a :: rest) (hd : decode c.code f.pc = .ok (.laload, 1)) :
    ∀ target, Steps p.tables e below (T.setTop { f with pc := f.pc + 1, stack := .long (g k) :: rest }) target → Steps p.tables e below (T.setTop f) target := by
  obtain ⟨cl, A, S, M, G⟩ := F
  intro target kt
  exact X.laload hx (by rw [eT]; exact A.1) (State.isArrayOf_alike hZ.alike A.2.1) A.2.2 (own_in S hk hn) (by rw [own_nat hk]; exact G k hn) hg hs hd target kt
theorem ldR (X : Stand p l e R s m args below meth c T locs cells slots) (hx : p.tables.exec = Jvm.exec) (hZ : Z.Warmed39 s.vm) (eT : T.heap = h) {g : Nat → Value} (F : AF Z h a ty n g) (hty : ty.isReference = true) {j : Int32} {k : Nat} (hk : j.toInt = k) (hn : k < n) {f : JFrame} (hg : f.method = m) {rest : List Value} (hs : f.stack = .int j :: .ref a :: rest) (hd : decode c.code f.pc = .ok (.aaload, 1)) :
    ∀ target, Steps p.tables e below (T.setTop { f with pc := f.pc + 1, stack := g k :: rest }) target → Steps p.tables e below (T.setTop f) target := by
  obtain ⟨cl, A, S, M, G⟩ := F
  intro target kt
  exact X.aaload hx (by rw [eT]; exact A.1) (State.isArrayOf_alike hZ.alike A.2.1) hty A.2.2 (own_in S hk hn) (by rw [own_nat hk]; exact G k hn) hg hs hd target kt
theorem alen (X : Stand p l e R s m args below meth c T locs cells slots) (hx : p.tables.exec = Jvm.exec) (hZ : Z.Warmed39 s.vm) (eT : T.heap = h) {g : Nat → Value} (F : AF Z h a ty n g) {z : Int32} (hz : z.toInt = n) {f : JFrame} (hg : f.method = m) {rest : List Value} (hs : f.stack = .ref a :: rest) (hd : decode c.code f.pc = .ok (.arraylength, 1)) :
    ∀ target, Steps p.tables e below (T.setTop { f with pc := f.pc + 1, stack := .int z :: rest }) target → Steps p.tables e below (T.setTop f) target := by
  obtain ⟨cl, A, S, M, G⟩ := F
  intro target kt
  have h0 : ¬ z < 0 := by
    rw [Int32.lt_iff_toInt_lt, hz]
    have : (0 : Int32).toInt = 0 := rfl
    omega
  have q : cl.slots.size.toInt32 = z := by rw [S, ← own_nat hz]; exact (back32 h0).1
  refine X.arraylength hx (by rw [eT]; exact A.1) (State.isArrayOf_alike hZ.alike A.2.1) hg hs hd target ?_
  rw [q]; exact kt
end Loads
section Stores
theorem puI (X : Stand p l e R s m args below meth c T locs cells slots) (hx : p.tables.exec = Jvm.exec) (hZ : Z.Warmed39 s.vm) (eT : T.heap = h) {g : Nat → Int32} (F : AI Z h a .int n g) {j x : Int32} {k : Nat} (hk : j.toInt = k) (hn : k < n) {f : JFrame} (hg : f.method = m) {rest : List Value} (hs : f.stack = .int x :: .int j :: .ref a :: rest) (hd : decode c.code f.pc = .ok (.iastore, 1)) :
    ∃ T' h', Stand p l e R s m args below meth c T' (locs ++ [⟨a, k⟩]) cells slots ∧ T'.heap = h' ∧ Wr h h' a k (.int x) ∧ AI Z h' a .int n (upv g k x) ∧ ∀ target, Steps p.tables e below (T'.setTop { f with pc := f.pc + 1, stack := rest }) target → Steps p.tables e below (T.setTop f) target := by
  obtain ⟨cl, A, S, M, G⟩ := id F
  obtain ⟨T', h', X', e', W, st⟩ := stI X hx hZ eT A (j := j) (own_in S hk hn) hg hs hd
  rw [own_nat hk] at X' W
  exact ⟨T', h', X', e', W, AI.set F W, st⟩
theorem puB (X : Stand p l e R s m args below meth c T locs cells slots) (hx : p.tables.exec = Jvm.exec) (hZ : Z.Warmed39 s.vm) (eT : T.heap = h) {g : Nat → Int32} (F : AI Z h a .byte n g) {j x : Int32} {k : Nat} (hk : j.toInt = k) (hn : k < n) {f : JFrame} (hg : f.method = m) {rest : List Value} (hs : f.stack = .int x :: .int j :: .ref a :: rest) (hd : decode c.code f.pc = .ok (.bastore, 1)) :
    ∃ T' h', Stand p l e R s m args below meth c T' (locs ++ [⟨a, k⟩]) cells slots ∧ T'.heap = h' ∧ Wr h h' a k (.int x.toInt8.toInt32) ∧ AI Z h' a .byte n (upv g k x.toInt8.toInt32) ∧ ∀ target, Steps p.tables e below (T'.setTop { f with pc := f.pc + 1, stack := rest }) target → Steps p.tables e below (T.setTop f) target := by
  obtain ⟨cl, A, S, M, G⟩ := id F
  obtain ⟨T', h', X', e', W, st⟩ := stB X hx hZ eT A (j := j) (own_in S hk hn) hg hs hd
  rw [own_nat hk] at X' W
  exact ⟨T', h', X', e', W, AI.set F W, st⟩
theorem puJ (X : Stand p l e R s m args below meth c T locs cells slots) (hx : p.tables.exec = Jvm.exec) (hZ : Z.Warmed39 s.vm) (eT : T.heap = h) {g : Nat → Int64} (F : AJ Z h a .long n g) {j : Int32} {x : Int64} {k : Nat} (hk : j.toInt = k) (hn : k < n) {f : JFrame} (hg : f.method = m) {rest : List Value} (hs : f.stack = .long x :: .int j :: .ref a :: rest) (hd : decode c.code f.pc = .ok (.lastore, 1)) :
    ∃ T' h', Stand p l e R s m args below meth c T' (locs ++ [⟨a, k⟩]) cells slots ∧ T'.heap = h' ∧ Wr h h' a k (.long x) ∧ AJ Z h' a .long n (upv g k x) ∧ ∀ target, Steps p.tables e below (T'.setTop { f with pc := f.pc + 1, stack := rest }) target → Steps p.tables e below (T.setTop f) target := by
  obtain ⟨cl, A, S, M, G⟩ := id F
  obtain ⟨T', h', X', e', W, st⟩ := stJ X hx hZ eT A (j := j) (own_in S hk hn) hg hs hd
  rw [own_nat hk] at X' W
  exact ⟨T', h', X', e', W, AJ.set F W, st⟩
theorem puR (X : Stand p l e R s m args below meth c T locs cells slots) (hx : p.tables.exec = Jvm.exec) (hZ : Z.Warmed39 s.vm) (eT : T.heap = h) {g : Nat → Value} (F : AF Z h a ty n g) (hty : ty.isReference = true) {j : Int32} {x : Value} (O : Sto Z h a x) {k : Nat} (hk : j.toInt = k) (hn : k < n) {f : JFrame} (hg : f.method = m) {rest : List Value} (hs : f.stack = x :: .int j :: .ref a :: rest) (hd : decode c.code f.pc = .ok (.aastore, 1)) :
    ∃ T' h', Stand p l e R s m args below meth c T' (locs ++ [⟨a, k⟩]) cells slots ∧ T'.heap = h' ∧ Wr h h' a k x ∧ AF Z h' a ty n (upv g k x) ∧ ∀ target, Steps p.tables e below (T'.setTop { f with pc := f.pc + 1, stack := rest }) target → Steps p.tables e below (T.setTop f) target := by
  obtain ⟨cl, A, S, M, G⟩ := id F
  obtain ⟨T', h', X', e', W, st⟩ := stR X hx hZ eT A (j := j) (own_in S hk hn) hty O hg hs hd
  rw [own_nat hk] at X' W
  exact ⟨T', h', X', e', W, AF.set F W, st⟩
theorem newAF (X : Stand p l e R s m args below meth c T locs cells slots) (hx : p.tables.exec = Jvm.exec) (hZ : Z.Warmed39 s.vm) {aty : ArrayType} (w : (Cond.arrayClass (newarray.typeOf aty)).before a0 Z = true) (eT : T.heap = h) {f : JFrame} (hg : f.method = m) (hd : decode c.code f.pc = .ok (.newarray aty, 2)) {z : Int32} {rest : List Value} (hs : f.stack = .int z :: rest)
    {k : Nat} (hk : z.toInt = k) {cap : Nat} (hcap : k ≤ cap) (hb : cap * 8 ≤ 536870912) (hc : cells + 1 ≤ R.cells) (hl : slots + cap ≤ R.slots) :
    ∃ T' h', Stand p l e R s m args below meth c T' locs (cells + 1) (slots + cap) ∧ T'.heap = h' ∧ Ext h h' ∧ AF Z h' h.size (newarray.typeOf aty) k (fun _ => defaultValue (newarray.typeOf aty)) ∧
      ∀ target, Steps p.tables e below (T'.setTop { f with pc := f.pc + 2, stack := .ref h.size :: rest }) target → Steps p.tables e below (T.setTop f) target := by
  have h0 : ¬ z < 0 := by
    rw [Int32.lt_iff_toInt_lt, hk]
    have : (0 : Int32).toInt = 0 := rfl
    omega
  obtain ⟨T', h', cA, X', e', E, A, st⟩ := newP X hx hZ w eT hg hd hs h0 (cap := cap) (by rw [own_nat hk]; exact hcap) hb hc hl
  exact ⟨T', h', X', e', E, AF.fresh A hk, st⟩
end Stores
theorem hide (X : Stand p l e R s m args below meth c T locs cells slots) {n0 : Nat} (N : Fr n0 locs) {C S : Nat} (hc : cells ≤ C) (hs : slots ≤ S) : ∃ L, Stand p l e R s m args below meth c T L C S ∧ Fr n0 L := ⟨locs, X.more hc hs, N⟩
theorem own_selects {args' : Array Value} {U : State} {y : MethodName} {k : Nat} (wi : (Cond.instantiable y.cls k).before args' U = true) (hpriv : U.PrivateAt y) (hinst : (Cond.instanceMethod y).before args' U = true) (hy : y.cls ≠ "java/lang/invoke/MethodHandle" ∧ y.cls ≠ "java/lang/invoke/VarHandle") : (Cond.selects y.cls y y).before args' U = true := by
  obtain ⟨c1, k1, i1, i2, -, i3, -⟩ := Cond.instantiable_spec wi
  have hni : k1.isInterface = false := by cases q : k1.isInterface <;> simp [q] at i3 ⊢
  exact Jvm.Stand.selects_self_of_private i1 i2 hni hpriv hinst hy
theorem isRef_cat {w : Value} (q : w.isRef = true) : w.category = 1 := by
  rcases ref_cases q with rfl | ⟨x, rfl⟩ <;> rfl
theorem mem1 {α : Type} (x : α) (L : List α) : x ∈ x :: L := List.mem_cons_self
theorem mem2 {α : Type} (x y : α) (L : List α) : x ∈ y :: x :: L := List.mem_cons_of_mem _ List.mem_cons_self
end OwnHeap
end Jvm.RoadKit
namespace Jvm.Pilot.@@N@@
open Jvm Jvm.ClassFile Sem Op Lib Jvm.Free Jvm.Stand Jvm.LawKit Jvm.RoadKit Bundle Jvm.Pilot.@@N@@.Jvm.D
theorem ef_8 (m : MethodId) (x0 : Int64) (x1 : Int64) : entryFrame m #[(.long x0), (.long x1)] 4 = mkF m 0 #[.val (.long x0), .second, .val (.long x1), .second] [] := by first | (simp [entryFrame, mkF, argsToLocals, Value.category]; done) | rfl
theorem d8_0 : decode jdk_35_method_42_code 0 = .ok (.lload_n 0, 1) := by decide +kernel
theorem d8_1 : decode jdk_35_method_42_code 1 = .ok (.lload_n 2, 1) := by decide +kernel
theorem d8_2 : decode jdk_35_method_42_code 2 = .ok (.lcmp, 1) := by decide +kernel
theorem d8_3 : decode jdk_35_method_42_code 3 = .ok (.ifCond .ge 7, 3) := by decide +kernel
theorem d8_6 : decode jdk_35_method_42_code 6 = .ok (.iconst (-1), 1) := by decide +kernel
theorem d8_7 : decode jdk_35_method_42_code 7 = .ok (.goto 14, 3) := by decide +kernel
theorem d8_10 : decode jdk_35_method_42_code 10 = .ok (.lload_n 0, 1) := by decide +kernel
theorem d8_11 : decode jdk_35_method_42_code 11 = .ok (.lload_n 2, 1) := by decide +kernel
theorem d8_12 : decode jdk_35_method_42_code 12 = .ok (.lcmp, 1) := by decide +kernel
theorem d8_13 : decode jdk_35_method_42_code 13 = .ok (.ifCond .ne 7, 3) := by decide +kernel
theorem d8_16 : decode jdk_35_method_42_code 16 = .ok (.iconst 0, 1) := by decide +kernel
theorem d8_17 : decode jdk_35_method_42_code 17 = .ok (.goto 4, 3) := by decide +kernel
theorem d8_20 : decode jdk_35_method_42_code 20 = .ok (.iconst 1, 1) := by decide +kernel
theorem d8_21 : decode jdk_35_method_42_code 21 = .ok (.ireturn, 1) := by decide +kernel
theorem pn_7 : plainName "java/lang/Long" = true := by first | (simp [plainName, overriddenIn]; done) | decide +kernel
def f8_3_s0 (j0 : Int64) (j1 : Int64) : Int32 := (if j0 < j1 then (-1 : Int32) else (if j0 = j1 then (0 : Int32) else (1 : Int32)))
def F_f8 (j0 : Int64) (j1 : Int64) : Int32 := (f8_3_s0 j0 j1)
set_option maxRecDepth 65536 in
set_option maxHeartbeats 40000000 in
theorem rm8 (l : Launch) (Z : State) (a0 : Array Value) (hw : ∀ d ∈ tables_1, d.before a0 Z = true) (ws : List Jvm.Cond) (j0 : Int64) (j1 : Int64)  (h0 : Heap) (n0 : Nat)  :
    MetFree l (⟨"java/lang/Long", "compare", "(JJ)I"⟩ : MethodName) (head1 (Jvm.Cond.code (⟨"java/lang/Long", "compare", "(JJ)I"⟩ : MethodName) jdk_35_method_42_code 4 (some .int) :: ws) ({ frames := 0, cells := 0, slots := 0, locals := 0 } : Room)) (fun a U => a = #[(.long j0), (.long j1)] ∧ Z.Warmed39 U.vm ∧ U.heap = h0) (fun _ _ _ _ _ => True) (fun _ U o U' => ∃ v L, o = .returned v ∧ QR (some (.int (F_f8 j0 j1))) h0 n0 v U'.heap L ∧ FrameEnd U o U' L ({ frames := 0, cells := 0, slots := 0, locals := 0 } : Room).cells ({ frames := 0, cells := 0, slots := 0, locals := 0 } : Room).slots) := by
  refine MetFree.of_bodySF (plainFor_of_name pn_7) hisR ?_
  intro p e s m args below meth c s₁ Bd hml0 hP hK
  obtain ⟨rfl, hZ, hh⟩ := hP
  have hx := Bd.exec
  have hby := Bd.bytes
  have hml : c.maxLocals = 4 := hml0
  have hown : s.vm.findClass "java/lang/Long" = some m.cls := findClass_of_methodNamed Bd.named
  have hnm := (name_of_methodNamed Bd.named Bd.method).1
  have hret := Bd.returns
  have hlk : meth.locks = false := BodyLoose.notSynchronized Bd
  have X0 : Stand p l e ({ frames := 0, cells := 0, slots := 0, locals := 0 } : Room) s m #[(.long j0), (.long j1)] below meth c s₁ [] 0 0 := Stand.of_body Bd
  have e0 : s₁.heap = h0 := by rw [← hh, Bd.state]; rfl
  have N0 := Fr.nil n0
  show Outs p e below s (QR (some (.int (F_f8 j0 j1))) h0 n0) _ _ _
  refine Outs.of (U' := s₁.setTop (mkF m 0 #[.val (.long j0), .second, .val (.long j1), .second] [])) (fun t k => castTop (ef_8 m j0 j1) k) ?_
  refine Outs.of (U' := s₁.setTop (mkF m 21 #[.val (.long j0), .second, .val (.long j1), .second] [(.int (f8_3_s0 j0 j1))])) (fun t k => ?_) ?_
  · refine XS.lloadN X0.here hx rfl (hb hby d8_0) rfl ?_
    refine XS.lloadN X0.here hx rfl (hb hby d8_1) rfl ?_
    refine XS.lcmp X0.here hx rfl (hb hby d8_2) rfl ?_
    by_cases hc3 : j0 < j1
    · refine XS.ifNo X0.here hx rfl (hb hby d8_3) rfl ((if0 _ _).trans (tlt ((lw_lt _ _).mpr hc3)).2.1) ?_
      refine XS.iconst X0.here hx rfl (hb hby d8_6) ?_
      refine XS.goto X0.here hx rfl (pc0 := 7) (pc' := 21) rfl (hb hby d8_7) (by decide) (by decide) ?_
      rw [show (f8_3_s0 j0 j1) = (-1 : Int32) from (if_pos hc3)] at k
      exact k
    · refine XS.ifYes X0.here hx rfl (pc0 := 3) (pc' := 10) rfl (hb hby d8_3) rfl ((if0 _ _).trans (flt (fun q_ => hc3 ((lw_lt _ _).mp q_))).2.1) (by decide) (by decide) ?_
      refine XS.lloadN X0.here hx rfl (hb hby d8_10) rfl ?_
      refine XS.lloadN X0.here hx rfl (hb hby d8_11) rfl ?_
      refine XS.lcmp X0.here hx rfl (hb hby d8_12) rfl ?_
      by_cases hc13 : j0 = j1
      · refine XS.ifNo X0.here hx rfl (hb hby d8_13) rfl ((if0 _ _).trans (teq ((lw_eq _ _).mpr hc13)).2) ?_
        refine XS.iconst X0.here hx rfl (hb hby d8_16) ?_
        refine XS.goto X0.here hx rfl (pc0 := 17) (pc' := 21) rfl (hb hby d8_17) (by decide) (by decide) ?_
        rw [show (f8_3_s0 j0 j1) = (0 : Int32) from ((if_neg hc3).trans (if_pos hc13))] at k
        exact k
      · refine XS.ifYes X0.here hx rfl (pc0 := 13) (pc' := 20) rfl (hb hby d8_13) rfl ((if0 _ _).trans (feq (fun q_ => hc13 ((lw_eq _ _).mp q_))).2) (by decide) (by decide) ?_
        refine XS.iconst X0.here hx rfl (hb hby d8_20) ?_
        rw [show (f8_3_s0 j0 j1) = (1 : Int32) from ((if_neg hc3).trans (if_neg hc13))] at k
        exact k
  exact Outs.retI X0 hx hret (hb hby d8_21) hlk (by decide) (by decide) e0 ⟨congrArg (fun z_ => some (Value.int z_)) (show (F_f8 j0 j1) = (f8_3_s0 j0 j1) from rfl).symm, N0, rfl⟩
theorem ef_7 (m : MethodId) (x0 : Int64) (x1 : Int64) : entryFrame m #[(.long x0), (.long x1)] 4 = mkF m 0 #[.val (.long x0), .second, .val (.long x1), .second] [] := by first | (simp [entryFrame, mkF, argsToLocals, Value.category]; done) | rfl
theorem d7_0 : decode jdk_35_method_43_code 0 = .ok (.lload_n 0, 1) := by decide +kernel
theorem d7_1 : decode jdk_35_method_43_code 1 = .ok (.ldc2_w 168, 3) := by decide +kernel
theorem d7_4 : decode jdk_35_method_43_code 4 = .ok (.ladd, 1) := by decide +kernel
theorem d7_5 : decode jdk_35_method_43_code 5 = .ok (.lload_n 2, 1) := by decide +kernel
theorem d7_6 : decode jdk_35_method_43_code 6 = .ok (.ldc2_w 168, 3) := by decide +kernel
theorem d7_9 : decode jdk_35_method_43_code 9 = .ok (.ladd, 1) := by decide +kernel
theorem pd_6 : parseMethodDescriptor "(JJ)I" = some ⟨[.long, .long], some .int⟩ := by decide +kernel
theorem d7_10 : decode jdk_35_method_43_code 10 = .ok (.invokestatic 302, 3) := by decide +kernel
theorem d7_13 : decode jdk_35_method_43_code 13 = .ok (.ireturn, 1) := by decide +kernel
def F_f7 (j0 : Int64) (j1 : Int64) : Int32 := (F_f8 (j0 + (-9223372036854775808 : Int64)) (j1 + (-9223372036854775808 : Int64)))
set_option maxRecDepth 65536 in
set_option maxHeartbeats 40000000 in
theorem rm7 (l : Launch) (Z : State) (a0 : Array Value) (hw : ∀ d ∈ tables_1, d.before a0 Z = true) (ws : List Jvm.Cond) (j0 : Int64) (j1 : Int64)  (h0 : Heap) (n0 : Nat)  :
    MetFree l (⟨"java/lang/Long", "compareUnsigned", "(JJ)I"⟩ : MethodName) (head1 (Jvm.Cond.code (⟨"java/lang/Long", "compareUnsigned", "(JJ)I"⟩ : MethodName) jdk_35_method_43_code 4 (some .int) :: ws) ({ frames := 1, cells := 0, slots := 0, locals := 15 } : Room)) (fun a U => a = #[(.long j0), (.long j1)] ∧ Z.Warmed39 U.vm ∧ U.heap = h0) (fun _ _ _ _ _ => True) (fun _ U o U' => ∃ v L, o = .returned v ∧ QR (some (.int (F_f7 j0 j1))) h0 n0 v U'.heap L ∧ FrameEnd U o U' L ({ frames := 1, cells := 0, slots := 0, locals := 15 } : Room).cells ({ frames := 1, cells := 0, slots := 0, locals := 15 } : Room).slots) := by
  refine MetFree.of_bodySF (plainFor_of_name pn_7) hisR ?_
  intro p e s m args below meth c s₁ Bd hml0 hP hK
  obtain ⟨rfl, hZ, hh⟩ := hP
  have hx := Bd.exec
  have hby := Bd.bytes
  have hml : c.maxLocals = 4 := hml0
  have hown : s.vm.findClass "java/lang/Long" = some m.cls := findClass_of_methodNamed Bd.named
  have hnm := (name_of_methodNamed Bd.named Bd.method).1
  have hret := Bd.returns
  have hlk : meth.locks = false := BodyLoose.notSynchronized Bd
  have X0 : Stand p l e ({ frames := 1, cells := 0, slots := 0, locals := 15 } : Room) s m #[(.long j0), (.long j1)] below meth c s₁ [] 0 0 := Stand.of_body Bd
  have e0 : s₁.heap = h0 := by rw [← hh, Bd.state]; rfl
  have N0 := Fr.nil n0
  show Outs p e below s (QR (some (.int (F_f7 j0 j1))) h0 n0) _ _ _
  refine Outs.of (U' := s₁.setTop (mkF m 0 #[.val (.long j0), .second, .val (.long j1), .second] [])) (fun t k => castTop (ef_7 m j0 j1) k) ?_
  refine Outs.of (U' := s₁.setTop (mkF m 10 #[.val (.long j0), .second, .val (.long j1), .second] [(.long (j1 + (-9223372036854775808 : Int64))), (.long (j0 + (-9223372036854775808 : Int64)))])) (fun t k => ?_) ?_
  · refine XS.lloadN X0.here hx rfl (hb hby d7_0) rfl ?_
    refine X0.ldc2Long hx hown (mvT hZ (hw _ (List.mem_of_getElem? (i := 47) rfl))) (g := (mkF m 1 #[.val (.long j0), .second, .val (.long j1), .second] [(.long j0)])) rfl (hb hby d7_1) _ ?_
    refine XS.ladd X0.here hx rfl (hb hby d7_4) rfl ?_
    refine XS.lloadN X0.here hx rfl (hb hby d7_5) rfl ?_
    refine X0.ldc2Long hx hown (mvT hZ (hw _ (List.mem_of_getElem? (i := 47) rfl))) (g := (mkF m 6 #[.val (.long j0), .second, .val (.long j1), .second] [(.long j1), (.long (j0 + (-9223372036854775808 : Int64)))])) rfl (hb hby d7_6) _ ?_
    refine XS.ladd X0.here hx rfl (hb hby d7_9) rfl ?_
    exact k
  obtain ⟨_, _, ⟨T1, L1, k1, n1⟩, -, X1, ⟨Lc1, hQ1, l1, y1, z1⟩, st1⟩ := Jvm.LawKit.callS X0 hx (y := (⟨"java/lang/Long", "compare", "(JJ)I"⟩ : MethodName)) hown (mvT hZ (hw _ (List.mem_of_getElem? (i := 48) rfl))) (mvT hZ (hw _ (List.mem_of_getElem? (i := 49) rfl))) (mvT hZ (hw _ (List.mem_of_getElem? (i := 45) rfl))) (mvT hZ (hw _ (List.mem_of_getElem? (i := 50) rfl))) (by decide) (backOf (W := 0) (rm8 l Z a0 hw [] (j0 + (-9223372036854775808 : Int64)) (j1 + (-9223372036854775808 : Int64)) h0 n0 ) hZ (hw _ (List.mem_of_getElem? (i := 50) rfl)) (hw _ (List.mem_of_getElem? (i := 45) rfl)) (by decide) (by decide)) (g := (mkF m 10 #[.val (.long j0), .second, .val (.long j1), .second] [(.long (j1 + (-9223372036854775808 : Int64))), (.long (j0 + (-9223372036854775808 : Int64)))])) rfl (by rw [hml]; rfl) (argsL := [(.long (j0 + (-9223372036854775808 : Int64))), (.long (j1 + (-9223372036854775808 : Int64)))]) (rest := []) (lenOf pd_6 rfl) rfl (by show 2 * 0 + _ ≤ _; exact Nat.le_of_eq rfl) (hb hby d7_10) (fun _ _ => ⟨rfl, e0, (by decide : 0 + 0 ≤ _), (by decide : 0 + 0 ≤ _)⟩)
  dsimp only [Pt.U, Pt.locs, Pt.cells, Pt.slots] at X1 l1 y1 z1 st1 hQ1
  subst l1 y1 z1
  obtain ⟨rfl, N1q, e1⟩ := hQ1
  have N1 := Fr.app N0 N1q
  obtain ⟨Lh1, X1, N1⟩ := hide X1 N1 (C := 0) (S := 0) (by decide) (by decide)
  refine Outs.of st1 ?_
  exact Outs.retI X1 hx hret (hb hby d7_13) hlk (by decide) (by decide) e1 ⟨congrArg (fun z_ => some (Value.int z_)) (show (F_f7 j0 j1) = (F_f8 (j0 + (-9223372036854775808 : Int64)) (j1 + (-9223372036854775808 : Int64))) from rfl).symm, N1, rfl⟩
theorem ef_6 (m : MethodId) (x0 : Int64) : entryFrame m #[(.long x0)] 3 = mkF m 0 #[.val (.long x0), .second, .unset] [] := by first | (simp [entryFrame, mkF, argsToLocals, Value.category]; done) | rfl
theorem d6_0 : decode prog_7_method_10_code 0 = .ok (.lload_n 0, 1) := by decide +kernel
theorem d6_1 : decode prog_7_method_10_code 1 = .ok (.ldc2_w 80, 3) := by decide +kernel
theorem d6_4 : decode prog_7_method_10_code 4 = .ok (.invokestatic 82, 3) := by decide +kernel
theorem d6_7 : decode prog_7_method_10_code 7 = .ok (.ifCond .gt 8, 3) := by decide +kernel
theorem d6_15 : decode prog_7_method_10_code 15 = .ok (.lload_n 0, 1) := by decide +kernel
theorem d6_16 : decode prog_7_method_10_code 16 = .ok (.ldc2_w 88, 3) := by decide +kernel
theorem d6_19 : decode prog_7_method_10_code 19 = .ok (.invokestatic 82, 3) := by decide +kernel
theorem d6_22 : decode prog_7_method_10_code 22 = .ok (.ifCond .gt 8, 3) := by decide +kernel
theorem d6_30 : decode prog_7_method_10_code 30 = .ok (.lload_n 0, 1) := by decide +kernel
theorem d6_31 : decode prog_7_method_10_code 31 = .ok (.ldc2_w 90, 3) := by decide +kernel
theorem d6_34 : decode prog_7_method_10_code 34 = .ok (.invokestatic 82, 3) := by decide +kernel
theorem d6_37 : decode prog_7_method_10_code 37 = .ok (.ifCond .gt 8, 3) := by decide +kernel
theorem d6_45 : decode prog_7_method_10_code 45 = .ok (.lload_n 0, 1) := by decide +kernel
theorem d6_46 : decode prog_7_method_10_code 46 = .ok (.ldc2_w 92, 3) := by decide +kernel
theorem d6_49 : decode prog_7_method_10_code 49 = .ok (.invokestatic 82, 3) := by decide +kernel
theorem d6_52 : decode prog_7_method_10_code 52 = .ok (.ifCond .gt 8, 3) := by decide +kernel
theorem d6_60 : decode prog_7_method_10_code 60 = .ok (.bipush 9, 2) := by decide +kernel
theorem d6_62 : decode prog_7_method_10_code 62 = .ok (.istore_n 2, 1) := by decide +kernel
theorem d6_55 : decode prog_7_method_10_code 55 = .ok (.iconst 5, 1) := by decide +kernel
theorem d6_56 : decode prog_7_method_10_code 56 = .ok (.istore_n 2, 1) := by decide +kernel
theorem d6_57 : decode prog_7_method_10_code 57 = .ok (.goto 6, 3) := by decide +kernel
theorem d6_63 : decode prog_7_method_10_code 63 = .ok (.iload_n 2, 1) := by decide +kernel
theorem d6_64 : decode prog_7_method_10_code 64 = .ok (.ireturn, 1) := by decide +kernel
theorem d6_40 : decode prog_7_method_10_code 40 = .ok (.iconst 3, 1) := by decide +kernel
theorem d6_41 : decode prog_7_method_10_code 41 = .ok (.istore_n 2, 1) := by decide +kernel
theorem d6_42 : decode prog_7_method_10_code 42 = .ok (.goto 21, 3) := by decide +kernel
theorem d6_25 : decode prog_7_method_10_code 25 = .ok (.iconst 2, 1) := by decide +kernel
theorem d6_26 : decode prog_7_method_10_code 26 = .ok (.istore_n 2, 1) := by decide +kernel
theorem d6_27 : decode prog_7_method_10_code 27 = .ok (.goto 36, 3) := by decide +kernel
theorem d6_10 : decode prog_7_method_10_code 10 = .ok (.iconst 1, 1) := by decide +kernel
theorem d6_11 : decode prog_7_method_10_code 11 = .ok (.istore_n 2, 1) := by decide +kernel
theorem d6_12 : decode prog_7_method_10_code 12 = .ok (.goto 51, 3) := by decide +kernel
theorem pn_6 : plainName "com/example/brief_locator/brieflocator/cbor/CborWriter" = true := by first | (simp [plainName, overriddenIn]; done) | decide +kernel
def f6_52_l2 (j0 : Int64) : Int32 := (if (0 : Int32) < (F_f7 j0 (4294967295 : Int64)) then (9 : Int32) else (5 : Int32))
def F_f6 (j0 : Int64) : Int32 := (if (0 : Int32) < (F_f7 j0 (23 : Int64)) then (if (0 : Int32) < (F_f7 j0 (255 : Int64)) then (if (0 : Int32) < (F_f7 j0 (65535 : Int64)) then (f6_52_l2 j0) else (3 : Int32)) else (2 : Int32)) else (1 : Int32))
set_option maxRecDepth 65536 in
set_option maxHeartbeats 40000000 in
theorem rm6 (l : Launch) (Z : State) (a0 : Array Value) (hw : ∀ d ∈ tables_1, d.before a0 Z = true) (ws : List Jvm.Cond) (j0 : Int64)  (h0 : Heap) (n0 : Nat)  :
    MetFree l (⟨"com/example/brief_locator/brieflocator/cbor/CborWriter", "headLength", "(J)I"⟩ : MethodName) (head1 (Jvm.Cond.code (⟨"com/example/brief_locator/brieflocator/cbor/CborWriter", "headLength", "(J)I"⟩ : MethodName) prog_7_method_10_code 3 (some .int) :: ws) ({ frames := 2, cells := 0, slots := 0, locals := 30 } : Room)) (fun a U => a = #[(.long j0)] ∧ Z.Warmed39 U.vm ∧ U.heap = h0) (fun _ _ _ _ _ => True) (fun _ U o U' => ∃ v L, o = .returned v ∧ QR (some (.int (F_f6 j0))) h0 n0 v U'.heap L ∧ FrameEnd U o U' L ({ frames := 2, cells := 0, slots := 0, locals := 30 } : Room).cells ({ frames := 2, cells := 0, slots := 0, locals := 30 } : Room).slots) := by
  refine MetFree.of_bodySF (plainFor_of_name pn_6) hisR ?_
  intro p e s m args below meth c s₁ Bd hml0 hP hK
  obtain ⟨rfl, hZ, hh⟩ := hP
  have hx := Bd.exec
  have hby := Bd.bytes
  have hml : c.maxLocals = 3 := hml0
  have hown : s.vm.findClass "com/example/brief_locator/brieflocator/cbor/CborWriter" = some m.cls := findClass_of_methodNamed Bd.named
  have hnm := (name_of_methodNamed Bd.named Bd.method).1
  have hret := Bd.returns
  have hlk : meth.locks = false := BodyLoose.notSynchronized Bd
  have X0 : Stand p l e ({ frames := 2, cells := 0, slots := 0, locals := 30 } : Room) s m #[(.long j0)] below meth c s₁ [] 0 0 := Stand.of_body Bd
  have e0 : s₁.heap = h0 := by rw [← hh, Bd.state]; rfl
  have N0 := Fr.nil n0
  show Outs p e below s (QR (some (.int (F_f6 j0))) h0 n0) _ _ _
  refine Outs.of (U' := s₁.setTop (mkF m 0 #[.val (.long j0), .second, .unset] [])) (fun t k => castTop (ef_6 m j0) k) ?_
  refine Outs.of (U' := s₁.setTop (mkF m 4 #[.val (.long j0), .second, .unset] [(.long (23 : Int64)), (.long j0)])) (fun t k => ?_) ?_
  · refine XS.lloadN X0.here hx rfl (hb hby d6_0) rfl ?_
    refine X0.ldc2Long hx hown (mvT hZ (hw _ (List.mem_of_getElem? (i := 42) rfl))) (g := (mkF m 1 #[.val (.long j0), .second, .unset] [(.long j0)])) rfl (hb hby d6_1) _ ?_
    exact k
  obtain ⟨_, _, ⟨T1, L1, k1, n1⟩, -, X1, ⟨Lc1, hQ1, l1, y1, z1⟩, st1⟩ := Jvm.LawKit.callS X0 hx (y := (⟨"java/lang/Long", "compareUnsigned", "(JJ)I"⟩ : MethodName)) hown (mvT hZ (hw _ (List.mem_of_getElem? (i := 43) rfl))) (mvT hZ (hw _ (List.mem_of_getElem? (i := 44) rfl))) (mvT hZ (hw _ (List.mem_of_getElem? (i := 45) rfl))) (mvT hZ (hw _ (List.mem_of_getElem? (i := 46) rfl))) (by decide) (backOf (W := 0) (rm7 l Z a0 hw [] j0 (23 : Int64) h0 n0 ) hZ (hw _ (List.mem_of_getElem? (i := 46) rfl)) (hw _ (List.mem_of_getElem? (i := 45) rfl)) (by decide) (by decide)) (g := (mkF m 4 #[.val (.long j0), .second, .unset] [(.long (23 : Int64)), (.long j0)])) rfl (by rw [hml]; rfl) (argsL := [(.long j0), (.long (23 : Int64))]) (rest := []) (lenOf pd_6 rfl) rfl (by show 2 * 0 + _ ≤ _; exact Nat.le_of_eq rfl) (hb hby d6_4) (fun _ _ => ⟨rfl, e0, (by decide : 0 + 0 ≤ _), (by decide : 0 + 0 ≤ _)⟩)
  dsimp only [Pt.U, Pt.locs, Pt.cells, Pt.slots] at X1 l1 y1 z1 st1 hQ1
  subst l1 y1 z1
  obtain ⟨rfl, N1q, e1⟩ := hQ1
  have N1 := Fr.app N0 N1q
  obtain ⟨Lh1, X1, N1⟩ := hide X1 N1 (C := 0) (S := 0) (by decide) (by decide)
  refine Outs.of st1 ?_
  by_cases hc7 : (0 : Int32) < (F_f7 j0 (23 : Int64))
  · refine Outs.of (U' := T1.setTop (mkF m 15 #[.val (.long j0), .second, .unset] [])) (fun t k => ?_) ?_
    · refine XS.ifYes X1.here hx rfl (pc0 := 7) (pc' := 15) rfl (hb hby d6_7) rfl ((if0 _ _).trans (tlt hc7).2.2.1) (by decide) (by decide) ?_
      exact k
    refine Outs.of (U' := T1.setTop (mkF m 19 #[.val (.long j0), .second, .unset] [(.long (255 : Int64)), (.long j0)])) (fun t k => ?_) ?_
    · refine XS.lloadN X1.here hx rfl (hb hby d6_15) rfl ?_
      refine X1.ldc2Long hx hown (mvT hZ (hw _ (List.mem_of_getElem? (i := 58) rfl))) (g := (mkF m 16 #[.val (.long j0), .second, .unset] [(.long j0)])) rfl (hb hby d6_16) _ ?_
      exact k
    obtain ⟨_, _, ⟨T2, L2, k2, n2⟩, -, X2, ⟨Lc2, hQ2, l2, y2, z2⟩, st2⟩ := Jvm.LawKit.callS X1 hx (y := (⟨"java/lang/Long", "compareUnsigned", "(JJ)I"⟩ : MethodName)) hown (mvT hZ (hw _ (List.mem_of_getElem? (i := 43) rfl))) (mvT hZ (hw _ (List.mem_of_getElem? (i := 44) rfl))) (mvT hZ (hw _ (List.mem_of_getElem? (i := 45) rfl))) (mvT hZ (hw _ (List.mem_of_getElem? (i := 46) rfl))) (by decide) (backOf (W := 0) (rm7 l Z a0 hw [] j0 (255 : Int64) h0 n0 ) hZ (hw _ (List.mem_of_getElem? (i := 46) rfl)) (hw _ (List.mem_of_getElem? (i := 45) rfl)) (by decide) (by decide)) (g := (mkF m 19 #[.val (.long j0), .second, .unset] [(.long (255 : Int64)), (.long j0)])) rfl (by rw [hml]; rfl) (argsL := [(.long j0), (.long (255 : Int64))]) (rest := []) (lenOf pd_6 rfl) rfl (by show 2 * 0 + _ ≤ _; exact Nat.le_of_eq rfl) (hb hby d6_19) (fun _ _ => ⟨rfl, e1, (by decide : 0 + 0 ≤ _), (by decide : 0 + 0 ≤ _)⟩)
    dsimp only [Pt.U, Pt.locs, Pt.cells, Pt.slots] at X2 l2 y2 z2 st2 hQ2
    subst l2 y2 z2
    obtain ⟨rfl, N2q, e2⟩ := hQ2
    have N2 := Fr.app N1 N2q
    obtain ⟨Lh2, X2, N2⟩ := hide X2 N2 (C := 0) (S := 0) (by decide) (by decide)
    refine Outs.of st2 ?_
    by_cases hc22 : (0 : Int32) < (F_f7 j0 (255 : Int64))
    · refine Outs.of (U' := T2.setTop (mkF m 30 #[.val (.long j0), .second, .unset] [])) (fun t k => ?_) ?_
      · refine XS.ifYes X2.here hx rfl (pc0 := 22) (pc' := 30) rfl (hb hby d6_22) rfl ((if0 _ _).trans (tlt hc22).2.2.1) (by decide) (by decide) ?_
        exact k
      refine Outs.of (U' := T2.setTop (mkF m 34 #[.val (.long j0), .second, .unset] [(.long (65535 : Int64)), (.long j0)])) (fun t k => ?_) ?_
      · refine XS.lloadN X2.here hx rfl (hb hby d6_30) rfl ?_
        refine X2.ldc2Long hx hown (mvT hZ (hw _ (List.mem_of_getElem? (i := 59) rfl))) (g := (mkF m 31 #[.val (.long j0), .second, .unset] [(.long j0)])) rfl (hb hby d6_31) _ ?_
        exact k
      obtain ⟨_, _, ⟨T3, L3, k3, n3⟩, -, X3, ⟨Lc3, hQ3, l3, y3, z3⟩, st3⟩ := Jvm.LawKit.callS X2 hx (y := (⟨"java/lang/Long", "compareUnsigned", "(JJ)I"⟩ : MethodName)) hown (mvT hZ (hw _ (List.mem_of_getElem? (i := 43) rfl))) (mvT hZ (hw _ (List.mem_of_getElem? (i := 44) rfl))) (mvT hZ (hw _ (List.mem_of_getElem? (i := 45) rfl))) (mvT hZ (hw _ (List.mem_of_getElem? (i := 46) rfl))) (by decide) (backOf (W := 0) (rm7 l Z a0 hw [] j0 (65535 : Int64) h0 n0 ) hZ (hw _ (List.mem_of_getElem? (i := 46) rfl)) (hw _ (List.mem_of_getElem? (i := 45) rfl)) (by decide) (by decide)) (g := (mkF m 34 #[.val (.long j0), .second, .unset] [(.long (65535 : Int64)), (.long j0)])) rfl (by rw [hml]; rfl) (argsL := [(.long j0), (.long (65535 : Int64))]) (rest := []) (lenOf pd_6 rfl) rfl (by show 2 * 0 + _ ≤ _; exact Nat.le_of_eq rfl) (hb hby d6_34) (fun _ _ => ⟨rfl, e2, (by decide : 0 + 0 ≤ _), (by decide : 0 + 0 ≤ _)⟩)
      dsimp only [Pt.U, Pt.locs, Pt.cells, Pt.slots] at X3 l3 y3 z3 st3 hQ3
      subst l3 y3 z3
      obtain ⟨rfl, N3q, e3⟩ := hQ3
      have N3 := Fr.app N2 N3q
      obtain ⟨Lh3, X3, N3⟩ := hide X3 N3 (C := 0) (S := 0) (by decide) (by decide)
      refine Outs.of st3 ?_
      by_cases hc37 : (0 : Int32) < (F_f7 j0 (65535 : Int64))
      · refine Outs.of (U' := T3.setTop (mkF m 45 #[.val (.long j0), .second, .unset] [])) (fun t k => ?_) ?_
        · refine XS.ifYes X3.here hx rfl (pc0 := 37) (pc' := 45) rfl (hb hby d6_37) rfl ((if0 _ _).trans (tlt hc37).2.2.1) (by decide) (by decide) ?_
          exact k
        refine Outs.of (U' := T3.setTop (mkF m 49 #[.val (.long j0), .second, .unset] [(.long (4294967295 : Int64)), (.long j0)])) (fun t k => ?_) ?_
        · refine XS.lloadN X3.here hx rfl (hb hby d6_45) rfl ?_
          refine X3.ldc2Long hx hown (mvT hZ (hw _ (List.mem_of_getElem? (i := 60) rfl))) (g := (mkF m 46 #[.val (.long j0), .second, .unset] [(.long j0)])) rfl (hb hby d6_46) _ ?_
          exact k
        obtain ⟨_, _, ⟨T4, L4, k4, n4⟩, -, X4, ⟨Lc4, hQ4, l4, y4, z4⟩, st4⟩ := Jvm.LawKit.callS X3 hx (y := (⟨"java/lang/Long", "compareUnsigned", "(JJ)I"⟩ : MethodName)) hown (mvT hZ (hw _ (List.mem_of_getElem? (i := 43) rfl))) (mvT hZ (hw _ (List.mem_of_getElem? (i := 44) rfl))) (mvT hZ (hw _ (List.mem_of_getElem? (i := 45) rfl))) (mvT hZ (hw _ (List.mem_of_getElem? (i := 46) rfl))) (by decide) (backOf (W := 0) (rm7 l Z a0 hw [] j0 (4294967295 : Int64) h0 n0 ) hZ (hw _ (List.mem_of_getElem? (i := 46) rfl)) (hw _ (List.mem_of_getElem? (i := 45) rfl)) (by decide) (by decide)) (g := (mkF m 49 #[.val (.long j0), .second, .unset] [(.long (4294967295 : Int64)), (.long j0)])) rfl (by rw [hml]; rfl) (argsL := [(.long j0), (.long (4294967295 : Int64))]) (rest := []) (lenOf pd_6 rfl) rfl (by show 2 * 0 + _ ≤ _; exact Nat.le_of_eq rfl) (hb hby d6_49) (fun _ _ => ⟨rfl, e3, (by decide : 0 + 0 ≤ _), (by decide : 0 + 0 ≤ _)⟩)
        dsimp only [Pt.U, Pt.locs, Pt.cells, Pt.slots] at X4 l4 y4 z4 st4 hQ4
        subst l4 y4 z4
        obtain ⟨rfl, N4q, e4⟩ := hQ4
        have N4 := Fr.app N3 N4q
        obtain ⟨Lh4, X4, N4⟩ := hide X4 N4 (C := 0) (S := 0) (by decide) (by decide)
        refine Outs.of st4 ?_
        refine Outs.of (U' := T4.setTop (mkF m 63 #[.val (.long j0), .second, .val (.int (f6_52_l2 j0))] [])) (fun t k => ?_) ?_
        · by_cases hc52 : (0 : Int32) < (F_f7 j0 (4294967295 : Int64))
          · refine XS.ifYes X4.here hx rfl (pc0 := 52) (pc' := 60) rfl (hb hby d6_52) rfl ((if0 _ _).trans (tlt hc52).2.2.1) (by decide) (by decide) ?_
            refine XS.bipush X4.here hx rfl (hb hby d6_60) ?_
            refine XS.istoreN X4.here hx rfl (hb hby d6_62) rfl (l' := #[.val (.long j0), .second, .val (.int (9 : Int32))]) rfl ?_
            rw [show (f6_52_l2 j0) = (9 : Int32) from (if_pos hc52)] at k
            exact k
          · refine XS.ifNo X4.here hx rfl (hb hby d6_52) rfl ((if0 _ _).trans (flt hc52).2.2.1) ?_
            refine XS.iconst X4.here hx rfl (hb hby d6_55) ?_
            refine XS.istoreN X4.here hx rfl (hb hby d6_56) rfl (l' := #[.val (.long j0), .second, .val (.int (5 : Int32))]) rfl ?_
            refine XS.goto X4.here hx rfl (pc0 := 57) (pc' := 63) rfl (hb hby d6_57) (by decide) (by decide) ?_
            rw [show (f6_52_l2 j0) = (5 : Int32) from (if_neg hc52)] at k
            exact k
        refine Outs.of (U' := T4.setTop (mkF m 64 #[.val (.long j0), .second, .val (.int (f6_52_l2 j0))] [(.int (f6_52_l2 j0))])) (fun t k => ?_) ?_
        · refine XS.iloadN X4.here hx rfl (hb hby d6_63) rfl ?_
          exact k
        exact Outs.retI X4 hx hret (hb hby d6_64) hlk (by decide) (by decide) e4 ⟨congrArg (fun z_ => some (Value.int z_)) (show (F_f6 j0) = (f6_52_l2 j0) from ((if_pos hc7).trans ((if_pos hc22).trans (if_pos hc37)))).symm, N4, rfl⟩
      · refine Outs.of (U' := T3.setTop (mkF m 40 #[.val (.long j0), .second, .unset] [])) (fun t k => ?_) ?_
        · refine XS.ifNo X3.here hx rfl (hb hby d6_37) rfl ((if0 _ _).trans (flt hc37).2.2.1) ?_
          exact k
        refine Outs.of (U' := T3.setTop (mkF m 64 #[.val (.long j0), .second, .val (.int (3 : Int32))] [(.int (3 : Int32))])) (fun t k => ?_) ?_
        · refine XS.iconst X3.here hx rfl (hb hby d6_40) ?_
          refine XS.istoreN X3.here hx rfl (hb hby d6_41) rfl (l' := #[.val (.long j0), .second, .val (.int (3 : Int32))]) rfl ?_
          refine XS.goto X3.here hx rfl (pc0 := 42) (pc' := 63) rfl (hb hby d6_42) (by decide) (by decide) ?_
          refine XS.iloadN X3.here hx rfl (hb hby d6_63) rfl ?_
          exact k
        exact Outs.retI X3 hx hret (hb hby d6_64) hlk (by decide) (by decide) e3 ⟨congrArg (fun z_ => some (Value.int z_)) (show (F_f6 j0) = (3 : Int32) from ((if_pos hc7).trans ((if_pos hc22).trans (if_neg hc37)))).symm, N3, rfl⟩
    · refine Outs.of (U' := T2.setTop (mkF m 25 #[.val (.long j0), .second, .unset] [])) (fun t k => ?_) ?_
      · refine XS.ifNo X2.here hx rfl (hb hby d6_22) rfl ((if0 _ _).trans (flt hc22).2.2.1) ?_
        exact k
      refine Outs.of (U' := T2.setTop (mkF m 64 #[.val (.long j0), .second, .val (.int (2 : Int32))] [(.int (2 : Int32))])) (fun t k => ?_) ?_
      · refine XS.iconst X2.here hx rfl (hb hby d6_25) ?_
        refine XS.istoreN X2.here hx rfl (hb hby d6_26) rfl (l' := #[.val (.long j0), .second, .val (.int (2 : Int32))]) rfl ?_
        refine XS.goto X2.here hx rfl (pc0 := 27) (pc' := 63) rfl (hb hby d6_27) (by decide) (by decide) ?_
        refine XS.iloadN X2.here hx rfl (hb hby d6_63) rfl ?_
        exact k
      exact Outs.retI X2 hx hret (hb hby d6_64) hlk (by decide) (by decide) e2 ⟨congrArg (fun z_ => some (Value.int z_)) (show (F_f6 j0) = (2 : Int32) from ((if_pos hc7).trans (if_neg hc22))).symm, N2, rfl⟩
  · refine Outs.of (U' := T1.setTop (mkF m 10 #[.val (.long j0), .second, .unset] [])) (fun t k => ?_) ?_
    · refine XS.ifNo X1.here hx rfl (hb hby d6_7) rfl ((if0 _ _).trans (flt hc7).2.2.1) ?_
      exact k
    refine Outs.of (U' := T1.setTop (mkF m 64 #[.val (.long j0), .second, .val (.int (1 : Int32))] [(.int (1 : Int32))])) (fun t k => ?_) ?_
    · refine XS.iconst X1.here hx rfl (hb hby d6_10) ?_
      refine XS.istoreN X1.here hx rfl (hb hby d6_11) rfl (l' := #[.val (.long j0), .second, .val (.int (1 : Int32))]) rfl ?_
      refine XS.goto X1.here hx rfl (pc0 := 12) (pc' := 63) rfl (hb hby d6_12) (by decide) (by decide) ?_
      refine XS.iloadN X1.here hx rfl (hb hby d6_63) rfl ?_
      exact k
    exact Outs.retI X1 hx hret (hb hby d6_64) hlk (by decide) (by decide) e1 ⟨congrArg (fun z_ => some (Value.int z_)) (show (F_f6 j0) = (1 : Int32) from (if_neg hc7)).symm, N1, rfl⟩
theorem ef_3 (m : MethodId) (x0 : Int32) : entryFrame m #[(.int x0)] 2 = mkF m 0 #[.val (.int x0), .unset] [] := by first | (simp [entryFrame, mkF, argsToLocals, Value.category]; done) | rfl
theorem d3_0 : decode prog_13_method_14_code 0 = .ok (.iload_n 0, 1) := by decide +kernel
theorem d3_1 : decode prog_13_method_14_code 1 = .ok (.sipush 255, 3) := by decide +kernel
theorem d3_4 : decode prog_13_method_14_code 4 = .ok (.iand, 1) := by decide +kernel
theorem d3_5 : decode prog_13_method_14_code 5 = .ok (.iconst 5, 1) := by decide +kernel
theorem d3_6 : decode prog_13_method_14_code 6 = .ok (.iushr, 1) := by decide +kernel
theorem d3_7 : decode prog_13_method_14_code 7 = .ok (.istore_n 1, 1) := by decide +kernel
theorem d3_8 : decode prog_13_method_14_code 8 = .ok (.iload_n 1, 1) := by decide +kernel
theorem d3_9 : decode prog_13_method_14_code 9 = .ok (.iconst 1, 1) := by decide +kernel
theorem d3_10 : decode prog_13_method_14_code 10 = .ok (.if_icmp .eq 8, 3) := by decide +kernel
theorem d3_18 : decode prog_13_method_14_code 18 = .ok (.iconst 1, 1) := by decide +kernel
theorem d3_19 : decode prog_13_method_14_code 19 = .ok (.goto 4, 3) := by decide +kernel
theorem d3_13 : decode prog_13_method_14_code 13 = .ok (.iload_n 1, 1) := by decide +kernel
theorem d3_14 : decode prog_13_method_14_code 14 = .ok (.iconst 3, 1) := by decide +kernel
theorem d3_15 : decode prog_13_method_14_code 15 = .ok (.if_icmp .ne 7, 3) := by decide +kernel
theorem d3_22 : decode prog_13_method_14_code 22 = .ok (.iconst 0, 1) := by decide +kernel
theorem d3_23 : decode prog_13_method_14_code 23 = .ok (.ireturn, 1) := by decide +kernel
theorem pn_1 : plainName "com/example/brief_locator/brieflocator/interchange/CanonicalForm" = true := by first | (simp [plainName, overriddenIn]; done) | decide +kernel
def f3_v7 (i0 : Int32) : Int32 := (((i0 &&& (255 : Int32)).toUInt32 >>> ((5 : Int32) &&& 31).toUInt32).toInt32)
def f3_10_s0 (i0 : Int32) : Int32 := (if (f3_v7 i0) = (1 : Int32) then (1 : Int32) else (if (f3_v7 i0) = (3 : Int32) then (1 : Int32) else (0 : Int32)))
def F_f3 (i0 : Int32) : Int32 := (nar .boolean (f3_10_s0 i0))
set_option maxRecDepth 65536 in
set_option maxHeartbeats 40000000 in
theorem rm3 (l : Launch) (Z : State) (a0 : Array Value) (hw : ∀ d ∈ tables_1, d.before a0 Z = true) (ws : List Jvm.Cond) (i0 : Int32)  (h0 : Heap) (n0 : Nat)  :
    MetFree l (⟨"com/example/brief_locator/brieflocator/interchange/CanonicalForm", "isScheme", "(B)Z"⟩ : MethodName) (head1 (Jvm.Cond.code (⟨"com/example/brief_locator/brieflocator/interchange/CanonicalForm", "isScheme", "(B)Z"⟩ : MethodName) prog_13_method_14_code 2 (some .boolean) :: ws) ({ frames := 0, cells := 0, slots := 0, locals := 0 } : Room)) (fun a U => a = #[(.int i0)] ∧ Z.Warmed39 U.vm ∧ U.heap = h0) (fun _ _ _ _ _ => True) (fun _ U o U' => ∃ v L, o = .returned v ∧ QR (some (.int (F_f3 i0))) h0 n0 v U'.heap L ∧ FrameEnd U o U' L ({ frames := 0, cells := 0, slots := 0, locals := 0 } : Room).cells ({ frames := 0, cells := 0, slots := 0, locals := 0 } : Room).slots) := by
  refine MetFree.of_bodySF (plainFor_of_name pn_1) hisR ?_
  intro p e s m args below meth c s₁ Bd hml0 hP hK
  obtain ⟨rfl, hZ, hh⟩ := hP
  have hx := Bd.exec
  have hby := Bd.bytes
  have hml : c.maxLocals = 2 := hml0
  have hown : s.vm.findClass "com/example/brief_locator/brieflocator/interchange/CanonicalForm" = some m.cls := findClass_of_methodNamed Bd.named
  have hnm := (name_of_methodNamed Bd.named Bd.method).1
  have hret := Bd.returns
  have hlk : meth.locks = false := BodyLoose.notSynchronized Bd
  have X0 : Stand p l e ({ frames := 0, cells := 0, slots := 0, locals := 0 } : Room) s m #[(.int i0)] below meth c s₁ [] 0 0 := Stand.of_body Bd
  have e0 : s₁.heap = h0 := by rw [← hh, Bd.state]; rfl
  have N0 := Fr.nil n0
  show Outs p e below s (QR (some (.int (F_f3 i0))) h0 n0) _ _ _
  refine Outs.of (U' := s₁.setTop (mkF m 0 #[.val (.int i0), .unset] [])) (fun t k => castTop (ef_3 m i0) k) ?_
  refine Outs.of (U' := s₁.setTop (mkF m 23 #[.val (.int i0), .val (.int (f3_v7 i0))] [(.int (f3_10_s0 i0))])) (fun t k => ?_) ?_
  · refine XS.iloadN X0.here hx rfl (hb hby d3_0) rfl ?_
    refine XS.sipush X0.here hx rfl (hb hby d3_1) ?_
    refine XS.iand X0.here hx rfl (hb hby d3_4) rfl ?_
    refine XS.iconst X0.here hx rfl (hb hby d3_5) ?_
    refine XS.iushr X0.here hx rfl (hb hby d3_6) rfl ?_
    refine XS.istoreN X0.here hx rfl (hb hby d3_7) rfl (l' := #[.val (.int i0), .val (.int (f3_v7 i0))]) rfl ?_
    refine XS.iloadN X0.here hx rfl (hb hby d3_8) rfl ?_
    refine XS.iconst X0.here hx rfl (hb hby d3_9) ?_
    by_cases hc10 : (f3_v7 i0) = (1 : Int32)
    · refine XS.icmpYes X0.here hx rfl (pc0 := 10) (pc' := 18) rfl (hb hby d3_10) rfl (teq hc10).1 (by decide) (by decide) ?_
      refine XS.iconst X0.here hx rfl (hb hby d3_18) ?_
      refine XS.goto X0.here hx rfl (pc0 := 19) (pc' := 23) rfl (hb hby d3_19) (by decide) (by decide) ?_
      rw [show (f3_10_s0 i0) = (1 : Int32) from (if_pos hc10)] at k
      exact k
    · refine XS.icmpNo X0.here hx rfl (hb hby d3_10) rfl (feq hc10).1 ?_
      refine XS.iloadN X0.here hx rfl (hb hby d3_13) rfl ?_
      refine XS.iconst X0.here hx rfl (hb hby d3_14) ?_
      by_cases hc15 : (f3_v7 i0) = (3 : Int32)
      · refine XS.icmpNo X0.here hx rfl (hb hby d3_15) rfl (teq hc15).2 ?_
        refine XS.iconst X0.here hx rfl (hb hby d3_18) ?_
        refine XS.goto X0.here hx rfl (pc0 := 19) (pc' := 23) rfl (hb hby d3_19) (by decide) (by decide) ?_
        rw [show (f3_10_s0 i0) = (1 : Int32) from ((if_neg hc10).trans (if_pos hc15))] at k
        exact k
      · refine XS.icmpYes X0.here hx rfl (pc0 := 15) (pc' := 22) rfl (hb hby d3_15) rfl (feq hc15).2 (by decide) (by decide) ?_
        refine XS.iconst X0.here hx rfl (hb hby d3_22) ?_
        rw [show (f3_10_s0 i0) = (0 : Int32) from ((if_neg hc10).trans (if_neg hc15))] at k
        exact k
  exact Outs.retN (t := .boolean) (z := (f3_10_s0 i0)) X0 hx hret (by simp) (hb hby d3_23) hlk (by decide) (by decide) e0 ⟨congrArg (fun z_ => some (Value.int z_)) (show (F_f3 i0) = (nar .boolean (f3_10_s0 i0)) from rfl).symm, N0, rfl⟩
theorem ef_5 (m : MethodId) (x0 : Addr) (x1 : Int32) : entryFrame m #[(.ref x0), (.int x1)] 3 = mkF m 0 #[.val (.ref x0), .val (.int x1), .unset] [] := by first | (simp [entryFrame, mkF, argsToLocals, Value.category]; done) | rfl
theorem d5_0 : decode prog_6_method_21_code 0 = .ok (.aload_n 0, 1) := by decide +kernel
theorem d5_1 : decode prog_6_method_21_code 1 = .ok (.iload_n 1, 1) := by decide +kernel
theorem d5_2 : decode prog_6_method_21_code 2 = .ok (.baload, 1) := by decide +kernel
theorem d5_3 : decode prog_6_method_21_code 3 = .ok (.bipush 31, 2) := by decide +kernel
theorem d5_5 : decode prog_6_method_21_code 5 = .ok (.iand, 1) := by decide +kernel
theorem d5_6 : decode prog_6_method_21_code 6 = .ok (.istore_n 2, 1) := by decide +kernel
theorem d5_7 : decode prog_6_method_21_code 7 = .ok (.iload_n 2, 1) := by decide +kernel
theorem d5_8 : decode prog_6_method_21_code 8 = .ok (.bipush 24, 2) := by decide +kernel
theorem d5_10 : decode prog_6_method_21_code 10 = .ok (.if_icmp .ge 8, 3) := by decide +kernel
theorem d5_13 : decode prog_6_method_21_code 13 = .ok (.iload_n 2, 1) := by decide +kernel
theorem d5_14 : decode prog_6_method_21_code 14 = .ok (.i2l, 1) := by decide +kernel
theorem d5_15 : decode prog_6_method_21_code 15 = .ok (.goto 16, 3) := by decide +kernel
theorem d5_31 : decode prog_6_method_21_code 31 = .ok (.lreturn, 1) := by decide +kernel
theorem pn_5 : plainName "com/example/brief_locator/brieflocator/cbor/CborReader" = true := by first | (simp [plainName, overriddenIn]; done) | decide +kernel
def F_f5 (i1 : Int32) (n : Nat) (g : Nat → Int32) (kp : Nat) : Int64 := (((g kp) &&& (31 : Int32)).toInt64)
set_option maxRecDepth 65536 in
set_option maxHeartbeats 40000000 in
theorem rm5 (l : Launch) (Z : State) (a0 : Array Value) (hw : ∀ d ∈ tables_1, d.before a0 Z = true) (ws : List Jvm.Cond) (o0 : Addr) (i1 : Int32) (n : Nat) (g : Nat → Int32) (kp : Nat) (h0 : Heap) (n0 : Nat) (A_o0 : AI Z h0 o0 .byte n g) (hk0 : i1.toInt = (kp : Int)) (hn0 : kp < n) (hv0 : g kp = (-127 : Int32)) :
    MetFree l (⟨"com/example/brief_locator/brieflocator/cbor/CborReader", "argumentAt", "([BI)J"⟩ : MethodName) (head1 (Jvm.Cond.code (⟨"com/example/brief_locator/brieflocator/cbor/CborReader", "argumentAt", "([BI)J"⟩ : MethodName) prog_6_method_21_code 3 (some .long) :: ws) ({ frames := 0, cells := 0, slots := 0, locals := 0 } : Room)) (fun a U => a = #[(.ref o0), (.int i1)] ∧ Z.Warmed39 U.vm ∧ U.heap = h0) (fun _ _ _ _ _ => True) (fun _ U o U' => ∃ v L, o = .returned v ∧ QR (some (.long (F_f5 i1 n g kp))) h0 n0 v U'.heap L ∧ FrameEnd U o U' L ({ frames := 0, cells := 0, slots := 0, locals := 0 } : Room).cells ({ frames := 0, cells := 0, slots := 0, locals := 0 } : Room).slots) := by
  refine MetFree.of_bodySF (plainFor_of_name pn_5) hisR ?_
  intro p e s m args below meth c s₁ Bd hml0 hP hK
  obtain ⟨rfl, hZ, hh⟩ := hP
  have hx := Bd.exec
  have hby := Bd.bytes
  have hml : c.maxLocals = 3 := hml0
  have hown : s.vm.findClass "com/example/brief_locator/brieflocator/cbor/CborReader" = some m.cls := findClass_of_methodNamed Bd.named
  have hnm := (name_of_methodNamed Bd.named Bd.method).1
  have hret := Bd.returns
  have hlk : meth.locks = false := BodyLoose.notSynchronized Bd
  have X0 : Stand p l e ({ frames := 0, cells := 0, slots := 0, locals := 0 } : Room) s m #[(.ref o0), (.int i1)] below meth c s₁ [] 0 0 := Stand.of_body Bd
  have e0 : s₁.heap = h0 := by rw [← hh, Bd.state]; rfl
  have N0 := Fr.nil n0
  show Outs p e below s (QR (some (.long (F_f5 i1 n g kp))) h0 n0) _ _ _
  refine Outs.of (U' := s₁.setTop (mkF m 0 #[.val (.ref o0), .val (.int i1), .unset] [])) (fun t k => castTop (ef_5 m o0 i1) k) ?_
  refine Outs.of (U' := s₁.setTop (mkF m 2 #[.val (.ref o0), .val (.int i1), .unset] [(.int i1), (.ref o0)])) (fun t k => ?_) ?_
  · refine XS.aloadN X0.here hx rfl (hb hby d5_0) rfl rfl ?_
    refine XS.iloadN X0.here hx rfl (hb hby d5_1) rfl ?_
    exact k
  refine Outs.of (ldB X0 hx hZ e0 A_o0 (j := i1) (k := kp) hk0 hn0 (f := (mkF m 2 #[.val (.ref o0), .val (.int i1), .unset] [(.int i1), (.ref o0)])) rfl rfl (hb hby d5_2)) ?_
  refine Outs.of (U' := s₁.setTop (mkF m 31 #[.val (.ref o0), .val (.int i1), .val (.int ((g kp) &&& (31 : Int32)))] [(.long (((g kp) &&& (31 : Int32)).toInt64))])) (fun t k => ?_) ?_
  · refine XS.bipush X0.here hx rfl (hb hby d5_3) ?_
    refine XS.iand X0.here hx rfl (hb hby d5_5) rfl ?_
    refine XS.istoreN X0.here hx rfl (hb hby d5_6) rfl (l' := #[.val (.ref o0), .val (.int i1), .val (.int ((g kp) &&& (31 : Int32)))]) rfl ?_
    refine XS.iloadN X0.here hx rfl (hb hby d5_7) rfl ?_
    refine XS.bipush X0.here hx rfl (hb hby d5_8) ?_
    refine XS.icmpNo X0.here hx rfl (hb hby d5_10) rfl (tlt (show ((g kp) &&& (31 : Int32)) < (24 : Int32) from (by rw [hv0]; decide))).2.1 ?_
    refine XS.iloadN X0.here hx rfl (hb hby d5_13) rfl ?_
    refine XS.i2l X0.here hx rfl (hb hby d5_14) rfl ?_
    refine XS.goto X0.here hx rfl (pc0 := 15) (pc' := 31) rfl (hb hby d5_15) (by decide) (by decide) ?_
    exact k
  exact Outs.retL X0 hx hret (hb hby d5_31) hlk (by decide) (by decide) e0 ⟨congrArg (fun z_ => some (Value.long z_)) (show (F_f5 i1 n g kp) = (((g kp) &&& (31 : Int32)).toInt64) from rfl).symm, N0, rfl⟩
theorem ef_4 (m : MethodId) (x0 : Addr) (x1 : Int32) (x2 : Int32) : entryFrame m #[(.ref x0), (.int x1), (.int x2)] 3 = mkF m 0 #[.val (.ref x0), .val (.int x1), .val (.int x2)] [] := by first | (simp [entryFrame, mkF, argsToLocals, Value.category]; done) | rfl
theorem d4_0 : decode prog_13_method_24_code 0 = .ok (.iload_n 2, 1) := by decide +kernel
theorem d4_1 : decode prog_13_method_24_code 1 = .ok (.iload_n 1, 1) := by decide +kernel
theorem d4_2 : decode prog_13_method_24_code 2 = .ok (.if_icmp .le 18, 3) := by decide +kernel
theorem d4_20 : decode prog_13_method_24_code 20 = .ok (.iconst 0, 1) := by decide +kernel
theorem d4_21 : decode prog_13_method_24_code 21 = .ok (.ireturn, 1) := by decide +kernel
def F_isn (i1 : Int32) (i2 : Int32) : Int32 := (0 : Int32)
set_option maxRecDepth 65536 in
set_option maxHeartbeats 40000000 in
theorem rmisn (l : Launch) (Z : State) (a0 : Array Value) (hw : ∀ d ∈ tables_1, d.before a0 Z = true) (ws : List Jvm.Cond) (o0 : Addr) (i1 : Int32) (i2 : Int32)  (h0 : Heap) (n0 : Nat) (E_o0 : Exa Z h0 o0 "com/example/brief_locator/brieflocator/interchange/CanonicalForm") (hle : ¬ i1 < i2) :
    MetFree l (⟨"com/example/brief_locator/brieflocator/interchange/CanonicalForm", "isSet", "(II)Z"⟩ : MethodName) (head1 (Jvm.Cond.code (⟨"com/example/brief_locator/brieflocator/interchange/CanonicalForm", "isSet", "(II)Z"⟩ : MethodName) prog_13_method_24_code 3 (some .boolean) :: ws) ({ frames := 0, cells := 0, slots := 0, locals := 0 } : Room)) (fun a U => a = #[(.ref o0), (.int i1), (.int i2)] ∧ Z.Warmed39 U.vm ∧ U.heap = h0) (fun _ _ _ _ _ => True) (fun _ U o U' => ∃ v L, o = .returned v ∧ QR (some (.int (F_isn i1 i2))) h0 n0 v U'.heap L ∧ FrameEnd U o U' L ({ frames := 0, cells := 0, slots := 0, locals := 0 } : Room).cells ({ frames := 0, cells := 0, slots := 0, locals := 0 } : Room).slots) := by
  refine MetFree.of_bodySF (plainFor_of_name pn_1) hisR ?_
  intro p e s m args below meth c s₁ Bd hml0 hP hK
  obtain ⟨rfl, hZ, hh⟩ := hP
  have hx := Bd.exec
  have hby := Bd.bytes
  have hml : c.maxLocals = 3 := hml0
  have hown : s.vm.findClass "com/example/brief_locator/brieflocator/interchange/CanonicalForm" = some m.cls := findClass_of_methodNamed Bd.named
  have hnm := (name_of_methodNamed Bd.named Bd.method).1
  have hret := Bd.returns
  have hlk : meth.locks = false := BodyLoose.notSynchronized Bd
  have X0 : Stand p l e ({ frames := 0, cells := 0, slots := 0, locals := 0 } : Room) s m #[(.ref o0), (.int i1), (.int i2)] below meth c s₁ [] 0 0 := Stand.of_body Bd
  have e0 : s₁.heap = h0 := by rw [← hh, Bd.state]; rfl
  have N0 := Fr.nil n0
  show Outs p e below s (QR (some (.int (F_isn i1 i2))) h0 n0) _ _ _
  refine Outs.of (U' := s₁.setTop (mkF m 0 #[.val (.ref o0), .val (.int i1), .val (.int i2)] [])) (fun t k => castTop (ef_4 m o0 i1 i2) k) ?_
  refine Outs.of (U' := s₁.setTop (mkF m 21 #[.val (.ref o0), .val (.int i1), .val (.int i2)] [(.int (0 : Int32))])) (fun t k => ?_) ?_
  · refine XS.iloadN X0.here hx rfl (hb hby d4_0) rfl ?_
    refine XS.iloadN X0.here hx rfl (hb hby d4_1) rfl ?_
    refine XS.icmpYes X0.here hx rfl (pc0 := 2) (pc' := 20) rfl (hb hby d4_2) rfl (flt hle).2.2.2 (by decide) (by decide) ?_
    refine XS.iconst X0.here hx rfl (hb hby d4_20) ?_
    exact k
  exact Outs.retN (t := .boolean) (z := (0 : Int32)) X0 hx hret (by simp) (hb hby d4_21) hlk (by decide) (by decide) e0 ⟨congrArg (fun z_ => some (Value.int z_)) (show (F_isn i1 i2) = (0 : Int32) from rfl).symm, N0, rfl⟩
theorem d4_5 : decode prog_13_method_24_code 5 = .ok (.aload_n 0, 1) := by decide +kernel
theorem d4_6 : decode prog_13_method_24_code 6 = .ok (.getfield 7, 3) := by decide +kernel
theorem d4_9 : decode prog_13_method_24_code 9 = .ok (.iload_n 1, 1) := by decide +kernel
theorem d4_10 : decode prog_13_method_24_code 10 = .ok (.baload, 1) := by decide +kernel
theorem d4_11 : decode prog_13_method_24_code 11 = .ok (.bipush (-10), 2) := by decide +kernel
theorem d4_13 : decode prog_13_method_24_code 13 = .ok (.if_icmp .eq 7, 3) := by decide +kernel
theorem d4_16 : decode prog_13_method_24_code 16 = .ok (.iconst 1, 1) := by decide +kernel
theorem d4_17 : decode prog_13_method_24_code 17 = .ok (.goto 4, 3) := by decide +kernel
def F_isp (i1 : Int32) (i2 : Int32) (n : Nat) (g : Nat → Int32) (kp : Nat) : Int32 := (1 : Int32)
set_option maxRecDepth 65536 in
set_option maxHeartbeats 40000000 in
theorem rmisp (l : Launch) (Z : State) (a0 : Array Value) (hw : ∀ d ∈ tables_1, d.before a0 Z = true) (ws : List Jvm.Cond) (o0 : Addr) (i1 : Int32) (i2 : Int32) (a1 : Addr) (n : Nat) (g : Nat → Int32) (kp : Nat) (h0 : Heap) (n0 : Nat) (E_o0 : Exa Z h0 o0 "com/example/brief_locator/brieflocator/interchange/CanonicalForm") (F_o0_bytes : Fld Z h0 o0 "com/example/brief_locator/brieflocator/interchange/CanonicalForm" "bytes" "[B" (.ref a1)) (A_a1 : AI Z h0 a1 .byte n g) (hle : i1 < i2) (hk0 : i1.toInt = (kp : Int)) (hn0 : kp < n) (hv0 : g kp = (-127 : Int32)) :
    MetFree l (⟨"com/example/brief_locator/brieflocator/interchange/CanonicalForm", "isSet", "(II)Z"⟩ : MethodName) (head1 (Jvm.Cond.code (⟨"com/example/brief_locator/brieflocator/interchange/CanonicalForm", "isSet", "(II)Z"⟩ : MethodName) prog_13_method_24_code 3 (some .boolean) :: ws) ({ frames := 0, cells := 0, slots := 0, locals := 0 } : Room)) (fun a U => a = #[(.ref o0), (.int i1), (.int i2)] ∧ Z.Warmed39 U.vm ∧ U.heap = h0) (fun _ _ _ _ _ => True) (fun _ U o U' => ∃ v L, o = .returned v ∧ QR (some (.int (F_isp i1 i2 n g kp))) h0 n0 v U'.heap L ∧ FrameEnd U o U' L ({ frames := 0, cells := 0, slots := 0, locals := 0 } : Room).cells ({ frames := 0, cells := 0, slots := 0, locals := 0 } : Room).slots) := by
  refine MetFree.of_bodySF (plainFor_of_name pn_1) hisR ?_
  intro p e s m args below meth c s₁ Bd hml0 hP hK
  obtain ⟨rfl, hZ, hh⟩ := hP
  have hx := Bd.exec
  have hby := Bd.bytes
  have hml : c.maxLocals = 3 := hml0
  have hown : s.vm.findClass "com/example/brief_locator/brieflocator/interchange/CanonicalForm" = some m.cls := findClass_of_methodNamed Bd.named
  have hnm := (name_of_methodNamed Bd.named Bd.method).1
  have hret := Bd.returns
  have hlk : meth.locks = false := BodyLoose.notSynchronized Bd
  have X0 : Stand p l e ({ frames := 0, cells := 0, slots := 0, locals := 0 } : Room) s m #[(.ref o0), (.int i1), (.int i2)] below meth c s₁ [] 0 0 := Stand.of_body Bd
  have e0 : s₁.heap = h0 := by rw [← hh, Bd.state]; rfl
  have N0 := Fr.nil n0
  show Outs p e below s (QR (some (.int (F_isp i1 i2 n g kp))) h0 n0) _ _ _
  refine Outs.of (U' := s₁.setTop (mkF m 0 #[.val (.ref o0), .val (.int i1), .val (.int i2)] [])) (fun t k => castTop (ef_4 m o0 i1 i2) k) ?_
  refine Outs.of (U' := s₁.setTop (mkF m 6 #[.val (.ref o0), .val (.int i1), .val (.int i2)] [(.ref o0)])) (fun t k => ?_) ?_
  · refine XS.iloadN X0.here hx rfl (hb hby d4_0) rfl ?_
    refine XS.iloadN X0.here hx rfl (hb hby d4_1) rfl ?_
    refine XS.icmpNo X0.here hx rfl (hb hby d4_2) rfl (tlt hle).2.2.2 ?_
    refine XS.aloadN X0.here hx rfl (hb hby d4_5) rfl rfl ?_
    exact k
  obtain ⟨T1, X1, e1, st1⟩ := getF X0 hx hZ hown (host := "") (Or.inl (hw _ (List.mem_of_getElem? (i := 11) rfl))) Via.refl e0 F_o0_bytes (g := (mkF m 6 #[.val (.ref o0), .val (.int i1), .val (.int i2)] [(.ref o0)])) rfl rfl (hb hby d4_6)
  refine Outs.of st1 ?_
  refine Outs.of (U' := T1.setTop (mkF m 10 #[.val (.ref o0), .val (.int i1), .val (.int i2)] [(.int i1), (.ref a1)])) (fun t k => ?_) ?_
  · refine XS.iloadN X1.here hx rfl (hb hby d4_9) rfl ?_
    exact k
  refine Outs.of (ldB X1 hx hZ e1 A_a1 (j := i1) (k := kp) hk0 hn0 (f := (mkF m 10 #[.val (.ref o0), .val (.int i1), .val (.int i2)] [(.int i1), (.ref a1)])) rfl rfl (hb hby d4_10)) ?_
  refine Outs.of (U' := T1.setTop (mkF m 21 #[.val (.ref o0), .val (.int i1), .val (.int i2)] [(.int (1 : Int32))])) (fun t k => ?_) ?_
  · refine XS.bipush X1.here hx rfl (hb hby d4_11) ?_
    refine XS.icmpNo X1.here hx rfl (hb hby d4_13) rfl (feq (show ¬ ((g kp) = (-10 : Int32)) from (by rw [hv0]; decide))).1 ?_
    refine XS.iconst X1.here hx rfl (hb hby d4_16) ?_
    refine XS.goto X1.here hx rfl (pc0 := 17) (pc' := 21) rfl (hb hby d4_17) (by decide) (by decide) ?_
    exact k
  exact Outs.retN (t := .boolean) (z := (1 : Int32)) X1 hx hret (by simp) (hb hby d4_21) hlk (by decide) (by decide) e1 ⟨congrArg (fun z_ => some (Value.int z_)) (show (F_isp i1 i2 n g kp) = (1 : Int32) from rfl).symm, N0, rfl⟩
theorem ef_1 (m : MethodId) (x0 : Addr) (x1 : Addr) (x2 : Int32) (x3 : Int32) (x4 : Int32) (x5 : Int32) : entryFrame m #[(.ref x0), (.ref x1), (.int x2), (.int x3), (.int x4), (.int x5)] 7 = mkF m 0 #[.val (.ref x0), .val (.ref x1), .val (.int x2), .val (.int x3), .val (.int x4), .val (.int x5), .unset] [] := by first | (simp [entryFrame, mkF, argsToLocals, Value.category]; done) | rfl
theorem d1_0 : decode prog_13_method_1_code 0 = .ok (.aload_n 0, 1) := by decide +kernel
theorem d1_1 : decode prog_13_method_1_code 1 = .ok (.invokespecial 1, 3) := by decide +kernel
theorem d1_4 : decode prog_13_method_1_code 4 = .ok (.aload_n 0, 1) := by decide +kernel
theorem d1_5 : decode prog_13_method_1_code 5 = .ok (.aload_n 1, 1) := by decide +kernel
theorem d1_6 : decode prog_13_method_1_code 6 = .ok (.putfield 7, 3) := by decide +kernel
theorem d1_9 : decode prog_13_method_1_code 9 = .ok (.aload_n 0, 1) := by decide +kernel
theorem d1_10 : decode prog_13_method_1_code 10 = .ok (.iload_n 2, 1) := by decide +kernel
theorem d1_11 : decode prog_13_method_1_code 11 = .ok (.putfield 13, 3) := by decide +kernel
theorem d1_14 : decode prog_13_method_1_code 14 = .ok (.aload_n 0, 1) := by decide +kernel
theorem d1_15 : decode prog_13_method_1_code 15 = .ok (.iload_n 3, 1) := by decide +kernel
theorem d1_16 : decode prog_13_method_1_code 16 = .ok (.putfield 17, 3) := by decide +kernel
theorem d1_19 : decode prog_13_method_1_code 19 = .ok (.aload_n 0, 1) := by decide +kernel
theorem d1_20 : decode prog_13_method_1_code 20 = .ok (.iload 4, 2) := by decide +kernel
theorem d1_22 : decode prog_13_method_1_code 22 = .ok (.putfield 20, 3) := by decide +kernel
theorem d1_25 : decode prog_13_method_1_code 25 = .ok (.aload_n 0, 1) := by decide +kernel
theorem d1_26 : decode prog_13_method_1_code 26 = .ok (.iload 5, 2) := by decide +kernel
theorem d1_28 : decode prog_13_method_1_code 28 = .ok (.putfield 23, 3) := by decide +kernel
theorem d1_31 : decode prog_13_method_1_code 31 = .ok (.aload_n 0, 1) := by decide +kernel
theorem d1_32 : decode prog_13_method_1_code 32 = .ok (.iload_n 2, 1) := by decide +kernel
theorem d1_33 : decode prog_13_method_1_code 33 = .ok (.iconst 1, 1) := by decide +kernel
theorem d1_34 : decode prog_13_method_1_code 34 = .ok (.if_icmp .le 16, 3) := by decide +kernel
theorem d1_50 : decode prog_13_method_1_code 50 = .ok (.iconst 0, 1) := by decide +kernel
theorem d1_51 : decode prog_13_method_1_code 51 = .ok (.putfield 30, 3) := by decide +kernel
theorem d1_54 : decode prog_13_method_1_code 54 = .ok (.aload_n 0, 1) := by decide +kernel
theorem d1_55 : decode prog_13_method_1_code 55 = .ok (.aload_n 0, 1) := by decide +kernel
theorem d1_56 : decode prog_13_method_1_code 56 = .ok (.getfield 30, 3) := by decide +kernel
theorem d1_59 : decode prog_13_method_1_code 59 = .ok (.ifCond .ne 16, 3) := by decide +kernel
theorem d1_62 : decode prog_13_method_1_code 62 = .ok (.iload_n 2, 1) := by decide +kernel
theorem d1_63 : decode prog_13_method_1_code 63 = .ok (.iconst 1, 1) := by decide +kernel
theorem d1_64 : decode prog_13_method_1_code 64 = .ok (.if_icmp .le 15, 3) := by decide +kernel
theorem d1_79 : decode prog_13_method_1_code 79 = .ok (.iconst 0, 1) := by decide +kernel
theorem d1_80 : decode prog_13_method_1_code 80 = .ok (.putfield 34, 3) := by decide +kernel
theorem d1_83 : decode prog_13_method_1_code 83 = .ok (.aload_n 0, 1) := by decide +kernel
theorem d1_84 : decode prog_13_method_1_code 84 = .ok (.iload_n 3, 1) := by decide +kernel
theorem d1_85 : decode prog_13_method_1_code 85 = .ok (.iload 4, 2) := by decide +kernel
theorem pd_3 : parseMethodDescriptor "(II)Z" = some ⟨[.int, .int], some .boolean⟩ := by decide +kernel
theorem d1_87 : decode prog_13_method_1_code 87 = .ok (.invokevirtual 37, 3) := by decide +kernel
theorem d1_90 : decode prog_13_method_1_code 90 = .ok (.istore 6, 2) := by decide +kernel
theorem d1_92 : decode prog_13_method_1_code 92 = .ok (.aload_n 0, 1) := by decide +kernel
theorem d1_93 : decode prog_13_method_1_code 93 = .ok (.iload 6, 2) := by decide +kernel
theorem d1_95 : decode prog_13_method_1_code 95 = .ok (.ifCond .eq 12, 3) := by decide +kernel
theorem d1_107 : decode prog_13_method_1_code 107 = .ok (.iconst 0, 1) := by decide +kernel
theorem d1_108 : decode prog_13_method_1_code 108 = .ok (.putfield 47, 3) := by decide +kernel
theorem d1_111 : decode prog_13_method_1_code 111 = .ok (.aload_n 0, 1) := by decide +kernel
theorem d1_112 : decode prog_13_method_1_code 112 = .ok (.iload 6, 2) := by decide +kernel
theorem d1_114 : decode prog_13_method_1_code 114 = .ok (.ifCond .eq 16, 3) := by decide +kernel
theorem d1_130 : decode prog_13_method_1_code 130 = .ok (.iload_n 3, 1) := by decide +kernel
theorem d1_131 : decode prog_13_method_1_code 131 = .ok (.putfield 56, 3) := by decide +kernel
theorem d1_134 : decode prog_13_method_1_code 134 = .ok (.return_, 1) := by decide +kernel
def Q_ct1 (Z : State) (o0 : Addr) (o1 : Addr) (i3 : Int32) (i4 : Int32) (i5 : Int32) (n : Nat) (g : Nat → Int32) (h0 : Heap) (n0 : Nat) (v : Option Value) (h : Heap) (L : List Loc) : Prop := v = none ∧ Fr n0 L ∧ Keep h0 h [o0] ∧ Exa Z h o0 "com/example/brief_locator/brieflocator/interchange/CanonicalForm" ∧ Fld Z h o0 "com/example/brief_locator/brieflocator/interchange/CanonicalForm" "bytes" "[B" (.ref o1) ∧ Fld Z h o0 "com/example/brief_locator/brieflocator/interchange/CanonicalForm" "firstEnd" "I" (.int (1 : Int32)) ∧ Fld Z h o0 "com/example/brief_locator/brieflocator/interchange/CanonicalForm" "pathStart" "I" (.int i3) ∧ Fld Z h o0 "com/example/brief_locator/brieflocator/interchange/CanonicalForm" "hasAuthority" "Z" (.int (0 : Int32))
set_option maxRecDepth 65536 in
set_option maxHeartbeats 40000000 in
theorem rmct1 (l : Launch) (Z : State) (a0 : Array Value) (hw : ∀ d ∈ tables_1, d.before a0 Z = true) (ws : List Jvm.Cond) (o0 : Addr) (o1 : Addr) (i3 : Int32) (i4 : Int32) (i5 : Int32) (n : Nat) (g : Nat → Int32) (h0 : Heap) (n0 : Nat) (Z0 : n0 ≤ h0.size) (E_o0 : Exa Z h0 o0 "com/example/brief_locator/brieflocator/interchange/CanonicalForm") (g_o0 : n0 ≤ o0) (F_o0_bytes : Fld Z h0 o0 "com/example/brief_locator/brieflocator/interchange/CanonicalForm" "bytes" "[B" .null) (F_o0_firstEnd : Fld Z h0 o0 "com/example/brief_locator/brieflocator/interchange/CanonicalForm" "firstEnd" "I" (.int (0 : Int32))) (F_o0_pathStart : Fld Z h0 o0 "com/example/brief_locator/brieflocator/interchange/CanonicalForm" "pathStart" "I" (.int (0 : Int32))) (F_o0_pathEnd : Fld Z h0 o0 "com/example/brief_locator/brieflocator/interchange/CanonicalForm" "pathEnd" "I" (.int (0 : Int32))) (F_o0_queryEnd : Fld Z h0 o0 "com/example/brief_locator/brieflocator/interchange/CanonicalForm" "queryEnd" "I" (.int (0 : Int32))) (F_o0_hasScheme : Fld Z h0 o0 "com/example/brief_locator/brieflocator/interchange/CanonicalForm" "hasScheme" "Z" (.int (0 : Int32))) (F_o0_hasAuthority : Fld Z h0 o0 "com/example/brief_locator/brieflocator/interchange/CanonicalForm" "hasAuthority" "Z" (.int (0 : Int32))) (F_o0_pathSegments : Fld Z h0 o0 "com/example/brief_locator/brieflocator/interchange/CanonicalForm" "pathSegments" "I" (.int (0 : Int32))) (F_o0_pathSegmentsStart : Fld Z h0 o0 "com/example/brief_locator/brieflocator/interchange/CanonicalForm" "pathSegmentsStart" "I" (.int (0 : Int32))) (A_o1 : AI Z h0 o1 .byte n g) (ne_o1_o0 : o1 ≠ o0) (hle : ¬ i3 < i4) :
    MetFree l (⟨"com/example/brief_locator/brieflocator/interchange/CanonicalForm", "<init>", "([BIIII)V"⟩ : MethodName) (head1 (Jvm.Cond.code (⟨"com/example/brief_locator/brieflocator/interchange/CanonicalForm", "<init>", "([BIIII)V"⟩ : MethodName) prog_13_method_1_code 7 none :: ws) ({ frames := 1, cells := 0, slots := 0, locals := 14 } : Room)) (fun a U => a = #[(.ref o0), (.ref o1), (.int (1 : Int32)), (.int i3), (.int i4), (.int i5)] ∧ Z.Warmed39 U.vm ∧ U.heap = h0) (fun _ _ _ _ _ => True) (fun _ U o U' => ∃ v L, o = .returned v ∧ Q_ct1 Z o0 o1 i3 i4 i5 n g h0 n0 v U'.heap L ∧ FrameEnd U o U' L ({ frames := 1, cells := 0, slots := 0, locals := 14 } : Room).cells ({ frames := 1, cells := 0, slots := 0, locals := 14 } : Room).slots) := by
  refine MetFree.of_bodySF (plainFor_of_name pn_1) hisR ?_
  intro p e s m args below meth c s₁ Bd hml0 hP hK
  obtain ⟨rfl, hZ, hh⟩ := hP
  have hx := Bd.exec
  have hby := Bd.bytes
  have hml : c.maxLocals = 7 := hml0
  have hown : s.vm.findClass "com/example/brief_locator/brieflocator/interchange/CanonicalForm" = some m.cls := findClass_of_methodNamed Bd.named
  have hnm := (name_of_methodNamed Bd.named Bd.method).1
  have hret := Bd.returns
  have hlk : meth.locks = false := BodyLoose.notSynchronized Bd
  have X0 : Stand p l e ({ frames := 1, cells := 0, slots := 0, locals := 14 } : Room) s m #[(.ref o0), (.ref o1), (.int (1 : Int32)), (.int i3), (.int i4), (.int i5)] below meth c s₁ [] 0 0 := Stand.of_body Bd
  have e0 : s₁.heap = h0 := by rw [← hh, Bd.state]; rfl
  have N0 := Fr.nil n0
  show Outs p e below s (Q_ct1 Z o0 o1 i3 i4 i5 n g h0 n0) _ _ _
  refine Outs.of (U' := s₁.setTop (mkF m 0 #[.val (.ref o0), .val (.ref o1), .val (.int (1 : Int32)), .val (.int i3), .val (.int i4), .val (.int i5), .unset] [])) (fun t k => castTop (ef_1 m o0 o1 (1 : Int32) i3 i4 i5) k) ?_
  refine Outs.of (U' := s₁.setTop (mkF m 1 #[.val (.ref o0), .val (.ref o1), .val (.int (1 : Int32)), .val (.int i3), .val (.int i4), .val (.int i5), .unset] [(.ref o0)])) (fun t k => ?_) ?_
  · refine XS.aloadN X0.here hx rfl (hb hby d1_0) rfl rfl ?_
    exact k
  obtain ⟨T1, X1, e1, st1⟩ := initO X0 hx hZ hown (hw _ (List.mem_of_getElem? (i := 8) rfl)) (hw _ (List.mem_of_getElem? (i := 9) rfl)) (hw _ (List.mem_of_getElem? (i := 10) rfl)) e0 (g := (mkF m 1 #[.val (.ref o0), .val (.ref o1), .val (.int (1 : Int32)), .val (.int i3), .val (.int i4), .val (.int i5), .unset] [(.ref o0)])) rfl (by rw [hml]; rfl) rfl (hb hby d1_1) (by decide) (W := 0) (by show 2 * 0 + _ ≤ _; exact Nat.le_of_eq rfl) (by decide)
  refine Outs.of st1 ?_
  refine Outs.of (U' := T1.setTop (mkF m 6 #[.val (.ref o0), .val (.ref o1), .val (.int (1 : Int32)), .val (.int i3), .val (.int i4), .val (.int i5), .unset] [(.ref o1), (.ref o0)])) (fun t k => ?_) ?_
  · refine XS.aloadN X1.here hx rfl (hb hby d1_4) rfl rfl ?_
    refine XS.aloadN X1.here hx rfl (hb hby d1_5) rfl rfl ?_
    exact k
  obtain ⟨T2, h2, X2, e2, W2, st2⟩ := putF X1 hx hZ hown (host := "") (Or.inl (hw _ (List.mem_of_getElem? (i := 11) rfl))) Via.refl e1 F_o0_bytes E_o0 (Or.inr ⟨(hw _ (List.mem_of_getElem? (i := 12) rfl)), rfl, hnm⟩) (hw _ (List.mem_of_getElem? (i := 3) rfl)) (ty := (.array .byte)) (by decide) rfl rfl (g := (mkF m 6 #[.val (.ref o0), .val (.ref o1), .val (.int (1 : Int32)), .val (.int i3), .val (.int i4), .val (.int i5), .unset] [(.ref o1), (.ref o0)])) rfl rfl (hb hby d1_6)
  have F2 : Fld Z h2 o0 "com/example/brief_locator/brieflocator/interchange/CanonicalForm" "bytes" "[B" (.ref o1) := F_o0_bytes.same W2
  have N2 := Fr.snoc X2 N0 g_o0
  obtain ⟨Lh2, X2, N2⟩ := hide X2 N2 (C := 0) (S := 0) (by decide) (by decide)
  refine Outs.of st2 ?_
  refine Outs.of (U' := T2.setTop (mkF m 11 #[.val (.ref o0), .val (.ref o1), .val (.int (1 : Int32)), .val (.int i3), .val (.int i4), .val (.int i5), .unset] [(.int (1 : Int32)), (.ref o0)])) (fun t k => ?_) ?_
  · refine XS.aloadN X2.here hx rfl (hb hby d1_9) rfl rfl ?_
    refine XS.iloadN X2.here hx rfl (hb hby d1_10) rfl ?_
    exact k
  have f4 : Exa Z h2 o0 "com/example/brief_locator/brieflocator/interchange/CanonicalForm" := (E_o0.wr W2)
  have f5 : Fld Z h2 o0 "com/example/brief_locator/brieflocator/interchange/CanonicalForm" "firstEnd" "I" (.int (0 : Int32)) := (F_o0_firstEnd.other W2 (Or.inr (slot_ne (Or.inr (hw _ (List.mem_of_getElem? (i := 14) rfl))) (Or.inr (hw _ (List.mem_of_getElem? (i := 12) rfl))) (by decide) (t := .int) (t' := (.array .byte)) (by decide) (by decide))))
  obtain ⟨T3, h3, X3, e3, W3, st3⟩ := putF X2 hx hZ hown (host := "") (Or.inl (hw _ (List.mem_of_getElem? (i := 13) rfl))) Via.refl e2 f5 f4 (Or.inr ⟨(hw _ (List.mem_of_getElem? (i := 14) rfl)), rfl, hnm⟩) (hw _ (List.mem_of_getElem? (i := 3) rfl)) (ty := .int) (by decide) rfl rfl (g := (mkF m 11 #[.val (.ref o0), .val (.ref o1), .val (.int (1 : Int32)), .val (.int i3), .val (.int i4), .val (.int i5), .unset] [(.int (1 : Int32)), (.ref o0)])) rfl rfl (hb hby d1_11)
  have F3 : Fld Z h3 o0 "com/example/brief_locator/brieflocator/interchange/CanonicalForm" "firstEnd" "I" (.int (1 : Int32)) := f5.same W3
  have N3 := Fr.snoc X3 N2 g_o0
  obtain ⟨Lh3, X3, N3⟩ := hide X3 N3 (C := 0) (S := 0) (by decide) (by decide)
  refine Outs.of st3 ?_
  refine Outs.of (U' := T3.setTop (mkF m 16 #[.val (.ref o0), .val (.ref o1), .val (.int (1 : Int32)), .val (.int i3), .val (.int i4), .val (.int i5), .unset] [(.int i3), (.ref o0)])) (fun t k => ?_) ?_
  · refine XS.aloadN X3.here hx rfl (hb hby d1_14) rfl rfl ?_
    refine XS.iloadN X3.here hx rfl (hb hby d1_15) rfl ?_
    exact k
  have f7 : Exa Z h3 o0 "com/example/brief_locator/brieflocator/interchange/CanonicalForm" := (f4.wr W3)
  have f8 : Fld Z h3 o0 "com/example/brief_locator/brieflocator/interchange/CanonicalForm" "pathStart" "I" (.int (0 : Int32)) := ((F_o0_pathStart.other W2 (Or.inr (slot_ne (Or.inr (hw _ (List.mem_of_getElem? (i := 16) rfl))) (Or.inr (hw _ (List.mem_of_getElem? (i := 12) rfl))) (by decide) (t := .int) (t' := (.array .byte)) (by decide) (by decide)))).other W3 (Or.inr (slot_ne (Or.inr (hw _ (List.mem_of_getElem? (i := 16) rfl))) (Or.inr (hw _ (List.mem_of_getElem? (i := 14) rfl))) (by decide) (t := .int) (t' := .int) (by decide) (by decide))))
  obtain ⟨T6, h6, X6, e6, W6, st6⟩ := putF X3 hx hZ hown (host := "") (Or.inl (hw _ (List.mem_of_getElem? (i := 15) rfl))) Via.refl e3 f8 f7 (Or.inr ⟨(hw _ (List.mem_of_getElem? (i := 16) rfl)), rfl, hnm⟩) (hw _ (List.mem_of_getElem? (i := 3) rfl)) (ty := .int) (by decide) rfl rfl (g := (mkF m 16 #[.val (.ref o0), .val (.ref o1), .val (.int (1 : Int32)), .val (.int i3), .val (.int i4), .val (.int i5), .unset] [(.int i3), (.ref o0)])) rfl rfl (hb hby d1_16)
  have F6 : Fld Z h6 o0 "com/example/brief_locator/brieflocator/interchange/CanonicalForm" "pathStart" "I" (.int i3) := f8.same W6
  have N6 := Fr.snoc X6 N3 g_o0
  obtain ⟨Lh6, X6, N6⟩ := hide X6 N6 (C := 0) (S := 0) (by decide) (by decide)
  refine Outs.of st6 ?_
  refine Outs.of (U' := T6.setTop (mkF m 22 #[.val (.ref o0), .val (.ref o1), .val (.int (1 : Int32)), .val (.int i3), .val (.int i4), .val (.int i5), .unset] [(.int i4), (.ref o0)])) (fun t k => ?_) ?_
  · refine XS.aloadN X6.here hx rfl (hb hby d1_19) rfl rfl ?_
    refine XS.iload X6.here hx rfl (hb hby d1_20) rfl ?_
    exact k
  have f10 : Exa Z h6 o0 "com/example/brief_locator/brieflocator/interchange/CanonicalForm" := (f7.wr W6)
  have f11 : Fld Z h6 o0 "com/example/brief_locator/brieflocator/interchange/CanonicalForm" "pathEnd" "I" (.int (0 : Int32)) := (((F_o0_pathEnd.other W2 (Or.inr (slot_ne (Or.inr (hw _ (List.mem_of_getElem? (i := 18) rfl))) (Or.inr (hw _ (List.mem_of_getElem? (i := 12) rfl))) (by decide) (t := .int) (t' := (.array .byte)) (by decide) (by decide)))).other W3 (Or.inr (slot_ne (Or.inr (hw _ (List.mem_of_getElem? (i := 18) rfl))) (Or.inr (hw _ (List.mem_of_getElem? (i := 14) rfl))) (by decide) (t := .int) (t' := .int) (by decide) (by decide)))).other W6 (Or.inr (slot_ne (Or.inr (hw _ (List.mem_of_getElem? (i := 18) rfl))) (Or.inr (hw _ (List.mem_of_getElem? (i := 16) rfl))) (by decide) (t := .int) (t' := .int) (by decide) (by decide))))
  obtain ⟨T9, h9, X9, e9, W9, st9⟩ := putF X6 hx hZ hown (host := "") (Or.inl (hw _ (List.mem_of_getElem? (i := 17) rfl))) Via.refl e6 f11 f10 (Or.inr ⟨(hw _ (List.mem_of_getElem? (i := 18) rfl)), rfl, hnm⟩) (hw _ (List.mem_of_getElem? (i := 3) rfl)) (ty := .int) (by decide) rfl rfl (g := (mkF m 22 #[.val (.ref o0), .val (.ref o1), .val (.int (1 : Int32)), .val (.int i3), .val (.int i4), .val (.int i5), .unset] [(.int i4), (.ref o0)])) rfl rfl (hb hby d1_22)
  have F9 : Fld Z h9 o0 "com/example/brief_locator/brieflocator/interchange/CanonicalForm" "pathEnd" "I" (.int i4) := f11.same W9
  have N9 := Fr.snoc X9 N6 g_o0
  obtain ⟨Lh9, X9, N9⟩ := hide X9 N9 (C := 0) (S := 0) (by decide) (by decide)
  refine Outs.of st9 ?_
  refine Outs.of (U' := T9.setTop (mkF m 28 #[.val (.ref o0), .val (.ref o1), .val (.int (1 : Int32)), .val (.int i3), .val (.int i4), .val (.int i5), .unset] [(.int i5), (.ref o0)])) (fun t k => ?_) ?_
  · refine XS.aloadN X9.here hx rfl (hb hby d1_25) rfl rfl ?_
    refine XS.iload X9.here hx rfl (hb hby d1_26) rfl ?_
    exact k
  have f13 : Exa Z h9 o0 "com/example/brief_locator/brieflocator/interchange/CanonicalForm" := (f10.wr W9)
  have f14 : Fld Z h9 o0 "com/example/brief_locator/brieflocator/interchange/CanonicalForm" "queryEnd" "I" (.int (0 : Int32)) := ((((F_o0_queryEnd.other W2 (Or.inr (slot_ne (Or.inr (hw _ (List.mem_of_getElem? (i := 20) rfl))) (Or.inr (hw _ (List.mem_of_getElem? (i := 12) rfl))) (by decide) (t := .int) (t' := (.array .byte)) (by decide) (by decide)))).other W3 (Or.inr (slot_ne (Or.inr (hw _ (List.mem_of_getElem? (i := 20) rfl))) (Or.inr (hw _ (List.mem_of_getElem? (i := 14) rfl))) (by decide) (t := .int) (t' := .int) (by decide) (by decide)))).other W6 (Or.inr (slot_ne (Or.inr (hw _ (List.mem_of_getElem? (i := 20) rfl))) (Or.inr (hw _ (List.mem_of_getElem? (i := 16) rfl))) (by decide) (t := .int) (t' := .int) (by decide) (by decide)))).other W9 (Or.inr (slot_ne (Or.inr (hw _ (List.mem_of_getElem? (i := 20) rfl))) (Or.inr (hw _ (List.mem_of_getElem? (i := 18) rfl))) (by decide) (t := .int) (t' := .int) (by decide) (by decide))))
  obtain ⟨T12, h12, X12, e12, W12, st12⟩ := putF X9 hx hZ hown (host := "") (Or.inl (hw _ (List.mem_of_getElem? (i := 19) rfl))) Via.refl e9 f14 f13 (Or.inr ⟨(hw _ (List.mem_of_getElem? (i := 20) rfl)), rfl, hnm⟩) (hw _ (List.mem_of_getElem? (i := 3) rfl)) (ty := .int) (by decide) rfl rfl (g := (mkF m 28 #[.val (.ref o0), .val (.ref o1), .val (.int (1 : Int32)), .val (.int i3), .val (.int i4), .val (.int i5), .unset] [(.int i5), (.ref o0)])) rfl rfl (hb hby d1_28)
  have F12 : Fld Z h12 o0 "com/example/brief_locator/brieflocator/interchange/CanonicalForm" "queryEnd" "I" (.int i5) := f14.same W12
  have N12 := Fr.snoc X12 N9 g_o0
  obtain ⟨Lh12, X12, N12⟩ := hide X12 N12 (C := 0) (S := 0) (by decide) (by decide)
  refine Outs.of st12 ?_
  refine Outs.of (U' := T12.setTop (mkF m 51 #[.val (.ref o0), .val (.ref o1), .val (.int (1 : Int32)), .val (.int i3), .val (.int i4), .val (.int i5), .unset] [(.int (0 : Int32)), (.ref o0)])) (fun t k => ?_) ?_
  · refine XS.aloadN X12.here hx rfl (hb hby d1_31) rfl rfl ?_
    refine XS.iloadN X12.here hx rfl (hb hby d1_32) rfl ?_
    refine XS.iconst X12.here hx rfl (hb hby d1_33) ?_
    refine XS.icmpYes X12.here hx rfl (pc0 := 34) (pc' := 50) rfl (hb hby d1_34) rfl (flt (show ¬ ((1 : Int32) < (1 : Int32)) from (by decide))).2.2.2 (by decide) (by decide) ?_
    refine XS.iconst X12.here hx rfl (hb hby d1_50) ?_
    exact k
  have f16 : Exa Z h12 o0 "com/example/brief_locator/brieflocator/interchange/CanonicalForm" := (f13.wr W12)
  have f17 : Fld Z h12 o0 "com/example/brief_locator/brieflocator/interchange/CanonicalForm" "hasScheme" "Z" (.int (0 : Int32)) := (((((F_o0_hasScheme.other W2 (Or.inr (slot_ne (Or.inr (hw _ (List.mem_of_getElem? (i := 25) rfl))) (Or.inr (hw _ (List.mem_of_getElem? (i := 12) rfl))) (by decide) (t := .boolean) (t' := (.array .byte)) (by decide) (by decide)))).other W3 (Or.inr (slot_ne (Or.inr (hw _ (List.mem_of_getElem? (i := 25) rfl))) (Or.inr (hw _ (List.mem_of_getElem? (i := 14) rfl))) (by decide) (t := .boolean) (t' := .int) (by decide) (by decide)))).other W6 (Or.inr (slot_ne (Or.inr (hw _ (List.mem_of_getElem? (i := 25) rfl))) (Or.inr (hw _ (List.mem_of_getElem? (i := 16) rfl))) (by decide) (t := .boolean) (t' := .int) (by decide) (by decide)))).other W9 (Or.inr (slot_ne (Or.inr (hw _ (List.mem_of_getElem? (i := 25) rfl))) (Or.inr (hw _ (List.mem_of_getElem? (i := 18) rfl))) (by decide) (t := .boolean) (t' := .int) (by decide) (by decide)))).other W12 (Or.inr (slot_ne (Or.inr (hw _ (List.mem_of_getElem? (i := 25) rfl))) (Or.inr (hw _ (List.mem_of_getElem? (i := 20) rfl))) (by decide) (t := .boolean) (t' := .int) (by decide) (by decide))))
  obtain ⟨T15, h15, X15, e15, W15, st15⟩ := putFN X12 hx hZ hown (hw _ (List.mem_of_getElem? (i := 24) rfl)) Via.refl e12 f17 f16 (Or.inr ⟨(hw _ (List.mem_of_getElem? (i := 25) rfl)), rfl, hnm⟩) (hw _ (List.mem_of_getElem? (i := 3) rfl)) (ty := .boolean) (v' := (.int (0 : Int32))) (by decide) rfl (by decide) (g := (mkF m 51 #[.val (.ref o0), .val (.ref o1), .val (.int (1 : Int32)), .val (.int i3), .val (.int i4), .val (.int i5), .unset] [(.int (0 : Int32)), (.ref o0)])) rfl rfl (hb hby d1_51)
  have F15 : Fld Z h15 o0 "com/example/brief_locator/brieflocator/interchange/CanonicalForm" "hasScheme" "Z" (.int (0 : Int32)) := f17.same W15
  have N15 := Fr.snoc X15 N12 g_o0
  obtain ⟨Lh15, X15, N15⟩ := hide X15 N15 (C := 0) (S := 0) (by decide) (by decide)
  refine Outs.of st15 ?_
  refine Outs.of (U' := T15.setTop (mkF m 56 #[.val (.ref o0), .val (.ref o1), .val (.int (1 : Int32)), .val (.int i3), .val (.int i4), .val (.int i5), .unset] [(.ref o0), (.ref o0)])) (fun t k => ?_) ?_
  · refine XS.aloadN X15.here hx rfl (hb hby d1_54) rfl rfl ?_
    refine XS.aloadN X15.here hx rfl (hb hby d1_55) rfl rfl ?_
    exact k
  obtain ⟨T18, X18, e18, st18⟩ := getF X15 hx hZ hown (host := "") (Or.inl (hw _ (List.mem_of_getElem? (i := 24) rfl))) Via.refl e15 F15 (g := (mkF m 56 #[.val (.ref o0), .val (.ref o1), .val (.int (1 : Int32)), .val (.int i3), .val (.int i4), .val (.int i5), .unset] [(.ref o0), (.ref o0)])) rfl rfl (hb hby d1_56)
  refine Outs.of st18 ?_
  refine Outs.of (U' := T18.setTop (mkF m 80 #[.val (.ref o0), .val (.ref o1), .val (.int (1 : Int32)), .val (.int i3), .val (.int i4), .val (.int i5), .unset] [(.int (0 : Int32)), (.ref o0)])) (fun t k => ?_) ?_
  · refine XS.ifNo X18.here hx rfl (hb hby d1_59) rfl ((if0 _ _).trans (teq (show (0 : Int32) = (0 : Int32) from (by decide))).2) ?_
    refine XS.iloadN X18.here hx rfl (hb hby d1_62) rfl ?_
    refine XS.iconst X18.here hx rfl (hb hby d1_63) ?_
    refine XS.icmpYes X18.here hx rfl (pc0 := 64) (pc' := 79) rfl (hb hby d1_64) rfl (flt (show ¬ ((1 : Int32) < (1 : Int32)) from (by decide))).2.2.2 (by decide) (by decide) ?_
    refine XS.iconst X18.here hx rfl (hb hby d1_79) ?_
    exact k
  have f20 : Exa Z h15 o0 "com/example/brief_locator/brieflocator/interchange/CanonicalForm" := (f16.wr W15)
  have f21 : Fld Z h15 o0 "com/example/brief_locator/brieflocator/interchange/CanonicalForm" "hasAuthority" "Z" (.int (0 : Int32)) := ((((((F_o0_hasAuthority.other W2 (Or.inr (slot_ne (Or.inr (hw _ (List.mem_of_getElem? (i := 27) rfl))) (Or.inr (hw _ (List.mem_of_getElem? (i := 12) rfl))) (by decide) (t := .boolean) (t' := (.array .byte)) (by decide) (by decide)))).other W3 (Or.inr (slot_ne (Or.inr (hw _ (List.mem_of_getElem? (i := 27) rfl))) (Or.inr (hw _ (List.mem_of_getElem? (i := 14) rfl))) (by decide) (t := .boolean) (t' := .int) (by decide) (by decide)))).other W6 (Or.inr (slot_ne (Or.inr (hw _ (List.mem_of_getElem? (i := 27) rfl))) (Or.inr (hw _ (List.mem_of_getElem? (i := 16) rfl))) (by decide) (t := .boolean) (t' := .int) (by decide) (by decide)))).other W9 (Or.inr (slot_ne (Or.inr (hw _ (List.mem_of_getElem? (i := 27) rfl))) (Or.inr (hw _ (List.mem_of_getElem? (i := 18) rfl))) (by decide) (t := .boolean) (t' := .int) (by decide) (by decide)))).other W12 (Or.inr (slot_ne (Or.inr (hw _ (List.mem_of_getElem? (i := 27) rfl))) (Or.inr (hw _ (List.mem_of_getElem? (i := 20) rfl))) (by decide) (t := .boolean) (t' := .int) (by decide) (by decide)))).other W15 (Or.inr (slot_ne (Or.inr (hw _ (List.mem_of_getElem? (i := 27) rfl))) (Or.inr (hw _ (List.mem_of_getElem? (i := 25) rfl))) (by decide) (t := .boolean) (t' := .boolean) (by decide) (by decide))))
  obtain ⟨T19, h19, X19, e19, W19, st19⟩ := putFN X18 hx hZ hown (hw _ (List.mem_of_getElem? (i := 26) rfl)) Via.refl e18 f21 f20 (Or.inr ⟨(hw _ (List.mem_of_getElem? (i := 27) rfl)), rfl, hnm⟩) (hw _ (List.mem_of_getElem? (i := 3) rfl)) (ty := .boolean) (v' := (.int (0 : Int32))) (by decide) rfl (by decide) (g := (mkF m 80 #[.val (.ref o0), .val (.ref o1), .val (.int (1 : Int32)), .val (.int i3), .val (.int i4), .val (.int i5), .unset] [(.int (0 : Int32)), (.ref o0)])) rfl rfl (hb hby d1_80)
  have F19 : Fld Z h19 o0 "com/example/brief_locator/brieflocator/interchange/CanonicalForm" "hasAuthority" "Z" (.int (0 : Int32)) := f21.same W19
  have N19 := Fr.snoc X19 N15 g_o0
  obtain ⟨Lh19, X19, N19⟩ := hide X19 N19 (C := 0) (S := 0) (by decide) (by decide)
  refine Outs.of st19 ?_
  refine Outs.of (U' := T19.setTop (mkF m 87 #[.val (.ref o0), .val (.ref o1), .val (.int (1 : Int32)), .val (.int i3), .val (.int i4), .val (.int i5), .unset] [(.int i4), (.int i3), (.ref o0)])) (fun t k => ?_) ?_
  · refine XS.aloadN X19.here hx rfl (hb hby d1_83) rfl rfl ?_
    refine XS.iloadN X19.here hx rfl (hb hby d1_84) rfl ?_
    refine XS.iload X19.here hx rfl (hb hby d1_85) rfl ?_
    exact k
  have f23 : Exa Z h19 o0 "com/example/brief_locator/brieflocator/interchange/CanonicalForm" := (f20.wr W19)
  obtain ⟨cq22, q22, q22'⟩ := f23.cell
  obtain ⟨_, _, ⟨T22, L22, k22, n22⟩, -, X22, ⟨Lc22, hQ22, l22, y22, z22⟩, st22⟩ := X19.privateBack hx (y := (⟨"com/example/brief_locator/brieflocator/interchange/CanonicalForm", "isSet", "(II)Z"⟩ : MethodName)) hown (mvT hZ (hw _ (List.mem_of_getElem? (i := 28) rfl))) (mvT hZ (hw _ (List.mem_of_getElem? (i := 29) rfl))) (own_selects (mvT hZ (hw _ (List.mem_of_getElem? (i := 3) rfl))) (Cond.privateMethod_at (mvP hZ (hw _ (List.mem_of_getElem? (i := 30) rfl)) (args := #[]))) (mvT hZ (hw _ (List.mem_of_getElem? (i := 29) rfl))) (by decide)) (Cond.privateMethod_at (mvP hZ (hw _ (List.mem_of_getElem? (i := 30) rfl)) (args := #[]))) (mvT hZ (hw _ (List.mem_of_getElem? (i := 31) rfl))) (by decide) (backOf (W := 0) (rmisn l Z a0 hw [] o0 i3 i4 h19 n0 f23 hle) hZ (hw _ (List.mem_of_getElem? (i := 31) rfl)) (hw _ (List.mem_of_getElem? (i := 4) rfl)) (by decide) (by decide)) (g := (mkF m 87 #[.val (.ref o0), .val (.ref o1), .val (.int (1 : Int32)), .val (.int i3), .val (.int i4), .val (.int i5), .unset] [(.int i4), (.int i3), (.ref o0)])) rfl (by rw [hml]; rfl) (Steps.refl _) (a := o0) (by rw [e19]; exact q22) q22' (argsL := [(.int i3), (.int i4)]) (rest := []) (lenOf pd_3 rfl) rfl (by show 2 * 0 + _ ≤ _; exact Nat.le_of_eq rfl) (hb hby d1_87) (fun _ _ => ⟨rfl, e19, (by decide : 0 + 0 ≤ _), (by decide : 0 + 0 ≤ _)⟩)
  dsimp only [Pt.U, Pt.locs, Pt.cells, Pt.slots] at X22 l22 y22 z22 st22 hQ22
  subst l22 y22 z22
  obtain ⟨rfl, N22q, e22⟩ := hQ22
  have N22 := Fr.app N19 N22q
  obtain ⟨Lh22, X22, N22⟩ := hide X22 N22 (C := 0) (S := 0) (by decide) (by decide)
  refine Outs.to st22 ?_
  refine Outs.of (U' := T22.setTop (mkF m 108 #[.val (.ref o0), .val (.ref o1), .val (.int (1 : Int32)), .val (.int i3), .val (.int i4), .val (.int i5), .val (.int (0 : Int32))] [(.int (0 : Int32)), (.ref o0)])) (fun t k => ?_) ?_
  · refine XS.istore X22.here hx rfl (hb hby d1_90) rfl (l' := #[.val (.ref o0), .val (.ref o1), .val (.int (1 : Int32)), .val (.int i3), .val (.int i4), .val (.int i5), .val (.int (0 : Int32))]) rfl ?_
    refine XS.aloadN X22.here hx rfl (hb hby d1_92) rfl rfl ?_
    refine XS.iload X22.here hx rfl (hb hby d1_93) rfl ?_
    refine XS.ifYes X22.here hx rfl (pc0 := 95) (pc' := 107) rfl (hb hby d1_95) rfl ((if0 _ _).trans (teq (show (0 : Int32) = (0 : Int32) from (by decide))).1) (by decide) (by decide) ?_
    refine XS.iconst X22.here hx rfl (hb hby d1_107) ?_
    exact k
  have f25 : Fld Z h19 o0 "com/example/brief_locator/brieflocator/interchange/CanonicalForm" "pathSegments" "I" (.int (0 : Int32)) := (((((((F_o0_pathSegments.other W2 (Or.inr (slot_ne (Or.inr (hw _ (List.mem_of_getElem? (i := 37) rfl))) (Or.inr (hw _ (List.mem_of_getElem? (i := 12) rfl))) (by decide) (t := .int) (t' := (.array .byte)) (by decide) (by decide)))).other W3 (Or.inr (slot_ne (Or.inr (hw _ (List.mem_of_getElem? (i := 37) rfl))) (Or.inr (hw _ (List.mem_of_getElem? (i := 14) rfl))) (by decide) (t := .int) (t' := .int) (by decide) (by decide)))).other W6 (Or.inr (slot_ne (Or.inr (hw _ (List.mem_of_getElem? (i := 37) rfl))) (Or.inr (hw _ (List.mem_of_getElem? (i := 16) rfl))) (by decide) (t := .int) (t' := .int) (by decide) (by decide)))).other W9 (Or.inr (slot_ne (Or.inr (hw _ (List.mem_of_getElem? (i := 37) rfl))) (Or.inr (hw _ (List.mem_of_getElem? (i := 18) rfl))) (by decide) (t := .int) (t' := .int) (by decide) (by decide)))).other W12 (Or.inr (slot_ne (Or.inr (hw _ (List.mem_of_getElem? (i := 37) rfl))) (Or.inr (hw _ (List.mem_of_getElem? (i := 20) rfl))) (by decide) (t := .int) (t' := .int) (by decide) (by decide)))).other W15 (Or.inr (slot_ne (Or.inr (hw _ (List.mem_of_getElem? (i := 37) rfl))) (Or.inr (hw _ (List.mem_of_getElem? (i := 25) rfl))) (by decide) (t := .int) (t' := .boolean) (by decide) (by decide)))).other W19 (Or.inr (slot_ne (Or.inr (hw _ (List.mem_of_getElem? (i := 37) rfl))) (Or.inr (hw _ (List.mem_of_getElem? (i := 27) rfl))) (by decide) (t := .int) (t' := .boolean) (by decide) (by decide))))
  obtain ⟨T24, h24, X24, e24, W24, st24⟩ := putF X22 hx hZ hown (host := "") (Or.inl (hw _ (List.mem_of_getElem? (i := 36) rfl))) Via.refl e22 f25 f23 (Or.inr ⟨(hw _ (List.mem_of_getElem? (i := 37) rfl)), rfl, hnm⟩) (hw _ (List.mem_of_getElem? (i := 3) rfl)) (ty := .int) (by decide) rfl rfl (g := (mkF m 108 #[.val (.ref o0), .val (.ref o1), .val (.int (1 : Int32)), .val (.int i3), .val (.int i4), .val (.int i5), .val (.int (0 : Int32))] [(.int (0 : Int32)), (.ref o0)])) rfl rfl (hb hby d1_108)
  have F24 : Fld Z h24 o0 "com/example/brief_locator/brieflocator/interchange/CanonicalForm" "pathSegments" "I" (.int (0 : Int32)) := f25.same W24
  have N24 := Fr.snoc X24 N22 g_o0
  obtain ⟨Lh24, X24, N24⟩ := hide X24 N24 (C := 0) (S := 0) (by decide) (by decide)
  refine Outs.of st24 ?_
  refine Outs.of (U' := T24.setTop (mkF m 131 #[.val (.ref o0), .val (.ref o1), .val (.int (1 : Int32)), .val (.int i3), .val (.int i4), .val (.int i5), .val (.int (0 : Int32))] [(.int i3), (.ref o0)])) (fun t k => ?_) ?_
  · refine XS.aloadN X24.here hx rfl (hb hby d1_111) rfl rfl ?_
    refine XS.iload X24.here hx rfl (hb hby d1_112) rfl ?_
    refine XS.ifYes X24.here hx rfl (pc0 := 114) (pc' := 130) rfl (hb hby d1_114) rfl ((if0 _ _).trans (teq (show (0 : Int32) = (0 : Int32) from (by decide))).1) (by decide) (by decide) ?_
    refine XS.iloadN X24.here hx rfl (hb hby d1_130) rfl ?_
    exact k
  have f27 : Exa Z h24 o0 "com/example/brief_locator/brieflocator/interchange/CanonicalForm" := (f23.wr W24)
  have f28 : Fld Z h24 o0 "com/example/brief_locator/brieflocator/interchange/CanonicalForm" "pathSegmentsStart" "I" (.int (0 : Int32)) := ((((((((F_o0_pathSegmentsStart.other W2 (Or.inr (slot_ne (Or.inr (hw _ (List.mem_of_getElem? (i := 52) rfl))) (Or.inr (hw _ (List.mem_of_getElem? (i := 12) rfl))) (by decide) (t := .int) (t' := (.array .byte)) (by decide) (by decide)))).other W3 (Or.inr (slot_ne (Or.inr (hw _ (List.mem_of_getElem? (i := 52) rfl))) (Or.inr (hw _ (List.mem_of_getElem? (i := 14) rfl))) (by decide) (t := .int) (t' := .int) (by decide) (by decide)))).other W6 (Or.inr (slot_ne (Or.inr (hw _ (List.mem_of_getElem? (i := 52) rfl))) (Or.inr (hw _ (List.mem_of_getElem? (i := 16) rfl))) (by decide) (t := .int) (t' := .int) (by decide) (by decide)))).other W9 (Or.inr (slot_ne (Or.inr (hw _ (List.mem_of_getElem? (i := 52) rfl))) (Or.inr (hw _ (List.mem_of_getElem? (i := 18) rfl))) (by decide) (t := .int) (t' := .int) (by decide) (by decide)))).other W12 (Or.inr (slot_ne (Or.inr (hw _ (List.mem_of_getElem? (i := 52) rfl))) (Or.inr (hw _ (List.mem_of_getElem? (i := 20) rfl))) (by decide) (t := .int) (t' := .int) (by decide) (by decide)))).other W15 (Or.inr (slot_ne (Or.inr (hw _ (List.mem_of_getElem? (i := 52) rfl))) (Or.inr (hw _ (List.mem_of_getElem? (i := 25) rfl))) (by decide) (t := .int) (t' := .boolean) (by decide) (by decide)))).other W19 (Or.inr (slot_ne (Or.inr (hw _ (List.mem_of_getElem? (i := 52) rfl))) (Or.inr (hw _ (List.mem_of_getElem? (i := 27) rfl))) (by decide) (t := .int) (t' := .boolean) (by decide) (by decide)))).other W24 (Or.inr (slot_ne (Or.inr (hw _ (List.mem_of_getElem? (i := 52) rfl))) (Or.inr (hw _ (List.mem_of_getElem? (i := 37) rfl))) (by decide) (t := .int) (t' := .int) (by decide) (by decide))))
  obtain ⟨T26, h26, X26, e26, W26, st26⟩ := putF X24 hx hZ hown (host := "") (Or.inl (hw _ (List.mem_of_getElem? (i := 51) rfl))) Via.refl e24 f28 f27 (Or.inr ⟨(hw _ (List.mem_of_getElem? (i := 52) rfl)), rfl, hnm⟩) (hw _ (List.mem_of_getElem? (i := 3) rfl)) (ty := .int) (by decide) rfl rfl (g := (mkF m 131 #[.val (.ref o0), .val (.ref o1), .val (.int (1 : Int32)), .val (.int i3), .val (.int i4), .val (.int i5), .val (.int (0 : Int32))] [(.int i3), (.ref o0)])) rfl rfl (hb hby d1_131)
  have F26 : Fld Z h26 o0 "com/example/brief_locator/brieflocator/interchange/CanonicalForm" "pathSegmentsStart" "I" (.int i3) := f28.same W26
  have N26 := Fr.snoc X26 N24 g_o0
  obtain ⟨Lh26, X26, N26⟩ := hide X26 N26 (C := 0) (S := 0) (by decide) (by decide)
  refine Outs.of st26 ?_
  have f29 : Exa Z h26 o0 "com/example/brief_locator/brieflocator/interchange/CanonicalForm" := (f27.wr W26)
  have f30 : Fld Z h26 o0 "com/example/brief_locator/brieflocator/interchange/CanonicalForm" "bytes" "[B" (.ref o1) := ((((((((F2.other W3 (Or.inr (slot_ne (Or.inr (hw _ (List.mem_of_getElem? (i := 12) rfl))) (Or.inr (hw _ (List.mem_of_getElem? (i := 14) rfl))) (by decide) (t := (.array .byte)) (t' := .int) (by decide) (by decide)))).other W6 (Or.inr (slot_ne (Or.inr (hw _ (List.mem_of_getElem? (i := 12) rfl))) (Or.inr (hw _ (List.mem_of_getElem? (i := 16) rfl))) (by decide) (t := (.array .byte)) (t' := .int) (by decide) (by decide)))).other W9 (Or.inr (slot_ne (Or.inr (hw _ (List.mem_of_getElem? (i := 12) rfl))) (Or.inr (hw _ (List.mem_of_getElem? (i := 18) rfl))) (by decide) (t := (.array .byte)) (t' := .int) (by decide) (by decide)))).other W12 (Or.inr (slot_ne (Or.inr (hw _ (List.mem_of_getElem? (i := 12) rfl))) (Or.inr (hw _ (List.mem_of_getElem? (i := 20) rfl))) (by decide) (t := (.array .byte)) (t' := .int) (by decide) (by decide)))).other W15 (Or.inr (slot_ne (Or.inr (hw _ (List.mem_of_getElem? (i := 12) rfl))) (Or.inr (hw _ (List.mem_of_getElem? (i := 25) rfl))) (by decide) (t := (.array .byte)) (t' := .boolean) (by decide) (by decide)))).other W19 (Or.inr (slot_ne (Or.inr (hw _ (List.mem_of_getElem? (i := 12) rfl))) (Or.inr (hw _ (List.mem_of_getElem? (i := 27) rfl))) (by decide) (t := (.array .byte)) (t' := .boolean) (by decide) (by decide)))).other W24 (Or.inr (slot_ne (Or.inr (hw _ (List.mem_of_getElem? (i := 12) rfl))) (Or.inr (hw _ (List.mem_of_getElem? (i := 37) rfl))) (by decide) (t := (.array .byte)) (t' := .int) (by decide) (by decide)))).other W26 (Or.inr (slot_ne (Or.inr (hw _ (List.mem_of_getElem? (i := 12) rfl))) (Or.inr (hw _ (List.mem_of_getElem? (i := 52) rfl))) (by decide) (t := (.array .byte)) (t' := .int) (by decide) (by decide))))
  have f31 : Fld Z h26 o0 "com/example/brief_locator/brieflocator/interchange/CanonicalForm" "firstEnd" "I" (.int (1 : Int32)) := (((((((F3.other W6 (Or.inr (slot_ne (Or.inr (hw _ (List.mem_of_getElem? (i := 14) rfl))) (Or.inr (hw _ (List.mem_of_getElem? (i := 16) rfl))) (by decide) (t := .int) (t' := .int) (by decide) (by decide)))).other W9 (Or.inr (slot_ne (Or.inr (hw _ (List.mem_of_getElem? (i := 14) rfl))) (Or.inr (hw _ (List.mem_of_getElem? (i := 18) rfl))) (by decide) (t := .int) (t' := .int) (by decide) (by decide)))).other W12 (Or.inr (slot_ne (Or.inr (hw _ (List.mem_of_getElem? (i := 14) rfl))) (Or.inr (hw _ (List.mem_of_getElem? (i := 20) rfl))) (by decide) (t := .int) (t' := .int) (by decide) (by decide)))).other W15 (Or.inr (slot_ne (Or.inr (hw _ (List.mem_of_getElem? (i := 14) rfl))) (Or.inr (hw _ (List.mem_of_getElem? (i := 25) rfl))) (by decide) (t := .int) (t' := .boolean) (by decide) (by decide)))).other W19 (Or.inr (slot_ne (Or.inr (hw _ (List.mem_of_getElem? (i := 14) rfl))) (Or.inr (hw _ (List.mem_of_getElem? (i := 27) rfl))) (by decide) (t := .int) (t' := .boolean) (by decide) (by decide)))).other W24 (Or.inr (slot_ne (Or.inr (hw _ (List.mem_of_getElem? (i := 14) rfl))) (Or.inr (hw _ (List.mem_of_getElem? (i := 37) rfl))) (by decide) (t := .int) (t' := .int) (by decide) (by decide)))).other W26 (Or.inr (slot_ne (Or.inr (hw _ (List.mem_of_getElem? (i := 14) rfl))) (Or.inr (hw _ (List.mem_of_getElem? (i := 52) rfl))) (by decide) (t := .int) (t' := .int) (by decide) (by decide))))
  have f32 : Fld Z h26 o0 "com/example/brief_locator/brieflocator/interchange/CanonicalForm" "pathStart" "I" (.int i3) := ((((((F6.other W9 (Or.inr (slot_ne (Or.inr (hw _ (List.mem_of_getElem? (i := 16) rfl))) (Or.inr (hw _ (List.mem_of_getElem? (i := 18) rfl))) (by decide) (t := .int) (t' := .int) (by decide) (by decide)))).other W12 (Or.inr (slot_ne (Or.inr (hw _ (List.mem_of_getElem? (i := 16) rfl))) (Or.inr (hw _ (List.mem_of_getElem? (i := 20) rfl))) (by decide) (t := .int) (t' := .int) (by decide) (by decide)))).other W15 (Or.inr (slot_ne (Or.inr (hw _ (List.mem_of_getElem? (i := 16) rfl))) (Or.inr (hw _ (List.mem_of_getElem? (i := 25) rfl))) (by decide) (t := .int) (t' := .boolean) (by decide) (by decide)))).other W19 (Or.inr (slot_ne (Or.inr (hw _ (List.mem_of_getElem? (i := 16) rfl))) (Or.inr (hw _ (List.mem_of_getElem? (i := 27) rfl))) (by decide) (t := .int) (t' := .boolean) (by decide) (by decide)))).other W24 (Or.inr (slot_ne (Or.inr (hw _ (List.mem_of_getElem? (i := 16) rfl))) (Or.inr (hw _ (List.mem_of_getElem? (i := 37) rfl))) (by decide) (t := .int) (t' := .int) (by decide) (by decide)))).other W26 (Or.inr (slot_ne (Or.inr (hw _ (List.mem_of_getElem? (i := 16) rfl))) (Or.inr (hw _ (List.mem_of_getElem? (i := 52) rfl))) (by decide) (t := .int) (t' := .int) (by decide) (by decide))))
  have f33 : Fld Z h26 o0 "com/example/brief_locator/brieflocator/interchange/CanonicalForm" "hasAuthority" "Z" (.int (0 : Int32)) := ((F19.other W24 (Or.inr (slot_ne (Or.inr (hw _ (List.mem_of_getElem? (i := 27) rfl))) (Or.inr (hw _ (List.mem_of_getElem? (i := 37) rfl))) (by decide) (t := .boolean) (t' := .int) (by decide) (by decide)))).other W26 (Or.inr (slot_ne (Or.inr (hw _ (List.mem_of_getElem? (i := 27) rfl))) (Or.inr (hw _ (List.mem_of_getElem? (i := 52) rfl))) (by decide) (t := .boolean) (t' := .int) (by decide) (by decide))))
  exact Outs.retV X26 hx hret (hb hby d1_134) hlk (by decide) (by decide) e26 ⟨rfl, N26, ((((((((((Keep.refl h0 [o0]).wr W2 (Or.inl (List.mem_of_getElem? (i := 0) rfl))).wr W3 (Or.inl (List.mem_of_getElem? (i := 0) rfl))).wr W6 (Or.inl (List.mem_of_getElem? (i := 0) rfl))).wr W9 (Or.inl (List.mem_of_getElem? (i := 0) rfl))).wr W12 (Or.inl (List.mem_of_getElem? (i := 0) rfl))).wr W15 (Or.inl (List.mem_of_getElem? (i := 0) rfl))).wr W19 (Or.inl (List.mem_of_getElem? (i := 0) rfl))).wr W24 (Or.inl (List.mem_of_getElem? (i := 0) rfl))).wr W26 (Or.inl (List.mem_of_getElem? (i := 0) rfl))), f29, f30, f31, f32, f33⟩
theorem d1_37 : decode prog_13_method_1_code 37 = .ok (.aload_n 1, 1) := by decide +kernel
theorem d1_38 : decode prog_13_method_1_code 38 = .ok (.iconst 1, 1) := by decide +kernel
theorem d1_39 : decode prog_13_method_1_code 39 = .ok (.baload, 1) := by decide +kernel
theorem pd_2 : parseMethodDescriptor "(B)Z" = some ⟨[.byte], some .boolean⟩ := by decide +kernel
theorem d1_40 : decode prog_13_method_1_code 40 = .ok (.invokestatic 26, 3) := by decide +kernel
theorem d1_43 : decode prog_13_method_1_code 43 = .ok (.ifCond .eq 7, 3) := by decide +kernel
theorem d1_46 : decode prog_13_method_1_code 46 = .ok (.iconst 1, 1) := by decide +kernel
theorem d1_47 : decode prog_13_method_1_code 47 = .ok (.goto 4, 3) := by decide +kernel
theorem d1_67 : decode prog_13_method_1_code 67 = .ok (.aload_n 1, 1) := by decide +kernel
theorem d1_68 : decode prog_13_method_1_code 68 = .ok (.iconst 1, 1) := by decide +kernel
theorem d1_69 : decode prog_13_method_1_code 69 = .ok (.baload, 1) := by decide +kernel
theorem d1_70 : decode prog_13_method_1_code 70 = .ok (.bipush (-10), 2) := by decide +kernel
theorem d1_72 : decode prog_13_method_1_code 72 = .ok (.if_icmp .ne 7, 3) := by decide +kernel
theorem d1_75 : decode prog_13_method_1_code 75 = .ok (.iconst 1, 1) := by decide +kernel
theorem d1_76 : decode prog_13_method_1_code 76 = .ok (.goto 4, 3) := by decide +kernel
def ctn_43_s0 (i2 : Int32) (i3 : Int32) (i4 : Int32) (i5 : Int32) (n : Nat) (g : Nat → Int32) : Int32 := (if (F_f3 (g 1)) = (0 : Int32) then (0 : Int32) else (1 : Int32))
def ctn_72_s0 (i2 : Int32) (i3 : Int32) (i4 : Int32) (i5 : Int32) (n : Nat) (g : Nat → Int32) : Int32 := (if (g 1) = (-10 : Int32) then (1 : Int32) else (0 : Int32))
def ctn_out4 (i2 : Int32) (i3 : Int32) (i4 : Int32) (i5 : Int32) (n : Nat) (g : Nat → Int32) : Int32 := (if (nar .boolean (ctn_43_s0 i2 i3 i4 i5 n g)) = (0 : Int32) then (nar .boolean (ctn_72_s0 i2 i3 i4 i5 n g)) else (1 : Int32))
def Q_ctn (Z : State) (o0 : Addr) (o1 : Addr) (i2 : Int32) (i3 : Int32) (i4 : Int32) (i5 : Int32) (n : Nat) (g : Nat → Int32) (h0 : Heap) (n0 : Nat) (v : Option Value) (h : Heap) (L : List Loc) : Prop := v = none ∧ Fr n0 L ∧ Keep h0 h [o0] ∧ Exa Z h o0 "com/example/brief_locator/brieflocator/interchange/CanonicalForm" ∧ Fld Z h o0 "com/example/brief_locator/brieflocator/interchange/CanonicalForm" "bytes" "[B" (.ref o1) ∧ Fld Z h o0 "com/example/brief_locator/brieflocator/interchange/CanonicalForm" "firstEnd" "I" (.int i2) ∧ Fld Z h o0 "com/example/brief_locator/brieflocator/interchange/CanonicalForm" "pathStart" "I" (.int i3) ∧ Fld Z h o0 "com/example/brief_locator/brieflocator/interchange/CanonicalForm" "hasAuthority" "Z" (.int (ctn_out4 i2 i3 i4 i5 n g))
set_option maxRecDepth 65536 in
set_option maxHeartbeats 40000000 in
theorem rmctn (l : Launch) (Z : State) (a0 : Array Value) (hw : ∀ d ∈ tables_1, d.before a0 Z = true) (ws : List Jvm.Cond) (o0 : Addr) (o1 : Addr) (i2 : Int32) (i3 : Int32) (i4 : Int32) (i5 : Int32) (n : Nat) (g : Nat → Int32) (h0 : Heap) (n0 : Nat) (Z0 : n0 ≤ h0.size) (E_o0 : Exa Z h0 o0 "com/example/brief_locator/brieflocator/interchange/CanonicalForm") (g_o0 : n0 ≤ o0) (F_o0_bytes : Fld Z h0 o0 "com/example/brief_locator/brieflocator/interchange/CanonicalForm" "bytes" "[B" .null) (F_o0_firstEnd : Fld Z h0 o0 "com/example/brief_locator/brieflocator/interchange/CanonicalForm" "firstEnd" "I" (.int (0 : Int32))) (F_o0_pathStart : Fld Z h0 o0 "com/example/brief_locator/brieflocator/interchange/CanonicalForm" "pathStart" "I" (.int (0 : Int32))) (F_o0_pathEnd : Fld Z h0 o0 "com/example/brief_locator/brieflocator/interchange/CanonicalForm" "pathEnd" "I" (.int (0 : Int32))) (F_o0_queryEnd : Fld Z h0 o0 "com/example/brief_locator/brieflocator/interchange/CanonicalForm" "queryEnd" "I" (.int (0 : Int32))) (F_o0_hasScheme : Fld Z h0 o0 "com/example/brief_locator/brieflocator/interchange/CanonicalForm" "hasScheme" "Z" (.int (0 : Int32))) (F_o0_hasAuthority : Fld Z h0 o0 "com/example/brief_locator/brieflocator/interchange/CanonicalForm" "hasAuthority" "Z" (.int (0 : Int32))) (F_o0_pathSegments : Fld Z h0 o0 "com/example/brief_locator/brieflocator/interchange/CanonicalForm" "pathSegments" "I" (.int (0 : Int32))) (F_o0_pathSegmentsStart : Fld Z h0 o0 "com/example/brief_locator/brieflocator/interchange/CanonicalForm" "pathSegmentsStart" "I" (.int (0 : Int32))) (A_o1 : AI Z h0 o1 .byte n g) (ne_o1_o0 : o1 ≠ o0) (hle : ¬ i3 < i4) (h1 : (1 : Int32) < i2) (h1n : 1 < n) :
    MetFree l (⟨"com/example/brief_locator/brieflocator/interchange/CanonicalForm", "<init>", "([BIIII)V"⟩ : MethodName) (head1 (Jvm.Cond.code (⟨"com/example/brief_locator/brieflocator/interchange/CanonicalForm", "<init>", "([BIIII)V"⟩ : MethodName) prog_13_method_1_code 7 none :: ws) ({ frames := 1, cells := 0, slots := 0, locals := 14 } : Room)) (fun a U => a = #[(.ref o0), (.ref o1), (.int i2), (.int i3), (.int i4), (.int i5)] ∧ Z.Warmed39 U.vm ∧ U.heap = h0) (fun _ _ _ _ _ => True) (fun _ U o U' => ∃ v L, o = .returned v ∧ Q_ctn Z o0 o1 i2 i3 i4 i5 n g h0 n0 v U'.heap L ∧ FrameEnd U o U' L ({ frames := 1, cells := 0, slots := 0, locals := 14 } : Room).cells ({ frames := 1, cells := 0, slots := 0, locals := 14 } : Room).slots) := by
  refine MetFree.of_bodySF (plainFor_of_name pn_1) hisR ?_
  intro p e s m args below meth c s₁ Bd hml0 hP hK
  obtain ⟨rfl, hZ, hh⟩ := hP
  have hx := Bd.exec
  have hby := Bd.bytes
  have hml : c.maxLocals = 7 := hml0
  have hown : s.vm.findClass "com/example/brief_locator/brieflocator/interchange/CanonicalForm" = some m.cls := findClass_of_methodNamed Bd.named
  have hnm := (name_of_methodNamed Bd.named Bd.method).1
  have hret := Bd.returns
  have hlk : meth.locks = false := BodyLoose.notSynchronized Bd
  have X0 : Stand p l e ({ frames := 1, cells := 0, slots := 0, locals := 14 } : Room) s m #[(.ref o0), (.ref o1), (.int i2), (.int i3), (.int i4), (.int i5)] below meth c s₁ [] 0 0 := Stand.of_body Bd
  have e0 : s₁.heap = h0 := by rw [← hh, Bd.state]; rfl
  have N0 := Fr.nil n0
  show Outs p e below s (Q_ctn Z o0 o1 i2 i3 i4 i5 n g h0 n0) _ _ _
  refine Outs.of (U' := s₁.setTop (mkF m 0 #[.val (.ref o0), .val (.ref o1), .val (.int i2), .val (.int i3), .val (.int i4), .val (.int i5), .unset] [])) (fun t k => castTop (ef_1 m o0 o1 i2 i3 i4 i5) k) ?_
  refine Outs.of (U' := s₁.setTop (mkF m 1 #[.val (.ref o0), .val (.ref o1), .val (.int i2), .val (.int i3), .val (.int i4), .val (.int i5), .unset] [(.ref o0)])) (fun t k => ?_) ?_
  · refine XS.aloadN X0.here hx rfl (hb hby d1_0) rfl rfl ?_
    exact k
  obtain ⟨T1, X1, e1, st1⟩ := initO X0 hx hZ hown (hw _ (List.mem_of_getElem? (i := 8) rfl)) (hw _ (List.mem_of_getElem? (i := 9) rfl)) (hw _ (List.mem_of_getElem? (i := 10) rfl)) e0 (g := (mkF m 1 #[.val (.ref o0), .val (.ref o1), .val (.int i2), .val (.int i3), .val (.int i4), .val (.int i5), .unset] [(.ref o0)])) rfl (by rw [hml]; rfl) rfl (hb hby d1_1) (by decide) (W := 0) (by show 2 * 0 + _ ≤ _; exact Nat.le_of_eq rfl) (by decide)
  refine Outs.of st1 ?_
  refine Outs.of (U' := T1.setTop (mkF m 6 #[.val (.ref o0), .val (.ref o1), .val (.int i2), .val (.int i3), .val (.int i4), .val (.int i5), .unset] [(.ref o1), (.ref o0)])) (fun t k => ?_) ?_
  · refine XS.aloadN X1.here hx rfl (hb hby d1_4) rfl rfl ?_
    refine XS.aloadN X1.here hx rfl (hb hby d1_5) rfl rfl ?_
    exact k
  obtain ⟨T2, h2, X2, e2, W2, st2⟩ := putF X1 hx hZ hown (host := "") (Or.inl (hw _ (List.mem_of_getElem? (i := 11) rfl))) Via.refl e1 F_o0_bytes E_o0 (Or.inr ⟨(hw _ (List.mem_of_getElem? (i := 12) rfl)), rfl, hnm⟩) (hw _ (List.mem_of_getElem? (i := 3) rfl)) (ty := (.array .byte)) (by decide) rfl rfl (g := (mkF m 6 #[.val (.ref o0), .val (.ref o1), .val (.int i2), .val (.int i3), .val (.int i4), .val (.int i5), .unset] [(.ref o1), (.ref o0)])) rfl rfl (hb hby d1_6)
  have F2 : Fld Z h2 o0 "com/example/brief_locator/brieflocator/interchange/CanonicalForm" "bytes" "[B" (.ref o1) := F_o0_bytes.same W2
  have N2 := Fr.snoc X2 N0 g_o0
  obtain ⟨Lh2, X2, N2⟩ := hide X2 N2 (C := 0) (S := 0) (by decide) (by decide)
  refine Outs.of st2 ?_
  refine Outs.of (U' := T2.setTop (mkF m 11 #[.val (.ref o0), .val (.ref o1), .val (.int i2), .val (.int i3), .val (.int i4), .val (.int i5), .unset] [(.int i2), (.ref o0)])) (fun t k => ?_) ?_
  · refine XS.aloadN X2.here hx rfl (hb hby d1_9) rfl rfl ?_
    refine XS.iloadN X2.here hx rfl (hb hby d1_10) rfl ?_
    exact k
  have f4 : Exa Z h2 o0 "com/example/brief_locator/brieflocator/interchange/CanonicalForm" := (E_o0.wr W2)
  have f5 : Fld Z h2 o0 "com/example/brief_locator/brieflocator/interchange/CanonicalForm" "firstEnd" "I" (.int (0 : Int32)) := (F_o0_firstEnd.other W2 (Or.inr (slot_ne (Or.inr (hw _ (List.mem_of_getElem? (i := 14) rfl))) (Or.inr (hw _ (List.mem_of_getElem? (i := 12) rfl))) (by decide) (t := .int) (t' := (.array .byte)) (by decide) (by decide))))
  obtain ⟨T3, h3, X3, e3, W3, st3⟩ := putF X2 hx hZ hown (host := "") (Or.inl (hw _ (List.mem_of_getElem? (i := 13) rfl))) Via.refl e2 f5 f4 (Or.inr ⟨(hw _ (List.mem_of_getElem? (i := 14) rfl)), rfl, hnm⟩) (hw _ (List.mem_of_getElem? (i := 3) rfl)) (ty := .int) (by decide) rfl rfl (g := (mkF m 11 #[.val (.ref o0), .val (.ref o1), .val (.int i2), .val (.int i3), .val (.int i4), .val (.int i5), .unset] [(.int i2), (.ref o0)])) rfl rfl (hb hby d1_11)
  have F3 : Fld Z h3 o0 "com/example/brief_locator/brieflocator/interchange/CanonicalForm" "firstEnd" "I" (.int i2) := f5.same W3
  have N3 := Fr.snoc X3 N2 g_o0
  obtain ⟨Lh3, X3, N3⟩ := hide X3 N3 (C := 0) (S := 0) (by decide) (by decide)
  refine Outs.of st3 ?_
  refine Outs.of (U' := T3.setTop (mkF m 16 #[.val (.ref o0), .val (.ref o1), .val (.int i2), .val (.int i3), .val (.int i4), .val (.int i5), .unset] [(.int i3), (.ref o0)])) (fun t k => ?_) ?_
  · refine XS.aloadN X3.here hx rfl (hb hby d1_14) rfl rfl ?_
    refine XS.iloadN X3.here hx rfl (hb hby d1_15) rfl ?_
    exact k
  have f7 : Exa Z h3 o0 "com/example/brief_locator/brieflocator/interchange/CanonicalForm" := (f4.wr W3)
  have f8 : Fld Z h3 o0 "com/example/brief_locator/brieflocator/interchange/CanonicalForm" "pathStart" "I" (.int (0 : Int32)) := ((F_o0_pathStart.other W2 (Or.inr (slot_ne (Or.inr (hw _ (List.mem_of_getElem? (i := 16) rfl))) (Or.inr (hw _ (List.mem_of_getElem? (i := 12) rfl))) (by decide) (t := .int) (t' := (.array .byte)) (by decide) (by decide)))).other W3 (Or.inr (slot_ne (Or.inr (hw _ (List.mem_of_getElem? (i := 16) rfl))) (Or.inr (hw _ (List.mem_of_getElem? (i := 14) rfl))) (by decide) (t := .int) (t' := .int) (by decide) (by decide))))
  obtain ⟨T6, h6, X6, e6, W6, st6⟩ := putF X3 hx hZ hown (host := "") (Or.inl (hw _ (List.mem_of_getElem? (i := 15) rfl))) Via.refl e3 f8 f7 (Or.inr ⟨(hw _ (List.mem_of_getElem? (i := 16) rfl)), rfl, hnm⟩) (hw _ (List.mem_of_getElem? (i := 3) rfl)) (ty := .int) (by decide) rfl rfl (g := (mkF m 16 #[.val (.ref o0), .val (.ref o1), .val (.int i2), .val (.int i3), .val (.int i4), .val (.int i5), .unset] [(.int i3), (.ref o0)])) rfl rfl (hb hby d1_16)
  have F6 : Fld Z h6 o0 "com/example/brief_locator/brieflocator/interchange/CanonicalForm" "pathStart" "I" (.int i3) := f8.same W6
  have N6 := Fr.snoc X6 N3 g_o0
  obtain ⟨Lh6, X6, N6⟩ := hide X6 N6 (C := 0) (S := 0) (by decide) (by decide)
  refine Outs.of st6 ?_
  refine Outs.of (U' := T6.setTop (mkF m 22 #[.val (.ref o0), .val (.ref o1), .val (.int i2), .val (.int i3), .val (.int i4), .val (.int i5), .unset] [(.int i4), (.ref o0)])) (fun t k => ?_) ?_
  · refine XS.aloadN X6.here hx rfl (hb hby d1_19) rfl rfl ?_
    refine XS.iload X6.here hx rfl (hb hby d1_20) rfl ?_
    exact k
  have f10 : Exa Z h6 o0 "com/example/brief_locator/brieflocator/interchange/CanonicalForm" := (f7.wr W6)
  have f11 : Fld Z h6 o0 "com/example/brief_locator/brieflocator/interchange/CanonicalForm" "pathEnd" "I" (.int (0 : Int32)) := (((F_o0_pathEnd.other W2 (Or.inr (slot_ne (Or.inr (hw _ (List.mem_of_getElem? (i := 18) rfl))) (Or.inr (hw _ (List.mem_of_getElem? (i := 12) rfl))) (by decide) (t := .int) (t' := (.array .byte)) (by decide) (by decide)))).other W3 (Or.inr (slot_ne (Or.inr (hw _ (List.mem_of_getElem? (i := 18) rfl))) (Or.inr (hw _ (List.mem_of_getElem? (i := 14) rfl))) (by decide) (t := .int) (t' := .int) (by decide) (by decide)))).other W6 (Or.inr (slot_ne (Or.inr (hw _ (List.mem_of_getElem? (i := 18) rfl))) (Or.inr (hw _ (List.mem_of_getElem? (i := 16) rfl))) (by decide) (t := .int) (t' := .int) (by decide) (by decide))))
  obtain ⟨T9, h9, X9, e9, W9, st9⟩ := putF X6 hx hZ hown (host := "") (Or.inl (hw _ (List.mem_of_getElem? (i := 17) rfl))) Via.refl e6 f11 f10 (Or.inr ⟨(hw _ (List.mem_of_getElem? (i := 18) rfl)), rfl, hnm⟩) (hw _ (List.mem_of_getElem? (i := 3) rfl)) (ty := .int) (by decide) rfl rfl (g := (mkF m 22 #[.val (.ref o0), .val (.ref o1), .val (.int i2), .val (.int i3), .val (.int i4), .val (.int i5), .unset] [(.int i4), (.ref o0)])) rfl rfl (hb hby d1_22)
  have F9 : Fld Z h9 o0 "com/example/brief_locator/brieflocator/interchange/CanonicalForm" "pathEnd" "I" (.int i4) := f11.same W9
  have N9 := Fr.snoc X9 N6 g_o0
  obtain ⟨Lh9, X9, N9⟩ := hide X9 N9 (C := 0) (S := 0) (by decide) (by decide)
  refine Outs.of st9 ?_
  refine Outs.of (U' := T9.setTop (mkF m 28 #[.val (.ref o0), .val (.ref o1), .val (.int i2), .val (.int i3), .val (.int i4), .val (.int i5), .unset] [(.int i5), (.ref o0)])) (fun t k => ?_) ?_
  · refine XS.aloadN X9.here hx rfl (hb hby d1_25) rfl rfl ?_
    refine XS.iload X9.here hx rfl (hb hby d1_26) rfl ?_
    exact k
  have f13 : Exa Z h9 o0 "com/example/brief_locator/brieflocator/interchange/CanonicalForm" := (f10.wr W9)
  have f14 : Fld Z h9 o0 "com/example/brief_locator/brieflocator/interchange/CanonicalForm" "queryEnd" "I" (.int (0 : Int32)) := ((((F_o0_queryEnd.other W2 (Or.inr (slot_ne (Or.inr (hw _ (List.mem_of_getElem? (i := 20) rfl))) (Or.inr (hw _ (List.mem_of_getElem? (i := 12) rfl))) (by decide) (t := .int) (t' := (.array .byte)) (by decide) (by decide)))).other W3 (Or.inr (slot_ne (Or.inr (hw _ (List.mem_of_getElem? (i := 20) rfl))) (Or.inr (hw _ (List.mem_of_getElem? (i := 14) rfl))) (by decide) (t := .int) (t' := .int) (by decide) (by decide)))).other W6 (Or.inr (slot_ne (Or.inr (hw _ (List.mem_of_getElem? (i := 20) rfl))) (Or.inr (hw _ (List.mem_of_getElem? (i := 16) rfl))) (by decide) (t := .int) (t' := .int) (by decide) (by decide)))).other W9 (Or.inr (slot_ne (Or.inr (hw _ (List.mem_of_getElem? (i := 20) rfl))) (Or.inr (hw _ (List.mem_of_getElem? (i := 18) rfl))) (by decide) (t := .int) (t' := .int) (by decide) (by decide))))
  obtain ⟨T12, h12, X12, e12, W12, st12⟩ := putF X9 hx hZ hown (host := "") (Or.inl (hw _ (List.mem_of_getElem? (i := 19) rfl))) Via.refl e9 f14 f13 (Or.inr ⟨(hw _ (List.mem_of_getElem? (i := 20) rfl)), rfl, hnm⟩) (hw _ (List.mem_of_getElem? (i := 3) rfl)) (ty := .int) (by decide) rfl rfl (g := (mkF m 28 #[.val (.ref o0), .val (.ref o1), .val (.int i2), .val (.int i3), .val (.int i4), .val (.int i5), .unset] [(.int i5), (.ref o0)])) rfl rfl (hb hby d1_28)
  have F12 : Fld Z h12 o0 "com/example/brief_locator/brieflocator/interchange/CanonicalForm" "queryEnd" "I" (.int i5) := f14.same W12
  have N12 := Fr.snoc X12 N9 g_o0
  obtain ⟨Lh12, X12, N12⟩ := hide X12 N12 (C := 0) (S := 0) (by decide) (by decide)
  refine Outs.of st12 ?_
  refine Outs.of (U' := T12.setTop (mkF m 39 #[.val (.ref o0), .val (.ref o1), .val (.int i2), .val (.int i3), .val (.int i4), .val (.int i5), .unset] [(.int (1 : Int32)), (.ref o1), (.ref o0)])) (fun t k => ?_) ?_
  · refine XS.aloadN X12.here hx rfl (hb hby d1_31) rfl rfl ?_
    refine XS.iloadN X12.here hx rfl (hb hby d1_32) rfl ?_
    refine XS.iconst X12.here hx rfl (hb hby d1_33) ?_
    refine XS.icmpNo X12.here hx rfl (hb hby d1_34) rfl (tlt h1).2.2.2 ?_
    refine XS.aloadN X12.here hx rfl (hb hby d1_37) rfl rfl ?_
    refine XS.iconst X12.here hx rfl (hb hby d1_38) ?_
    exact k
  have f15 : AI Z h12 o1 .byte n g := (((((A_o1.other W2 ne_o1_o0).other W3 ne_o1_o0).other W6 ne_o1_o0).other W9 ne_o1_o0).other W12 ne_o1_o0)
  refine Outs.of (ldB X12 hx hZ e12 f15 (j := (1 : Int32)) (k := 1) rfl h1n (f := (mkF m 39 #[.val (.ref o0), .val (.ref o1), .val (.int i2), .val (.int i3), .val (.int i4), .val (.int i5), .unset] [(.int (1 : Int32)), (.ref o1), (.ref o0)])) rfl rfl (hb hby d1_39)) ?_
  obtain ⟨_, _, ⟨T16, L16, k16, n16⟩, -, X16, ⟨Lc16, hQ16, l16, y16, z16⟩, st16⟩ := Jvm.LawKit.callS X12 hx (y := (⟨"com/example/brief_locator/brieflocator/interchange/CanonicalForm", "isScheme", "(B)Z"⟩ : MethodName)) hown (mvT hZ (hw _ (List.mem_of_getElem? (i := 21) rfl))) (mvT hZ (hw _ (List.mem_of_getElem? (i := 22) rfl))) (mvT hZ (hw _ (List.mem_of_getElem? (i := 4) rfl))) (mvT hZ (hw _ (List.mem_of_getElem? (i := 23) rfl))) (by decide) (backOf (W := 1) (rm3 l Z a0 hw [] (g 1) h12 n0 ) hZ (hw _ (List.mem_of_getElem? (i := 23) rfl)) (hw _ (List.mem_of_getElem? (i := 4) rfl)) (by decide) (by decide)) (g := (mkF m 40 #[.val (.ref o0), .val (.ref o1), .val (.int i2), .val (.int i3), .val (.int i4), .val (.int i5), .unset] [(.int (g 1)), (.ref o0)])) rfl (by rw [hml]; rfl) (argsL := [(.int (g 1))]) (rest := [(.ref o0)]) (lenOf pd_2 rfl) rfl (by show 2 * 0 + _ ≤ _; exact Nat.le_of_eq rfl) (hb hby d1_40) (fun _ _ => ⟨rfl, e12, (by decide : 0 + 0 ≤ _), (by decide : 0 + 0 ≤ _)⟩)
  dsimp only [Pt.U, Pt.locs, Pt.cells, Pt.slots] at X16 l16 y16 z16 st16 hQ16
  subst l16 y16 z16
  obtain ⟨rfl, N16q, e16⟩ := hQ16
  have N16 := Fr.app N12 N16q
  obtain ⟨Lh16, X16, N16⟩ := hide X16 N16 (C := 0) (S := 0) (by decide) (by decide)
  refine Outs.of st16 ?_
  refine Outs.of (U' := T16.setTop (mkF m 51 #[.val (.ref o0), .val (.ref o1), .val (.int i2), .val (.int i3), .val (.int i4), .val (.int i5), .unset] [(.int (ctn_43_s0 i2 i3 i4 i5 n g)), (.ref o0)])) (fun t k => ?_) ?_
  · by_cases hc43 : (F_f3 (g 1)) = (0 : Int32)
    · refine XS.ifYes X16.here hx rfl (pc0 := 43) (pc' := 50) rfl (hb hby d1_43) rfl ((if0 _ _).trans (teq hc43).1) (by decide) (by decide) ?_
      refine XS.iconst X16.here hx rfl (hb hby d1_50) ?_
      rw [show (ctn_43_s0 i2 i3 i4 i5 n g) = (0 : Int32) from (if_pos hc43)] at k
      exact k
    · refine XS.ifNo X16.here hx rfl (hb hby d1_43) rfl ((if0 _ _).trans (feq hc43).1) ?_
      refine XS.iconst X16.here hx rfl (hb hby d1_46) ?_
      refine XS.goto X16.here hx rfl (pc0 := 47) (pc' := 51) rfl (hb hby d1_47) (by decide) (by decide) ?_
      rw [show (ctn_43_s0 i2 i3 i4 i5 n g) = (1 : Int32) from (if_neg hc43)] at k
      exact k
  have f18 : Exa Z h12 o0 "com/example/brief_locator/brieflocator/interchange/CanonicalForm" := (f13.wr W12)
  have f19 : Fld Z h12 o0 "com/example/brief_locator/brieflocator/interchange/CanonicalForm" "hasScheme" "Z" (.int (0 : Int32)) := (((((F_o0_hasScheme.other W2 (Or.inr (slot_ne (Or.inr (hw _ (List.mem_of_getElem? (i := 25) rfl))) (Or.inr (hw _ (List.mem_of_getElem? (i := 12) rfl))) (by decide) (t := .boolean) (t' := (.array .byte)) (by decide) (by decide)))).other W3 (Or.inr (slot_ne (Or.inr (hw _ (List.mem_of_getElem? (i := 25) rfl))) (Or.inr (hw _ (List.mem_of_getElem? (i := 14) rfl))) (by decide) (t := .boolean) (t' := .int) (by decide) (by decide)))).other W6 (Or.inr (slot_ne (Or.inr (hw _ (List.mem_of_getElem? (i := 25) rfl))) (Or.inr (hw _ (List.mem_of_getElem? (i := 16) rfl))) (by decide) (t := .boolean) (t' := .int) (by decide) (by decide)))).other W9 (Or.inr (slot_ne (Or.inr (hw _ (List.mem_of_getElem? (i := 25) rfl))) (Or.inr (hw _ (List.mem_of_getElem? (i := 18) rfl))) (by decide) (t := .boolean) (t' := .int) (by decide) (by decide)))).other W12 (Or.inr (slot_ne (Or.inr (hw _ (List.mem_of_getElem? (i := 25) rfl))) (Or.inr (hw _ (List.mem_of_getElem? (i := 20) rfl))) (by decide) (t := .boolean) (t' := .int) (by decide) (by decide))))
  obtain ⟨T17, h17, X17, e17, W17, st17⟩ := putFN X16 hx hZ hown (hw _ (List.mem_of_getElem? (i := 24) rfl)) Via.refl e16 f19 f18 (Or.inr ⟨(hw _ (List.mem_of_getElem? (i := 25) rfl)), rfl, hnm⟩) (hw _ (List.mem_of_getElem? (i := 3) rfl)) (ty := .boolean) (v' := (.int (nar .boolean (ctn_43_s0 i2 i3 i4 i5 n g)))) (by decide) rfl (fits_nar_bool _) (g := (mkF m 51 #[.val (.ref o0), .val (.ref o1), .val (.int i2), .val (.int i3), .val (.int i4), .val (.int i5), .unset] [(.int (ctn_43_s0 i2 i3 i4 i5 n g)), (.ref o0)])) rfl rfl (hb hby d1_51)
  have F17 : Fld Z h17 o0 "com/example/brief_locator/brieflocator/interchange/CanonicalForm" "hasScheme" "Z" (.int (nar .boolean (ctn_43_s0 i2 i3 i4 i5 n g))) := f19.same W17
  have N17 := Fr.snoc X17 N16 g_o0
  obtain ⟨Lh17, X17, N17⟩ := hide X17 N17 (C := 0) (S := 0) (by decide) (by decide)
  refine Outs.of st17 ?_
  refine Outs.of (U' := T17.setTop (mkF m 56 #[.val (.ref o0), .val (.ref o1), .val (.int i2), .val (.int i3), .val (.int i4), .val (.int i5), .unset] [(.ref o0), (.ref o0)])) (fun t k => ?_) ?_
  · refine XS.aloadN X17.here hx rfl (hb hby d1_54) rfl rfl ?_
    refine XS.aloadN X17.here hx rfl (hb hby d1_55) rfl rfl ?_
    exact k
  obtain ⟨T20, X20, e20, st20⟩ := getF X17 hx hZ hown (host := "") (Or.inl (hw _ (List.mem_of_getElem? (i := 24) rfl))) Via.refl e17 F17 (g := (mkF m 56 #[.val (.ref o0), .val (.ref o1), .val (.int i2), .val (.int i3), .val (.int i4), .val (.int i5), .unset] [(.ref o0), (.ref o0)])) rfl rfl (hb hby d1_56)
  refine Outs.of st20 ?_
  by_cases hc59 : (nar .boolean (ctn_43_s0 i2 i3 i4 i5 n g)) = (0 : Int32)
  · refine Outs.of (U' := T20.setTop (mkF m 62 #[.val (.ref o0), .val (.ref o1), .val (.int i2), .val (.int i3), .val (.int i4), .val (.int i5), .unset] [(.ref o0)])) (fun t k => ?_) ?_
    · refine XS.ifNo X20.here hx rfl (hb hby d1_59) rfl ((if0 _ _).trans (teq hc59).2) ?_
      exact k
    refine Outs.of (U' := T20.setTop (mkF m 69 #[.val (.ref o0), .val (.ref o1), .val (.int i2), .val (.int i3), .val (.int i4), .val (.int i5), .unset] [(.int (1 : Int32)), (.ref o1), (.ref o0)])) (fun t k => ?_) ?_
    · refine XS.iloadN X20.here hx rfl (hb hby d1_62) rfl ?_
      refine XS.iconst X20.here hx rfl (hb hby d1_63) ?_
      refine XS.icmpNo X20.here hx rfl (hb hby d1_64) rfl (tlt h1).2.2.2 ?_
      refine XS.aloadN X20.here hx rfl (hb hby d1_67) rfl rfl ?_
      refine XS.iconst X20.here hx rfl (hb hby d1_68) ?_
      exact k
    have f21 : AI Z h17 o1 .byte n g := (f15.other W17 ne_o1_o0)
    refine Outs.of (ldB X20 hx hZ e20 f21 (j := (1 : Int32)) (k := 1) rfl h1n (f := (mkF m 69 #[.val (.ref o0), .val (.ref o1), .val (.int i2), .val (.int i3), .val (.int i4), .val (.int i5), .unset] [(.int (1 : Int32)), (.ref o1), (.ref o0)])) rfl rfl (hb hby d1_69)) ?_
    refine Outs.of (U' := T20.setTop (mkF m 80 #[.val (.ref o0), .val (.ref o1), .val (.int i2), .val (.int i3), .val (.int i4), .val (.int i5), .unset] [(.int (ctn_72_s0 i2 i3 i4 i5 n g)), (.ref o0)])) (fun t k => ?_) ?_
    · refine XS.bipush X20.here hx rfl (hb hby d1_70) ?_
      by_cases hc72 : (g 1) = (-10 : Int32)
      · refine XS.icmpNo X20.here hx rfl (hb hby d1_72) rfl (teq hc72).2 ?_
        refine XS.iconst X20.here hx rfl (hb hby d1_75) ?_
        refine XS.goto X20.here hx rfl (pc0 := 76) (pc' := 80) rfl (hb hby d1_76) (by decide) (by decide) ?_
        rw [show (ctn_72_s0 i2 i3 i4 i5 n g) = (1 : Int32) from (if_pos hc72)] at k
        exact k
      · refine XS.icmpYes X20.here hx rfl (pc0 := 72) (pc' := 79) rfl (hb hby d1_72) rfl (feq hc72).2 (by decide) (by decide) ?_
        refine XS.iconst X20.here hx rfl (hb hby d1_79) ?_
        rw [show (ctn_72_s0 i2 i3 i4 i5 n g) = (0 : Int32) from (if_neg hc72)] at k
        exact k
    have f23 : Exa Z h17 o0 "com/example/brief_locator/brieflocator/interchange/CanonicalForm" := (f18.wr W17)
    have f24 : Fld Z h17 o0 "com/example/brief_locator/brieflocator/interchange/CanonicalForm" "hasAuthority" "Z" (.int (0 : Int32)) := ((((((F_o0_hasAuthority.other W2 (Or.inr (slot_ne (Or.inr (hw _ (List.mem_of_getElem? (i := 27) rfl))) (Or.inr (hw _ (List.mem_of_getElem? (i := 12) rfl))) (by decide) (t := .boolean) (t' := (.array .byte)) (by decide) (by decide)))).other W3 (Or.inr (slot_ne (Or.inr (hw _ (List.mem_of_getElem? (i := 27) rfl))) (Or.inr (hw _ (List.mem_of_getElem? (i := 14) rfl))) (by decide) (t := .boolean) (t' := .int) (by decide) (by decide)))).other W6 (Or.inr (slot_ne (Or.inr (hw _ (List.mem_of_getElem? (i := 27) rfl))) (Or.inr (hw _ (List.mem_of_getElem? (i := 16) rfl))) (by decide) (t := .boolean) (t' := .int) (by decide) (by decide)))).other W9 (Or.inr (slot_ne (Or.inr (hw _ (List.mem_of_getElem? (i := 27) rfl))) (Or.inr (hw _ (List.mem_of_getElem? (i := 18) rfl))) (by decide) (t := .boolean) (t' := .int) (by decide) (by decide)))).other W12 (Or.inr (slot_ne (Or.inr (hw _ (List.mem_of_getElem? (i := 27) rfl))) (Or.inr (hw _ (List.mem_of_getElem? (i := 20) rfl))) (by decide) (t := .boolean) (t' := .int) (by decide) (by decide)))).other W17 (Or.inr (slot_ne (Or.inr (hw _ (List.mem_of_getElem? (i := 27) rfl))) (Or.inr (hw _ (List.mem_of_getElem? (i := 25) rfl))) (by decide) (t := .boolean) (t' := .boolean) (by decide) (by decide))))
    obtain ⟨T22, h22, X22, e22, W22, st22⟩ := putFN X20 hx hZ hown (hw _ (List.mem_of_getElem? (i := 26) rfl)) Via.refl e20 f24 f23 (Or.inr ⟨(hw _ (List.mem_of_getElem? (i := 27) rfl)), rfl, hnm⟩) (hw _ (List.mem_of_getElem? (i := 3) rfl)) (ty := .boolean) (v' := (.int (nar .boolean (ctn_72_s0 i2 i3 i4 i5 n g)))) (by decide) rfl (fits_nar_bool _) (g := (mkF m 80 #[.val (.ref o0), .val (.ref o1), .val (.int i2), .val (.int i3), .val (.int i4), .val (.int i5), .unset] [(.int (ctn_72_s0 i2 i3 i4 i5 n g)), (.ref o0)])) rfl rfl (hb hby d1_80)
    have F22 : Fld Z h22 o0 "com/example/brief_locator/brieflocator/interchange/CanonicalForm" "hasAuthority" "Z" (.int (nar .boolean (ctn_72_s0 i2 i3 i4 i5 n g))) := f24.same W22
    have N22 := Fr.snoc X22 N17 g_o0
    obtain ⟨Lh22, X22, N22⟩ := hide X22 N22 (C := 0) (S := 0) (by decide) (by decide)
    refine Outs.of st22 ?_
    refine Outs.of (U' := T22.setTop (mkF m 87 #[.val (.ref o0), .val (.ref o1), .val (.int i2), .val (.int i3), .val (.int i4), .val (.int i5), .unset] [(.int i4), (.int i3), (.ref o0)])) (fun t k => ?_) ?_
    · refine XS.aloadN X22.here hx rfl (hb hby d1_83) rfl rfl ?_
      refine XS.iloadN X22.here hx rfl (hb hby d1_84) rfl ?_
      refine XS.iload X22.here hx rfl (hb hby d1_85) rfl ?_
      exact k
    have f26 : Exa Z h22 o0 "com/example/brief_locator/brieflocator/interchange/CanonicalForm" := (f23.wr W22)
    obtain ⟨cq25, q25, q25'⟩ := f26.cell
    obtain ⟨_, _, ⟨T25, L25, k25, n25⟩, -, X25, ⟨Lc25, hQ25, l25, y25, z25⟩, st25⟩ := X22.privateBack hx (y := (⟨"com/example/brief_locator/brieflocator/interchange/CanonicalForm", "isSet", "(II)Z"⟩ : MethodName)) hown (mvT hZ (hw _ (List.mem_of_getElem? (i := 28) rfl))) (mvT hZ (hw _ (List.mem_of_getElem? (i := 29) rfl))) (own_selects (mvT hZ (hw _ (List.mem_of_getElem? (i := 3) rfl))) (Cond.privateMethod_at (mvP hZ (hw _ (List.mem_of_getElem? (i := 30) rfl)) (args := #[]))) (mvT hZ (hw _ (List.mem_of_getElem? (i := 29) rfl))) (by decide)) (Cond.privateMethod_at (mvP hZ (hw _ (List.mem_of_getElem? (i := 30) rfl)) (args := #[]))) (mvT hZ (hw _ (List.mem_of_getElem? (i := 31) rfl))) (by decide) (backOf (W := 0) (rmisn l Z a0 hw [] o0 i3 i4 h22 n0 f26 hle) hZ (hw _ (List.mem_of_getElem? (i := 31) rfl)) (hw _ (List.mem_of_getElem? (i := 4) rfl)) (by decide) (by decide)) (g := (mkF m 87 #[.val (.ref o0), .val (.ref o1), .val (.int i2), .val (.int i3), .val (.int i4), .val (.int i5), .unset] [(.int i4), (.int i3), (.ref o0)])) rfl (by rw [hml]; rfl) (Steps.refl _) (a := o0) (by rw [e22]; exact q25) q25' (argsL := [(.int i3), (.int i4)]) (rest := []) (lenOf pd_3 rfl) rfl (by show 2 * 0 + _ ≤ _; exact Nat.le_of_eq rfl) (hb hby d1_87) (fun _ _ => ⟨rfl, e22, (by decide : 0 + 0 ≤ _), (by decide : 0 + 0 ≤ _)⟩)
    dsimp only [Pt.U, Pt.locs, Pt.cells, Pt.slots] at X25 l25 y25 z25 st25 hQ25
    subst l25 y25 z25
    obtain ⟨rfl, N25q, e25⟩ := hQ25
    have N25 := Fr.app N22 N25q
    obtain ⟨Lh25, X25, N25⟩ := hide X25 N25 (C := 0) (S := 0) (by decide) (by decide)
    refine Outs.to st25 ?_
    refine Outs.of (U' := T25.setTop (mkF m 108 #[.val (.ref o0), .val (.ref o1), .val (.int i2), .val (.int i3), .val (.int i4), .val (.int i5), .val (.int (0 : Int32))] [(.int (0 : Int32)), (.ref o0)])) (fun t k => ?_) ?_
    · refine XS.istore X25.here hx rfl (hb hby d1_90) rfl (l' := #[.val (.ref o0), .val (.ref o1), .val (.int i2), .val (.int i3), .val (.int i4), .val (.int i5), .val (.int (0 : Int32))]) rfl ?_
      refine XS.aloadN X25.here hx rfl (hb hby d1_92) rfl rfl ?_
      refine XS.iload X25.here hx rfl (hb hby d1_93) rfl ?_
      refine XS.ifYes X25.here hx rfl (pc0 := 95) (pc' := 107) rfl (hb hby d1_95) rfl ((if0 _ _).trans (teq (show (0 : Int32) = (0 : Int32) from (by decide))).1) (by decide) (by decide) ?_
      refine XS.iconst X25.here hx rfl (hb hby d1_107) ?_
      exact k
    have f28 : Fld Z h22 o0 "com/example/brief_locator/brieflocator/interchange/CanonicalForm" "pathSegments" "I" (.int (0 : Int32)) := (((((((F_o0_pathSegments.other W2 (Or.inr (slot_ne (Or.inr (hw _ (List.mem_of_getElem? (i := 37) rfl))) (Or.inr (hw _ (List.mem_of_getElem? (i := 12) rfl))) (by decide) (t := .int) (t' := (.array .byte)) (by decide) (by decide)))).other W3 (Or.inr (slot_ne (Or.inr (hw _ (List.mem_of_getElem? (i := 37) rfl))) (Or.inr (hw _ (List.mem_of_getElem? (i := 14) rfl))) (by decide) (t := .int) (t' := .int) (by decide) (by decide)))).other W6 (Or.inr (slot_ne (Or.inr (hw _ (List.mem_of_getElem? (i := 37) rfl))) (Or.inr (hw _ (List.mem_of_getElem? (i := 16) rfl))) (by decide) (t := .int) (t' := .int) (by decide) (by decide)))).other W9 (Or.inr (slot_ne (Or.inr (hw _ (List.mem_of_getElem? (i := 37) rfl))) (Or.inr (hw _ (List.mem_of_getElem? (i := 18) rfl))) (by decide) (t := .int) (t' := .int) (by decide) (by decide)))).other W12 (Or.inr (slot_ne (Or.inr (hw _ (List.mem_of_getElem? (i := 37) rfl))) (Or.inr (hw _ (List.mem_of_getElem? (i := 20) rfl))) (by decide) (t := .int) (t' := .int) (by decide) (by decide)))).other W17 (Or.inr (slot_ne (Or.inr (hw _ (List.mem_of_getElem? (i := 37) rfl))) (Or.inr (hw _ (List.mem_of_getElem? (i := 25) rfl))) (by decide) (t := .int) (t' := .boolean) (by decide) (by decide)))).other W22 (Or.inr (slot_ne (Or.inr (hw _ (List.mem_of_getElem? (i := 37) rfl))) (Or.inr (hw _ (List.mem_of_getElem? (i := 27) rfl))) (by decide) (t := .int) (t' := .boolean) (by decide) (by decide))))
    obtain ⟨T27, h27, X27, e27, W27, st27⟩ := putF X25 hx hZ hown (host := "") (Or.inl (hw _ (List.mem_of_getElem? (i := 36) rfl))) Via.refl e25 f28 f26 (Or.inr ⟨(hw _ (List.mem_of_getElem? (i := 37) rfl)), rfl, hnm⟩) (hw _ (List.mem_of_getElem? (i := 3) rfl)) (ty := .int) (by decide) rfl rfl (g := (mkF m 108 #[.val (.ref o0), .val (.ref o1), .val (.int i2), .val (.int i3), .val (.int i4), .val (.int i5), .val (.int (0 : Int32))] [(.int (0 : Int32)), (.ref o0)])) rfl rfl (hb hby d1_108)
    have F27 : Fld Z h27 o0 "com/example/brief_locator/brieflocator/interchange/CanonicalForm" "pathSegments" "I" (.int (0 : Int32)) := f28.same W27
    have N27 := Fr.snoc X27 N25 g_o0
    obtain ⟨Lh27, X27, N27⟩ := hide X27 N27 (C := 0) (S := 0) (by decide) (by decide)
    refine Outs.of st27 ?_
    refine Outs.of (U' := T27.setTop (mkF m 131 #[.val (.ref o0), .val (.ref o1), .val (.int i2), .val (.int i3), .val (.int i4), .val (.int i5), .val (.int (0 : Int32))] [(.int i3), (.ref o0)])) (fun t k => ?_) ?_
    · refine XS.aloadN X27.here hx rfl (hb hby d1_111) rfl rfl ?_
      refine XS.iload X27.here hx rfl (hb hby d1_112) rfl ?_
      refine XS.ifYes X27.here hx rfl (pc0 := 114) (pc' := 130) rfl (hb hby d1_114) rfl ((if0 _ _).trans (teq (show (0 : Int32) = (0 : Int32) from (by decide))).1) (by decide) (by decide) ?_
      refine XS.iloadN X27.here hx rfl (hb hby d1_130) rfl ?_
      exact k
    have f30 : Exa Z h27 o0 "com/example/brief_locator/brieflocator/interchange/CanonicalForm" := (f26.wr W27)
    have f31 : Fld Z h27 o0 "com/example/brief_locator/brieflocator/interchange/CanonicalForm" "pathSegmentsStart" "I" (.int (0 : Int32)) := ((((((((F_o0_pathSegmentsStart.other W2 (Or.inr (slot_ne (Or.inr (hw _ (List.mem_of_getElem? (i := 52) rfl))) (Or.inr (hw _ (List.mem_of_getElem? (i := 12) rfl))) (by decide) (t := .int) (t' := (.array .byte)) (by decide) (by decide)))).other W3 (Or.inr (slot_ne (Or.inr (hw _ (List.mem_of_getElem? (i := 52) rfl))) (Or.inr (hw _ (List.mem_of_getElem? (i := 14) rfl))) (by decide) (t := .int) (t' := .int) (by decide) (by decide)))).other W6 (Or.inr (slot_ne (Or.inr (hw _ (List.mem_of_getElem? (i := 52) rfl))) (Or.inr (hw _ (List.mem_of_getElem? (i := 16) rfl))) (by decide) (t := .int) (t' := .int) (by decide) (by decide)))).other W9 (Or.inr (slot_ne (Or.inr (hw _ (List.mem_of_getElem? (i := 52) rfl))) (Or.inr (hw _ (List.mem_of_getElem? (i := 18) rfl))) (by decide) (t := .int) (t' := .int) (by decide) (by decide)))).other W12 (Or.inr (slot_ne (Or.inr (hw _ (List.mem_of_getElem? (i := 52) rfl))) (Or.inr (hw _ (List.mem_of_getElem? (i := 20) rfl))) (by decide) (t := .int) (t' := .int) (by decide) (by decide)))).other W17 (Or.inr (slot_ne (Or.inr (hw _ (List.mem_of_getElem? (i := 52) rfl))) (Or.inr (hw _ (List.mem_of_getElem? (i := 25) rfl))) (by decide) (t := .int) (t' := .boolean) (by decide) (by decide)))).other W22 (Or.inr (slot_ne (Or.inr (hw _ (List.mem_of_getElem? (i := 52) rfl))) (Or.inr (hw _ (List.mem_of_getElem? (i := 27) rfl))) (by decide) (t := .int) (t' := .boolean) (by decide) (by decide)))).other W27 (Or.inr (slot_ne (Or.inr (hw _ (List.mem_of_getElem? (i := 52) rfl))) (Or.inr (hw _ (List.mem_of_getElem? (i := 37) rfl))) (by decide) (t := .int) (t' := .int) (by decide) (by decide))))
    obtain ⟨T29, h29, X29, e29, W29, st29⟩ := putF X27 hx hZ hown (host := "") (Or.inl (hw _ (List.mem_of_getElem? (i := 51) rfl))) Via.refl e27 f31 f30 (Or.inr ⟨(hw _ (List.mem_of_getElem? (i := 52) rfl)), rfl, hnm⟩) (hw _ (List.mem_of_getElem? (i := 3) rfl)) (ty := .int) (by decide) rfl rfl (g := (mkF m 131 #[.val (.ref o0), .val (.ref o1), .val (.int i2), .val (.int i3), .val (.int i4), .val (.int i5), .val (.int (0 : Int32))] [(.int i3), (.ref o0)])) rfl rfl (hb hby d1_131)
    have F29 : Fld Z h29 o0 "com/example/brief_locator/brieflocator/interchange/CanonicalForm" "pathSegmentsStart" "I" (.int i3) := f31.same W29
    have N29 := Fr.snoc X29 N27 g_o0
    obtain ⟨Lh29, X29, N29⟩ := hide X29 N29 (C := 0) (S := 0) (by decide) (by decide)
    refine Outs.of st29 ?_
    have f32 : Exa Z h29 o0 "com/example/brief_locator/brieflocator/interchange/CanonicalForm" := (f30.wr W29)
    have f33 : Fld Z h29 o0 "com/example/brief_locator/brieflocator/interchange/CanonicalForm" "bytes" "[B" (.ref o1) := ((((((((F2.other W3 (Or.inr (slot_ne (Or.inr (hw _ (List.mem_of_getElem? (i := 12) rfl))) (Or.inr (hw _ (List.mem_of_getElem? (i := 14) rfl))) (by decide) (t := (.array .byte)) (t' := .int) (by decide) (by decide)))).other W6 (Or.inr (slot_ne (Or.inr (hw _ (List.mem_of_getElem? (i := 12) rfl))) (Or.inr (hw _ (List.mem_of_getElem? (i := 16) rfl))) (by decide) (t := (.array .byte)) (t' := .int) (by decide) (by decide)))).other W9 (Or.inr (slot_ne (Or.inr (hw _ (List.mem_of_getElem? (i := 12) rfl))) (Or.inr (hw _ (List.mem_of_getElem? (i := 18) rfl))) (by decide) (t := (.array .byte)) (t' := .int) (by decide) (by decide)))).other W12 (Or.inr (slot_ne (Or.inr (hw _ (List.mem_of_getElem? (i := 12) rfl))) (Or.inr (hw _ (List.mem_of_getElem? (i := 20) rfl))) (by decide) (t := (.array .byte)) (t' := .int) (by decide) (by decide)))).other W17 (Or.inr (slot_ne (Or.inr (hw _ (List.mem_of_getElem? (i := 12) rfl))) (Or.inr (hw _ (List.mem_of_getElem? (i := 25) rfl))) (by decide) (t := (.array .byte)) (t' := .boolean) (by decide) (by decide)))).other W22 (Or.inr (slot_ne (Or.inr (hw _ (List.mem_of_getElem? (i := 12) rfl))) (Or.inr (hw _ (List.mem_of_getElem? (i := 27) rfl))) (by decide) (t := (.array .byte)) (t' := .boolean) (by decide) (by decide)))).other W27 (Or.inr (slot_ne (Or.inr (hw _ (List.mem_of_getElem? (i := 12) rfl))) (Or.inr (hw _ (List.mem_of_getElem? (i := 37) rfl))) (by decide) (t := (.array .byte)) (t' := .int) (by decide) (by decide)))).other W29 (Or.inr (slot_ne (Or.inr (hw _ (List.mem_of_getElem? (i := 12) rfl))) (Or.inr (hw _ (List.mem_of_getElem? (i := 52) rfl))) (by decide) (t := (.array .byte)) (t' := .int) (by decide) (by decide))))
    have f34 : Fld Z h29 o0 "com/example/brief_locator/brieflocator/interchange/CanonicalForm" "firstEnd" "I" (.int i2) := (((((((F3.other W6 (Or.inr (slot_ne (Or.inr (hw _ (List.mem_of_getElem? (i := 14) rfl))) (Or.inr (hw _ (List.mem_of_getElem? (i := 16) rfl))) (by decide) (t := .int) (t' := .int) (by decide) (by decide)))).other W9 (Or.inr (slot_ne (Or.inr (hw _ (List.mem_of_getElem? (i := 14) rfl))) (Or.inr (hw _ (List.mem_of_getElem? (i := 18) rfl))) (by decide) (t := .int) (t' := .int) (by decide) (by decide)))).other W12 (Or.inr (slot_ne (Or.inr (hw _ (List.mem_of_getElem? (i := 14) rfl))) (Or.inr (hw _ (List.mem_of_getElem? (i := 20) rfl))) (by decide) (t := .int) (t' := .int) (by decide) (by decide)))).other W17 (Or.inr (slot_ne (Or.inr (hw _ (List.mem_of_getElem? (i := 14) rfl))) (Or.inr (hw _ (List.mem_of_getElem? (i := 25) rfl))) (by decide) (t := .int) (t' := .boolean) (by decide) (by decide)))).other W22 (Or.inr (slot_ne (Or.inr (hw _ (List.mem_of_getElem? (i := 14) rfl))) (Or.inr (hw _ (List.mem_of_getElem? (i := 27) rfl))) (by decide) (t := .int) (t' := .boolean) (by decide) (by decide)))).other W27 (Or.inr (slot_ne (Or.inr (hw _ (List.mem_of_getElem? (i := 14) rfl))) (Or.inr (hw _ (List.mem_of_getElem? (i := 37) rfl))) (by decide) (t := .int) (t' := .int) (by decide) (by decide)))).other W29 (Or.inr (slot_ne (Or.inr (hw _ (List.mem_of_getElem? (i := 14) rfl))) (Or.inr (hw _ (List.mem_of_getElem? (i := 52) rfl))) (by decide) (t := .int) (t' := .int) (by decide) (by decide))))
    have f35 : Fld Z h29 o0 "com/example/brief_locator/brieflocator/interchange/CanonicalForm" "pathStart" "I" (.int i3) := ((((((F6.other W9 (Or.inr (slot_ne (Or.inr (hw _ (List.mem_of_getElem? (i := 16) rfl))) (Or.inr (hw _ (List.mem_of_getElem? (i := 18) rfl))) (by decide) (t := .int) (t' := .int) (by decide) (by decide)))).other W12 (Or.inr (slot_ne (Or.inr (hw _ (List.mem_of_getElem? (i := 16) rfl))) (Or.inr (hw _ (List.mem_of_getElem? (i := 20) rfl))) (by decide) (t := .int) (t' := .int) (by decide) (by decide)))).other W17 (Or.inr (slot_ne (Or.inr (hw _ (List.mem_of_getElem? (i := 16) rfl))) (Or.inr (hw _ (List.mem_of_getElem? (i := 25) rfl))) (by decide) (t := .int) (t' := .boolean) (by decide) (by decide)))).other W22 (Or.inr (slot_ne (Or.inr (hw _ (List.mem_of_getElem? (i := 16) rfl))) (Or.inr (hw _ (List.mem_of_getElem? (i := 27) rfl))) (by decide) (t := .int) (t' := .boolean) (by decide) (by decide)))).other W27 (Or.inr (slot_ne (Or.inr (hw _ (List.mem_of_getElem? (i := 16) rfl))) (Or.inr (hw _ (List.mem_of_getElem? (i := 37) rfl))) (by decide) (t := .int) (t' := .int) (by decide) (by decide)))).other W29 (Or.inr (slot_ne (Or.inr (hw _ (List.mem_of_getElem? (i := 16) rfl))) (Or.inr (hw _ (List.mem_of_getElem? (i := 52) rfl))) (by decide) (t := .int) (t' := .int) (by decide) (by decide))))
    have f36 : Fld Z h29 o0 "com/example/brief_locator/brieflocator/interchange/CanonicalForm" "hasAuthority" "Z" (.int (nar .boolean (ctn_72_s0 i2 i3 i4 i5 n g))) := ((F22.other W27 (Or.inr (slot_ne (Or.inr (hw _ (List.mem_of_getElem? (i := 27) rfl))) (Or.inr (hw _ (List.mem_of_getElem? (i := 37) rfl))) (by decide) (t := .boolean) (t' := .int) (by decide) (by decide)))).other W29 (Or.inr (slot_ne (Or.inr (hw _ (List.mem_of_getElem? (i := 27) rfl))) (Or.inr (hw _ (List.mem_of_getElem? (i := 52) rfl))) (by decide) (t := .boolean) (t' := .int) (by decide) (by decide))))
    exact Outs.retV X29 hx hret (hb hby d1_134) hlk (by decide) (by decide) e29 ⟨rfl, N29, ((((((((((Keep.refl h0 [o0]).wr W2 (Or.inl (List.mem_of_getElem? (i := 0) rfl))).wr W3 (Or.inl (List.mem_of_getElem? (i := 0) rfl))).wr W6 (Or.inl (List.mem_of_getElem? (i := 0) rfl))).wr W9 (Or.inl (List.mem_of_getElem? (i := 0) rfl))).wr W12 (Or.inl (List.mem_of_getElem? (i := 0) rfl))).wr W17 (Or.inl (List.mem_of_getElem? (i := 0) rfl))).wr W22 (Or.inl (List.mem_of_getElem? (i := 0) rfl))).wr W27 (Or.inl (List.mem_of_getElem? (i := 0) rfl))).wr W29 (Or.inl (List.mem_of_getElem? (i := 0) rfl))), f32, f33, f34, f35, (by rw [show (ctn_out4 i2 i3 i4 i5 n g) = (nar .boolean (ctn_72_s0 i2 i3 i4 i5 n g)) from (if_pos hc59)]; exact f36)⟩
  · refine Outs.of (U' := T20.setTop (mkF m 75 #[.val (.ref o0), .val (.ref o1), .val (.int i2), .val (.int i3), .val (.int i4), .val (.int i5), .unset] [(.ref o0)])) (fun t k => ?_) ?_
    · refine XS.ifYes X20.here hx rfl (pc0 := 59) (pc' := 75) rfl (hb hby d1_59) rfl ((if0 _ _).trans (feq hc59).2) (by decide) (by decide) ?_
      exact k
    refine Outs.of (U' := T20.setTop (mkF m 80 #[.val (.ref o0), .val (.ref o1), .val (.int i2), .val (.int i3), .val (.int i4), .val (.int i5), .unset] [(.int (1 : Int32)), (.ref o0)])) (fun t k => ?_) ?_
    · refine XS.iconst X20.here hx rfl (hb hby d1_75) ?_
      refine XS.goto X20.here hx rfl (pc0 := 76) (pc' := 80) rfl (hb hby d1_76) (by decide) (by decide) ?_
      exact k
    have f38 : Exa Z h17 o0 "com/example/brief_locator/brieflocator/interchange/CanonicalForm" := (f18.wr W17)
    have f39 : Fld Z h17 o0 "com/example/brief_locator/brieflocator/interchange/CanonicalForm" "hasAuthority" "Z" (.int (0 : Int32)) := ((((((F_o0_hasAuthority.other W2 (Or.inr (slot_ne (Or.inr (hw _ (List.mem_of_getElem? (i := 27) rfl))) (Or.inr (hw _ (List.mem_of_getElem? (i := 12) rfl))) (by decide) (t := .boolean) (t' := (.array .byte)) (by decide) (by decide)))).other W3 (Or.inr (slot_ne (Or.inr (hw _ (List.mem_of_getElem? (i := 27) rfl))) (Or.inr (hw _ (List.mem_of_getElem? (i := 14) rfl))) (by decide) (t := .boolean) (t' := .int) (by decide) (by decide)))).other W6 (Or.inr (slot_ne (Or.inr (hw _ (List.mem_of_getElem? (i := 27) rfl))) (Or.inr (hw _ (List.mem_of_getElem? (i := 16) rfl))) (by decide) (t := .boolean) (t' := .int) (by decide) (by decide)))).other W9 (Or.inr (slot_ne (Or.inr (hw _ (List.mem_of_getElem? (i := 27) rfl))) (Or.inr (hw _ (List.mem_of_getElem? (i := 18) rfl))) (by decide) (t := .boolean) (t' := .int) (by decide) (by decide)))).other W12 (Or.inr (slot_ne (Or.inr (hw _ (List.mem_of_getElem? (i := 27) rfl))) (Or.inr (hw _ (List.mem_of_getElem? (i := 20) rfl))) (by decide) (t := .boolean) (t' := .int) (by decide) (by decide)))).other W17 (Or.inr (slot_ne (Or.inr (hw _ (List.mem_of_getElem? (i := 27) rfl))) (Or.inr (hw _ (List.mem_of_getElem? (i := 25) rfl))) (by decide) (t := .boolean) (t' := .boolean) (by decide) (by decide))))
    obtain ⟨T37, h37, X37, e37, W37, st37⟩ := putFN X20 hx hZ hown (hw _ (List.mem_of_getElem? (i := 26) rfl)) Via.refl e20 f39 f38 (Or.inr ⟨(hw _ (List.mem_of_getElem? (i := 27) rfl)), rfl, hnm⟩) (hw _ (List.mem_of_getElem? (i := 3) rfl)) (ty := .boolean) (v' := (.int (1 : Int32))) (by decide) rfl (by decide) (g := (mkF m 80 #[.val (.ref o0), .val (.ref o1), .val (.int i2), .val (.int i3), .val (.int i4), .val (.int i5), .unset] [(.int (1 : Int32)), (.ref o0)])) rfl rfl (hb hby d1_80)
    have F37 : Fld Z h37 o0 "com/example/brief_locator/brieflocator/interchange/CanonicalForm" "hasAuthority" "Z" (.int (1 : Int32)) := f39.same W37
    have N37 := Fr.snoc X37 N17 g_o0
    obtain ⟨Lh37, X37, N37⟩ := hide X37 N37 (C := 0) (S := 0) (by decide) (by decide)
    refine Outs.of st37 ?_
    refine Outs.of (U' := T37.setTop (mkF m 87 #[.val (.ref o0), .val (.ref o1), .val (.int i2), .val (.int i3), .val (.int i4), .val (.int i5), .unset] [(.int i4), (.int i3), (.ref o0)])) (fun t k => ?_) ?_
    · refine XS.aloadN X37.here hx rfl (hb hby d1_83) rfl rfl ?_
      refine XS.iloadN X37.here hx rfl (hb hby d1_84) rfl ?_
      refine XS.iload X37.here hx rfl (hb hby d1_85) rfl ?_
      exact k
    have f41 : Exa Z h37 o0 "com/example/brief_locator/brieflocator/interchange/CanonicalForm" := (f38.wr W37)
    obtain ⟨cq40, q40, q40'⟩ := f41.cell
    obtain ⟨_, _, ⟨T40, L40, k40, n40⟩, -, X40, ⟨Lc40, hQ40, l40, y40, z40⟩, st40⟩ := X37.privateBack hx (y := (⟨"com/example/brief_locator/brieflocator/interchange/CanonicalForm", "isSet", "(II)Z"⟩ : MethodName)) hown (mvT hZ (hw _ (List.mem_of_getElem? (i := 28) rfl))) (mvT hZ (hw _ (List.mem_of_getElem? (i := 29) rfl))) (own_selects (mvT hZ (hw _ (List.mem_of_getElem? (i := 3) rfl))) (Cond.privateMethod_at (mvP hZ (hw _ (List.mem_of_getElem? (i := 30) rfl)) (args := #[]))) (mvT hZ (hw _ (List.mem_of_getElem? (i := 29) rfl))) (by decide)) (Cond.privateMethod_at (mvP hZ (hw _ (List.mem_of_getElem? (i := 30) rfl)) (args := #[]))) (mvT hZ (hw _ (List.mem_of_getElem? (i := 31) rfl))) (by decide) (backOf (W := 0) (rmisn l Z a0 hw [] o0 i3 i4 h37 n0 f41 hle) hZ (hw _ (List.mem_of_getElem? (i := 31) rfl)) (hw _ (List.mem_of_getElem? (i := 4) rfl)) (by decide) (by decide)) (g := (mkF m 87 #[.val (.ref o0), .val (.ref o1), .val (.int i2), .val (.int i3), .val (.int i4), .val (.int i5), .unset] [(.int i4), (.int i3), (.ref o0)])) rfl (by rw [hml]; rfl) (Steps.refl _) (a := o0) (by rw [e37]; exact q40) q40' (argsL := [(.int i3), (.int i4)]) (rest := []) (lenOf pd_3 rfl) rfl (by show 2 * 0 + _ ≤ _; exact Nat.le_of_eq rfl) (hb hby d1_87) (fun _ _ => ⟨rfl, e37, (by decide : 0 + 0 ≤ _), (by decide : 0 + 0 ≤ _)⟩)
    dsimp only [Pt.U, Pt.locs, Pt.cells, Pt.slots] at X40 l40 y40 z40 st40 hQ40
    subst l40 y40 z40
    obtain ⟨rfl, N40q, e40⟩ := hQ40
    have N40 := Fr.app N37 N40q
    obtain ⟨Lh40, X40, N40⟩ := hide X40 N40 (C := 0) (S := 0) (by decide) (by decide)
    refine Outs.to st40 ?_
    refine Outs.of (U' := T40.setTop (mkF m 108 #[.val (.ref o0), .val (.ref o1), .val (.int i2), .val (.int i3), .val (.int i4), .val (.int i5), .val (.int (0 : Int32))] [(.int (0 : Int32)), (.ref o0)])) (fun t k => ?_) ?_
    · refine XS.istore X40.here hx rfl (hb hby d1_90) rfl (l' := #[.val (.ref o0), .val (.ref o1), .val (.int i2), .val (.int i3), .val (.int i4), .val (.int i5), .val (.int (0 : Int32))]) rfl ?_
      refine XS.aloadN X40.here hx rfl (hb hby d1_92) rfl rfl ?_
      refine XS.iload X40.here hx rfl (hb hby d1_93) rfl ?_
      refine XS.ifYes X40.here hx rfl (pc0 := 95) (pc' := 107) rfl (hb hby d1_95) rfl ((if0 _ _).trans (teq (show (0 : Int32) = (0 : Int32) from (by decide))).1) (by decide) (by decide) ?_
      refine XS.iconst X40.here hx rfl (hb hby d1_107) ?_
      exact k
    have f43 : Fld Z h37 o0 "com/example/brief_locator/brieflocator/interchange/CanonicalForm" "pathSegments" "I" (.int (0 : Int32)) := (((((((F_o0_pathSegments.other W2 (Or.inr (slot_ne (Or.inr (hw _ (List.mem_of_getElem? (i := 37) rfl))) (Or.inr (hw _ (List.mem_of_getElem? (i := 12) rfl))) (by decide) (t := .int) (t' := (.array .byte)) (by decide) (by decide)))).other W3 (Or.inr (slot_ne (Or.inr (hw _ (List.mem_of_getElem? (i := 37) rfl))) (Or.inr (hw _ (List.mem_of_getElem? (i := 14) rfl))) (by decide) (t := .int) (t' := .int) (by decide) (by decide)))).other W6 (Or.inr (slot_ne (Or.inr (hw _ (List.mem_of_getElem? (i := 37) rfl))) (Or.inr (hw _ (List.mem_of_getElem? (i := 16) rfl))) (by decide) (t := .int) (t' := .int) (by decide) (by decide)))).other W9 (Or.inr (slot_ne (Or.inr (hw _ (List.mem_of_getElem? (i := 37) rfl))) (Or.inr (hw _ (List.mem_of_getElem? (i := 18) rfl))) (by decide) (t := .int) (t' := .int) (by decide) (by decide)))).other W12 (Or.inr (slot_ne (Or.inr (hw _ (List.mem_of_getElem? (i := 37) rfl))) (Or.inr (hw _ (List.mem_of_getElem? (i := 20) rfl))) (by decide) (t := .int) (t' := .int) (by decide) (by decide)))).other W17 (Or.inr (slot_ne (Or.inr (hw _ (List.mem_of_getElem? (i := 37) rfl))) (Or.inr (hw _ (List.mem_of_getElem? (i := 25) rfl))) (by decide) (t := .int) (t' := .boolean) (by decide) (by decide)))).other W37 (Or.inr (slot_ne (Or.inr (hw _ (List.mem_of_getElem? (i := 37) rfl))) (Or.inr (hw _ (List.mem_of_getElem? (i := 27) rfl))) (by decide) (t := .int) (t' := .boolean) (by decide) (by decide))))
    obtain ⟨T42, h42, X42, e42, W42, st42⟩ := putF X40 hx hZ hown (host := "") (Or.inl (hw _ (List.mem_of_getElem? (i := 36) rfl))) Via.refl e40 f43 f41 (Or.inr ⟨(hw _ (List.mem_of_getElem? (i := 37) rfl)), rfl, hnm⟩) (hw _ (List.mem_of_getElem? (i := 3) rfl)) (ty := .int) (by decide) rfl rfl (g := (mkF m 108 #[.val (.ref o0), .val (.ref o1), .val (.int i2), .val (.int i3), .val (.int i4), .val (.int i5), .val (.int (0 : Int32))] [(.int (0 : Int32)), (.ref o0)])) rfl rfl (hb hby d1_108)
    have F42 : Fld Z h42 o0 "com/example/brief_locator/brieflocator/interchange/CanonicalForm" "pathSegments" "I" (.int (0 : Int32)) := f43.same W42
    have N42 := Fr.snoc X42 N40 g_o0
    obtain ⟨Lh42, X42, N42⟩ := hide X42 N42 (C := 0) (S := 0) (by decide) (by decide)
    refine Outs.of st42 ?_
    refine Outs.of (U' := T42.setTop (mkF m 131 #[.val (.ref o0), .val (.ref o1), .val (.int i2), .val (.int i3), .val (.int i4), .val (.int i5), .val (.int (0 : Int32))] [(.int i3), (.ref o0)])) (fun t k => ?_) ?_
    · refine XS.aloadN X42.here hx rfl (hb hby d1_111) rfl rfl ?_
      refine XS.iload X42.here hx rfl (hb hby d1_112) rfl ?_
      refine XS.ifYes X42.here hx rfl (pc0 := 114) (pc' := 130) rfl (hb hby d1_114) rfl ((if0 _ _).trans (teq (show (0 : Int32) = (0 : Int32) from (by decide))).1) (by decide) (by decide) ?_
      refine XS.iloadN X42.here hx rfl (hb hby d1_130) rfl ?_
      exact k
    have f45 : Exa Z h42 o0 "com/example/brief_locator/brieflocator/interchange/CanonicalForm" := (f41.wr W42)
    have f46 : Fld Z h42 o0 "com/example/brief_locator/brieflocator/interchange/CanonicalForm" "pathSegmentsStart" "I" (.int (0 : Int32)) := ((((((((F_o0_pathSegmentsStart.other W2 (Or.inr (slot_ne (Or.inr (hw _ (List.mem_of_getElem? (i := 52) rfl))) (Or.inr (hw _ (List.mem_of_getElem? (i := 12) rfl))) (by decide) (t := .int) (t' := (.array .byte)) (by decide) (by decide)))).other W3 (Or.inr (slot_ne (Or.inr (hw _ (List.mem_of_getElem? (i := 52) rfl))) (Or.inr (hw _ (List.mem_of_getElem? (i := 14) rfl))) (by decide) (t := .int) (t' := .int) (by decide) (by decide)))).other W6 (Or.inr (slot_ne (Or.inr (hw _ (List.mem_of_getElem? (i := 52) rfl))) (Or.inr (hw _ (List.mem_of_getElem? (i := 16) rfl))) (by decide) (t := .int) (t' := .int) (by decide) (by decide)))).other W9 (Or.inr (slot_ne (Or.inr (hw _ (List.mem_of_getElem? (i := 52) rfl))) (Or.inr (hw _ (List.mem_of_getElem? (i := 18) rfl))) (by decide) (t := .int) (t' := .int) (by decide) (by decide)))).other W12 (Or.inr (slot_ne (Or.inr (hw _ (List.mem_of_getElem? (i := 52) rfl))) (Or.inr (hw _ (List.mem_of_getElem? (i := 20) rfl))) (by decide) (t := .int) (t' := .int) (by decide) (by decide)))).other W17 (Or.inr (slot_ne (Or.inr (hw _ (List.mem_of_getElem? (i := 52) rfl))) (Or.inr (hw _ (List.mem_of_getElem? (i := 25) rfl))) (by decide) (t := .int) (t' := .boolean) (by decide) (by decide)))).other W37 (Or.inr (slot_ne (Or.inr (hw _ (List.mem_of_getElem? (i := 52) rfl))) (Or.inr (hw _ (List.mem_of_getElem? (i := 27) rfl))) (by decide) (t := .int) (t' := .boolean) (by decide) (by decide)))).other W42 (Or.inr (slot_ne (Or.inr (hw _ (List.mem_of_getElem? (i := 52) rfl))) (Or.inr (hw _ (List.mem_of_getElem? (i := 37) rfl))) (by decide) (t := .int) (t' := .int) (by decide) (by decide))))
    obtain ⟨T44, h44, X44, e44, W44, st44⟩ := putF X42 hx hZ hown (host := "") (Or.inl (hw _ (List.mem_of_getElem? (i := 51) rfl))) Via.refl e42 f46 f45 (Or.inr ⟨(hw _ (List.mem_of_getElem? (i := 52) rfl)), rfl, hnm⟩) (hw _ (List.mem_of_getElem? (i := 3) rfl)) (ty := .int) (by decide) rfl rfl (g := (mkF m 131 #[.val (.ref o0), .val (.ref o1), .val (.int i2), .val (.int i3), .val (.int i4), .val (.int i5), .val (.int (0 : Int32))] [(.int i3), (.ref o0)])) rfl rfl (hb hby d1_131)
    have F44 : Fld Z h44 o0 "com/example/brief_locator/brieflocator/interchange/CanonicalForm" "pathSegmentsStart" "I" (.int i3) := f46.same W44
    have N44 := Fr.snoc X44 N42 g_o0
    obtain ⟨Lh44, X44, N44⟩ := hide X44 N44 (C := 0) (S := 0) (by decide) (by decide)
    refine Outs.of st44 ?_
    have f47 : Exa Z h44 o0 "com/example/brief_locator/brieflocator/interchange/CanonicalForm" := (f45.wr W44)
    have f48 : Fld Z h44 o0 "com/example/brief_locator/brieflocator/interchange/CanonicalForm" "bytes" "[B" (.ref o1) := ((((((((F2.other W3 (Or.inr (slot_ne (Or.inr (hw _ (List.mem_of_getElem? (i := 12) rfl))) (Or.inr (hw _ (List.mem_of_getElem? (i := 14) rfl))) (by decide) (t := (.array .byte)) (t' := .int) (by decide) (by decide)))).other W6 (Or.inr (slot_ne (Or.inr (hw _ (List.mem_of_getElem? (i := 12) rfl))) (Or.inr (hw _ (List.mem_of_getElem? (i := 16) rfl))) (by decide) (t := (.array .byte)) (t' := .int) (by decide) (by decide)))).other W9 (Or.inr (slot_ne (Or.inr (hw _ (List.mem_of_getElem? (i := 12) rfl))) (Or.inr (hw _ (List.mem_of_getElem? (i := 18) rfl))) (by decide) (t := (.array .byte)) (t' := .int) (by decide) (by decide)))).other W12 (Or.inr (slot_ne (Or.inr (hw _ (List.mem_of_getElem? (i := 12) rfl))) (Or.inr (hw _ (List.mem_of_getElem? (i := 20) rfl))) (by decide) (t := (.array .byte)) (t' := .int) (by decide) (by decide)))).other W17 (Or.inr (slot_ne (Or.inr (hw _ (List.mem_of_getElem? (i := 12) rfl))) (Or.inr (hw _ (List.mem_of_getElem? (i := 25) rfl))) (by decide) (t := (.array .byte)) (t' := .boolean) (by decide) (by decide)))).other W37 (Or.inr (slot_ne (Or.inr (hw _ (List.mem_of_getElem? (i := 12) rfl))) (Or.inr (hw _ (List.mem_of_getElem? (i := 27) rfl))) (by decide) (t := (.array .byte)) (t' := .boolean) (by decide) (by decide)))).other W42 (Or.inr (slot_ne (Or.inr (hw _ (List.mem_of_getElem? (i := 12) rfl))) (Or.inr (hw _ (List.mem_of_getElem? (i := 37) rfl))) (by decide) (t := (.array .byte)) (t' := .int) (by decide) (by decide)))).other W44 (Or.inr (slot_ne (Or.inr (hw _ (List.mem_of_getElem? (i := 12) rfl))) (Or.inr (hw _ (List.mem_of_getElem? (i := 52) rfl))) (by decide) (t := (.array .byte)) (t' := .int) (by decide) (by decide))))
    have f49 : Fld Z h44 o0 "com/example/brief_locator/brieflocator/interchange/CanonicalForm" "firstEnd" "I" (.int i2) := (((((((F3.other W6 (Or.inr (slot_ne (Or.inr (hw _ (List.mem_of_getElem? (i := 14) rfl))) (Or.inr (hw _ (List.mem_of_getElem? (i := 16) rfl))) (by decide) (t := .int) (t' := .int) (by decide) (by decide)))).other W9 (Or.inr (slot_ne (Or.inr (hw _ (List.mem_of_getElem? (i := 14) rfl))) (Or.inr (hw _ (List.mem_of_getElem? (i := 18) rfl))) (by decide) (t := .int) (t' := .int) (by decide) (by decide)))).other W12 (Or.inr (slot_ne (Or.inr (hw _ (List.mem_of_getElem? (i := 14) rfl))) (Or.inr (hw _ (List.mem_of_getElem? (i := 20) rfl))) (by decide) (t := .int) (t' := .int) (by decide) (by decide)))).other W17 (Or.inr (slot_ne (Or.inr (hw _ (List.mem_of_getElem? (i := 14) rfl))) (Or.inr (hw _ (List.mem_of_getElem? (i := 25) rfl))) (by decide) (t := .int) (t' := .boolean) (by decide) (by decide)))).other W37 (Or.inr (slot_ne (Or.inr (hw _ (List.mem_of_getElem? (i := 14) rfl))) (Or.inr (hw _ (List.mem_of_getElem? (i := 27) rfl))) (by decide) (t := .int) (t' := .boolean) (by decide) (by decide)))).other W42 (Or.inr (slot_ne (Or.inr (hw _ (List.mem_of_getElem? (i := 14) rfl))) (Or.inr (hw _ (List.mem_of_getElem? (i := 37) rfl))) (by decide) (t := .int) (t' := .int) (by decide) (by decide)))).other W44 (Or.inr (slot_ne (Or.inr (hw _ (List.mem_of_getElem? (i := 14) rfl))) (Or.inr (hw _ (List.mem_of_getElem? (i := 52) rfl))) (by decide) (t := .int) (t' := .int) (by decide) (by decide))))
    have f50 : Fld Z h44 o0 "com/example/brief_locator/brieflocator/interchange/CanonicalForm" "pathStart" "I" (.int i3) := ((((((F6.other W9 (Or.inr (slot_ne (Or.inr (hw _ (List.mem_of_getElem? (i := 16) rfl))) (Or.inr (hw _ (List.mem_of_getElem? (i := 18) rfl))) (by decide) (t := .int) (t' := .int) (by decide) (by decide)))).other W12 (Or.inr (slot_ne (Or.inr (hw _ (List.mem_of_getElem? (i := 16) rfl))) (Or.inr (hw _ (List.mem_of_getElem? (i := 20) rfl))) (by decide) (t := .int) (t' := .int) (by decide) (by decide)))).other W17 (Or.inr (slot_ne (Or.inr (hw _ (List.mem_of_getElem? (i := 16) rfl))) (Or.inr (hw _ (List.mem_of_getElem? (i := 25) rfl))) (by decide) (t := .int) (t' := .boolean) (by decide) (by decide)))).other W37 (Or.inr (slot_ne (Or.inr (hw _ (List.mem_of_getElem? (i := 16) rfl))) (Or.inr (hw _ (List.mem_of_getElem? (i := 27) rfl))) (by decide) (t := .int) (t' := .boolean) (by decide) (by decide)))).other W42 (Or.inr (slot_ne (Or.inr (hw _ (List.mem_of_getElem? (i := 16) rfl))) (Or.inr (hw _ (List.mem_of_getElem? (i := 37) rfl))) (by decide) (t := .int) (t' := .int) (by decide) (by decide)))).other W44 (Or.inr (slot_ne (Or.inr (hw _ (List.mem_of_getElem? (i := 16) rfl))) (Or.inr (hw _ (List.mem_of_getElem? (i := 52) rfl))) (by decide) (t := .int) (t' := .int) (by decide) (by decide))))
    have f51 : Fld Z h44 o0 "com/example/brief_locator/brieflocator/interchange/CanonicalForm" "hasAuthority" "Z" (.int (1 : Int32)) := ((F37.other W42 (Or.inr (slot_ne (Or.inr (hw _ (List.mem_of_getElem? (i := 27) rfl))) (Or.inr (hw _ (List.mem_of_getElem? (i := 37) rfl))) (by decide) (t := .boolean) (t' := .int) (by decide) (by decide)))).other W44 (Or.inr (slot_ne (Or.inr (hw _ (List.mem_of_getElem? (i := 27) rfl))) (Or.inr (hw _ (List.mem_of_getElem? (i := 52) rfl))) (by decide) (t := .boolean) (t' := .int) (by decide) (by decide))))
    exact Outs.retV X44 hx hret (hb hby d1_134) hlk (by decide) (by decide) e44 ⟨rfl, N44, ((((((((((Keep.refl h0 [o0]).wr W2 (Or.inl (List.mem_of_getElem? (i := 0) rfl))).wr W3 (Or.inl (List.mem_of_getElem? (i := 0) rfl))).wr W6 (Or.inl (List.mem_of_getElem? (i := 0) rfl))).wr W9 (Or.inl (List.mem_of_getElem? (i := 0) rfl))).wr W12 (Or.inl (List.mem_of_getElem? (i := 0) rfl))).wr W17 (Or.inl (List.mem_of_getElem? (i := 0) rfl))).wr W37 (Or.inl (List.mem_of_getElem? (i := 0) rfl))).wr W42 (Or.inl (List.mem_of_getElem? (i := 0) rfl))).wr W44 (Or.inl (List.mem_of_getElem? (i := 0) rfl))), f47, f48, f49, f50, (by rw [show (ctn_out4 i2 i3 i4 i5 n g) = (1 : Int32) from (if_neg hc59)]; exact f51)⟩
theorem d1_98 : decode prog_13_method_1_code 98 = .ok (.aload_n 1, 1) := by decide +kernel
theorem d1_99 : decode prog_13_method_1_code 99 = .ok (.iload_n 3, 1) := by decide +kernel
theorem pd_4 : parseMethodDescriptor "([BI)J" = some ⟨[(.array .byte), .int], some .long⟩ := by decide +kernel
theorem d1_100 : decode prog_13_method_1_code 100 = .ok (.invokestatic 41, 3) := by decide +kernel
theorem d1_103 : decode prog_13_method_1_code 103 = .ok (.l2i, 1) := by decide +kernel
theorem d1_104 : decode prog_13_method_1_code 104 = .ok (.goto 4, 3) := by decide +kernel
theorem d1_117 : decode prog_13_method_1_code 117 = .ok (.iload_n 3, 1) := by decide +kernel
theorem d1_118 : decode prog_13_method_1_code 118 = .ok (.aload_n 0, 1) := by decide +kernel
theorem d1_119 : decode prog_13_method_1_code 119 = .ok (.getfield 47, 3) := by decide +kernel
theorem d1_122 : decode prog_13_method_1_code 122 = .ok (.i2l, 1) := by decide +kernel
theorem pd_5 : parseMethodDescriptor "(J)I" = some ⟨[.long], some .int⟩ := by decide +kernel
theorem d1_123 : decode prog_13_method_1_code 123 = .ok (.invokestatic 50, 3) := by decide +kernel
theorem d1_126 : decode prog_13_method_1_code 126 = .ok (.iadd, 1) := by decide +kernel
theorem d1_127 : decode prog_13_method_1_code 127 = .ok (.goto 4, 3) := by decide +kernel
def ctp_43_s0 (i2 : Int32) (i3 : Int32) (i4 : Int32) (i5 : Int32) (n : Nat) (g : Nat → Int32) (kp : Nat) : Int32 := (if (F_f3 (g 1)) = (0 : Int32) then (0 : Int32) else (1 : Int32))
def ctp_72_s0 (i2 : Int32) (i3 : Int32) (i4 : Int32) (i5 : Int32) (n : Nat) (g : Nat → Int32) (kp : Nat) : Int32 := (if (g 1) = (-10 : Int32) then (1 : Int32) else (0 : Int32))
def ctp_out4 (i2 : Int32) (i3 : Int32) (i4 : Int32) (i5 : Int32) (n : Nat) (g : Nat → Int32) (kp : Nat) : Int32 := (if (nar .boolean (ctp_43_s0 i2 i3 i4 i5 n g kp)) = (0 : Int32) then (nar .boolean (ctp_72_s0 i2 i3 i4 i5 n g kp)) else (1 : Int32))
def Q_ctp (Z : State) (o0 : Addr) (o1 : Addr) (i2 : Int32) (i3 : Int32) (i4 : Int32) (i5 : Int32) (n : Nat) (g : Nat → Int32) (kp : Nat) (h0 : Heap) (n0 : Nat) (v : Option Value) (h : Heap) (L : List Loc) : Prop := v = none ∧ Fr n0 L ∧ Keep h0 h [o0] ∧ Exa Z h o0 "com/example/brief_locator/brieflocator/interchange/CanonicalForm" ∧ Fld Z h o0 "com/example/brief_locator/brieflocator/interchange/CanonicalForm" "bytes" "[B" (.ref o1) ∧ Fld Z h o0 "com/example/brief_locator/brieflocator/interchange/CanonicalForm" "firstEnd" "I" (.int i2) ∧ Fld Z h o0 "com/example/brief_locator/brieflocator/interchange/CanonicalForm" "pathStart" "I" (.int i3) ∧ Fld Z h o0 "com/example/brief_locator/brieflocator/interchange/CanonicalForm" "hasAuthority" "Z" (.int (ctp_out4 i2 i3 i4 i5 n g kp))
set_option maxRecDepth 65536 in
set_option maxHeartbeats 40000000 in
theorem rmctp (l : Launch) (Z : State) (a0 : Array Value) (hw : ∀ d ∈ tables_1, d.before a0 Z = true) (ws : List Jvm.Cond) (o0 : Addr) (o1 : Addr) (i2 : Int32) (i3 : Int32) (i4 : Int32) (i5 : Int32) (n : Nat) (g : Nat → Int32) (kp : Nat) (h0 : Heap) (n0 : Nat) (Z0 : n0 ≤ h0.size) (E_o0 : Exa Z h0 o0 "com/example/brief_locator/brieflocator/interchange/CanonicalForm") (g_o0 : n0 ≤ o0) (F_o0_bytes : Fld Z h0 o0 "com/example/brief_locator/brieflocator/interchange/CanonicalForm" "bytes" "[B" .null) (F_o0_firstEnd : Fld Z h0 o0 "com/example/brief_locator/brieflocator/interchange/CanonicalForm" "firstEnd" "I" (.int (0 : Int32))) (F_o0_pathStart : Fld Z h0 o0 "com/example/brief_locator/brieflocator/interchange/CanonicalForm" "pathStart" "I" (.int (0 : Int32))) (F_o0_pathEnd : Fld Z h0 o0 "com/example/brief_locator/brieflocator/interchange/CanonicalForm" "pathEnd" "I" (.int (0 : Int32))) (F_o0_queryEnd : Fld Z h0 o0 "com/example/brief_locator/brieflocator/interchange/CanonicalForm" "queryEnd" "I" (.int (0 : Int32))) (F_o0_hasScheme : Fld Z h0 o0 "com/example/brief_locator/brieflocator/interchange/CanonicalForm" "hasScheme" "Z" (.int (0 : Int32))) (F_o0_hasAuthority : Fld Z h0 o0 "com/example/brief_locator/brieflocator/interchange/CanonicalForm" "hasAuthority" "Z" (.int (0 : Int32))) (F_o0_pathSegments : Fld Z h0 o0 "com/example/brief_locator/brieflocator/interchange/CanonicalForm" "pathSegments" "I" (.int (0 : Int32))) (F_o0_pathSegmentsStart : Fld Z h0 o0 "com/example/brief_locator/brieflocator/interchange/CanonicalForm" "pathSegmentsStart" "I" (.int (0 : Int32))) (A_o1 : AI Z h0 o1 .byte n g) (ne_o1_o0 : o1 ≠ o0) (hle : i3 < i4) (hk0 : i3.toInt = (kp : Int)) (hn0 : kp < n) (hv0 : g kp = (-127 : Int32)) (h1 : (1 : Int32) < i2) (h1n : 1 < n) :
    MetFree l (⟨"com/example/brief_locator/brieflocator/interchange/CanonicalForm", "<init>", "([BIIII)V"⟩ : MethodName) (head1 (Jvm.Cond.code (⟨"com/example/brief_locator/brieflocator/interchange/CanonicalForm", "<init>", "([BIIII)V"⟩ : MethodName) prog_13_method_1_code 7 none :: ws) ({ frames := 3, cells := 0, slots := 0, locals := 46 } : Room)) (fun a U => a = #[(.ref o0), (.ref o1), (.int i2), (.int i3), (.int i4), (.int i5)] ∧ Z.Warmed39 U.vm ∧ U.heap = h0) (fun _ _ _ _ _ => True) (fun _ U o U' => ∃ v L, o = .returned v ∧ Q_ctp Z o0 o1 i2 i3 i4 i5 n g kp h0 n0 v U'.heap L ∧ FrameEnd U o U' L ({ frames := 3, cells := 0, slots := 0, locals := 46 } : Room).cells ({ frames := 3, cells := 0, slots := 0, locals := 46 } : Room).slots) := by
  refine MetFree.of_bodySF (plainFor_of_name pn_1) hisR ?_
  intro p e s m args below meth c s₁ Bd hml0 hP hK
  obtain ⟨rfl, hZ, hh⟩ := hP
  have hx := Bd.exec
  have hby := Bd.bytes
  have hml : c.maxLocals = 7 := hml0
  have hown : s.vm.findClass "com/example/brief_locator/brieflocator/interchange/CanonicalForm" = some m.cls := findClass_of_methodNamed Bd.named
  have hnm := (name_of_methodNamed Bd.named Bd.method).1
  have hret := Bd.returns
  have hlk : meth.locks = false := BodyLoose.notSynchronized Bd
  have X0 : Stand p l e ({ frames := 3, cells := 0, slots := 0, locals := 46 } : Room) s m #[(.ref o0), (.ref o1), (.int i2), (.int i3), (.int i4), (.int i5)] below meth c s₁ [] 0 0 := Stand.of_body Bd
  have e0 : s₁.heap = h0 := by rw [← hh, Bd.state]; rfl
  have N0 := Fr.nil n0
  show Outs p e below s (Q_ctp Z o0 o1 i2 i3 i4 i5 n g kp h0 n0) _ _ _
  refine Outs.of (U' := s₁.setTop (mkF m 0 #[.val (.ref o0), .val (.ref o1), .val (.int i2), .val (.int i3), .val (.int i4), .val (.int i5), .unset] [])) (fun t k => castTop (ef_1 m o0 o1 i2 i3 i4 i5) k) ?_
  refine Outs.of (U' := s₁.setTop (mkF m 1 #[.val (.ref o0), .val (.ref o1), .val (.int i2), .val (.int i3), .val (.int i4), .val (.int i5), .unset] [(.ref o0)])) (fun t k => ?_) ?_
  · refine XS.aloadN X0.here hx rfl (hb hby d1_0) rfl rfl ?_
    exact k
  obtain ⟨T1, X1, e1, st1⟩ := initO X0 hx hZ hown (hw _ (List.mem_of_getElem? (i := 8) rfl)) (hw _ (List.mem_of_getElem? (i := 9) rfl)) (hw _ (List.mem_of_getElem? (i := 10) rfl)) e0 (g := (mkF m 1 #[.val (.ref o0), .val (.ref o1), .val (.int i2), .val (.int i3), .val (.int i4), .val (.int i5), .unset] [(.ref o0)])) rfl (by rw [hml]; rfl) rfl (hb hby d1_1) (by decide) (W := 0) (by show 2 * 0 + _ ≤ _; exact Nat.le_of_eq rfl) (by decide)
  refine Outs.of st1 ?_
  refine Outs.of (U' := T1.setTop (mkF m 6 #[.val (.ref o0), .val (.ref o1), .val (.int i2), .val (.int i3), .val (.int i4), .val (.int i5), .unset] [(.ref o1), (.ref o0)])) (fun t k => ?_) ?_
  · refine XS.aloadN X1.here hx rfl (hb hby d1_4) rfl rfl ?_
    refine XS.aloadN X1.here hx rfl (hb hby d1_5) rfl rfl ?_
    exact k
  obtain ⟨T2, h2, X2, e2, W2, st2⟩ := putF X1 hx hZ hown (host := "") (Or.inl (hw _ (List.mem_of_getElem? (i := 11) rfl))) Via.refl e1 F_o0_bytes E_o0 (Or.inr ⟨(hw _ (List.mem_of_getElem? (i := 12) rfl)), rfl, hnm⟩) (hw _ (List.mem_of_getElem? (i := 3) rfl)) (ty := (.array .byte)) (by decide) rfl rfl (g := (mkF m 6 #[.val (.ref o0), .val (.ref o1), .val (.int i2), .val (.int i3), .val (.int i4), .val (.int i5), .unset] [(.ref o1), (.ref o0)])) rfl rfl (hb hby d1_6)
  have F2 : Fld Z h2 o0 "com/example/brief_locator/brieflocator/interchange/CanonicalForm" "bytes" "[B" (.ref o1) := F_o0_bytes.same W2
  have N2 := Fr.snoc X2 N0 g_o0
  obtain ⟨Lh2, X2, N2⟩ := hide X2 N2 (C := 0) (S := 0) (by decide) (by decide)
  refine Outs.of st2 ?_
  refine Outs.of (U' := T2.setTop (mkF m 11 #[.val (.ref o0), .val (.ref o1), .val (.int i2), .val (.int i3), .val (.int i4), .val (.int i5), .unset] [(.int i2), (.ref o0)])) (fun t k => ?_) ?_
  · refine XS.aloadN X2.here hx rfl (hb hby d1_9) rfl rfl ?_
    refine XS.iloadN X2.here hx rfl (hb hby d1_10) rfl ?_
    exact k
  have f4 : Exa Z h2 o0 "com/example/brief_locator/brieflocator/interchange/CanonicalForm" := (E_o0.wr W2)
  have f5 : Fld Z h2 o0 "com/example/brief_locator/brieflocator/interchange/CanonicalForm" "firstEnd" "I" (.int (0 : Int32)) := (F_o0_firstEnd.other W2 (Or.inr (slot_ne (Or.inr (hw _ (List.mem_of_getElem? (i := 14) rfl))) (Or.inr (hw _ (List.mem_of_getElem? (i := 12) rfl))) (by decide) (t := .int) (t' := (.array .byte)) (by decide) (by decide))))
  obtain ⟨T3, h3, X3, e3, W3, st3⟩ := putF X2 hx hZ hown (host := "") (Or.inl (hw _ (List.mem_of_getElem? (i := 13) rfl))) Via.refl e2 f5 f4 (Or.inr ⟨(hw _ (List.mem_of_getElem? (i := 14) rfl)), rfl, hnm⟩) (hw _ (List.mem_of_getElem? (i := 3) rfl)) (ty := .int) (by decide) rfl rfl (g := (mkF m 11 #[.val (.ref o0), .val (.ref o1), .val (.int i2), .val (.int i3), .val (.int i4), .val (.int i5), .unset] [(.int i2), (.ref o0)])) rfl rfl (hb hby d1_11)
  have F3 : Fld Z h3 o0 "com/example/brief_locator/brieflocator/interchange/CanonicalForm" "firstEnd" "I" (.int i2) := f5.same W3
  have N3 := Fr.snoc X3 N2 g_o0
  obtain ⟨Lh3, X3, N3⟩ := hide X3 N3 (C := 0) (S := 0) (by decide) (by decide)
  refine Outs.of st3 ?_
  refine Outs.of (U' := T3.setTop (mkF m 16 #[.val (.ref o0), .val (.ref o1), .val (.int i2), .val (.int i3), .val (.int i4), .val (.int i5), .unset] [(.int i3), (.ref o0)])) (fun t k => ?_) ?_
  · refine XS.aloadN X3.here hx rfl (hb hby d1_14) rfl rfl ?_
    refine XS.iloadN X3.here hx rfl (hb hby d1_15) rfl ?_
    exact k
  have f7 : Exa Z h3 o0 "com/example/brief_locator/brieflocator/interchange/CanonicalForm" := (f4.wr W3)
  have f8 : Fld Z h3 o0 "com/example/brief_locator/brieflocator/interchange/CanonicalForm" "pathStart" "I" (.int (0 : Int32)) := ((F_o0_pathStart.other W2 (Or.inr (slot_ne (Or.inr (hw _ (List.mem_of_getElem? (i := 16) rfl))) (Or.inr (hw _ (List.mem_of_getElem? (i := 12) rfl))) (by decide) (t := .int) (t' := (.array .byte)) (by decide) (by decide)))).other W3 (Or.inr (slot_ne (Or.inr (hw _ (List.mem_of_getElem? (i := 16) rfl))) (Or.inr (hw _ (List.mem_of_getElem? (i := 14) rfl))) (by decide) (t := .int) (t' := .int) (by decide) (by decide))))
  obtain ⟨T6, h6, X6, e6, W6, st6⟩ := putF X3 hx hZ hown (host := "") (Or.inl (hw _ (List.mem_of_getElem? (i := 15) rfl))) Via.refl e3 f8 f7 (Or.inr ⟨(hw _ (List.mem_of_getElem? (i := 16) rfl)), rfl, hnm⟩) (hw _ (List.mem_of_getElem? (i := 3) rfl)) (ty := .int) (by decide) rfl rfl (g := (mkF m 16 #[.val (.ref o0), .val (.ref o1), .val (.int i2), .val (.int i3), .val (.int i4), .val (.int i5), .unset] [(.int i3), (.ref o0)])) rfl rfl (hb hby d1_16)
  have F6 : Fld Z h6 o0 "com/example/brief_locator/brieflocator/interchange/CanonicalForm" "pathStart" "I" (.int i3) := f8.same W6
  have N6 := Fr.snoc X6 N3 g_o0
  obtain ⟨Lh6, X6, N6⟩ := hide X6 N6 (C := 0) (S := 0) (by decide) (by decide)
  refine Outs.of st6 ?_
  refine Outs.of (U' := T6.setTop (mkF m 22 #[.val (.ref o0), .val (.ref o1), .val (.int i2), .val (.int i3), .val (.int i4), .val (.int i5), .unset] [(.int i4), (.ref o0)])) (fun t k => ?_) ?_
  · refine XS.aloadN X6.here hx rfl (hb hby d1_19) rfl rfl ?_
    refine XS.iload X6.here hx rfl (hb hby d1_20) rfl ?_
    exact k
  have f10 : Exa Z h6 o0 "com/example/brief_locator/brieflocator/interchange/CanonicalForm" := (f7.wr W6)
  have f11 : Fld Z h6 o0 "com/example/brief_locator/brieflocator/interchange/CanonicalForm" "pathEnd" "I" (.int (0 : Int32)) := (((F_o0_pathEnd.other W2 (Or.inr (slot_ne (Or.inr (hw _ (List.mem_of_getElem? (i := 18) rfl))) (Or.inr (hw _ (List.mem_of_getElem? (i := 12) rfl))) (by decide) (t := .int) (t' := (.array .byte)) (by decide) (by decide)))).other W3 (Or.inr (slot_ne (Or.inr (hw _ (List.mem_of_getElem? (i := 18) rfl))) (Or.inr (hw _ (List.mem_of_getElem? (i := 14) rfl))) (by decide) (t := .int) (t' := .int) (by decide) (by decide)))).other W6 (Or.inr (slot_ne (Or.inr (hw _ (List.mem_of_getElem? (i := 18) rfl))) (Or.inr (hw _ (List.mem_of_getElem? (i := 16) rfl))) (by decide) (t := .int) (t' := .int) (by decide) (by decide))))
  obtain ⟨T9, h9, X9, e9, W9, st9⟩ := putF X6 hx hZ hown (host := "") (Or.inl (hw _ (List.mem_of_getElem? (i := 17) rfl))) Via.refl e6 f11 f10 (Or.inr ⟨(hw _ (List.mem_of_getElem? (i := 18) rfl)), rfl, hnm⟩) (hw _ (List.mem_of_getElem? (i := 3) rfl)) (ty := .int) (by decide) rfl rfl (g := (mkF m 22 #[.val (.ref o0), .val (.ref o1), .val (.int i2), .val (.int i3), .val (.int i4), .val (.int i5), .unset] [(.int i4), (.ref o0)])) rfl rfl (hb hby d1_22)
  have F9 : Fld Z h9 o0 "com/example/brief_locator/brieflocator/interchange/CanonicalForm" "pathEnd" "I" (.int i4) := f11.same W9
  have N9 := Fr.snoc X9 N6 g_o0
  obtain ⟨Lh9, X9, N9⟩ := hide X9 N9 (C := 0) (S := 0) (by decide) (by decide)
  refine Outs.of st9 ?_
  refine Outs.of (U' := T9.setTop (mkF m 28 #[.val (.ref o0), .val (.ref o1), .val (.int i2), .val (.int i3), .val (.int i4), .val (.int i5), .unset] [(.int i5), (.ref o0)])) (fun t k => ?_) ?_
  · refine XS.aloadN X9.here hx rfl (hb hby d1_25) rfl rfl ?_
    refine XS.iload X9.here hx rfl (hb hby d1_26) rfl ?_
    exact k
  have f13 : Exa Z h9 o0 "com/example/brief_locator/brieflocator/interchange/CanonicalForm" := (f10.wr W9)
  have f14 : Fld Z h9 o0 "com/example/brief_locator/brieflocator/interchange/CanonicalForm" "queryEnd" "I" (.int (0 : Int32)) := ((((F_o0_queryEnd.other W2 (Or.inr (slot_ne (Or.inr (hw _ (List.mem_of_getElem? (i := 20) rfl))) (Or.inr (hw _ (List.mem_of_getElem? (i := 12) rfl))) (by decide) (t := .int) (t' := (.array .byte)) (by decide) (by decide)))).other W3 (Or.inr (slot_ne (Or.inr (hw _ (List.mem_of_getElem? (i := 20) rfl))) (Or.inr (hw _ (List.mem_of_getElem? (i := 14) rfl))) (by decide) (t := .int) (t' := .int) (by decide) (by decide)))).other W6 (Or.inr (slot_ne (Or.inr (hw _ (List.mem_of_getElem? (i := 20) rfl))) (Or.inr (hw _ (List.mem_of_getElem? (i := 16) rfl))) (by decide) (t := .int) (t' := .int) (by decide) (by decide)))).other W9 (Or.inr (slot_ne (Or.inr (hw _ (List.mem_of_getElem? (i := 20) rfl))) (Or.inr (hw _ (List.mem_of_getElem? (i := 18) rfl))) (by decide) (t := .int) (t' := .int) (by decide) (by decide))))
  obtain ⟨T12, h12, X12, e12, W12, st12⟩ := putF X9 hx hZ hown (host := "") (Or.inl (hw _ (List.mem_of_getElem? (i := 19) rfl))) Via.refl e9 f14 f13 (Or.inr ⟨(hw _ (List.mem_of_getElem? (i := 20) rfl)), rfl, hnm⟩) (hw _ (List.mem_of_getElem? (i := 3) rfl)) (ty := .int) (by decide) rfl rfl (g := (mkF m 28 #[.val (.ref o0), .val (.ref o1), .val (.int i2), .val (.int i3), .val (.int i4), .val (.int i5), .unset] [(.int i5), (.ref o0)])) rfl rfl (hb hby d1_28)
  have F12 : Fld Z h12 o0 "com/example/brief_locator/brieflocator/interchange/CanonicalForm" "queryEnd" "I" (.int i5) := f14.same W12
  have N12 := Fr.snoc X12 N9 g_o0
  obtain ⟨Lh12, X12, N12⟩ := hide X12 N12 (C := 0) (S := 0) (by decide) (by decide)
  refine Outs.of st12 ?_
  refine Outs.of (U' := T12.setTop (mkF m 39 #[.val (.ref o0), .val (.ref o1), .val (.int i2), .val (.int i3), .val (.int i4), .val (.int i5), .unset] [(.int (1 : Int32)), (.ref o1), (.ref o0)])) (fun t k => ?_) ?_
  · refine XS.aloadN X12.here hx rfl (hb hby d1_31) rfl rfl ?_
    refine XS.iloadN X12.here hx rfl (hb hby d1_32) rfl ?_
    refine XS.iconst X12.here hx rfl (hb hby d1_33) ?_
    refine XS.icmpNo X12.here hx rfl (hb hby d1_34) rfl (tlt h1).2.2.2 ?_
    refine XS.aloadN X12.here hx rfl (hb hby d1_37) rfl rfl ?_
    refine XS.iconst X12.here hx rfl (hb hby d1_38) ?_
    exact k
  have f15 : AI Z h12 o1 .byte n g := (((((A_o1.other W2 ne_o1_o0).other W3 ne_o1_o0).other W6 ne_o1_o0).other W9 ne_o1_o0).other W12 ne_o1_o0)
  refine Outs.of (ldB X12 hx hZ e12 f15 (j := (1 : Int32)) (k := 1) rfl h1n (f := (mkF m 39 #[.val (.ref o0), .val (.ref o1), .val (.int i2), .val (.int i3), .val (.int i4), .val (.int i5), .unset] [(.int (1 : Int32)), (.ref o1), (.ref o0)])) rfl rfl (hb hby d1_39)) ?_
  obtain ⟨_, _, ⟨T16, L16, k16, n16⟩, -, X16, ⟨Lc16, hQ16, l16, y16, z16⟩, st16⟩ := Jvm.LawKit.callS X12 hx (y := (⟨"com/example/brief_locator/brieflocator/interchange/CanonicalForm", "isScheme", "(B)Z"⟩ : MethodName)) hown (mvT hZ (hw _ (List.mem_of_getElem? (i := 21) rfl))) (mvT hZ (hw _ (List.mem_of_getElem? (i := 22) rfl))) (mvT hZ (hw _ (List.mem_of_getElem? (i := 4) rfl))) (mvT hZ (hw _ (List.mem_of_getElem? (i := 23) rfl))) (by decide) (backOf (W := 1) (rm3 l Z a0 hw [] (g 1) h12 n0 ) hZ (hw _ (List.mem_of_getElem? (i := 23) rfl)) (hw _ (List.mem_of_getElem? (i := 4) rfl)) (by decide) (by decide)) (g := (mkF m 40 #[.val (.ref o0), .val (.ref o1), .val (.int i2), .val (.int i3), .val (.int i4), .val (.int i5), .unset] [(.int (g 1)), (.ref o0)])) rfl (by rw [hml]; rfl) (argsL := [(.int (g 1))]) (rest := [(.ref o0)]) (lenOf pd_2 rfl) rfl (by show 2 * 0 + _ ≤ _; exact Nat.le_of_eq rfl) (hb hby d1_40) (fun _ _ => ⟨rfl, e12, (by decide : 0 + 0 ≤ _), (by decide : 0 + 0 ≤ _)⟩)
  dsimp only [Pt.U, Pt.locs, Pt.cells, Pt.slots] at X16 l16 y16 z16 st16 hQ16
  subst l16 y16 z16
  obtain ⟨rfl, N16q, e16⟩ := hQ16
  have N16 := Fr.app N12 N16q
  obtain ⟨Lh16, X16, N16⟩ := hide X16 N16 (C := 0) (S := 0) (by decide) (by decide)
  refine Outs.of st16 ?_
  refine Outs.of (U' := T16.setTop (mkF m 51 #[.val (.ref o0), .val (.ref o1), .val (.int i2), .val (.int i3), .val (.int i4), .val (.int i5), .unset] [(.int (ctp_43_s0 i2 i3 i4 i5 n g kp)), (.ref o0)])) (fun t k => ?_) ?_
  · by_cases hc43 : (F_f3 (g 1)) = (0 : Int32)
    · refine XS.ifYes X16.here hx rfl (pc0 := 43) (pc' := 50) rfl (hb hby d1_43) rfl ((if0 _ _).trans (teq hc43).1) (by decide) (by decide) ?_
      refine XS.iconst X16.here hx rfl (hb hby d1_50) ?_
      rw [show (ctp_43_s0 i2 i3 i4 i5 n g kp) = (0 : Int32) from (if_pos hc43)] at k
      exact k
    · refine XS.ifNo X16.here hx rfl (hb hby d1_43) rfl ((if0 _ _).trans (feq hc43).1) ?_
      refine XS.iconst X16.here hx rfl (hb hby d1_46) ?_
      refine XS.goto X16.here hx rfl (pc0 := 47) (pc' := 51) rfl (hb hby d1_47) (by decide) (by decide) ?_
      rw [show (ctp_43_s0 i2 i3 i4 i5 n g kp) = (1 : Int32) from (if_neg hc43)] at k
      exact k
  have f18 : Exa Z h12 o0 "com/example/brief_locator/brieflocator/interchange/CanonicalForm" := (f13.wr W12)
  have f19 : Fld Z h12 o0 "com/example/brief_locator/brieflocator/interchange/CanonicalForm" "hasScheme" "Z" (.int (0 : Int32)) := (((((F_o0_hasScheme.other W2 (Or.inr (slot_ne (Or.inr (hw _ (List.mem_of_getElem? (i := 25) rfl))) (Or.inr (hw _ (List.mem_of_getElem? (i := 12) rfl))) (by decide) (t := .boolean) (t' := (.array .byte)) (by decide) (by decide)))).other W3 (Or.inr (slot_ne (Or.inr (hw _ (List.mem_of_getElem? (i := 25) rfl))) (Or.inr (hw _ (List.mem_of_getElem? (i := 14) rfl))) (by decide) (t := .boolean) (t' := .int) (by decide) (by decide)))).other W6 (Or.inr (slot_ne (Or.inr (hw _ (List.mem_of_getElem? (i := 25) rfl))) (Or.inr (hw _ (List.mem_of_getElem? (i := 16) rfl))) (by decide) (t := .boolean) (t' := .int) (by decide) (by decide)))).other W9 (Or.inr (slot_ne (Or.inr (hw _ (List.mem_of_getElem? (i := 25) rfl))) (Or.inr (hw _ (List.mem_of_getElem? (i := 18) rfl))) (by decide) (t := .boolean) (t' := .int) (by decide) (by decide)))).other W12 (Or.inr (slot_ne (Or.inr (hw _ (List.mem_of_getElem? (i := 25) rfl))) (Or.inr (hw _ (List.mem_of_getElem? (i := 20) rfl))) (by decide) (t := .boolean) (t' := .int) (by decide) (by decide))))
  obtain ⟨T17, h17, X17, e17, W17, st17⟩ := putFN X16 hx hZ hown (hw _ (List.mem_of_getElem? (i := 24) rfl)) Via.refl e16 f19 f18 (Or.inr ⟨(hw _ (List.mem_of_getElem? (i := 25) rfl)), rfl, hnm⟩) (hw _ (List.mem_of_getElem? (i := 3) rfl)) (ty := .boolean) (v' := (.int (nar .boolean (ctp_43_s0 i2 i3 i4 i5 n g kp)))) (by decide) rfl (fits_nar_bool _) (g := (mkF m 51 #[.val (.ref o0), .val (.ref o1), .val (.int i2), .val (.int i3), .val (.int i4), .val (.int i5), .unset] [(.int (ctp_43_s0 i2 i3 i4 i5 n g kp)), (.ref o0)])) rfl rfl (hb hby d1_51)
  have F17 : Fld Z h17 o0 "com/example/brief_locator/brieflocator/interchange/CanonicalForm" "hasScheme" "Z" (.int (nar .boolean (ctp_43_s0 i2 i3 i4 i5 n g kp))) := f19.same W17
  have N17 := Fr.snoc X17 N16 g_o0
  obtain ⟨Lh17, X17, N17⟩ := hide X17 N17 (C := 0) (S := 0) (by decide) (by decide)
  refine Outs.of st17 ?_
  refine Outs.of (U' := T17.setTop (mkF m 56 #[.val (.ref o0), .val (.ref o1), .val (.int i2), .val (.int i3), .val (.int i4), .val (.int i5), .unset] [(.ref o0), (.ref o0)])) (fun t k => ?_) ?_
  · refine XS.aloadN X17.here hx rfl (hb hby d1_54) rfl rfl ?_
    refine XS.aloadN X17.here hx rfl (hb hby d1_55) rfl rfl ?_
    exact k
  obtain ⟨T20, X20, e20, st20⟩ := getF X17 hx hZ hown (host := "") (Or.inl (hw _ (List.mem_of_getElem? (i := 24) rfl))) Via.refl e17 F17 (g := (mkF m 56 #[.val (.ref o0), .val (.ref o1), .val (.int i2), .val (.int i3), .val (.int i4), .val (.int i5), .unset] [(.ref o0), (.ref o0)])) rfl rfl (hb hby d1_56)
  refine Outs.of st20 ?_
  by_cases hc59 : (nar .boolean (ctp_43_s0 i2 i3 i4 i5 n g kp)) = (0 : Int32)
  · refine Outs.of (U' := T20.setTop (mkF m 62 #[.val (.ref o0), .val (.ref o1), .val (.int i2), .val (.int i3), .val (.int i4), .val (.int i5), .unset] [(.ref o0)])) (fun t k => ?_) ?_
    · refine XS.ifNo X20.here hx rfl (hb hby d1_59) rfl ((if0 _ _).trans (teq hc59).2) ?_
      exact k
    refine Outs.of (U' := T20.setTop (mkF m 69 #[.val (.ref o0), .val (.ref o1), .val (.int i2), .val (.int i3), .val (.int i4), .val (.int i5), .unset] [(.int (1 : Int32)), (.ref o1), (.ref o0)])) (fun t k => ?_) ?_
    · refine XS.iloadN X20.here hx rfl (hb hby d1_62) rfl ?_
      refine XS.iconst X20.here hx rfl (hb hby d1_63) ?_
      refine XS.icmpNo X20.here hx rfl (hb hby d1_64) rfl (tlt h1).2.2.2 ?_
      refine XS.aloadN X20.here hx rfl (hb hby d1_67) rfl rfl ?_
      refine XS.iconst X20.here hx rfl (hb hby d1_68) ?_
      exact k
    have f21 : AI Z h17 o1 .byte n g := (f15.other W17 ne_o1_o0)
    refine Outs.of (ldB X20 hx hZ e20 f21 (j := (1 : Int32)) (k := 1) rfl h1n (f := (mkF m 69 #[.val (.ref o0), .val (.ref o1), .val (.int i2), .val (.int i3), .val (.int i4), .val (.int i5), .unset] [(.int (1 : Int32)), (.ref o1), (.ref o0)])) rfl rfl (hb hby d1_69)) ?_
    refine Outs.of (U' := T20.setTop (mkF m 80 #[.val (.ref o0), .val (.ref o1), .val (.int i2), .val (.int i3), .val (.int i4), .val (.int i5), .unset] [(.int (ctp_72_s0 i2 i3 i4 i5 n g kp)), (.ref o0)])) (fun t k => ?_) ?_
    · refine XS.bipush X20.here hx rfl (hb hby d1_70) ?_
      by_cases hc72 : (g 1) = (-10 : Int32)
      · refine XS.icmpNo X20.here hx rfl (hb hby d1_72) rfl (teq hc72).2 ?_
        refine XS.iconst X20.here hx rfl (hb hby d1_75) ?_
        refine XS.goto X20.here hx rfl (pc0 := 76) (pc' := 80) rfl (hb hby d1_76) (by decide) (by decide) ?_
        rw [show (ctp_72_s0 i2 i3 i4 i5 n g kp) = (1 : Int32) from (if_pos hc72)] at k
        exact k
      · refine XS.icmpYes X20.here hx rfl (pc0 := 72) (pc' := 79) rfl (hb hby d1_72) rfl (feq hc72).2 (by decide) (by decide) ?_
        refine XS.iconst X20.here hx rfl (hb hby d1_79) ?_
        rw [show (ctp_72_s0 i2 i3 i4 i5 n g kp) = (0 : Int32) from (if_neg hc72)] at k
        exact k
    have f23 : Exa Z h17 o0 "com/example/brief_locator/brieflocator/interchange/CanonicalForm" := (f18.wr W17)
    have f24 : Fld Z h17 o0 "com/example/brief_locator/brieflocator/interchange/CanonicalForm" "hasAuthority" "Z" (.int (0 : Int32)) := ((((((F_o0_hasAuthority.other W2 (Or.inr (slot_ne (Or.inr (hw _ (List.mem_of_getElem? (i := 27) rfl))) (Or.inr (hw _ (List.mem_of_getElem? (i := 12) rfl))) (by decide) (t := .boolean) (t' := (.array .byte)) (by decide) (by decide)))).other W3 (Or.inr (slot_ne (Or.inr (hw _ (List.mem_of_getElem? (i := 27) rfl))) (Or.inr (hw _ (List.mem_of_getElem? (i := 14) rfl))) (by decide) (t := .boolean) (t' := .int) (by decide) (by decide)))).other W6 (Or.inr (slot_ne (Or.inr (hw _ (List.mem_of_getElem? (i := 27) rfl))) (Or.inr (hw _ (List.mem_of_getElem? (i := 16) rfl))) (by decide) (t := .boolean) (t' := .int) (by decide) (by decide)))).other W9 (Or.inr (slot_ne (Or.inr (hw _ (List.mem_of_getElem? (i := 27) rfl))) (Or.inr (hw _ (List.mem_of_getElem? (i := 18) rfl))) (by decide) (t := .boolean) (t' := .int) (by decide) (by decide)))).other W12 (Or.inr (slot_ne (Or.inr (hw _ (List.mem_of_getElem? (i := 27) rfl))) (Or.inr (hw _ (List.mem_of_getElem? (i := 20) rfl))) (by decide) (t := .boolean) (t' := .int) (by decide) (by decide)))).other W17 (Or.inr (slot_ne (Or.inr (hw _ (List.mem_of_getElem? (i := 27) rfl))) (Or.inr (hw _ (List.mem_of_getElem? (i := 25) rfl))) (by decide) (t := .boolean) (t' := .boolean) (by decide) (by decide))))
    obtain ⟨T22, h22, X22, e22, W22, st22⟩ := putFN X20 hx hZ hown (hw _ (List.mem_of_getElem? (i := 26) rfl)) Via.refl e20 f24 f23 (Or.inr ⟨(hw _ (List.mem_of_getElem? (i := 27) rfl)), rfl, hnm⟩) (hw _ (List.mem_of_getElem? (i := 3) rfl)) (ty := .boolean) (v' := (.int (nar .boolean (ctp_72_s0 i2 i3 i4 i5 n g kp)))) (by decide) rfl (fits_nar_bool _) (g := (mkF m 80 #[.val (.ref o0), .val (.ref o1), .val (.int i2), .val (.int i3), .val (.int i4), .val (.int i5), .unset] [(.int (ctp_72_s0 i2 i3 i4 i5 n g kp)), (.ref o0)])) rfl rfl (hb hby d1_80)
    have F22 : Fld Z h22 o0 "com/example/brief_locator/brieflocator/interchange/CanonicalForm" "hasAuthority" "Z" (.int (nar .boolean (ctp_72_s0 i2 i3 i4 i5 n g kp))) := f24.same W22
    have N22 := Fr.snoc X22 N17 g_o0
    obtain ⟨Lh22, X22, N22⟩ := hide X22 N22 (C := 0) (S := 0) (by decide) (by decide)
    refine Outs.of st22 ?_
    refine Outs.of (U' := T22.setTop (mkF m 87 #[.val (.ref o0), .val (.ref o1), .val (.int i2), .val (.int i3), .val (.int i4), .val (.int i5), .unset] [(.int i4), (.int i3), (.ref o0)])) (fun t k => ?_) ?_
    · refine XS.aloadN X22.here hx rfl (hb hby d1_83) rfl rfl ?_
      refine XS.iloadN X22.here hx rfl (hb hby d1_84) rfl ?_
      refine XS.iload X22.here hx rfl (hb hby d1_85) rfl ?_
      exact k
    have f26 : Exa Z h22 o0 "com/example/brief_locator/brieflocator/interchange/CanonicalForm" := (f23.wr W22)
    have f27 : Fld Z h22 o0 "com/example/brief_locator/brieflocator/interchange/CanonicalForm" "bytes" "[B" (.ref o1) := ((((((F2.other W3 (Or.inr (slot_ne (Or.inr (hw _ (List.mem_of_getElem? (i := 12) rfl))) (Or.inr (hw _ (List.mem_of_getElem? (i := 14) rfl))) (by decide) (t := (.array .byte)) (t' := .int) (by decide) (by decide)))).other W6 (Or.inr (slot_ne (Or.inr (hw _ (List.mem_of_getElem? (i := 12) rfl))) (Or.inr (hw _ (List.mem_of_getElem? (i := 16) rfl))) (by decide) (t := (.array .byte)) (t' := .int) (by decide) (by decide)))).other W9 (Or.inr (slot_ne (Or.inr (hw _ (List.mem_of_getElem? (i := 12) rfl))) (Or.inr (hw _ (List.mem_of_getElem? (i := 18) rfl))) (by decide) (t := (.array .byte)) (t' := .int) (by decide) (by decide)))).other W12 (Or.inr (slot_ne (Or.inr (hw _ (List.mem_of_getElem? (i := 12) rfl))) (Or.inr (hw _ (List.mem_of_getElem? (i := 20) rfl))) (by decide) (t := (.array .byte)) (t' := .int) (by decide) (by decide)))).other W17 (Or.inr (slot_ne (Or.inr (hw _ (List.mem_of_getElem? (i := 12) rfl))) (Or.inr (hw _ (List.mem_of_getElem? (i := 25) rfl))) (by decide) (t := (.array .byte)) (t' := .boolean) (by decide) (by decide)))).other W22 (Or.inr (slot_ne (Or.inr (hw _ (List.mem_of_getElem? (i := 12) rfl))) (Or.inr (hw _ (List.mem_of_getElem? (i := 27) rfl))) (by decide) (t := (.array .byte)) (t' := .boolean) (by decide) (by decide))))
    have f28 : AI Z h22 o1 .byte n g := (f21.other W22 ne_o1_o0)
    obtain ⟨cq25, q25, q25'⟩ := f26.cell
    obtain ⟨_, _, ⟨T25, L25, k25, n25⟩, -, X25, ⟨Lc25, hQ25, l25, y25, z25⟩, st25⟩ := X22.privateBack hx (y := (⟨"com/example/brief_locator/brieflocator/interchange/CanonicalForm", "isSet", "(II)Z"⟩ : MethodName)) hown (mvT hZ (hw _ (List.mem_of_getElem? (i := 28) rfl))) (mvT hZ (hw _ (List.mem_of_getElem? (i := 29) rfl))) (own_selects (mvT hZ (hw _ (List.mem_of_getElem? (i := 3) rfl))) (Cond.privateMethod_at (mvP hZ (hw _ (List.mem_of_getElem? (i := 30) rfl)) (args := #[]))) (mvT hZ (hw _ (List.mem_of_getElem? (i := 29) rfl))) (by decide)) (Cond.privateMethod_at (mvP hZ (hw _ (List.mem_of_getElem? (i := 30) rfl)) (args := #[]))) (mvT hZ (hw _ (List.mem_of_getElem? (i := 31) rfl))) (by decide) (backOf (W := 0) (rmisp l Z a0 hw [] o0 i3 i4 o1 n g kp h22 n0 f26 f27 f28 hle hk0 hn0 hv0) hZ (hw _ (List.mem_of_getElem? (i := 31) rfl)) (hw _ (List.mem_of_getElem? (i := 4) rfl)) (by decide) (by decide)) (g := (mkF m 87 #[.val (.ref o0), .val (.ref o1), .val (.int i2), .val (.int i3), .val (.int i4), .val (.int i5), .unset] [(.int i4), (.int i3), (.ref o0)])) rfl (by rw [hml]; rfl) (Steps.refl _) (a := o0) (by rw [e22]; exact q25) q25' (argsL := [(.int i3), (.int i4)]) (rest := []) (lenOf pd_3 rfl) rfl (by show 2 * 0 + _ ≤ _; exact Nat.le_of_eq rfl) (hb hby d1_87) (fun _ _ => ⟨rfl, e22, (by decide : 0 + 0 ≤ _), (by decide : 0 + 0 ≤ _)⟩)
    dsimp only [Pt.U, Pt.locs, Pt.cells, Pt.slots] at X25 l25 y25 z25 st25 hQ25
    subst l25 y25 z25
    obtain ⟨rfl, N25q, e25⟩ := hQ25
    have N25 := Fr.app N22 N25q
    obtain ⟨Lh25, X25, N25⟩ := hide X25 N25 (C := 0) (S := 0) (by decide) (by decide)
    refine Outs.to st25 ?_
    refine Outs.of (U' := T25.setTop (mkF m 100 #[.val (.ref o0), .val (.ref o1), .val (.int i2), .val (.int i3), .val (.int i4), .val (.int i5), .val (.int (1 : Int32))] [(.int i3), (.ref o1), (.ref o0)])) (fun t k => ?_) ?_
    · refine XS.istore X25.here hx rfl (hb hby d1_90) rfl (l' := #[.val (.ref o0), .val (.ref o1), .val (.int i2), .val (.int i3), .val (.int i4), .val (.int i5), .val (.int (1 : Int32))]) rfl ?_
      refine XS.aloadN X25.here hx rfl (hb hby d1_92) rfl rfl ?_
      refine XS.iload X25.here hx rfl (hb hby d1_93) rfl ?_
      refine XS.ifNo X25.here hx rfl (hb hby d1_95) rfl ((if0 _ _).trans (feq (show ¬ ((1 : Int32) = (0 : Int32)) from (by decide))).1) ?_
      refine XS.aloadN X25.here hx rfl (hb hby d1_98) rfl rfl ?_
      refine XS.iloadN X25.here hx rfl (hb hby d1_99) rfl ?_
      exact k
    obtain ⟨_, _, ⟨T29, L29, k29, n29⟩, -, X29, ⟨Lc29, hQ29, l29, y29, z29⟩, st29⟩ := Jvm.LawKit.callS X25 hx (y := (⟨"com/example/brief_locator/brieflocator/cbor/CborReader", "argumentAt", "([BI)J"⟩ : MethodName)) hown (mvT hZ (hw _ (List.mem_of_getElem? (i := 32) rfl))) (mvT hZ (hw _ (List.mem_of_getElem? (i := 33) rfl))) (mvT hZ (hw _ (List.mem_of_getElem? (i := 34) rfl))) (mvT hZ (hw _ (List.mem_of_getElem? (i := 35) rfl))) (by decide) (backOf (W := 1) (rm5 l Z a0 hw [] o1 i3 n g kp h22 n0 f28 hk0 hn0 hv0) hZ (hw _ (List.mem_of_getElem? (i := 35) rfl)) (hw _ (List.mem_of_getElem? (i := 34) rfl)) (by decide) (by decide)) (g := (mkF m 100 #[.val (.ref o0), .val (.ref o1), .val (.int i2), .val (.int i3), .val (.int i4), .val (.int i5), .val (.int (1 : Int32))] [(.int i3), (.ref o1), (.ref o0)])) rfl (by rw [hml]; rfl) (argsL := [(.ref o1), (.int i3)]) (rest := [(.ref o0)]) (lenOf pd_4 rfl) rfl (by show 2 * 0 + _ ≤ _; exact Nat.le_of_eq rfl) (hb hby d1_100) (fun _ _ => ⟨rfl, e25, (by decide : 0 + 0 ≤ _), (by decide : 0 + 0 ≤ _)⟩)
    dsimp only [Pt.U, Pt.locs, Pt.cells, Pt.slots] at X29 l29 y29 z29 st29 hQ29
    subst l29 y29 z29
    obtain ⟨rfl, N29q, e29⟩ := hQ29
    have N29 := Fr.app N25 N29q
    obtain ⟨Lh29, X29, N29⟩ := hide X29 N29 (C := 0) (S := 0) (by decide) (by decide)
    refine Outs.of st29 ?_
    refine Outs.of (U' := T29.setTop (mkF m 108 #[.val (.ref o0), .val (.ref o1), .val (.int i2), .val (.int i3), .val (.int i4), .val (.int i5), .val (.int (1 : Int32))] [(.int ((F_f5 i3 n g kp).toInt32)), (.ref o0)])) (fun t k => ?_) ?_
    · refine XS.l2i X29.here hx rfl (hb hby d1_103) rfl ?_
      refine XS.goto X29.here hx rfl (pc0 := 104) (pc' := 108) rfl (hb hby d1_104) (by decide) (by decide) ?_
      exact k
    have f31 : Fld Z h22 o0 "com/example/brief_locator/brieflocator/interchange/CanonicalForm" "pathSegments" "I" (.int (0 : Int32)) := (((((((F_o0_pathSegments.other W2 (Or.inr (slot_ne (Or.inr (hw _ (List.mem_of_getElem? (i := 37) rfl))) (Or.inr (hw _ (List.mem_of_getElem? (i := 12) rfl))) (by decide) (t := .int) (t' := (.array .byte)) (by decide) (by decide)))).other W3 (Or.inr (slot_ne (Or.inr (hw _ (List.mem_of_getElem? (i := 37) rfl))) (Or.inr (hw _ (List.mem_of_getElem? (i := 14) rfl))) (by decide) (t := .int) (t' := .int) (by decide) (by decide)))).other W6 (Or.inr (slot_ne (Or.inr (hw _ (List.mem_of_getElem? (i := 37) rfl))) (Or.inr (hw _ (List.mem_of_getElem? (i := 16) rfl))) (by decide) (t := .int) (t' := .int) (by decide) (by decide)))).other W9 (Or.inr (slot_ne (Or.inr (hw _ (List.mem_of_getElem? (i := 37) rfl))) (Or.inr (hw _ (List.mem_of_getElem? (i := 18) rfl))) (by decide) (t := .int) (t' := .int) (by decide) (by decide)))).other W12 (Or.inr (slot_ne (Or.inr (hw _ (List.mem_of_getElem? (i := 37) rfl))) (Or.inr (hw _ (List.mem_of_getElem? (i := 20) rfl))) (by decide) (t := .int) (t' := .int) (by decide) (by decide)))).other W17 (Or.inr (slot_ne (Or.inr (hw _ (List.mem_of_getElem? (i := 37) rfl))) (Or.inr (hw _ (List.mem_of_getElem? (i := 25) rfl))) (by decide) (t := .int) (t' := .boolean) (by decide) (by decide)))).other W22 (Or.inr (slot_ne (Or.inr (hw _ (List.mem_of_getElem? (i := 37) rfl))) (Or.inr (hw _ (List.mem_of_getElem? (i := 27) rfl))) (by decide) (t := .int) (t' := .boolean) (by decide) (by decide))))
    obtain ⟨T30, h30, X30, e30, W30, st30⟩ := putF X29 hx hZ hown (host := "") (Or.inl (hw _ (List.mem_of_getElem? (i := 36) rfl))) Via.refl e29 f31 f26 (Or.inr ⟨(hw _ (List.mem_of_getElem? (i := 37) rfl)), rfl, hnm⟩) (hw _ (List.mem_of_getElem? (i := 3) rfl)) (ty := .int) (by decide) rfl rfl (g := (mkF m 108 #[.val (.ref o0), .val (.ref o1), .val (.int i2), .val (.int i3), .val (.int i4), .val (.int i5), .val (.int (1 : Int32))] [(.int ((F_f5 i3 n g kp).toInt32)), (.ref o0)])) rfl rfl (hb hby d1_108)
    have F30 : Fld Z h30 o0 "com/example/brief_locator/brieflocator/interchange/CanonicalForm" "pathSegments" "I" (.int ((F_f5 i3 n g kp).toInt32)) := f31.same W30
    have N30 := Fr.snoc X30 N29 g_o0
    obtain ⟨Lh30, X30, N30⟩ := hide X30 N30 (C := 0) (S := 0) (by decide) (by decide)
    refine Outs.of st30 ?_
    refine Outs.of (U' := T30.setTop (mkF m 119 #[.val (.ref o0), .val (.ref o1), .val (.int i2), .val (.int i3), .val (.int i4), .val (.int i5), .val (.int (1 : Int32))] [(.ref o0), (.int i3), (.ref o0)])) (fun t k => ?_) ?_
    · refine XS.aloadN X30.here hx rfl (hb hby d1_111) rfl rfl ?_
      refine XS.iload X30.here hx rfl (hb hby d1_112) rfl ?_
      refine XS.ifNo X30.here hx rfl (hb hby d1_114) rfl ((if0 _ _).trans (feq (show ¬ ((1 : Int32) = (0 : Int32)) from (by decide))).1) ?_
      refine XS.iloadN X30.here hx rfl (hb hby d1_117) rfl ?_
      refine XS.aloadN X30.here hx rfl (hb hby d1_118) rfl rfl ?_
      exact k
    obtain ⟨T32, X32, e32, st32⟩ := getF X30 hx hZ hown (host := "") (Or.inl (hw _ (List.mem_of_getElem? (i := 36) rfl))) Via.refl e30 F30 (g := (mkF m 119 #[.val (.ref o0), .val (.ref o1), .val (.int i2), .val (.int i3), .val (.int i4), .val (.int i5), .val (.int (1 : Int32))] [(.ref o0), (.int i3), (.ref o0)])) rfl rfl (hb hby d1_119)
    refine Outs.of st32 ?_
    refine Outs.of (U' := T32.setTop (mkF m 123 #[.val (.ref o0), .val (.ref o1), .val (.int i2), .val (.int i3), .val (.int i4), .val (.int i5), .val (.int (1 : Int32))] [(.long (((F_f5 i3 n g kp).toInt32).toInt64)), (.int i3), (.ref o0)])) (fun t k => ?_) ?_
    · refine XS.i2l X32.here hx rfl (hb hby d1_122) rfl ?_
      exact k
    obtain ⟨_, _, ⟨T33, L33, k33, n33⟩, -, X33, ⟨Lc33, hQ33, l33, y33, z33⟩, st33⟩ := Jvm.LawKit.callS X32 hx (y := (⟨"com/example/brief_locator/brieflocator/cbor/CborWriter", "headLength", "(J)I"⟩ : MethodName)) hown (mvT hZ (hw _ (List.mem_of_getElem? (i := 38) rfl))) (mvT hZ (hw _ (List.mem_of_getElem? (i := 39) rfl))) (mvT hZ (hw _ (List.mem_of_getElem? (i := 40) rfl))) (mvT hZ (hw _ (List.mem_of_getElem? (i := 41) rfl))) (by decide) (backOf (W := 2) (rm6 l Z a0 hw [] (((F_f5 i3 n g kp).toInt32).toInt64) h30 n0 ) hZ (hw _ (List.mem_of_getElem? (i := 41) rfl)) (hw _ (List.mem_of_getElem? (i := 40) rfl)) (by decide) (by decide)) (g := (mkF m 123 #[.val (.ref o0), .val (.ref o1), .val (.int i2), .val (.int i3), .val (.int i4), .val (.int i5), .val (.int (1 : Int32))] [(.long (((F_f5 i3 n g kp).toInt32).toInt64)), (.int i3), (.ref o0)])) rfl (by rw [hml]; rfl) (argsL := [(.long (((F_f5 i3 n g kp).toInt32).toInt64))]) (rest := [(.int i3), (.ref o0)]) (lenOf pd_5 rfl) rfl (by show 2 * 0 + _ ≤ _; exact Nat.le_of_eq rfl) (hb hby d1_123) (fun _ _ => ⟨rfl, e32, (by decide : 0 + 0 ≤ _), (by decide : 0 + 0 ≤ _)⟩)
    dsimp only [Pt.U, Pt.locs, Pt.cells, Pt.slots] at X33 l33 y33 z33 st33 hQ33
    subst l33 y33 z33
    obtain ⟨rfl, N33q, e33⟩ := hQ33
    have N33 := Fr.app N30 N33q
    obtain ⟨Lh33, X33, N33⟩ := hide X33 N33 (C := 0) (S := 0) (by decide) (by decide)
    refine Outs.of st33 ?_
    refine Outs.of (U' := T33.setTop (mkF m 131 #[.val (.ref o0), .val (.ref o1), .val (.int i2), .val (.int i3), .val (.int i4), .val (.int i5), .val (.int (1 : Int32))] [(.int (i3 + (F_f6 (((F_f5 i3 n g kp).toInt32).toInt64)))), (.ref o0)])) (fun t k => ?_) ?_
    · refine XS.iadd X33.here hx rfl (hb hby d1_126) rfl ?_
      refine XS.goto X33.here hx rfl (pc0 := 127) (pc' := 131) rfl (hb hby d1_127) (by decide) (by decide) ?_
      exact k
    have f35 : Exa Z h30 o0 "com/example/brief_locator/brieflocator/interchange/CanonicalForm" := (f26.wr W30)
    have f36 : Fld Z h30 o0 "com/example/brief_locator/brieflocator/interchange/CanonicalForm" "pathSegmentsStart" "I" (.int (0 : Int32)) := ((((((((F_o0_pathSegmentsStart.other W2 (Or.inr (slot_ne (Or.inr (hw _ (List.mem_of_getElem? (i := 52) rfl))) (Or.inr (hw _ (List.mem_of_getElem? (i := 12) rfl))) (by decide) (t := .int) (t' := (.array .byte)) (by decide) (by decide)))).other W3 (Or.inr (slot_ne (Or.inr (hw _ (List.mem_of_getElem? (i := 52) rfl))) (Or.inr (hw _ (List.mem_of_getElem? (i := 14) rfl))) (by decide) (t := .int) (t' := .int) (by decide) (by decide)))).other W6 (Or.inr (slot_ne (Or.inr (hw _ (List.mem_of_getElem? (i := 52) rfl))) (Or.inr (hw _ (List.mem_of_getElem? (i := 16) rfl))) (by decide) (t := .int) (t' := .int) (by decide) (by decide)))).other W9 (Or.inr (slot_ne (Or.inr (hw _ (List.mem_of_getElem? (i := 52) rfl))) (Or.inr (hw _ (List.mem_of_getElem? (i := 18) rfl))) (by decide) (t := .int) (t' := .int) (by decide) (by decide)))).other W12 (Or.inr (slot_ne (Or.inr (hw _ (List.mem_of_getElem? (i := 52) rfl))) (Or.inr (hw _ (List.mem_of_getElem? (i := 20) rfl))) (by decide) (t := .int) (t' := .int) (by decide) (by decide)))).other W17 (Or.inr (slot_ne (Or.inr (hw _ (List.mem_of_getElem? (i := 52) rfl))) (Or.inr (hw _ (List.mem_of_getElem? (i := 25) rfl))) (by decide) (t := .int) (t' := .boolean) (by decide) (by decide)))).other W22 (Or.inr (slot_ne (Or.inr (hw _ (List.mem_of_getElem? (i := 52) rfl))) (Or.inr (hw _ (List.mem_of_getElem? (i := 27) rfl))) (by decide) (t := .int) (t' := .boolean) (by decide) (by decide)))).other W30 (Or.inr (slot_ne (Or.inr (hw _ (List.mem_of_getElem? (i := 52) rfl))) (Or.inr (hw _ (List.mem_of_getElem? (i := 37) rfl))) (by decide) (t := .int) (t' := .int) (by decide) (by decide))))
    obtain ⟨T34, h34, X34, e34, W34, st34⟩ := putF X33 hx hZ hown (host := "") (Or.inl (hw _ (List.mem_of_getElem? (i := 51) rfl))) Via.refl e33 f36 f35 (Or.inr ⟨(hw _ (List.mem_of_getElem? (i := 52) rfl)), rfl, hnm⟩) (hw _ (List.mem_of_getElem? (i := 3) rfl)) (ty := .int) (by decide) rfl rfl (g := (mkF m 131 #[.val (.ref o0), .val (.ref o1), .val (.int i2), .val (.int i3), .val (.int i4), .val (.int i5), .val (.int (1 : Int32))] [(.int (i3 + (F_f6 (((F_f5 i3 n g kp).toInt32).toInt64)))), (.ref o0)])) rfl rfl (hb hby d1_131)
    have F34 : Fld Z h34 o0 "com/example/brief_locator/brieflocator/interchange/CanonicalForm" "pathSegmentsStart" "I" (.int (i3 + (F_f6 (((F_f5 i3 n g kp).toInt32).toInt64)))) := f36.same W34
    have N34 := Fr.snoc X34 N33 g_o0
    obtain ⟨Lh34, X34, N34⟩ := hide X34 N34 (C := 0) (S := 0) (by decide) (by decide)
    refine Outs.of st34 ?_
    have f37 : Exa Z h34 o0 "com/example/brief_locator/brieflocator/interchange/CanonicalForm" := (f35.wr W34)
    have f38 : Fld Z h34 o0 "com/example/brief_locator/brieflocator/interchange/CanonicalForm" "bytes" "[B" (.ref o1) := ((f27.other W30 (Or.inr (slot_ne (Or.inr (hw _ (List.mem_of_getElem? (i := 12) rfl))) (Or.inr (hw _ (List.mem_of_getElem? (i := 37) rfl))) (by decide) (t := (.array .byte)) (t' := .int) (by decide) (by decide)))).other W34 (Or.inr (slot_ne (Or.inr (hw _ (List.mem_of_getElem? (i := 12) rfl))) (Or.inr (hw _ (List.mem_of_getElem? (i := 52) rfl))) (by decide) (t := (.array .byte)) (t' := .int) (by decide) (by decide))))
    have f39 : Fld Z h34 o0 "com/example/brief_locator/brieflocator/interchange/CanonicalForm" "firstEnd" "I" (.int i2) := (((((((F3.other W6 (Or.inr (slot_ne (Or.inr (hw _ (List.mem_of_getElem? (i := 14) rfl))) (Or.inr (hw _ (List.mem_of_getElem? (i := 16) rfl))) (by decide) (t := .int) (t' := .int) (by decide) (by decide)))).other W9 (Or.inr (slot_ne (Or.inr (hw _ (List.mem_of_getElem? (i := 14) rfl))) (Or.inr (hw _ (List.mem_of_getElem? (i := 18) rfl))) (by decide) (t := .int) (t' := .int) (by decide) (by decide)))).other W12 (Or.inr (slot_ne (Or.inr (hw _ (List.mem_of_getElem? (i := 14) rfl))) (Or.inr (hw _ (List.mem_of_getElem? (i := 20) rfl))) (by decide) (t := .int) (t' := .int) (by decide) (by decide)))).other W17 (Or.inr (slot_ne (Or.inr (hw _ (List.mem_of_getElem? (i := 14) rfl))) (Or.inr (hw _ (List.mem_of_getElem? (i := 25) rfl))) (by decide) (t := .int) (t' := .boolean) (by decide) (by decide)))).other W22 (Or.inr (slot_ne (Or.inr (hw _ (List.mem_of_getElem? (i := 14) rfl))) (Or.inr (hw _ (List.mem_of_getElem? (i := 27) rfl))) (by decide) (t := .int) (t' := .boolean) (by decide) (by decide)))).other W30 (Or.inr (slot_ne (Or.inr (hw _ (List.mem_of_getElem? (i := 14) rfl))) (Or.inr (hw _ (List.mem_of_getElem? (i := 37) rfl))) (by decide) (t := .int) (t' := .int) (by decide) (by decide)))).other W34 (Or.inr (slot_ne (Or.inr (hw _ (List.mem_of_getElem? (i := 14) rfl))) (Or.inr (hw _ (List.mem_of_getElem? (i := 52) rfl))) (by decide) (t := .int) (t' := .int) (by decide) (by decide))))
    have f40 : Fld Z h34 o0 "com/example/brief_locator/brieflocator/interchange/CanonicalForm" "pathStart" "I" (.int i3) := ((((((F6.other W9 (Or.inr (slot_ne (Or.inr (hw _ (List.mem_of_getElem? (i := 16) rfl))) (Or.inr (hw _ (List.mem_of_getElem? (i := 18) rfl))) (by decide) (t := .int) (t' := .int) (by decide) (by decide)))).other W12 (Or.inr (slot_ne (Or.inr (hw _ (List.mem_of_getElem? (i := 16) rfl))) (Or.inr (hw _ (List.mem_of_getElem? (i := 20) rfl))) (by decide) (t := .int) (t' := .int) (by decide) (by decide)))).other W17 (Or.inr (slot_ne (Or.inr (hw _ (List.mem_of_getElem? (i := 16) rfl))) (Or.inr (hw _ (List.mem_of_getElem? (i := 25) rfl))) (by decide) (t := .int) (t' := .boolean) (by decide) (by decide)))).other W22 (Or.inr (slot_ne (Or.inr (hw _ (List.mem_of_getElem? (i := 16) rfl))) (Or.inr (hw _ (List.mem_of_getElem? (i := 27) rfl))) (by decide) (t := .int) (t' := .boolean) (by decide) (by decide)))).other W30 (Or.inr (slot_ne (Or.inr (hw _ (List.mem_of_getElem? (i := 16) rfl))) (Or.inr (hw _ (List.mem_of_getElem? (i := 37) rfl))) (by decide) (t := .int) (t' := .int) (by decide) (by decide)))).other W34 (Or.inr (slot_ne (Or.inr (hw _ (List.mem_of_getElem? (i := 16) rfl))) (Or.inr (hw _ (List.mem_of_getElem? (i := 52) rfl))) (by decide) (t := .int) (t' := .int) (by decide) (by decide))))
    have f41 : Fld Z h34 o0 "com/example/brief_locator/brieflocator/interchange/CanonicalForm" "hasAuthority" "Z" (.int (nar .boolean (ctp_72_s0 i2 i3 i4 i5 n g kp))) := ((F22.other W30 (Or.inr (slot_ne (Or.inr (hw _ (List.mem_of_getElem? (i := 27) rfl))) (Or.inr (hw _ (List.mem_of_getElem? (i := 37) rfl))) (by decide) (t := .boolean) (t' := .int) (by decide) (by decide)))).other W34 (Or.inr (slot_ne (Or.inr (hw _ (List.mem_of_getElem? (i := 27) rfl))) (Or.inr (hw _ (List.mem_of_getElem? (i := 52) rfl))) (by decide) (t := .boolean) (t' := .int) (by decide) (by decide))))
    exact Outs.retV X34 hx hret (hb hby d1_134) hlk (by decide) (by decide) e34 ⟨rfl, N34, ((((((((((Keep.refl h0 [o0]).wr W2 (Or.inl (List.mem_of_getElem? (i := 0) rfl))).wr W3 (Or.inl (List.mem_of_getElem? (i := 0) rfl))).wr W6 (Or.inl (List.mem_of_getElem? (i := 0) rfl))).wr W9 (Or.inl (List.mem_of_getElem? (i := 0) rfl))).wr W12 (Or.inl (List.mem_of_getElem? (i := 0) rfl))).wr W17 (Or.inl (List.mem_of_getElem? (i := 0) rfl))).wr W22 (Or.inl (List.mem_of_getElem? (i := 0) rfl))).wr W30 (Or.inl (List.mem_of_getElem? (i := 0) rfl))).wr W34 (Or.inl (List.mem_of_getElem? (i := 0) rfl))), f37, f38, f39, f40, (by rw [show (ctp_out4 i2 i3 i4 i5 n g kp) = (nar .boolean (ctp_72_s0 i2 i3 i4 i5 n g kp)) from (if_pos hc59)]; exact f41)⟩
  · refine Outs.of (U' := T20.setTop (mkF m 75 #[.val (.ref o0), .val (.ref o1), .val (.int i2), .val (.int i3), .val (.int i4), .val (.int i5), .unset] [(.ref o0)])) (fun t k => ?_) ?_
    · refine XS.ifYes X20.here hx rfl (pc0 := 59) (pc' := 75) rfl (hb hby d1_59) rfl ((if0 _ _).trans (feq hc59).2) (by decide) (by decide) ?_
      exact k
    refine Outs.of (U' := T20.setTop (mkF m 80 #[.val (.ref o0), .val (.ref o1), .val (.int i2), .val (.int i3), .val (.int i4), .val (.int i5), .unset] [(.int (1 : Int32)), (.ref o0)])) (fun t k => ?_) ?_
    · refine XS.iconst X20.here hx rfl (hb hby d1_75) ?_
      refine XS.goto X20.here hx rfl (pc0 := 76) (pc' := 80) rfl (hb hby d1_76) (by decide) (by decide) ?_
      exact k
    have f43 : Exa Z h17 o0 "com/example/brief_locator/brieflocator/interchange/CanonicalForm" := (f18.wr W17)
    have f44 : Fld Z h17 o0 "com/example/brief_locator/brieflocator/interchange/CanonicalForm" "hasAuthority" "Z" (.int (0 : Int32)) := ((((((F_o0_hasAuthority.other W2 (Or.inr (slot_ne (Or.inr (hw _ (List.mem_of_getElem? (i := 27) rfl))) (Or.inr (hw _ (List.mem_of_getElem? (i := 12) rfl))) (by decide) (t := .boolean) (t' := (.array .byte)) (by decide) (by decide)))).other W3 (Or.inr (slot_ne (Or.inr (hw _ (List.mem_of_getElem? (i := 27) rfl))) (Or.inr (hw _ (List.mem_of_getElem? (i := 14) rfl))) (by decide) (t := .boolean) (t' := .int) (by decide) (by decide)))).other W6 (Or.inr (slot_ne (Or.inr (hw _ (List.mem_of_getElem? (i := 27) rfl))) (Or.inr (hw _ (List.mem_of_getElem? (i := 16) rfl))) (by decide) (t := .boolean) (t' := .int) (by decide) (by decide)))).other W9 (Or.inr (slot_ne (Or.inr (hw _ (List.mem_of_getElem? (i := 27) rfl))) (Or.inr (hw _ (List.mem_of_getElem? (i := 18) rfl))) (by decide) (t := .boolean) (t' := .int) (by decide) (by decide)))).other W12 (Or.inr (slot_ne (Or.inr (hw _ (List.mem_of_getElem? (i := 27) rfl))) (Or.inr (hw _ (List.mem_of_getElem? (i := 20) rfl))) (by decide) (t := .boolean) (t' := .int) (by decide) (by decide)))).other W17 (Or.inr (slot_ne (Or.inr (hw _ (List.mem_of_getElem? (i := 27) rfl))) (Or.inr (hw _ (List.mem_of_getElem? (i := 25) rfl))) (by decide) (t := .boolean) (t' := .boolean) (by decide) (by decide))))
    obtain ⟨T42, h42, X42, e42, W42, st42⟩ := putFN X20 hx hZ hown (hw _ (List.mem_of_getElem? (i := 26) rfl)) Via.refl e20 f44 f43 (Or.inr ⟨(hw _ (List.mem_of_getElem? (i := 27) rfl)), rfl, hnm⟩) (hw _ (List.mem_of_getElem? (i := 3) rfl)) (ty := .boolean) (v' := (.int (1 : Int32))) (by decide) rfl (by decide) (g := (mkF m 80 #[.val (.ref o0), .val (.ref o1), .val (.int i2), .val (.int i3), .val (.int i4), .val (.int i5), .unset] [(.int (1 : Int32)), (.ref o0)])) rfl rfl (hb hby d1_80)
    have F42 : Fld Z h42 o0 "com/example/brief_locator/brieflocator/interchange/CanonicalForm" "hasAuthority" "Z" (.int (1 : Int32)) := f44.same W42
    have N42 := Fr.snoc X42 N17 g_o0
    obtain ⟨Lh42, X42, N42⟩ := hide X42 N42 (C := 0) (S := 0) (by decide) (by decide)
    refine Outs.of st42 ?_
    refine Outs.of (U' := T42.setTop (mkF m 87 #[.val (.ref o0), .val (.ref o1), .val (.int i2), .val (.int i3), .val (.int i4), .val (.int i5), .unset] [(.int i4), (.int i3), (.ref o0)])) (fun t k => ?_) ?_
    · refine XS.aloadN X42.here hx rfl (hb hby d1_83) rfl rfl ?_
      refine XS.iloadN X42.here hx rfl (hb hby d1_84) rfl ?_
      refine XS.iload X42.here hx rfl (hb hby d1_85) rfl ?_
      exact k
    have f46 : Exa Z h42 o0 "com/example/brief_locator/brieflocator/interchange/CanonicalForm" := (f43.wr W42)
    have f47 : Fld Z h42 o0 "com/example/brief_locator/brieflocator/interchange/CanonicalForm" "bytes" "[B" (.ref o1) := ((((((F2.other W3 (Or.inr (slot_ne (Or.inr (hw _ (List.mem_of_getElem? (i := 12) rfl))) (Or.inr (hw _ (List.mem_of_getElem? (i := 14) rfl))) (by decide) (t := (.array .byte)) (t' := .int) (by decide) (by decide)))).other W6 (Or.inr (slot_ne (Or.inr (hw _ (List.mem_of_getElem? (i := 12) rfl))) (Or.inr (hw _ (List.mem_of_getElem? (i := 16) rfl))) (by decide) (t := (.array .byte)) (t' := .int) (by decide) (by decide)))).other W9 (Or.inr (slot_ne (Or.inr (hw _ (List.mem_of_getElem? (i := 12) rfl))) (Or.inr (hw _ (List.mem_of_getElem? (i := 18) rfl))) (by decide) (t := (.array .byte)) (t' := .int) (by decide) (by decide)))).other W12 (Or.inr (slot_ne (Or.inr (hw _ (List.mem_of_getElem? (i := 12) rfl))) (Or.inr (hw _ (List.mem_of_getElem? (i := 20) rfl))) (by decide) (t := (.array .byte)) (t' := .int) (by decide) (by decide)))).other W17 (Or.inr (slot_ne (Or.inr (hw _ (List.mem_of_getElem? (i := 12) rfl))) (Or.inr (hw _ (List.mem_of_getElem? (i := 25) rfl))) (by decide) (t := (.array .byte)) (t' := .boolean) (by decide) (by decide)))).other W42 (Or.inr (slot_ne (Or.inr (hw _ (List.mem_of_getElem? (i := 12) rfl))) (Or.inr (hw _ (List.mem_of_getElem? (i := 27) rfl))) (by decide) (t := (.array .byte)) (t' := .boolean) (by decide) (by decide))))
    have f48 : AI Z h42 o1 .byte n g := ((f15.other W17 ne_o1_o0).other W42 ne_o1_o0)
    obtain ⟨cq45, q45, q45'⟩ := f46.cell
    obtain ⟨_, _, ⟨T45, L45, k45, n45⟩, -, X45, ⟨Lc45, hQ45, l45, y45, z45⟩, st45⟩ := X42.privateBack hx (y := (⟨"com/example/brief_locator/brieflocator/interchange/CanonicalForm", "isSet", "(II)Z"⟩ : MethodName)) hown (mvT hZ (hw _ (List.mem_of_getElem? (i := 28) rfl))) (mvT hZ (hw _ (List.mem_of_getElem? (i := 29) rfl))) (own_selects (mvT hZ (hw _ (List.mem_of_getElem? (i := 3) rfl))) (Cond.privateMethod_at (mvP hZ (hw _ (List.mem_of_getElem? (i := 30) rfl)) (args := #[]))) (mvT hZ (hw _ (List.mem_of_getElem? (i := 29) rfl))) (by decide)) (Cond.privateMethod_at (mvP hZ (hw _ (List.mem_of_getElem? (i := 30) rfl)) (args := #[]))) (mvT hZ (hw _ (List.mem_of_getElem? (i := 31) rfl))) (by decide) (backOf (W := 0) (rmisp l Z a0 hw [] o0 i3 i4 o1 n g kp h42 n0 f46 f47 f48 hle hk0 hn0 hv0) hZ (hw _ (List.mem_of_getElem? (i := 31) rfl)) (hw _ (List.mem_of_getElem? (i := 4) rfl)) (by decide) (by decide)) (g := (mkF m 87 #[.val (.ref o0), .val (.ref o1), .val (.int i2), .val (.int i3), .val (.int i4), .val (.int i5), .unset] [(.int i4), (.int i3), (.ref o0)])) rfl (by rw [hml]; rfl) (Steps.refl _) (a := o0) (by rw [e42]; exact q45) q45' (argsL := [(.int i3), (.int i4)]) (rest := []) (lenOf pd_3 rfl) rfl (by show 2 * 0 + _ ≤ _; exact Nat.le_of_eq rfl) (hb hby d1_87) (fun _ _ => ⟨rfl, e42, (by decide : 0 + 0 ≤ _), (by decide : 0 + 0 ≤ _)⟩)
    dsimp only [Pt.U, Pt.locs, Pt.cells, Pt.slots] at X45 l45 y45 z45 st45 hQ45
    subst l45 y45 z45
    obtain ⟨rfl, N45q, e45⟩ := hQ45
    have N45 := Fr.app N42 N45q
    obtain ⟨Lh45, X45, N45⟩ := hide X45 N45 (C := 0) (S := 0) (by decide) (by decide)
    refine Outs.to st45 ?_
    refine Outs.of (U' := T45.setTop (mkF m 100 #[.val (.ref o0), .val (.ref o1), .val (.int i2), .val (.int i3), .val (.int i4), .val (.int i5), .val (.int (1 : Int32))] [(.int i3), (.ref o1), (.ref o0)])) (fun t k => ?_) ?_
    · refine XS.istore X45.here hx rfl (hb hby d1_90) rfl (l' := #[.val (.ref o0), .val (.ref o1), .val (.int i2), .val (.int i3), .val (.int i4), .val (.int i5), .val (.int (1 : Int32))]) rfl ?_
      refine XS.aloadN X45.here hx rfl (hb hby d1_92) rfl rfl ?_
      refine XS.iload X45.here hx rfl (hb hby d1_93) rfl ?_
      refine XS.ifNo X45.here hx rfl (hb hby d1_95) rfl ((if0 _ _).trans (feq (show ¬ ((1 : Int32) = (0 : Int32)) from (by decide))).1) ?_
      refine XS.aloadN X45.here hx rfl (hb hby d1_98) rfl rfl ?_
      refine XS.iloadN X45.here hx rfl (hb hby d1_99) rfl ?_
      exact k
    obtain ⟨_, _, ⟨T49, L49, k49, n49⟩, -, X49, ⟨Lc49, hQ49, l49, y49, z49⟩, st49⟩ := Jvm.LawKit.callS X45 hx (y := (⟨"com/example/brief_locator/brieflocator/cbor/CborReader", "argumentAt", "([BI)J"⟩ : MethodName)) hown (mvT hZ (hw _ (List.mem_of_getElem? (i := 32) rfl))) (mvT hZ (hw _ (List.mem_of_getElem? (i := 33) rfl))) (mvT hZ (hw _ (List.mem_of_getElem? (i := 34) rfl))) (mvT hZ (hw _ (List.mem_of_getElem? (i := 35) rfl))) (by decide) (backOf (W := 1) (rm5 l Z a0 hw [] o1 i3 n g kp h42 n0 f48 hk0 hn0 hv0) hZ (hw _ (List.mem_of_getElem? (i := 35) rfl)) (hw _ (List.mem_of_getElem? (i := 34) rfl)) (by decide) (by decide)) (g := (mkF m 100 #[.val (.ref o0), .val (.ref o1), .val (.int i2), .val (.int i3), .val (.int i4), .val (.int i5), .val (.int (1 : Int32))] [(.int i3), (.ref o1), (.ref o0)])) rfl (by rw [hml]; rfl) (argsL := [(.ref o1), (.int i3)]) (rest := [(.ref o0)]) (lenOf pd_4 rfl) rfl (by show 2 * 0 + _ ≤ _; exact Nat.le_of_eq rfl) (hb hby d1_100) (fun _ _ => ⟨rfl, e45, (by decide : 0 + 0 ≤ _), (by decide : 0 + 0 ≤ _)⟩)
    dsimp only [Pt.U, Pt.locs, Pt.cells, Pt.slots] at X49 l49 y49 z49 st49 hQ49
    subst l49 y49 z49
    obtain ⟨rfl, N49q, e49⟩ := hQ49
    have N49 := Fr.app N45 N49q
    obtain ⟨Lh49, X49, N49⟩ := hide X49 N49 (C := 0) (S := 0) (by decide) (by decide)
    refine Outs.of st49 ?_
    refine Outs.of (U' := T49.setTop (mkF m 108 #[.val (.ref o0), .val (.ref o1), .val (.int i2), .val (.int i3), .val (.int i4), .val (.int i5), .val (.int (1 : Int32))] [(.int ((F_f5 i3 n g kp).toInt32)), (.ref o0)])) (fun t k => ?_) ?_
    · refine XS.l2i X49.here hx rfl (hb hby d1_103) rfl ?_
      refine XS.goto X49.here hx rfl (pc0 := 104) (pc' := 108) rfl (hb hby d1_104) (by decide) (by decide) ?_
      exact k
    have f51 : Fld Z h42 o0 "com/example/brief_locator/brieflocator/interchange/CanonicalForm" "pathSegments" "I" (.int (0 : Int32)) := (((((((F_o0_pathSegments.other W2 (Or.inr (slot_ne (Or.inr (hw _ (List.mem_of_getElem? (i := 37) rfl))) (Or.inr (hw _ (List.mem_of_getElem? (i := 12) rfl))) (by decide) (t := .int) (t' := (.array .byte)) (by decide) (by decide)))).other W3 (Or.inr (slot_ne (Or.inr (hw _ (List.mem_of_getElem? (i := 37) rfl))) (Or.inr (hw _ (List.mem_of_getElem? (i := 14) rfl))) (by decide) (t := .int) (t' := .int) (by decide) (by decide)))).other W6 (Or.inr (slot_ne (Or.inr (hw _ (List.mem_of_getElem? (i := 37) rfl))) (Or.inr (hw _ (List.mem_of_getElem? (i := 16) rfl))) (by decide) (t := .int) (t' := .int) (by decide) (by decide)))).other W9 (Or.inr (slot_ne (Or.inr (hw _ (List.mem_of_getElem? (i := 37) rfl))) (Or.inr (hw _ (List.mem_of_getElem? (i := 18) rfl))) (by decide) (t := .int) (t' := .int) (by decide) (by decide)))).other W12 (Or.inr (slot_ne (Or.inr (hw _ (List.mem_of_getElem? (i := 37) rfl))) (Or.inr (hw _ (List.mem_of_getElem? (i := 20) rfl))) (by decide) (t := .int) (t' := .int) (by decide) (by decide)))).other W17 (Or.inr (slot_ne (Or.inr (hw _ (List.mem_of_getElem? (i := 37) rfl))) (Or.inr (hw _ (List.mem_of_getElem? (i := 25) rfl))) (by decide) (t := .int) (t' := .boolean) (by decide) (by decide)))).other W42 (Or.inr (slot_ne (Or.inr (hw _ (List.mem_of_getElem? (i := 37) rfl))) (Or.inr (hw _ (List.mem_of_getElem? (i := 27) rfl))) (by decide) (t := .int) (t' := .boolean) (by decide) (by decide))))
    obtain ⟨T50, h50, X50, e50, W50, st50⟩ := putF X49 hx hZ hown (host := "") (Or.inl (hw _ (List.mem_of_getElem? (i := 36) rfl))) Via.refl e49 f51 f46 (Or.inr ⟨(hw _ (List.mem_of_getElem? (i := 37) rfl)), rfl, hnm⟩) (hw _ (List.mem_of_getElem? (i := 3) rfl)) (ty := .int) (by decide) rfl rfl (g := (mkF m 108 #[.val (.ref o0), .val (.ref o1), .val (.int i2), .val (.int i3), .val (.int i4), .val (.int i5), .val (.int (1 : Int32))] [(.int ((F_f5 i3 n g kp).toInt32)), (.ref o0)])) rfl rfl (hb hby d1_108)
    have F50 : Fld Z h50 o0 "com/example/brief_locator/brieflocator/interchange/CanonicalForm" "pathSegments" "I" (.int ((F_f5 i3 n g kp).toInt32)) := f51.same W50
    have N50 := Fr.snoc X50 N49 g_o0
    obtain ⟨Lh50, X50, N50⟩ := hide X50 N50 (C := 0) (S := 0) (by decide) (by decide)
    refine Outs.of st50 ?_
    refine Outs.of (U' := T50.setTop (mkF m 119 #[.val (.ref o0), .val (.ref o1), .val (.int i2), .val (.int i3), .val (.int i4), .val (.int i5), .val (.int (1 : Int32))] [(.ref o0), (.int i3), (.ref o0)])) (fun t k => ?_) ?_
    · refine XS.aloadN X50.here hx rfl (hb hby d1_111) rfl rfl ?_
      refine XS.iload X50.here hx rfl (hb hby d1_112) rfl ?_
      refine XS.ifNo X50.here hx rfl (hb hby d1_114) rfl ((if0 _ _).trans (feq (show ¬ ((1 : Int32) = (0 : Int32)) from (by decide))).1) ?_
      refine XS.iloadN X50.here hx rfl (hb hby d1_117) rfl ?_
      refine XS.aloadN X50.here hx rfl (hb hby d1_118) rfl rfl ?_
      exact k
    obtain ⟨T52, X52, e52, st52⟩ := getF X50 hx hZ hown (host := "") (Or.inl (hw _ (List.mem_of_getElem? (i := 36) rfl))) Via.refl e50 F50 (g := (mkF m 119 #[.val (.ref o0), .val (.ref o1), .val (.int i2), .val (.int i3), .val (.int i4), .val (.int i5), .val (.int (1 : Int32))] [(.ref o0), (.int i3), (.ref o0)])) rfl rfl (hb hby d1_119)
    refine Outs.of st52 ?_
    refine Outs.of (U' := T52.setTop (mkF m 123 #[.val (.ref o0), .val (.ref o1), .val (.int i2), .val (.int i3), .val (.int i4), .val (.int i5), .val (.int (1 : Int32))] [(.long (((F_f5 i3 n g kp).toInt32).toInt64)), (.int i3), (.ref o0)])) (fun t k => ?_) ?_
    · refine XS.i2l X52.here hx rfl (hb hby d1_122) rfl ?_
      exact k
    obtain ⟨_, _, ⟨T53, L53, k53, n53⟩, -, X53, ⟨Lc53, hQ53, l53, y53, z53⟩, st53⟩ := Jvm.LawKit.callS X52 hx (y := (⟨"com/example/brief_locator/brieflocator/cbor/CborWriter", "headLength", "(J)I"⟩ : MethodName)) hown (mvT hZ (hw _ (List.mem_of_getElem? (i := 38) rfl))) (mvT hZ (hw _ (List.mem_of_getElem? (i := 39) rfl))) (mvT hZ (hw _ (List.mem_of_getElem? (i := 40) rfl))) (mvT hZ (hw _ (List.mem_of_getElem? (i := 41) rfl))) (by decide) (backOf (W := 2) (rm6 l Z a0 hw [] (((F_f5 i3 n g kp).toInt32).toInt64) h50 n0 ) hZ (hw _ (List.mem_of_getElem? (i := 41) rfl)) (hw _ (List.mem_of_getElem? (i := 40) rfl)) (by decide) (by decide)) (g := (mkF m 123 #[.val (.ref o0), .val (.ref o1), .val (.int i2), .val (.int i3), .val (.int i4), .val (.int i5), .val (.int (1 : Int32))] [(.long (((F_f5 i3 n g kp).toInt32).toInt64)), (.int i3), (.ref o0)])) rfl (by rw [hml]; rfl) (argsL := [(.long (((F_f5 i3 n g kp).toInt32).toInt64))]) (rest := [(.int i3), (.ref o0)]) (lenOf pd_5 rfl) rfl (by show 2 * 0 + _ ≤ _; exact Nat.le_of_eq rfl) (hb hby d1_123) (fun _ _ => ⟨rfl, e52, (by decide : 0 + 0 ≤ _), (by decide : 0 + 0 ≤ _)⟩)
    dsimp only [Pt.U, Pt.locs, Pt.cells, Pt.slots] at X53 l53 y53 z53 st53 hQ53
    subst l53 y53 z53
    obtain ⟨rfl, N53q, e53⟩ := hQ53
    have N53 := Fr.app N50 N53q
    obtain ⟨Lh53, X53, N53⟩ := hide X53 N53 (C := 0) (S := 0) (by decide) (by decide)
    refine Outs.of st53 ?_
    refine Outs.of (U' := T53.setTop (mkF m 131 #[.val (.ref o0), .val (.ref o1), .val (.int i2), .val (.int i3), .val (.int i4), .val (.int i5), .val (.int (1 : Int32))] [(.int (i3 + (F_f6 (((F_f5 i3 n g kp).toInt32).toInt64)))), (.ref o0)])) (fun t k => ?_) ?_
    · refine XS.iadd X53.here hx rfl (hb hby d1_126) rfl ?_
      refine XS.goto X53.here hx rfl (pc0 := 127) (pc' := 131) rfl (hb hby d1_127) (by decide) (by decide) ?_
      exact k
    have f55 : Exa Z h50 o0 "com/example/brief_locator/brieflocator/interchange/CanonicalForm" := (f46.wr W50)
    have f56 : Fld Z h50 o0 "com/example/brief_locator/brieflocator/interchange/CanonicalForm" "pathSegmentsStart" "I" (.int (0 : Int32)) := ((((((((F_o0_pathSegmentsStart.other W2 (Or.inr (slot_ne (Or.inr (hw _ (List.mem_of_getElem? (i := 52) rfl))) (Or.inr (hw _ (List.mem_of_getElem? (i := 12) rfl))) (by decide) (t := .int) (t' := (.array .byte)) (by decide) (by decide)))).other W3 (Or.inr (slot_ne (Or.inr (hw _ (List.mem_of_getElem? (i := 52) rfl))) (Or.inr (hw _ (List.mem_of_getElem? (i := 14) rfl))) (by decide) (t := .int) (t' := .int) (by decide) (by decide)))).other W6 (Or.inr (slot_ne (Or.inr (hw _ (List.mem_of_getElem? (i := 52) rfl))) (Or.inr (hw _ (List.mem_of_getElem? (i := 16) rfl))) (by decide) (t := .int) (t' := .int) (by decide) (by decide)))).other W9 (Or.inr (slot_ne (Or.inr (hw _ (List.mem_of_getElem? (i := 52) rfl))) (Or.inr (hw _ (List.mem_of_getElem? (i := 18) rfl))) (by decide) (t := .int) (t' := .int) (by decide) (by decide)))).other W12 (Or.inr (slot_ne (Or.inr (hw _ (List.mem_of_getElem? (i := 52) rfl))) (Or.inr (hw _ (List.mem_of_getElem? (i := 20) rfl))) (by decide) (t := .int) (t' := .int) (by decide) (by decide)))).other W17 (Or.inr (slot_ne (Or.inr (hw _ (List.mem_of_getElem? (i := 52) rfl))) (Or.inr (hw _ (List.mem_of_getElem? (i := 25) rfl))) (by decide) (t := .int) (t' := .boolean) (by decide) (by decide)))).other W42 (Or.inr (slot_ne (Or.inr (hw _ (List.mem_of_getElem? (i := 52) rfl))) (Or.inr (hw _ (List.mem_of_getElem? (i := 27) rfl))) (by decide) (t := .int) (t' := .boolean) (by decide) (by decide)))).other W50 (Or.inr (slot_ne (Or.inr (hw _ (List.mem_of_getElem? (i := 52) rfl))) (Or.inr (hw _ (List.mem_of_getElem? (i := 37) rfl))) (by decide) (t := .int) (t' := .int) (by decide) (by decide))))
    obtain ⟨T54, h54, X54, e54, W54, st54⟩ := putF X53 hx hZ hown (host := "") (Or.inl (hw _ (List.mem_of_getElem? (i := 51) rfl))) Via.refl e53 f56 f55 (Or.inr ⟨(hw _ (List.mem_of_getElem? (i := 52) rfl)), rfl, hnm⟩) (hw _ (List.mem_of_getElem? (i := 3) rfl)) (ty := .int) (by decide) rfl rfl (g := (mkF m 131 #[.val (.ref o0), .val (.ref o1), .val (.int i2), .val (.int i3), .val (.int i4), .val (.int i5), .val (.int (1 : Int32))] [(.int (i3 + (F_f6 (((F_f5 i3 n g kp).toInt32).toInt64)))), (.ref o0)])) rfl rfl (hb hby d1_131)
    have F54 : Fld Z h54 o0 "com/example/brief_locator/brieflocator/interchange/CanonicalForm" "pathSegmentsStart" "I" (.int (i3 + (F_f6 (((F_f5 i3 n g kp).toInt32).toInt64)))) := f56.same W54
    have N54 := Fr.snoc X54 N53 g_o0
    obtain ⟨Lh54, X54, N54⟩ := hide X54 N54 (C := 0) (S := 0) (by decide) (by decide)
    refine Outs.of st54 ?_
    have f57 : Exa Z h54 o0 "com/example/brief_locator/brieflocator/interchange/CanonicalForm" := (f55.wr W54)
    have f58 : Fld Z h54 o0 "com/example/brief_locator/brieflocator/interchange/CanonicalForm" "bytes" "[B" (.ref o1) := ((f47.other W50 (Or.inr (slot_ne (Or.inr (hw _ (List.mem_of_getElem? (i := 12) rfl))) (Or.inr (hw _ (List.mem_of_getElem? (i := 37) rfl))) (by decide) (t := (.array .byte)) (t' := .int) (by decide) (by decide)))).other W54 (Or.inr (slot_ne (Or.inr (hw _ (List.mem_of_getElem? (i := 12) rfl))) (Or.inr (hw _ (List.mem_of_getElem? (i := 52) rfl))) (by decide) (t := (.array .byte)) (t' := .int) (by decide) (by decide))))
    have f59 : Fld Z h54 o0 "com/example/brief_locator/brieflocator/interchange/CanonicalForm" "firstEnd" "I" (.int i2) := (((((((F3.other W6 (Or.inr (slot_ne (Or.inr (hw _ (List.mem_of_getElem? (i := 14) rfl))) (Or.inr (hw _ (List.mem_of_getElem? (i := 16) rfl))) (by decide) (t := .int) (t' := .int) (by decide) (by decide)))).other W9 (Or.inr (slot_ne (Or.inr (hw _ (List.mem_of_getElem? (i := 14) rfl))) (Or.inr (hw _ (List.mem_of_getElem? (i := 18) rfl))) (by decide) (t := .int) (t' := .int) (by decide) (by decide)))).other W12 (Or.inr (slot_ne (Or.inr (hw _ (List.mem_of_getElem? (i := 14) rfl))) (Or.inr (hw _ (List.mem_of_getElem? (i := 20) rfl))) (by decide) (t := .int) (t' := .int) (by decide) (by decide)))).other W17 (Or.inr (slot_ne (Or.inr (hw _ (List.mem_of_getElem? (i := 14) rfl))) (Or.inr (hw _ (List.mem_of_getElem? (i := 25) rfl))) (by decide) (t := .int) (t' := .boolean) (by decide) (by decide)))).other W42 (Or.inr (slot_ne (Or.inr (hw _ (List.mem_of_getElem? (i := 14) rfl))) (Or.inr (hw _ (List.mem_of_getElem? (i := 27) rfl))) (by decide) (t := .int) (t' := .boolean) (by decide) (by decide)))).other W50 (Or.inr (slot_ne (Or.inr (hw _ (List.mem_of_getElem? (i := 14) rfl))) (Or.inr (hw _ (List.mem_of_getElem? (i := 37) rfl))) (by decide) (t := .int) (t' := .int) (by decide) (by decide)))).other W54 (Or.inr (slot_ne (Or.inr (hw _ (List.mem_of_getElem? (i := 14) rfl))) (Or.inr (hw _ (List.mem_of_getElem? (i := 52) rfl))) (by decide) (t := .int) (t' := .int) (by decide) (by decide))))
    have f60 : Fld Z h54 o0 "com/example/brief_locator/brieflocator/interchange/CanonicalForm" "pathStart" "I" (.int i3) := ((((((F6.other W9 (Or.inr (slot_ne (Or.inr (hw _ (List.mem_of_getElem? (i := 16) rfl))) (Or.inr (hw _ (List.mem_of_getElem? (i := 18) rfl))) (by decide) (t := .int) (t' := .int) (by decide) (by decide)))).other W12 (Or.inr (slot_ne (Or.inr (hw _ (List.mem_of_getElem? (i := 16) rfl))) (Or.inr (hw _ (List.mem_of_getElem? (i := 20) rfl))) (by decide) (t := .int) (t' := .int) (by decide) (by decide)))).other W17 (Or.inr (slot_ne (Or.inr (hw _ (List.mem_of_getElem? (i := 16) rfl))) (Or.inr (hw _ (List.mem_of_getElem? (i := 25) rfl))) (by decide) (t := .int) (t' := .boolean) (by decide) (by decide)))).other W42 (Or.inr (slot_ne (Or.inr (hw _ (List.mem_of_getElem? (i := 16) rfl))) (Or.inr (hw _ (List.mem_of_getElem? (i := 27) rfl))) (by decide) (t := .int) (t' := .boolean) (by decide) (by decide)))).other W50 (Or.inr (slot_ne (Or.inr (hw _ (List.mem_of_getElem? (i := 16) rfl))) (Or.inr (hw _ (List.mem_of_getElem? (i := 37) rfl))) (by decide) (t := .int) (t' := .int) (by decide) (by decide)))).other W54 (Or.inr (slot_ne (Or.inr (hw _ (List.mem_of_getElem? (i := 16) rfl))) (Or.inr (hw _ (List.mem_of_getElem? (i := 52) rfl))) (by decide) (t := .int) (t' := .int) (by decide) (by decide))))
    have f61 : Fld Z h54 o0 "com/example/brief_locator/brieflocator/interchange/CanonicalForm" "hasAuthority" "Z" (.int (1 : Int32)) := ((F42.other W50 (Or.inr (slot_ne (Or.inr (hw _ (List.mem_of_getElem? (i := 27) rfl))) (Or.inr (hw _ (List.mem_of_getElem? (i := 37) rfl))) (by decide) (t := .boolean) (t' := .int) (by decide) (by decide)))).other W54 (Or.inr (slot_ne (Or.inr (hw _ (List.mem_of_getElem? (i := 27) rfl))) (Or.inr (hw _ (List.mem_of_getElem? (i := 52) rfl))) (by decide) (t := .boolean) (t' := .int) (by decide) (by decide))))
    exact Outs.retV X54 hx hret (hb hby d1_134) hlk (by decide) (by decide) e54 ⟨rfl, N54, ((((((((((Keep.refl h0 [o0]).wr W2 (Or.inl (List.mem_of_getElem? (i := 0) rfl))).wr W3 (Or.inl (List.mem_of_getElem? (i := 0) rfl))).wr W6 (Or.inl (List.mem_of_getElem? (i := 0) rfl))).wr W9 (Or.inl (List.mem_of_getElem? (i := 0) rfl))).wr W12 (Or.inl (List.mem_of_getElem? (i := 0) rfl))).wr W17 (Or.inl (List.mem_of_getElem? (i := 0) rfl))).wr W42 (Or.inl (List.mem_of_getElem? (i := 0) rfl))).wr W50 (Or.inl (List.mem_of_getElem? (i := 0) rfl))).wr W54 (Or.inl (List.mem_of_getElem? (i := 0) rfl))), f57, f58, f59, f60, (by rw [show (ctp_out4 i2 i3 i4 i5 n g kp) = (1 : Int32) from (if_neg hc59)]; exact f61)⟩
theorem own_fe {a b : Int32} {k n : Nat} (h : a < b) (ha : a.toInt = (k : Int)) (hn : b.toInt ≤ n) : k < n := by
  have := Int32.lt_iff_toInt_lt.mp h
  omega
theorem ef_9 (m : MethodId) (x0 : Addr) : entryFrame m #[(.ref x0)] 1 = mkF m 0 #[.val (.ref x0)] [] := by first | (simp [entryFrame, mkF, argsToLocals, Value.category]; done) | rfl
theorem d9_0 : decode prog_13_method_11_code 0 = .ok (.aload_n 0, 1) := by decide +kernel
theorem d9_1 : decode prog_13_method_11_code 1 = .ok (.getfield 34, 3) := by decide +kernel
theorem d9_4 : decode prog_13_method_11_code 4 = .ok (.ifCond .eq 32, 3) := by decide +kernel
theorem d9_36 : decode prog_13_method_11_code 36 = .ok (.iconst 0, 1) := by decide +kernel
theorem d9_37 : decode prog_13_method_11_code 37 = .ok (.ireturn, 1) := by decide +kernel
theorem d9_7 : decode prog_13_method_11_code 7 = .ok (.aload_n 0, 1) := by decide +kernel
theorem d9_8 : decode prog_13_method_11_code 8 = .ok (.getfield 17, 3) := by decide +kernel
theorem d9_11 : decode prog_13_method_11_code 11 = .ok (.aload_n 0, 1) := by decide +kernel
theorem d9_12 : decode prog_13_method_11_code 12 = .ok (.getfield 13, 3) := by decide +kernel
theorem d9_15 : decode prog_13_method_11_code 15 = .ok (.if_icmp .le 21, 3) := by decide +kernel
theorem d9_18 : decode prog_13_method_11_code 18 = .ok (.aload_n 0, 1) := by decide +kernel
theorem d9_19 : decode prog_13_method_11_code 19 = .ok (.getfield 7, 3) := by decide +kernel
theorem d9_22 : decode prog_13_method_11_code 22 = .ok (.aload_n 0, 1) := by decide +kernel
theorem d9_23 : decode prog_13_method_11_code 23 = .ok (.getfield 13, 3) := by decide +kernel
theorem d9_26 : decode prog_13_method_11_code 26 = .ok (.baload, 1) := by decide +kernel
theorem d9_27 : decode prog_13_method_11_code 27 = .ok (.bipush (-11), 2) := by decide +kernel
theorem d9_29 : decode prog_13_method_11_code 29 = .ok (.if_icmp .ne 7, 3) := by decide +kernel
theorem d9_32 : decode prog_13_method_11_code 32 = .ok (.iconst 1, 1) := by decide +kernel
theorem d9_33 : decode prog_13_method_11_code 33 = .ok (.goto 4, 3) := by decide +kernel
def hr_29_s0 (ha : Int32) (ps : Int32) (fe : Int32) (g : Nat → Int32) (kf : Nat) : Int32 := (if (g kf) = (-11 : Int32) then (1 : Int32) else (0 : Int32))
def F_hr (ha : Int32) (ps : Int32) (fe : Int32) (g : Nat → Int32) (kf : Nat) : Int32 := (if ha = (0 : Int32) then (0 : Int32) else (if fe < ps then (nar .boolean (hr_29_s0 ha ps fe g kf)) else (0 : Int32)))
set_option maxRecDepth 65536 in
set_option maxHeartbeats 40000000 in
theorem rmhr (l : Launch) (Z : State) (a0 : Array Value) (hw : ∀ d ∈ tables_1, d.before a0 Z = true) (ws : List Jvm.Cond) (o0 : Addr) (ha : Int32) (ps : Int32) (fe : Int32) (a1 : Addr) (n : Nat) (g : Nat → Int32) (kf : Nat) (h0 : Heap) (n0 : Nat) (E_o0 : Exa Z h0 o0 "com/example/brief_locator/brieflocator/interchange/CanonicalForm") (F_o0_hasAuthority : Fld Z h0 o0 "com/example/brief_locator/brieflocator/interchange/CanonicalForm" "hasAuthority" "Z" (.int ha)) (F_o0_pathStart : Fld Z h0 o0 "com/example/brief_locator/brieflocator/interchange/CanonicalForm" "pathStart" "I" (.int ps)) (F_o0_firstEnd : Fld Z h0 o0 "com/example/brief_locator/brieflocator/interchange/CanonicalForm" "firstEnd" "I" (.int fe)) (F_o0_bytes : Fld Z h0 o0 "com/example/brief_locator/brieflocator/interchange/CanonicalForm" "bytes" "[B" (.ref a1)) (A_a1 : AI Z h0 a1 .byte n g) (hk0 : fe.toInt = (kf : Int)) (hps : ps.toInt ≤ n) :
    MetFree l (⟨"com/example/brief_locator/brieflocator/interchange/CanonicalForm", "hasRootlessAuthority", "()Z"⟩ : MethodName) (head1 (Jvm.Cond.code (⟨"com/example/brief_locator/brieflocator/interchange/CanonicalForm", "hasRootlessAuthority", "()Z"⟩ : MethodName) prog_13_method_11_code 1 (some .boolean) :: ws) ({ frames := 0, cells := 0, slots := 0, locals := 0 } : Room)) (fun a U => a = #[(.ref o0)] ∧ Z.Warmed39 U.vm ∧ U.heap = h0) (fun _ _ _ _ _ => True) (fun _ U o U' => ∃ v L, o = .returned v ∧ QR (some (.int (F_hr ha ps fe g kf))) h0 n0 v U'.heap L ∧ FrameEnd U o U' L ({ frames := 0, cells := 0, slots := 0, locals := 0 } : Room).cells ({ frames := 0, cells := 0, slots := 0, locals := 0 } : Room).slots) := by
  refine MetFree.of_bodySF (plainFor_of_name pn_1) hisR ?_
  intro p e s m args below meth c s₁ Bd hml0 hP hK
  obtain ⟨rfl, hZ, hh⟩ := hP
  have hx := Bd.exec
  have hby := Bd.bytes
  have hml : c.maxLocals = 1 := hml0
  have hown : s.vm.findClass "com/example/brief_locator/brieflocator/interchange/CanonicalForm" = some m.cls := findClass_of_methodNamed Bd.named
  have hnm := (name_of_methodNamed Bd.named Bd.method).1
  have hret := Bd.returns
  have hlk : meth.locks = false := BodyLoose.notSynchronized Bd
  have X0 : Stand p l e ({ frames := 0, cells := 0, slots := 0, locals := 0 } : Room) s m #[(.ref o0)] below meth c s₁ [] 0 0 := Stand.of_body Bd
  have e0 : s₁.heap = h0 := by rw [← hh, Bd.state]; rfl
  have N0 := Fr.nil n0
  show Outs p e below s (QR (some (.int (F_hr ha ps fe g kf))) h0 n0) _ _ _
  refine Outs.of (U' := s₁.setTop (mkF m 0 #[.val (.ref o0)] [])) (fun t k => castTop (ef_9 m o0) k) ?_
  refine Outs.of (U' := s₁.setTop (mkF m 1 #[.val (.ref o0)] [(.ref o0)])) (fun t k => ?_) ?_
  · refine XS.aloadN X0.here hx rfl (hb hby d9_0) rfl rfl ?_
    exact k
  obtain ⟨T1, X1, e1, st1⟩ := getF X0 hx hZ hown (host := "") (Or.inl (hw _ (List.mem_of_getElem? (i := 26) rfl))) Via.refl e0 F_o0_hasAuthority (g := (mkF m 1 #[.val (.ref o0)] [(.ref o0)])) rfl rfl (hb hby d9_1)
  refine Outs.of st1 ?_
  by_cases hc4 : ha = (0 : Int32)
  · refine Outs.of (U' := T1.setTop (mkF m 36 #[.val (.ref o0)] [])) (fun t k => ?_) ?_
    · refine XS.ifYes X1.here hx rfl (pc0 := 4) (pc' := 36) rfl (hb hby d9_4) rfl ((if0 _ _).trans (teq hc4).1) (by decide) (by decide) ?_
      exact k
    refine Outs.of (U' := T1.setTop (mkF m 37 #[.val (.ref o0)] [(.int (0 : Int32))])) (fun t k => ?_) ?_
    · refine XS.iconst X1.here hx rfl (hb hby d9_36) ?_
      exact k
    exact Outs.retN (t := .boolean) (z := (0 : Int32)) X1 hx hret (by simp) (hb hby d9_37) hlk (by decide) (by decide) e1 ⟨congrArg (fun z_ => some (Value.int z_)) (show (F_hr ha ps fe g kf) = (0 : Int32) from (if_pos hc4)).symm, N0, rfl⟩
  · refine Outs.of (U' := T1.setTop (mkF m 7 #[.val (.ref o0)] [])) (fun t k => ?_) ?_
    · refine XS.ifNo X1.here hx rfl (hb hby d9_4) rfl ((if0 _ _).trans (feq hc4).1) ?_
      exact k
    refine Outs.of (U' := T1.setTop (mkF m 8 #[.val (.ref o0)] [(.ref o0)])) (fun t k => ?_) ?_
    · refine XS.aloadN X1.here hx rfl (hb hby d9_7) rfl rfl ?_
      exact k
    obtain ⟨T2, X2, e2, st2⟩ := getF X1 hx hZ hown (host := "") (Or.inl (hw _ (List.mem_of_getElem? (i := 15) rfl))) Via.refl e1 F_o0_pathStart (g := (mkF m 8 #[.val (.ref o0)] [(.ref o0)])) rfl rfl (hb hby d9_8)
    refine Outs.of st2 ?_
    refine Outs.of (U' := T2.setTop (mkF m 12 #[.val (.ref o0)] [(.ref o0), (.int ps)])) (fun t k => ?_) ?_
    · refine XS.aloadN X2.here hx rfl (hb hby d9_11) rfl rfl ?_
      exact k
    obtain ⟨T3, X3, e3, st3⟩ := getF X2 hx hZ hown (host := "") (Or.inl (hw _ (List.mem_of_getElem? (i := 13) rfl))) Via.refl e2 F_o0_firstEnd (g := (mkF m 12 #[.val (.ref o0)] [(.ref o0), (.int ps)])) rfl rfl (hb hby d9_12)
    refine Outs.of st3 ?_
    by_cases hc15 : fe < ps
    · refine Outs.of (U' := T3.setTop (mkF m 18 #[.val (.ref o0)] [])) (fun t k => ?_) ?_
      · refine XS.icmpNo X3.here hx rfl (hb hby d9_15) rfl (tlt hc15).2.2.2 ?_
        exact k
      refine Outs.of (U' := T3.setTop (mkF m 19 #[.val (.ref o0)] [(.ref o0)])) (fun t k => ?_) ?_
      · refine XS.aloadN X3.here hx rfl (hb hby d9_18) rfl rfl ?_
        exact k
      obtain ⟨T4, X4, e4, st4⟩ := getF X3 hx hZ hown (host := "") (Or.inl (hw _ (List.mem_of_getElem? (i := 11) rfl))) Via.refl e3 F_o0_bytes (g := (mkF m 19 #[.val (.ref o0)] [(.ref o0)])) rfl rfl (hb hby d9_19)
      refine Outs.of st4 ?_
      refine Outs.of (U' := T4.setTop (mkF m 23 #[.val (.ref o0)] [(.ref o0), (.ref a1)])) (fun t k => ?_) ?_
      · refine XS.aloadN X4.here hx rfl (hb hby d9_22) rfl rfl ?_
        exact k
      obtain ⟨T5, X5, e5, st5⟩ := getF X4 hx hZ hown (host := "") (Or.inl (hw _ (List.mem_of_getElem? (i := 13) rfl))) Via.refl e4 F_o0_firstEnd (g := (mkF m 23 #[.val (.ref o0)] [(.ref o0), (.ref a1)])) rfl rfl (hb hby d9_23)
      refine Outs.of st5 ?_
      refine Outs.of (ldB X5 hx hZ e5 A_a1 (j := fe) (k := kf) hk0 (own_fe hc15 hk0 hps) (f := (mkF m 26 #[.val (.ref o0)] [(.int fe), (.ref a1)])) rfl rfl (hb hby d9_26)) ?_
      refine Outs.of (U' := T5.setTop (mkF m 37 #[.val (.ref o0)] [(.int (hr_29_s0 ha ps fe g kf))])) (fun t k => ?_) ?_
      · refine XS.bipush X5.here hx rfl (hb hby d9_27) ?_
        by_cases hc29 : (g kf) = (-11 : Int32)
        · refine XS.icmpNo X5.here hx rfl (hb hby d9_29) rfl (teq hc29).2 ?_
          refine XS.iconst X5.here hx rfl (hb hby d9_32) ?_
          refine XS.goto X5.here hx rfl (pc0 := 33) (pc' := 37) rfl (hb hby d9_33) (by decide) (by decide) ?_
          rw [show (hr_29_s0 ha ps fe g kf) = (1 : Int32) from (if_pos hc29)] at k
          exact k
        · refine XS.icmpYes X5.here hx rfl (pc0 := 29) (pc' := 36) rfl (hb hby d9_29) rfl (feq hc29).2 (by decide) (by decide) ?_
          refine XS.iconst X5.here hx rfl (hb hby d9_36) ?_
          rw [show (hr_29_s0 ha ps fe g kf) = (0 : Int32) from (if_neg hc29)] at k
          exact k
      exact Outs.retN (t := .boolean) (z := (hr_29_s0 ha ps fe g kf)) X5 hx hret (by simp) (hb hby d9_37) hlk (by decide) (by decide) e5 ⟨congrArg (fun z_ => some (Value.int z_)) (show (F_hr ha ps fe g kf) = (nar .boolean (hr_29_s0 ha ps fe g kf)) from ((if_neg hc4).trans (if_pos hc15))).symm, N0, rfl⟩
    · refine Outs.of (U' := T3.setTop (mkF m 36 #[.val (.ref o0)] [])) (fun t k => ?_) ?_
      · refine XS.icmpYes X3.here hx rfl (pc0 := 15) (pc' := 36) rfl (hb hby d9_15) rfl (flt hc15).2.2.2 (by decide) (by decide) ?_
        exact k
      refine Outs.of (U' := T3.setTop (mkF m 37 #[.val (.ref o0)] [(.int (0 : Int32))])) (fun t k => ?_) ?_
      · refine XS.iconst X3.here hx rfl (hb hby d9_36) ?_
        exact k
      exact Outs.retN (t := .boolean) (z := (0 : Int32)) X3 hx hret (by simp) (hb hby d9_37) hlk (by decide) (by decide) e3 ⟨congrArg (fun z_ => some (Value.int z_)) (show (F_hr ha ps fe g kf) = (0 : Int32) from ((if_neg hc4).trans (if_neg hc15))).symm, N0, rfl⟩
abbrev vi (x : Int32) : Slot := .val (.int x)
def f0_v6 (i0 : Int32) : Int32 := ((i0 &&& (2147483647 : Int32)) % (3 : Int32))
def f0_v33 (i4 : Int32) : Int32 := (((97 : Int32) + ((i4 &&& (2147483647 : Int32)) % (26 : Int32))).toInt8.toInt32)
def f0_v38 (i2 : Int32) : Int32 := ((i2.toUInt32 >>> ((1 : Int32) &&& 31).toUInt32).toInt32)
def f0_v46 (i1 : Int32) : Int32 := ((i1 &&& (2147483647 : Int32)) % (4 : Int32))
def f0_g166  : Nat → Int32 := (upv (fun _ => (0 : Int32)) 0 (((129 : Int32).toInt8.toInt32).toInt8.toInt32))
def f0_g206 (i2 : Int32) : Nat → Int32 := (upv f0_g166 1 ((((32 : Int32) + ((f0_v38 i2) % (24 : Int32))).toInt8.toInt32).toInt8.toInt32))
def f0_g177  : Nat → Int32 := (upv f0_g166 1 ((97 : Int32).toInt8.toInt32))
def f0_g190 (i2 : Int32) : Nat → Int32 := (upv f0_g177 2 ((((97 : Int32) + ((f0_v38 i2) % (26 : Int32))).toInt8.toInt32).toInt8.toInt32))
def f0_g166a  : Nat → Int32 := (upv (fun _ => (0 : Int32)) 0 (((130 : Int32).toInt8.toInt32).toInt8.toInt32))
def f0_g206a (i2 : Int32) : Nat → Int32 := (upv f0_g166a 1 ((((32 : Int32) + ((f0_v38 i2) % (24 : Int32))).toInt8.toInt32).toInt8.toInt32))
def f0_g245 (i2 : Int32) : Nat → Int32 := (upv (f0_g206a i2) 2 ((-11 : Int32).toInt8.toInt32))
def f0_g177a  : Nat → Int32 := (upv f0_g166a 1 ((97 : Int32).toInt8.toInt32))
def f0_g190a (i2 : Int32) : Nat → Int32 := (upv f0_g177a 2 ((((97 : Int32) + ((f0_v38 i2) % (26 : Int32))).toInt8.toInt32).toInt8.toInt32))
def f0_g245a (i2 : Int32) : Nat → Int32 := (upv (f0_g190a i2) 3 ((-11 : Int32).toInt8.toInt32))
def f0_g261 (i2 : Int32) : Nat → Int32 := (upv (f0_g206a i2) 2 ((-128 : Int32).toInt8.toInt32))
def f0_g261a (i2 : Int32) : Nat → Int32 := (upv (f0_g190a i2) 3 ((-128 : Int32).toInt8.toInt32))
def f0_g277 (i2 : Int32) : Nat → Int32 := (upv (f0_g206a i2) 2 ((-127 : Int32).toInt8.toInt32))
def f0_g286 (i2 : Int32) : Nat → Int32 := (upv (f0_g277 i2) 3 ((97 : Int32).toInt8.toInt32))
def f0_g295 (i2 : Int32) (i4 : Int32) : Nat → Int32 := (upv (f0_g286 i2) 4 ((f0_v33 i4).toInt8.toInt32))
def f0_g277a (i2 : Int32) : Nat → Int32 := (upv (f0_g190a i2) 3 ((-127 : Int32).toInt8.toInt32))
def f0_g286a (i2 : Int32) : Nat → Int32 := (upv (f0_g277a i2) 4 ((97 : Int32).toInt8.toInt32))
def f0_g295a (i2 : Int32) (i4 : Int32) : Nat → Int32 := (upv (f0_g286a i2) 5 ((f0_v33 i4).toInt8.toInt32))
def f0_g368  : Nat → Int32 := (upv (fun _ => (0 : Int32)) 0 (((130 : Int32).toInt8.toInt32).toInt8.toInt32))
def f0_g374  : Nat → Int32 := (upv f0_g368 1 ((-10 : Int32).toInt8.toInt32))
def f0_g386  : Nat → Int32 := (upv f0_g374 2 ((-128 : Int32).toInt8.toInt32))
def f0_g395  : Nat → Int32 := (upv f0_g374 2 ((-127 : Int32).toInt8.toInt32))
def f0_g401  : Nat → Int32 := (upv f0_g395 3 ((97 : Int32).toInt8.toInt32))
def f0_g407 (i4 : Int32) : Nat → Int32 := (upv f0_g401 4 ((f0_v33 i4).toInt8.toInt32))
def f0_g450  : Nat → Int32 := (upv (fun _ => (0 : Int32)) 0 ((-128 : Int32).toInt8.toInt32))
def f0_g486  : Nat → Int32 := (upv (fun _ => (0 : Int32)) 0 (((129 : Int32).toInt8.toInt32).toInt8.toInt32))
def f0_494_s0 (i2 : Int32) : Int32 := (if ((f0_v38 i2) % (25 : Int32)) = (24 : Int32) then (-11 : Int32) else (((f0_v38 i2) % (25 : Int32)).toInt8.toInt32))
def f0_g505 (i2 : Int32) : Nat → Int32 := (upv f0_g486 1 ((f0_494_s0 i2).toInt8.toInt32))
def f0_g166b  : Nat → Int32 := (upv (fun _ => (0 : Int32)) 0 (((131 : Int32).toInt8.toInt32).toInt8.toInt32))
def f0_g206b (i2 : Int32) : Nat → Int32 := (upv f0_g166b 1 ((((32 : Int32) + ((f0_v38 i2) % (24 : Int32))).toInt8.toInt32).toInt8.toInt32))
def f0_g229 (i2 : Int32) : Nat → Int32 := (upv (f0_g206b i2) 2 ((-10 : Int32).toInt8.toInt32))
def f0_g526 (i2 : Int32) : Nat → Int32 := (upv (f0_g229 i2) 3 ((-127 : Int32).toInt8.toInt32))
def f0_g535 (i2 : Int32) : Nat → Int32 := (upv (f0_g526 i2) 4 ((97 : Int32).toInt8.toInt32))
def f0_g544 (i2 : Int32) (i4 : Int32) : Nat → Int32 := (upv (f0_g535 i2) 5 ((f0_v33 i4).toInt8.toInt32))
def f0_g177b  : Nat → Int32 := (upv f0_g166b 1 ((97 : Int32).toInt8.toInt32))
def f0_g190b (i2 : Int32) : Nat → Int32 := (upv f0_g177b 2 ((((97 : Int32) + ((f0_v38 i2) % (26 : Int32))).toInt8.toInt32).toInt8.toInt32))
def f0_g229a (i2 : Int32) : Nat → Int32 := (upv (f0_g190b i2) 3 ((-10 : Int32).toInt8.toInt32))
def f0_g526a (i2 : Int32) : Nat → Int32 := (upv (f0_g229a i2) 4 ((-127 : Int32).toInt8.toInt32))
def f0_g535a (i2 : Int32) : Nat → Int32 := (upv (f0_g526a i2) 5 ((97 : Int32).toInt8.toInt32))
def f0_g544a (i2 : Int32) (i4 : Int32) : Nat → Int32 := (upv (f0_g535a i2) 6 ((f0_v33 i4).toInt8.toInt32))
def f0_g245b (i2 : Int32) : Nat → Int32 := (upv (f0_g206b i2) 2 ((-11 : Int32).toInt8.toInt32))
def f0_g526b (i2 : Int32) : Nat → Int32 := (upv (f0_g245b i2) 3 ((-127 : Int32).toInt8.toInt32))
def f0_g535b (i2 : Int32) : Nat → Int32 := (upv (f0_g526b i2) 4 ((97 : Int32).toInt8.toInt32))
def f0_g544b (i2 : Int32) (i4 : Int32) : Nat → Int32 := (upv (f0_g535b i2) 5 ((f0_v33 i4).toInt8.toInt32))
def f0_g245c (i2 : Int32) : Nat → Int32 := (upv (f0_g190b i2) 3 ((-11 : Int32).toInt8.toInt32))
def f0_g526c (i2 : Int32) : Nat → Int32 := (upv (f0_g245c i2) 4 ((-127 : Int32).toInt8.toInt32))
def f0_g535c (i2 : Int32) : Nat → Int32 := (upv (f0_g526c i2) 5 ((97 : Int32).toInt8.toInt32))
def f0_g544c (i2 : Int32) (i4 : Int32) : Nat → Int32 := (upv (f0_g535c i2) 6 ((f0_v33 i4).toInt8.toInt32))
def f0_g261b (i2 : Int32) : Nat → Int32 := (upv (f0_g206b i2) 2 ((-128 : Int32).toInt8.toInt32))
def f0_g526d (i2 : Int32) : Nat → Int32 := (upv (f0_g261b i2) 3 ((-127 : Int32).toInt8.toInt32))
def f0_g535d (i2 : Int32) : Nat → Int32 := (upv (f0_g526d i2) 4 ((97 : Int32).toInt8.toInt32))
def f0_g544d (i2 : Int32) (i4 : Int32) : Nat → Int32 := (upv (f0_g535d i2) 5 ((f0_v33 i4).toInt8.toInt32))
def f0_g261c (i2 : Int32) : Nat → Int32 := (upv (f0_g190b i2) 3 ((-128 : Int32).toInt8.toInt32))
def f0_g526e (i2 : Int32) : Nat → Int32 := (upv (f0_g261c i2) 4 ((-127 : Int32).toInt8.toInt32))
def f0_g535e (i2 : Int32) : Nat → Int32 := (upv (f0_g526e i2) 5 ((97 : Int32).toInt8.toInt32))
def f0_g544e (i2 : Int32) (i4 : Int32) : Nat → Int32 := (upv (f0_g535e i2) 6 ((f0_v33 i4).toInt8.toInt32))
def f0_g277b (i2 : Int32) : Nat → Int32 := (upv (f0_g206b i2) 2 ((-127 : Int32).toInt8.toInt32))
def f0_g286b (i2 : Int32) : Nat → Int32 := (upv (f0_g277b i2) 3 ((97 : Int32).toInt8.toInt32))
def f0_g295b (i2 : Int32) (i4 : Int32) : Nat → Int32 := (upv (f0_g286b i2) 4 ((f0_v33 i4).toInt8.toInt32))
def f0_g526f (i2 : Int32) (i4 : Int32) : Nat → Int32 := (upv (f0_g295b i2 i4) 5 ((-127 : Int32).toInt8.toInt32))
def f0_g535f (i2 : Int32) (i4 : Int32) : Nat → Int32 := (upv (f0_g526f i2 i4) 6 ((97 : Int32).toInt8.toInt32))
def f0_g544f (i2 : Int32) (i4 : Int32) : Nat → Int32 := (upv (f0_g535f i2 i4) 7 ((f0_v33 i4).toInt8.toInt32))
def f0_g277c (i2 : Int32) : Nat → Int32 := (upv (f0_g190b i2) 3 ((-127 : Int32).toInt8.toInt32))
def f0_g286c (i2 : Int32) : Nat → Int32 := (upv (f0_g277c i2) 4 ((97 : Int32).toInt8.toInt32))
def f0_g295c (i2 : Int32) (i4 : Int32) : Nat → Int32 := (upv (f0_g286c i2) 5 ((f0_v33 i4).toInt8.toInt32))
def f0_g526g (i2 : Int32) (i4 : Int32) : Nat → Int32 := (upv (f0_g295c i2 i4) 6 ((-127 : Int32).toInt8.toInt32))
def f0_g535g (i2 : Int32) (i4 : Int32) : Nat → Int32 := (upv (f0_g526g i2 i4) 7 ((97 : Int32).toInt8.toInt32))
def f0_g544g (i2 : Int32) (i4 : Int32) : Nat → Int32 := (upv (f0_g535g i2 i4) 8 ((f0_v33 i4).toInt8.toInt32))
def f0_g368a  : Nat → Int32 := (upv (fun _ => (0 : Int32)) 0 (((131 : Int32).toInt8.toInt32).toInt8.toInt32))
def f0_g374a  : Nat → Int32 := (upv f0_g368a 1 ((-10 : Int32).toInt8.toInt32))
def f0_g386a  : Nat → Int32 := (upv f0_g374a 2 ((-128 : Int32).toInt8.toInt32))
def f0_g526h  : Nat → Int32 := (upv f0_g386a 3 ((-127 : Int32).toInt8.toInt32))
def f0_g535h  : Nat → Int32 := (upv f0_g526h 4 ((97 : Int32).toInt8.toInt32))
def f0_g544h (i4 : Int32) : Nat → Int32 := (upv f0_g535h 5 ((f0_v33 i4).toInt8.toInt32))
def f0_g395a  : Nat → Int32 := (upv f0_g374a 2 ((-127 : Int32).toInt8.toInt32))
def f0_g401a  : Nat → Int32 := (upv f0_g395a 3 ((97 : Int32).toInt8.toInt32))
def f0_g407a (i4 : Int32) : Nat → Int32 := (upv f0_g401a 4 ((f0_v33 i4).toInt8.toInt32))
def f0_g526i (i4 : Int32) : Nat → Int32 := (upv (f0_g407a i4) 5 ((-127 : Int32).toInt8.toInt32))
def f0_g535i (i4 : Int32) : Nat → Int32 := (upv (f0_g526i i4) 6 ((97 : Int32).toInt8.toInt32))
def f0_g544i (i4 : Int32) : Nat → Int32 := (upv (f0_g535i i4) 7 ((f0_v33 i4).toInt8.toInt32))
def f0_g486a  : Nat → Int32 := (upv (fun _ => (0 : Int32)) 0 (((130 : Int32).toInt8.toInt32).toInt8.toInt32))
def f0_g505a (i2 : Int32) : Nat → Int32 := (upv f0_g486a 1 ((f0_494_s0 i2).toInt8.toInt32))
def f0_g526j (i2 : Int32) : Nat → Int32 := (upv (f0_g505a i2) 2 ((-127 : Int32).toInt8.toInt32))
def f0_g535j (i2 : Int32) : Nat → Int32 := (upv (f0_g526j i2) 3 ((97 : Int32).toInt8.toInt32))
def f0_g544j (i2 : Int32) (i4 : Int32) : Nat → Int32 := (upv (f0_g535j i2) 4 ((f0_v33 i4).toInt8.toInt32))
theorem own_k3 (i : Int32) : f0_v6 i = (0 : Int32) ∨ f0_v6 i = (1 : Int32) ∨ f0_v6 i = (2 : Int32) := by
  unfold f0_v6
  have m := c_mask i 2147483647 31 (by decide) (by decide)
  have r := (c_irem (i &&& (2147483647 : Int32)) 3 3 (by decide)).1 (by omega)
  have e3 : (3 : Int32).toInt = 3 := by decide
  have e2 : (2 : Int32).toInt = 2 := by decide
  have e1 : (1 : Int32).toInt = 1 := by decide
  have e0 : (0 : Int32).toInt = 0 := by decide
  simp only [← Int32.toInt_inj]
  rw [e0, e1, e2]
  have := rng32 i
  omega
theorem own_a4 (i : Int32) : f0_v46 i = (0 : Int32) ∨ f0_v46 i = (1 : Int32) ∨ f0_v46 i = (2 : Int32) ∨ f0_v46 i = (3 : Int32) := by
  unfold f0_v46
  have m := c_mask i 2147483647 31 (by decide) (by decide)
  have r := (c_irem (i &&& (2147483647 : Int32)) 4 4 (by decide)).1 (by omega)
  have e4 : (4 : Int32).toInt = 4 := by decide
  have e3 : (3 : Int32).toInt = 3 := by decide
  have e2 : (2 : Int32).toInt = 2 := by decide
  have e1 : (1 : Int32).toInt = 1 := by decide
  have e0 : (0 : Int32).toInt = 0 := by decide
  simp only [← Int32.toInt_inj]
  rw [e0, e1, e2, e3]
  have := rng32 i
  omega
theorem own_hr0 {ha ps fe : Int32} {g : Nat → Int32} {kf : Nat} (h : ¬ fe < ps) : F_hr ha ps fe g kf = 0 := by
  unfold F_hr
  rw [if_neg h]
  split <;> rfl
theorem own_hrg {ha ps fe : Int32} {g : Nat → Int32} {kf : Nat} {v : Int32} (h : g kf = v) (hv : ¬ v = -11) : F_hr ha ps fe g kf = 0 := by
  unfold F_hr hr_29_s0
  rw [h, if_neg hv]
  split
  · rfl
  · split <;> rfl
theorem own_hr1 {ha ps fe : Int32} {g : Nat → Int32} {kf : Nat} (h0 : ¬ ha = 0) (h1 : fe < ps) (h : g kf = -11) : F_hr ha ps fe g kf = 1 := by
  unfold F_hr hr_29_s0
  rw [if_neg h0, if_pos h1, if_pos h]
  rfl
theorem own_ctn {i2 i3 i4 i5 : Int32} {n : Nat} {g : Nat → Int32} (h : ¬ F_f3 (g 1) = 0) : ¬ ctn_out4 i2 i3 i4 i5 n g = 0 := by
  unfold ctn_out4 ctn_43_s0
  rw [if_neg h, if_neg (by decide)]
  decide
theorem own_ctp {i2 i3 i4 i5 : Int32} {n : Nat} {g : Nat → Int32} {kp : Nat} (h : ¬ F_f3 (g 1) = 0) : ¬ ctp_out4 i2 i3 i4 i5 n g kp = 0 := by
  unfold ctp_out4 ctp_43_s0
  rw [if_neg h, if_neg (by decide)]
  decide
theorem own_id (i2 : Int32) : ¬ F_f3 ((((32 : Int32) + (((i2.toUInt32 >>> ((1 : Int32) &&& 31).toUInt32).toInt32) % (24 : Int32))).toInt8.toInt32).toInt8.toInt32) = 0 := by
  have e1 := c_iushr i2 1 1 (by decide) (by decide)
  generalize ((i2.toUInt32 >>> ((1 : Int32) &&& 31).toUInt32).toInt32) = u at e1 ⊢
  have r := rng32 i2
  have e2 := (c_irem u 24 24 (by decide)).1 (by omega)
  have h24 : (24 : Int32).toInt = 24 := by decide
  have h32 : (32 : Int32).toInt = 32 := by decide
  have e3 := c_iadd (32 : Int32) (u % (24 : Int32))
  have e4 := c_i2b ((32 : Int32) + (u % (24 : Int32)))
  have e5 := c_i2b (((32 : Int32) + (u % (24 : Int32))).toInt8.toInt32)
  generalize ((((32 : Int32) + (u % (24 : Int32))).toInt8.toInt32).toInt8.toInt32) = b at e5 ⊢
  have m := c_mask b 255 8 (by decide) (by decide)
  have e6 := c_iushr (b &&& (255 : Int32)) 5 5 (by decide) (by decide)
  have h : (((b &&& (255 : Int32)).toUInt32 >>> ((5 : Int32) &&& 31).toUInt32).toInt32) = (1 : Int32) := by
    apply Int32.toInt_inj.mp
    have h1 : (1 : Int32).toInt = 1 := by decide
    omega
  unfold F_f3 f3_10_s0 f3_v7
  rw [h]
  decide
theorem own_nam : ¬ F_f3 ((97 : Int32).toInt8.toInt32) = 0 := by decide
theorem law_x0 (i0 i1 i2 i3 i4 : Int32) (hc11 : ((i3 &&& (1 : Int32)) = (0 : Int32))) (hc68 : ((i2 &&& (1 : Int32)) = (0 : Int32))) : (F_hr (ctn_out4 (2 : Int32) (2 : Int32) (2 : Int32) (2 : Int32) 2 (f0_g206 i2)) (2 : Int32) (2 : Int32) (f0_g206 i2) 2) = (0 : Int32) :=
  own_hr0 (by decide)
theorem law_x1 (i0 i1 i2 i3 i4 : Int32) (hc11 : ((i3 &&& (1 : Int32)) = (0 : Int32))) (hc68 : ¬ ((i2 &&& (1 : Int32)) = (0 : Int32))) : (F_hr (ctn_out4 (3 : Int32) (3 : Int32) (3 : Int32) (3 : Int32) 3 (f0_g190 i2)) (3 : Int32) (3 : Int32) (f0_g190 i2) 3) = (0 : Int32) :=
  own_hr0 (by decide)
theorem law_x2 (i0 i1 i2 i3 i4 : Int32) (hc11 : ((i3 &&& (1 : Int32)) = (0 : Int32))) (hc68 : ((i2 &&& (1 : Int32)) = (0 : Int32))) : (F_hr (ctn_out4 (2 : Int32) (3 : Int32) (3 : Int32) (3 : Int32) 3 (f0_g245 i2)) (3 : Int32) (2 : Int32) (f0_g245 i2) 2) = (1 : Int32) :=
  own_hr1 (own_ctn (own_id i2)) (by decide) (by rfl)
theorem law_x3 (i0 i1 i2 i3 i4 : Int32) (hc11 : ((i3 &&& (1 : Int32)) = (0 : Int32))) (hc68 : ¬ ((i2 &&& (1 : Int32)) = (0 : Int32))) : (F_hr (ctn_out4 (3 : Int32) (4 : Int32) (4 : Int32) (4 : Int32) 4 (f0_g245a i2)) (4 : Int32) (3 : Int32) (f0_g245a i2) 3) = (1 : Int32) :=
  own_hr1 (own_ctn own_nam) (by decide) (by rfl)
theorem law_x4 (i0 i1 i2 i3 i4 : Int32) (hc11 : ((i3 &&& (1 : Int32)) = (0 : Int32))) (hc68 : ((i2 &&& (1 : Int32)) = (0 : Int32))) : (F_hr (ctn_out4 (2 : Int32) (3 : Int32) (3 : Int32) (3 : Int32) 3 (f0_g261 i2)) (3 : Int32) (2 : Int32) (f0_g261 i2) 2) = (0 : Int32) :=
  own_hrg (v := (-128 : Int32)) (by rfl) (by decide)
theorem law_x5 (i0 i1 i2 i3 i4 : Int32) (hc11 : ((i3 &&& (1 : Int32)) = (0 : Int32))) (hc68 : ¬ ((i2 &&& (1 : Int32)) = (0 : Int32))) : (F_hr (ctn_out4 (3 : Int32) (4 : Int32) (4 : Int32) (4 : Int32) 4 (f0_g261a i2)) (4 : Int32) (3 : Int32) (f0_g261a i2) 3) = (0 : Int32) :=
  own_hrg (v := (-128 : Int32)) (by rfl) (by decide)
theorem law_x6 (i0 i1 i2 i3 i4 : Int32) (hc11 : ((i3 &&& (1 : Int32)) = (0 : Int32))) (hc68 : ((i2 &&& (1 : Int32)) = (0 : Int32))) : (F_hr (ctn_out4 (2 : Int32) (5 : Int32) (5 : Int32) (5 : Int32) 5 (f0_g295 i2 i4)) (5 : Int32) (2 : Int32) (f0_g295 i2 i4) 2) = (0 : Int32) :=
  own_hrg (v := (-127 : Int32)) (by rfl) (by decide)
theorem law_x7 (i0 i1 i2 i3 i4 : Int32) (hc11 : ((i3 &&& (1 : Int32)) = (0 : Int32))) (hc68 : ¬ ((i2 &&& (1 : Int32)) = (0 : Int32))) : (F_hr (ctn_out4 (3 : Int32) (6 : Int32) (6 : Int32) (6 : Int32) 6 (f0_g295a i2 i4)) (6 : Int32) (3 : Int32) (f0_g295a i2 i4) 3) = (0 : Int32) :=
  own_hrg (v := (-127 : Int32)) (by rfl) (by decide)
theorem law_x8 (i0 i1 i2 i3 i4 : Int32) (hc11 : ((i3 &&& (1 : Int32)) = (0 : Int32))) (hc329 : (((f0_v46 i1) &&& (1 : Int32)) = (0 : Int32))) : (F_hr (ctn_out4 (2 : Int32) (3 : Int32) (3 : Int32) (3 : Int32) 3 f0_g386) (3 : Int32) (2 : Int32) f0_g386 2) = (0 : Int32) :=
  own_hrg (v := (-128 : Int32)) (by rfl) (by decide)
theorem law_x9 (i0 i1 i2 i3 i4 : Int32) (hc11 : ((i3 &&& (1 : Int32)) = (0 : Int32))) (hc329 : ¬ (((f0_v46 i1) &&& (1 : Int32)) = (0 : Int32))) : (F_hr (ctn_out4 (2 : Int32) (5 : Int32) (5 : Int32) (5 : Int32) 5 (f0_g407 i4)) (5 : Int32) (2 : Int32) (f0_g407 i4) 2) = (0 : Int32) :=
  own_hrg (v := (-127 : Int32)) (by rfl) (by decide)
theorem law_x10 (i0 i1 i2 i3 i4 : Int32) (hc11 : ((i3 &&& (1 : Int32)) = (0 : Int32))) (hc432 : (((f0_v38 i2) % (25 : Int32)) = (0 : Int32))) : (F_hr (0 : Int32) (1 : Int32) (1 : Int32) f0_g450 1) = (0 : Int32) :=
  own_hr0 (by decide)
theorem law_x11 (i0 i1 i2 i3 i4 : Int32) (hc11 : ((i3 &&& (1 : Int32)) = (0 : Int32))) (hc432 : ¬ (((f0_v38 i2) % (25 : Int32)) = (0 : Int32))) : (F_hr (ctn_out4 (2 : Int32) (2 : Int32) (2 : Int32) (2 : Int32) 2 (f0_g505 i2)) (2 : Int32) (2 : Int32) (f0_g505 i2) 2) = (0 : Int32) :=
  own_hr0 (by decide)
theorem law_x12 (i0 i1 i2 i3 i4 : Int32) (hc11 : ¬ ((i3 &&& (1 : Int32)) = (0 : Int32))) (hc68 : ((i2 &&& (1 : Int32)) = (0 : Int32))) : (F_hr (ctp_out4 (2 : Int32) (3 : Int32) (6 : Int32) (6 : Int32) 6 (f0_g544 i2 i4) 3) (3 : Int32) (2 : Int32) (f0_g544 i2 i4) 2) = (0 : Int32) :=
  own_hrg (v := (-10 : Int32)) (by rfl) (by decide)
theorem law_x13 (i0 i1 i2 i3 i4 : Int32) (hc11 : ¬ ((i3 &&& (1 : Int32)) = (0 : Int32))) (hc68 : ¬ ((i2 &&& (1 : Int32)) = (0 : Int32))) : (F_hr (ctp_out4 (3 : Int32) (4 : Int32) (7 : Int32) (7 : Int32) 7 (f0_g544a i2 i4) 4) (4 : Int32) (3 : Int32) (f0_g544a i2 i4) 3) = (0 : Int32) :=
  own_hrg (v := (-10 : Int32)) (by rfl) (by decide)
theorem law_x14 (i0 i1 i2 i3 i4 : Int32) (hc11 : ¬ ((i3 &&& (1 : Int32)) = (0 : Int32))) (hc68 : ((i2 &&& (1 : Int32)) = (0 : Int32))) : (F_hr (ctp_out4 (2 : Int32) (3 : Int32) (6 : Int32) (6 : Int32) 6 (f0_g544b i2 i4) 3) (3 : Int32) (2 : Int32) (f0_g544b i2 i4) 2) = (1 : Int32) :=
  own_hr1 (own_ctp (own_id i2)) (by decide) (by rfl)
theorem law_x15 (i0 i1 i2 i3 i4 : Int32) (hc11 : ¬ ((i3 &&& (1 : Int32)) = (0 : Int32))) (hc68 : ¬ ((i2 &&& (1 : Int32)) = (0 : Int32))) : (F_hr (ctp_out4 (3 : Int32) (4 : Int32) (7 : Int32) (7 : Int32) 7 (f0_g544c i2 i4) 4) (4 : Int32) (3 : Int32) (f0_g544c i2 i4) 3) = (1 : Int32) :=
  own_hr1 (own_ctp own_nam) (by decide) (by rfl)
theorem law_x16 (i0 i1 i2 i3 i4 : Int32) (hc11 : ¬ ((i3 &&& (1 : Int32)) = (0 : Int32))) (hc68 : ((i2 &&& (1 : Int32)) = (0 : Int32))) : (F_hr (ctp_out4 (2 : Int32) (3 : Int32) (6 : Int32) (6 : Int32) 6 (f0_g544d i2 i4) 3) (3 : Int32) (2 : Int32) (f0_g544d i2 i4) 2) = (0 : Int32) :=
  own_hrg (v := (-128 : Int32)) (by rfl) (by decide)
theorem law_x17 (i0 i1 i2 i3 i4 : Int32) (hc11 : ¬ ((i3 &&& (1 : Int32)) = (0 : Int32))) (hc68 : ¬ ((i2 &&& (1 : Int32)) = (0 : Int32))) : (F_hr (ctp_out4 (3 : Int32) (4 : Int32) (7 : Int32) (7 : Int32) 7 (f0_g544e i2 i4) 4) (4 : Int32) (3 : Int32) (f0_g544e i2 i4) 3) = (0 : Int32) :=
  own_hrg (v := (-128 : Int32)) (by rfl) (by decide)
theorem law_x18 (i0 i1 i2 i3 i4 : Int32) (hc11 : ¬ ((i3 &&& (1 : Int32)) = (0 : Int32))) (hc68 : ((i2 &&& (1 : Int32)) = (0 : Int32))) : (F_hr (ctp_out4 (2 : Int32) (5 : Int32) (8 : Int32) (8 : Int32) 8 (f0_g544f i2 i4) 5) (5 : Int32) (2 : Int32) (f0_g544f i2 i4) 2) = (0 : Int32) :=
  own_hrg (v := (-127 : Int32)) (by rfl) (by decide)
theorem law_x19 (i0 i1 i2 i3 i4 : Int32) (hc11 : ¬ ((i3 &&& (1 : Int32)) = (0 : Int32))) (hc68 : ¬ ((i2 &&& (1 : Int32)) = (0 : Int32))) : (F_hr (ctp_out4 (3 : Int32) (6 : Int32) (9 : Int32) (9 : Int32) 9 (f0_g544g i2 i4) 6) (6 : Int32) (3 : Int32) (f0_g544g i2 i4) 3) = (0 : Int32) :=
  own_hrg (v := (-127 : Int32)) (by rfl) (by decide)
theorem law_x20 (i0 i1 i2 i3 i4 : Int32) (hc11 : ¬ ((i3 &&& (1 : Int32)) = (0 : Int32))) (hc329 : (((f0_v46 i1) &&& (1 : Int32)) = (0 : Int32))) : (F_hr (ctp_out4 (2 : Int32) (3 : Int32) (6 : Int32) (6 : Int32) 6 (f0_g544h i4) 3) (3 : Int32) (2 : Int32) (f0_g544h i4) 2) = (0 : Int32) :=
  own_hrg (v := (-128 : Int32)) (by rfl) (by decide)
theorem law_x21 (i0 i1 i2 i3 i4 : Int32) (hc11 : ¬ ((i3 &&& (1 : Int32)) = (0 : Int32))) (hc329 : ¬ (((f0_v46 i1) &&& (1 : Int32)) = (0 : Int32))) : (F_hr (ctp_out4 (2 : Int32) (5 : Int32) (8 : Int32) (8 : Int32) 8 (f0_g544i i4) 5) (5 : Int32) (2 : Int32) (f0_g544i i4) 2) = (0 : Int32) :=
  own_hrg (v := (-127 : Int32)) (by rfl) (by decide)
theorem law_x22 (i0 i1 i2 i3 i4 : Int32) (hc11 : ¬ ((i3 &&& (1 : Int32)) = (0 : Int32))) (hc432 : (((f0_v38 i2) % (25 : Int32)) = (0 : Int32))) : (F_hr (ctp_out4 (2 : Int32) (2 : Int32) (5 : Int32) (5 : Int32) 5 (f0_g544j i2 i4) 2) (2 : Int32) (2 : Int32) (f0_g544j i2 i4) 2) = (0 : Int32) :=
  own_hr0 (by decide)
theorem law_x23 (i0 i1 i2 i3 i4 : Int32) (hc11 : ¬ ((i3 &&& (1 : Int32)) = (0 : Int32))) (hc432 : ¬ (((f0_v38 i2) % (25 : Int32)) = (0 : Int32))) : (F_hr (ctp_out4 (2 : Int32) (2 : Int32) (5 : Int32) (5 : Int32) 5 (f0_g544j i2 i4) 2) (2 : Int32) (2 : Int32) (f0_g544j i2 i4) 2) = (0 : Int32) :=
  own_hr0 (by decide)
theorem ef_0 (m : MethodId) (x0 : Int32) (x1 : Int32) (x2 : Int32) (x3 : Int32) (x4 : Int32) : entryFrame m #[(.int x0), (.int x1), (.int x2), (.int x3), (.int x4)] maxLocals = mkF m 0 #[vi x0, vi x1, vi x2, vi x3, vi x4, .unset, .unset, .unset, .unset, .unset, .unset, .unset, .unset, .unset, .unset, .unset, .unset, .unset, .unset] [] := by first | (simp [entryFrame, mkF, argsToLocals, Value.category, maxLocals]; done) | rfl
theorem pd_0 : parseMethodDescriptor "([BIIII)V" = some ⟨[(.array .byte), .int, .int, .int, .int], none⟩ := by decide +kernel
theorem pd_7 : parseMethodDescriptor "()Z" = some ⟨[], some .boolean⟩ := by decide +kernel
theorem pn_0 : plainName "com/example/brief_locator/brieflocator/interchange/CanonicalFormHasRootlessAuthorityPinLaw" = true := by first | (simp [plainName, overriddenIn]; done) | decide +kernel
set_option maxRecDepth 65536 in
set_option maxHeartbeats 40000000 in
theorem rm0 (l : Launch) (Z : State) (a0 : Array Value) (hw : ∀ d ∈ tables_1, d.before a0 Z = true) (ws : List Jvm.Cond) (i0 : Int32) (i1 : Int32) (i2 : Int32) (i3 : Int32) (i4 : Int32)  (h0 : Heap) (n0 : Nat) (Z0 : n0 ≤ h0.size) :
    MetFree l x (head1 (Jvm.Cond.code x code maxLocals ret :: ws) room_1) (fun a U => a = #[(.int i0), (.int i1), (.int i2), (.int i3), (.int i4)] ∧ Z.Warmed39 U.vm ∧ U.heap = h0) (fun _ _ _ _ _ => True) (fun _ U o U' => ∃ v L, o = .returned v ∧ QL n0 v U'.heap L ∧ FrameEnd U o U' L room_1.cells room_1.slots) := by
  refine MetFree.of_bodySF (plainFor_of_name pn_0) hisR ?_
  intro p e s m args below meth c s₁ Bd hml0 hP hK
  obtain ⟨rfl, hZ, hh⟩ := hP
  have hx := Bd.exec
  have hby := Bd.bytes
  have hml : c.maxLocals = 19 := hml0
  have hown : s.vm.findClass "com/example/brief_locator/brieflocator/interchange/CanonicalFormHasRootlessAuthorityPinLaw" = some m.cls := findClass_of_methodNamed Bd.named
  have hnm := (name_of_methodNamed Bd.named Bd.method).1
  have hret := Bd.returns
  have hlk : meth.locks = false := BodyLoose.notSynchronized Bd
  have X0 : Stand p l e room_1 s m #[(.int i0), (.int i1), (.int i2), (.int i3), (.int i4)] below meth c s₁ [] 0 0 := Stand.of_body Bd
  have e0 : s₁.heap = h0 := by rw [← hh, Bd.state]; rfl
  have N0 := Fr.nil n0
  show Outs p e below s (QL n0) _ _ _
  refine Outs.of (U' := s₁.setTop (mkF m 0 #[vi i0, vi i1, vi i2, vi i3, vi i4, .unset, .unset, .unset, .unset, .unset, .unset, .unset, .unset, .unset, .unset, .unset, .unset, .unset, .unset] [])) (fun t k => castTop (ef_0 m i0 i1 i2 i3 i4) k) ?_
  refine Outs.of (U' := s₁.setTop (mkF m 11 #[vi i0, vi i1, vi i2, vi i3, vi i4, vi (f0_v6 i0), .unset, .unset, .unset, .unset, .unset, .unset, .unset, .unset, .unset, .unset, .unset, .unset, .unset] [(.int (i3 &&& (1 : Int32)))])) (fun t k => ?_) ?_
  · refine XS.iloadN X0.here hx rfl (hb hby at_0) rfl ?_
    refine X0.ldcInt hx hown (mvT hZ (hw _ (List.mem_of_getElem? (i := 0) rfl))) (g := (mkF m 1 #[vi i0, vi i1, vi i2, vi i3, vi i4, .unset, .unset, .unset, .unset, .unset, .unset, .unset, .unset, .unset, .unset, .unset, .unset, .unset, .unset] [(.int i0)])) rfl (hb hby at_1) _ ?_
    refine XS.iand X0.here hx rfl (hb hby at_3) rfl ?_
    refine XS.iconst X0.here hx rfl (hb hby at_4) ?_
    refine iremM X0 hx rfl (hb hby at_5) rfl (by decide) ?_
    refine XS.istore X0.here hx rfl (hb hby at_6) rfl (l' := #[vi i0, vi i1, vi i2, vi i3, vi i4, vi (f0_v6 i0), .unset, .unset, .unset, .unset, .unset, .unset, .unset, .unset, .unset, .unset, .unset, .unset, .unset]) rfl ?_
    refine XS.iloadN X0.here hx rfl (hb hby at_8) rfl ?_
    refine XS.iconst X0.here hx rfl (hb hby at_9) ?_
    refine XS.iand X0.here hx rfl (hb hby at_10) rfl ?_
    exact k
  by_cases hc11 : (i3 &&& (1 : Int32)) = (0 : Int32)
  · refine Outs.of (U' := s₁.setTop (mkF m 18 #[vi i0, vi i1, vi i2, vi i3, vi i4, vi (f0_v6 i0), .unset, .unset, .unset, .unset, .unset, .unset, .unset, .unset, .unset, .unset, .unset, .unset, .unset] [])) (fun t k => ?_) ?_
    · refine XS.ifYes X0.here hx rfl (pc0 := 11) (pc' := 18) rfl (hb hby at_11) rfl ((if0 _ _).trans (teq hc11).1) (by decide) (by decide) ?_
      exact k
    refine Outs.of (U' := s₁.setTop (mkF m 60 #[vi i0, vi i1, vi i2, vi i3, vi i4, vi (f0_v6 i0), vi 0, vi (f0_v33 i4), vi (f0_v38 i2), vi (f0_v46 i1), vi 0, .unset, .unset, .unset, .unset, .unset, .unset, .unset, .unset] [])) (fun t k => ?_) ?_
    · refine XS.iconst X0.here hx rfl (hb hby at_18) ?_
      refine XS.istore X0.here hx rfl (hb hby at_19) rfl (l' := #[vi i0, vi i1, vi i2, vi i3, vi i4, vi (f0_v6 i0), vi 0, .unset, .unset, .unset, .unset, .unset, .unset, .unset, .unset, .unset, .unset, .unset, .unset]) rfl ?_
      refine XS.bipush X0.here hx rfl (hb hby at_21) ?_
      refine XS.iload X0.here hx rfl (hb hby at_23) rfl ?_
      refine X0.ldcInt hx hown (mvT hZ (hw _ (List.mem_of_getElem? (i := 0) rfl))) (g := (mkF m 25 #[vi i0, vi i1, vi i2, vi i3, vi i4, vi (f0_v6 i0), vi 0, .unset, .unset, .unset, .unset, .unset, .unset, .unset, .unset, .unset, .unset, .unset, .unset] [(.int i4), (.int (97 : Int32))])) rfl (hb hby at_25) _ ?_
      refine XS.iand X0.here hx rfl (hb hby at_27) rfl ?_
      refine XS.bipush X0.here hx rfl (hb hby at_28) ?_
      refine iremM X0 hx rfl (hb hby at_30) rfl (by decide) ?_
      refine XS.iadd X0.here hx rfl (hb hby at_31) rfl ?_
      refine XS.i2b X0.here hx rfl (hb hby at_32) rfl ?_
      refine XS.istore X0.here hx rfl (hb hby at_33) rfl (l' := #[vi i0, vi i1, vi i2, vi i3, vi i4, vi (f0_v6 i0), vi 0, vi (f0_v33 i4), .unset, .unset, .unset, .unset, .unset, .unset, .unset, .unset, .unset, .unset, .unset]) rfl ?_
      refine XS.iloadN X0.here hx rfl (hb hby at_35) rfl ?_
      refine XS.iconst X0.here hx rfl (hb hby at_36) ?_
      refine XS.iushr X0.here hx rfl (hb hby at_37) rfl ?_
      refine XS.istore X0.here hx rfl (hb hby at_38) rfl (l' := #[vi i0, vi i1, vi i2, vi i3, vi i4, vi (f0_v6 i0), vi 0, vi (f0_v33 i4), vi (f0_v38 i2), .unset, .unset, .unset, .unset, .unset, .unset, .unset, .unset, .unset, .unset]) rfl ?_
      refine XS.iloadN X0.here hx rfl (hb hby at_40) rfl ?_
      refine X0.ldcInt hx hown (mvT hZ (hw _ (List.mem_of_getElem? (i := 0) rfl))) (g := (mkF m 41 #[vi i0, vi i1, vi i2, vi i3, vi i4, vi (f0_v6 i0), vi 0, vi (f0_v33 i4), vi (f0_v38 i2), .unset, .unset, .unset, .unset, .unset, .unset, .unset, .unset, .unset, .unset] [(.int i1)])) rfl (hb hby at_41) _ ?_
      refine XS.iand X0.here hx rfl (hb hby at_43) rfl ?_
      refine XS.iconst X0.here hx rfl (hb hby at_44) ?_
      refine iremM X0 hx rfl (hb hby at_45) rfl (by decide) ?_
      refine XS.istore X0.here hx rfl (hb hby at_46) rfl (l' := #[vi i0, vi i1, vi i2, vi i3, vi i4, vi (f0_v6 i0), vi 0, vi (f0_v33 i4), vi (f0_v38 i2), vi (f0_v46 i1), .unset, .unset, .unset, .unset, .unset, .unset, .unset, .unset, .unset]) rfl ?_
      refine XS.iload X0.here hx rfl (hb hby at_48) rfl ?_
      refine XS.ifYes X0.here hx rfl (pc0 := 50) (pc' := 57) rfl (hb hby at_50) rfl ((if0 _ _).trans (teq (show (0 : Int32) = (0 : Int32) from (by decide))).1) (by decide) (by decide) ?_
      refine XS.iconst X0.here hx rfl (hb hby at_57) ?_
      refine XS.istore X0.here hx rfl (hb hby at_58) rfl (l' := #[vi i0, vi i1, vi i2, vi i3, vi i4, vi (f0_v6 i0), vi 0, vi (f0_v33 i4), vi (f0_v38 i2), vi (f0_v46 i1), vi 0, .unset, .unset, .unset, .unset, .unset, .unset, .unset, .unset]) rfl ?_
      exact k
    rcases own_k3 i0 with q5 | q5 | q5
    · rw [q5]
      show Outs p e below s _ _ _ (s₁.setTop (mkF m 60 #[vi i0, vi i1, vi i2, vi i3, vi i4, vi 0, vi 0, vi (f0_v33 i4), vi (f0_v38 i2), vi (f0_v46 i1), vi 0, .unset, .unset, .unset, .unset, .unset, .unset, .unset, .unset] []))
      refine Outs.of (U' := s₁.setTop (mkF m 65 #[vi i0, vi i1, vi i2, vi i3, vi i4, vi 0, vi 0, vi (f0_v33 i4), vi (f0_v38 i2), vi (f0_v46 i1), vi 0, .unset, .unset, .unset, .unset, .unset, .unset, .unset, .unset] [])) (fun t k => ?_) ?_
      · refine XS.iload X0.here hx rfl (hb hby at_60) rfl ?_
        refine XS.ifNo X0.here hx rfl (hb hby at_62) rfl ((if0 _ _).trans (teq (show (0 : Int32) = (0 : Int32) from (by decide))).2) ?_
        exact k
      rcases own_a4 i1 with q9 | q9 | q9 | q9
      · rw [q9]
        show Outs p e below s _ _ _ (s₁.setTop (mkF m 65 #[vi i0, vi i1, vi i2, vi i3, vi i4, vi 0, vi 0, vi (f0_v33 i4), vi (f0_v38 i2), vi 0, vi 0, .unset, .unset, .unset, .unset, .unset, .unset, .unset, .unset] []))
        refine Outs.of (U' := s₁.setTop (mkF m 68 #[vi i0, vi i1, vi i2, vi i3, vi i4, vi 0, vi 0, vi (f0_v33 i4), vi (f0_v38 i2), vi 0, vi 0, .unset, .unset, .unset, .unset, .unset, .unset, .unset, .unset] [(.int (i2 &&& (1 : Int32)))])) (fun t k => ?_) ?_
        · refine XS.iloadN X0.here hx rfl (hb hby at_65) rfl ?_
          refine XS.iconst X0.here hx rfl (hb hby at_66) ?_
          refine XS.iand X0.here hx rfl (hb hby at_67) rfl ?_
          exact k
        by_cases hc68 : (i2 &&& (1 : Int32)) = (0 : Int32)
        · refine Outs.of (U' := s₁.setTop (mkF m 75 #[vi i0, vi i1, vi i2, vi i3, vi i4, vi 0, vi 0, vi (f0_v33 i4), vi (f0_v38 i2), vi 0, vi 0, .unset, .unset, .unset, .unset, .unset, .unset, .unset, .unset] [])) (fun t k => ?_) ?_
          · refine XS.ifYes X0.here hx rfl (pc0 := 68) (pc' := 75) rfl (hb hby at_68) rfl ((if0 _ _).trans (teq hc68).1) (by decide) (by decide) ?_
            exact k
          refine Outs.of (U' := s₁.setTop (mkF m 152 #[vi i0, vi i1, vi i2, vi i3, vi i4, vi 0, vi 0, vi (f0_v33 i4), vi (f0_v38 i2), vi 0, vi 0, .unset, .unset, .unset, .unset, vi 0, vi 1, vi 0, vi 1] [(.int (2 : Int32))])) (fun t k => ?_) ?_
          · refine XS.iconst X0.here hx rfl (hb hby at_75) ?_
            refine XS.istore X0.here hx rfl (hb hby at_76) rfl (l' := #[vi i0, vi i1, vi i2, vi i3, vi i4, vi 0, vi 0, vi (f0_v33 i4), vi (f0_v38 i2), vi 0, vi 0, .unset, .unset, .unset, .unset, vi 0, .unset, .unset, .unset]) rfl ?_
            refine XS.iload X0.here hx rfl (hb hby at_78) rfl ?_
            refine XS.ifYes X0.here hx rfl (pc0 := 80) (pc' := 87) rfl (hb hby at_80) rfl ((if0 _ _).trans (teq (show (0 : Int32) = (0 : Int32) from (by decide))).1) (by decide) (by decide) ?_
            refine XS.iconst X0.here hx rfl (hb hby at_87) ?_
            refine XS.istore X0.here hx rfl (hb hby at_88) rfl (l' := #[vi i0, vi i1, vi i2, vi i3, vi i4, vi 0, vi 0, vi (f0_v33 i4), vi (f0_v38 i2), vi 0, vi 0, .unset, .unset, .unset, .unset, vi 0, vi 1, .unset, .unset]) rfl ?_
            refine XS.iload X0.here hx rfl (hb hby at_90) rfl ?_
            refine XS.iconst X0.here hx rfl (hb hby at_92) ?_
            refine XS.icmpYes X0.here hx rfl (pc0 := 93) (pc' := 100) rfl (hb hby at_93) rfl (feq (show ¬ ((0 : Int32) = (3 : Int32)) from (by decide))).2 (by decide) (by decide) ?_
            refine XS.iload X0.here hx rfl (hb hby at_100) rfl ?_
            refine XS.ifNo X0.here hx rfl (hb hby at_102) rfl ((if0 _ _).trans (teq (show (0 : Int32) = (0 : Int32) from (by decide))).2) ?_
            refine XS.iload X0.here hx rfl (hb hby at_105) rfl ?_
            refine XS.ifNo X0.here hx rfl (hb hby at_107) rfl ((if0 _ _).trans (teq (show (0 : Int32) = (0 : Int32) from (by decide))).2) ?_
            refine XS.iconst X0.here hx rfl (hb hby at_110) ?_
            refine XS.goto X0.here hx rfl (pc0 := 111) (pc' := 115) rfl (hb hby at_111) (by decide) (by decide) ?_
            refine XS.istore X0.here hx rfl (hb hby at_115) rfl (l' := #[vi i0, vi i1, vi i2, vi i3, vi i4, vi 0, vi 0, vi (f0_v33 i4), vi (f0_v38 i2), vi 0, vi 0, .unset, .unset, .unset, .unset, vi 0, vi 1, vi 0, .unset]) rfl ?_
            refine XS.iconst X0.here hx rfl (hb hby at_117) ?_
            refine XS.iload X0.here hx rfl (hb hby at_118) rfl ?_
            refine XS.ifYes X0.here hx rfl (pc0 := 120) (pc' := 127) rfl (hb hby at_120) rfl ((if0 _ _).trans (flt (show ¬ ((0 : Int32) < (0 : Int32)) from (by decide))).2.2.2) (by decide) (by decide) ?_
            refine XS.iconst X0.here hx rfl (hb hby at_127) ?_
            refine XS.iadd X0.here hx rfl (hb hby at_128) rfl ?_
            refine XS.iload X0.here hx rfl (hb hby at_129) rfl ?_
            refine XS.ifYes X0.here hx rfl (pc0 := 131) (pc' := 138) rfl (hb hby at_131) rfl ((if0 _ _).trans (teq (show (0 : Int32) = (0 : Int32) from (by decide))).1) (by decide) (by decide) ?_
            refine XS.iconst X0.here hx rfl (hb hby at_138) ?_
            refine XS.iadd X0.here hx rfl (hb hby at_139) rfl ?_
            refine XS.istore X0.here hx rfl (hb hby at_140) rfl (l' := #[vi i0, vi i1, vi i2, vi i3, vi i4, vi 0, vi 0, vi (f0_v33 i4), vi (f0_v38 i2), vi 0, vi 0, .unset, .unset, .unset, .unset, vi 0, vi 1, vi 0, vi 1]) rfl ?_
            refine XS.iconst X0.here hx rfl (hb hby at_142) ?_
            refine XS.iload X0.here hx rfl (hb hby at_143) rfl ?_
            refine XS.iadd X0.here hx rfl (hb hby at_145) rfl ?_
            refine XS.iload X0.here hx rfl (hb hby at_146) rfl ?_
            refine XS.iadd X0.here hx rfl (hb hby at_148) rfl ?_
            refine XS.iload X0.here hx rfl (hb hby at_149) rfl ?_
            refine XS.iadd X0.here hx rfl (hb hby at_151) rfl ?_
            exact k
          obtain ⟨T1, h1, X1, e1, E1, A1, st1⟩ := newAF X0 hx hZ (aty := .byte) (hw _ (List.mem_of_getElem? (i := 1) rfl)) e0 (f := (mkF m 152 #[vi i0, vi i1, vi i2, vi i3, vi i4, vi 0, vi 0, vi (f0_v33 i4), vi (f0_v38 i2), vi 0, vi 0, .unset, .unset, .unset, .unset, vi 0, vi 1, vi 0, vi 1] [(.int (2 : Int32))])) rfl (hb hby at_152) rfl (k := 2) rfl (cap := 2) (by decide) (by decide) (by decide) (by decide)
          obtain ⟨b1, g1⟩ : ∃ z, z = h0.size := ⟨_, rfl⟩
          rw [← g1] at A1 st1
          have g_b1 : n0 ≤ b1 := Nat.le_trans Z0 (Nat.le_of_eq g1.symm)
          have V1 : AI Z h1 b1 .byte 2 (fun _ => (0 : Int32)) := A1
          refine Outs.of st1 ?_
          refine Outs.of (U' := T1.setTop (mkF m 166 #[vi i0, vi i1, vi i2, vi i3, vi i4, vi 0, vi 0, vi (f0_v33 i4), vi (f0_v38 i2), vi 0, vi 0, .val (.ref b1), .unset, .unset, .unset, vi 0, vi 1, vi 0, vi 1] [(.int ((129 : Int32).toInt8.toInt32)), (.int (0 : Int32)), (.ref b1)])) (fun t k => ?_) ?_
          · refine XS.astore X1.here hx rfl (hb hby at_154) rfl rfl (l' := #[vi i0, vi i1, vi i2, vi i3, vi i4, vi 0, vi 0, vi (f0_v33 i4), vi (f0_v38 i2), vi 0, vi 0, .val (.ref b1), .unset, .unset, .unset, vi 0, vi 1, vi 0, vi 1]) rfl ?_
            refine XS.aload X1.here hx rfl (hb hby at_156) rfl rfl ?_
            refine XS.iconst X1.here hx rfl (hb hby at_158) ?_
            refine XS.sipush X1.here hx rfl (hb hby at_159) ?_
            refine XS.iload X1.here hx rfl (hb hby at_162) rfl ?_
            refine XS.iadd X1.here hx rfl (hb hby at_164) rfl ?_
            refine XS.i2b X1.here hx rfl (hb hby at_165) rfl ?_
            exact k
          obtain ⟨T2, h2, X2, e2, W2, V2, st2⟩ := puB X1 hx hZ e1 V1 (j := (0 : Int32)) (x := ((129 : Int32).toInt8.toInt32)) (k := 0) rfl (by decide) (f := (mkF m 166 #[vi i0, vi i1, vi i2, vi i3, vi i4, vi 0, vi 0, vi (f0_v33 i4), vi (f0_v38 i2), vi 0, vi 0, .val (.ref b1), .unset, .unset, .unset, vi 0, vi 1, vi 0, vi 1] [(.int ((129 : Int32).toInt8.toInt32)), (.int (0 : Int32)), (.ref b1)])) rfl rfl (hb hby at_166)
          replace V2 : AI Z h2 b1 .byte 2 f0_g166 := V2
          have N2 := Fr.snoc X2 N0 g_b1
          obtain ⟨Lh2, X2, N2⟩ := hide X2 N2 (C := 1) (S := 2) (by decide) (by decide)
          refine Outs.of st2 ?_
          refine Outs.of (U' := T2.setTop (mkF m 206 #[vi i0, vi i1, vi i2, vi i3, vi i4, vi 0, vi 0, vi (f0_v33 i4), vi (f0_v38 i2), vi 0, vi 0, .val (.ref b1), .unset, .unset, .unset, vi 0, vi 1, vi 0, vi 1] [(.int (((32 : Int32) + ((f0_v38 i2) % (24 : Int32))).toInt8.toInt32)), (.int (1 : Int32)), (.ref b1)])) (fun t k => ?_) ?_
          · refine XS.iload X2.here hx rfl (hb hby at_167) rfl ?_
            refine XS.ifYes X2.here hx rfl (pc0 := 169) (pc' := 194) rfl (hb hby at_169) rfl ((if0 _ _).trans (teq (show (0 : Int32) = (0 : Int32) from (by decide))).1) (by decide) (by decide) ?_
            refine XS.aload X2.here hx rfl (hb hby at_194) rfl rfl ?_
            refine XS.iconst X2.here hx rfl (hb hby at_196) ?_
            refine XS.bipush X2.here hx rfl (hb hby at_197) ?_
            refine XS.iload X2.here hx rfl (hb hby at_199) rfl ?_
            refine XS.bipush X2.here hx rfl (hb hby at_201) ?_
            refine iremM X2 hx rfl (hb hby at_203) rfl (by decide) ?_
            refine XS.iadd X2.here hx rfl (hb hby at_204) rfl ?_
            refine XS.i2b X2.here hx rfl (hb hby at_205) rfl ?_
            exact k
          obtain ⟨T3, h3, X3, e3, W3, V3, st3⟩ := puB X2 hx hZ e2 V2 (j := (1 : Int32)) (x := (((32 : Int32) + ((f0_v38 i2) % (24 : Int32))).toInt8.toInt32)) (k := 1) rfl (by decide) (f := (mkF m 206 #[vi i0, vi i1, vi i2, vi i3, vi i4, vi 0, vi 0, vi (f0_v33 i4), vi (f0_v38 i2), vi 0, vi 0, .val (.ref b1), .unset, .unset, .unset, vi 0, vi 1, vi 0, vi 1] [(.int (((32 : Int32) + ((f0_v38 i2) % (24 : Int32))).toInt8.toInt32)), (.int (1 : Int32)), (.ref b1)])) rfl rfl (hb hby at_206)
          replace V3 : AI Z h3 b1 .byte 2 (f0_g206 i2) := V3
          have N3 := Fr.snoc X3 N2 g_b1
          obtain ⟨Lh3, X3, N3⟩ := hide X3 N3 (C := 1) (S := 2) (by decide) (by decide)
          refine Outs.of st3 ?_
          refine Outs.of (U' := T3.setTop (mkF m 552 #[vi i0, vi i1, vi i2, vi i3, vi i4, vi 0, vi 0, vi (f0_v33 i4), vi (f0_v38 i2), vi 0, vi 0, .val (.ref b1), vi 2, vi 2, vi 0, vi 2, vi 1, vi 0, vi 1] [])) (fun t k => ?_) ?_
          · refine XS.iconst X3.here hx rfl (hb hby at_207) ?_
            refine XS.iload X3.here hx rfl (hb hby at_208) rfl ?_
            refine XS.iadd X3.here hx rfl (hb hby at_210) rfl ?_
            refine XS.istore X3.here hx rfl (hb hby at_211) rfl (l' := #[vi i0, vi i1, vi i2, vi i3, vi i4, vi 0, vi 0, vi (f0_v33 i4), vi (f0_v38 i2), vi 0, vi 0, .val (.ref b1), vi 2, .unset, .unset, vi 0, vi 1, vi 0, vi 1]) rfl ?_
            refine XS.iload X3.here hx rfl (hb hby at_213) rfl ?_
            refine XS.ifNo X3.here hx rfl (hb hby at_215) rfl ((if0 _ _).trans (teq (show (0 : Int32) = (0 : Int32) from (by decide))).2) ?_
            refine XS.iload X3.here hx rfl (hb hby at_218) rfl ?_
            refine XS.ifYes X3.here hx rfl (pc0 := 220) (pc' := 233) rfl (hb hby at_220) rfl ((if0 _ _).trans (teq (show (0 : Int32) = (0 : Int32) from (by decide))).1) (by decide) (by decide) ?_
            refine XS.iload X3.here hx rfl (hb hby at_233) rfl ?_
            refine XS.iconst X3.here hx rfl (hb hby at_235) ?_
            refine XS.icmpYes X3.here hx rfl (pc0 := 236) (pc' := 249) rfl (hb hby at_236) rfl (feq (show ¬ ((0 : Int32) = (1 : Int32)) from (by decide))).2 (by decide) (by decide) ?_
            refine XS.iload X3.here hx rfl (hb hby at_249) rfl ?_
            refine XS.iconst X3.here hx rfl (hb hby at_251) ?_
            refine XS.icmpYes X3.here hx rfl (pc0 := 252) (pc' := 265) rfl (hb hby at_252) rfl (feq (show ¬ ((0 : Int32) = (2 : Int32)) from (by decide))).2 (by decide) (by decide) ?_
            refine XS.iload X3.here hx rfl (hb hby at_265) rfl ?_
            refine XS.iconst X3.here hx rfl (hb hby at_267) ?_
            refine XS.icmpYes X3.here hx rfl (pc0 := 268) (pc' := 296) rfl (hb hby at_268) rfl (feq (show ¬ ((0 : Int32) = (3 : Int32)) from (by decide))).2 (by decide) (by decide) ?_
            refine XS.iload X3.here hx rfl (hb hby at_296) rfl ?_
            refine XS.iload X3.here hx rfl (hb hby at_298) rfl ?_
            refine XS.iadd X3.here hx rfl (hb hby at_300) rfl ?_
            refine XS.istore X3.here hx rfl (hb hby at_301) rfl (l' := #[vi i0, vi i1, vi i2, vi i3, vi i4, vi 0, vi 0, vi (f0_v33 i4), vi (f0_v38 i2), vi 0, vi 0, .val (.ref b1), vi 2, vi 2, .unset, vi 0, vi 1, vi 0, vi 1]) rfl ?_
            refine XS.iload X3.here hx rfl (hb hby at_303) rfl ?_
            refine XS.iconst X3.here hx rfl (hb hby at_305) ?_
            refine XS.icmpYes X3.here hx rfl (pc0 := 306) (pc' := 313) rfl (hb hby at_306) rfl (feq (show ¬ ((0 : Int32) = (1 : Int32)) from (by decide))).2 (by decide) (by decide) ?_
            refine XS.iconst X3.here hx rfl (hb hby at_313) ?_
            refine XS.istore X3.here hx rfl (hb hby at_314) rfl (l' := #[vi i0, vi i1, vi i2, vi i3, vi i4, vi 0, vi 0, vi (f0_v33 i4), vi (f0_v38 i2), vi 0, vi 0, .val (.ref b1), vi 2, vi 2, vi 0, vi 0, vi 1, vi 0, vi 1]) rfl ?_
            refine XS.goto X3.here hx rfl (pc0 := 316) (pc' := 515) rfl (hb hby at_316) (by decide) (by decide) ?_
            refine XS.iload X3.here hx rfl (hb hby at_515) rfl ?_
            refine XS.ifYes X3.here hx rfl (pc0 := 517) (pc' := 545) rfl (hb hby at_517) rfl ((if0 _ _).trans (teq (show (0 : Int32) = (0 : Int32) from (by decide))).1) (by decide) (by decide) ?_
            refine XS.iload X3.here hx rfl (hb hby at_545) rfl ?_
            refine XS.iload X3.here hx rfl (hb hby at_547) rfl ?_
            refine XS.iadd X3.here hx rfl (hb hby at_549) rfl ?_
            refine XS.istore X3.here hx rfl (hb hby at_550) rfl (l' := #[vi i0, vi i1, vi i2, vi i3, vi i4, vi 0, vi 0, vi (f0_v33 i4), vi (f0_v38 i2), vi 0, vi 0, .val (.ref b1), vi 2, vi 2, vi 0, vi 2, vi 1, vi 0, vi 1]) rfl ?_
            exact k
          obtain ⟨T4, h4, X4, e4, E4, A4, D4, -, st4⟩ := newO X3 hx hZ hown (hw _ (List.mem_of_getElem? (i := 2) rfl)) (hw _ (List.mem_of_getElem? (i := 3) rfl)) (hw _ (List.mem_of_getElem? (i := 4) rfl)) e3 (g := (mkF m 552 #[vi i0, vi i1, vi i2, vi i3, vi i4, vi 0, vi 0, vi (f0_v33 i4), vi (f0_v38 i2), vi 0, vi 0, .val (.ref b1), vi 2, vi 2, vi 0, vi 2, vi 1, vi 0, vi 1] [])) rfl (hb hby at_552) (by decide) (by decide)
          obtain ⟨b4, g4⟩ : ∃ z, z = h3.size := ⟨_, rfl⟩
          rw [← g4] at A4 D4 st4
          have g_b4 : n0 ≤ b4 := Nat.le_trans (Nat.le_trans (Nat.le_trans (Nat.le_trans Z0 E1.1) (Keep.of_wr W2).1) (Keep.of_wr W3).1) (Nat.le_of_eq g4.symm)
          have ne_b1_b4 : b1 ≠ b4 := Nat.ne_of_lt (Nat.lt_of_lt_of_eq V3.lt g4.symm)
          have F4_12 : Fld Z h4 b4 "com/example/brief_locator/brieflocator/interchange/CanonicalForm" "bytes" "[B" .null := D4 (Or.inr (hw _ (List.mem_of_getElem? (i := 12) rfl))) (ty := (.array .byte)) (by decide)
          have F4_14 : Fld Z h4 b4 "com/example/brief_locator/brieflocator/interchange/CanonicalForm" "firstEnd" "I" (.int (0 : Int32)) := D4 (Or.inr (hw _ (List.mem_of_getElem? (i := 14) rfl))) (ty := .int) (by decide)
          have F4_16 : Fld Z h4 b4 "com/example/brief_locator/brieflocator/interchange/CanonicalForm" "pathStart" "I" (.int (0 : Int32)) := D4 (Or.inr (hw _ (List.mem_of_getElem? (i := 16) rfl))) (ty := .int) (by decide)
          have F4_18 : Fld Z h4 b4 "com/example/brief_locator/brieflocator/interchange/CanonicalForm" "pathEnd" "I" (.int (0 : Int32)) := D4 (Or.inr (hw _ (List.mem_of_getElem? (i := 18) rfl))) (ty := .int) (by decide)
          have F4_20 : Fld Z h4 b4 "com/example/brief_locator/brieflocator/interchange/CanonicalForm" "queryEnd" "I" (.int (0 : Int32)) := D4 (Or.inr (hw _ (List.mem_of_getElem? (i := 20) rfl))) (ty := .int) (by decide)
          have F4_25 : Fld Z h4 b4 "com/example/brief_locator/brieflocator/interchange/CanonicalForm" "hasScheme" "Z" (.int (0 : Int32)) := D4 (Or.inr (hw _ (List.mem_of_getElem? (i := 25) rfl))) (ty := .boolean) (by decide)
          have F4_27 : Fld Z h4 b4 "com/example/brief_locator/brieflocator/interchange/CanonicalForm" "hasAuthority" "Z" (.int (0 : Int32)) := D4 (Or.inr (hw _ (List.mem_of_getElem? (i := 27) rfl))) (ty := .boolean) (by decide)
          have F4_37 : Fld Z h4 b4 "com/example/brief_locator/brieflocator/interchange/CanonicalForm" "pathSegments" "I" (.int (0 : Int32)) := D4 (Or.inr (hw _ (List.mem_of_getElem? (i := 37) rfl))) (ty := .int) (by decide)
          have F4_52 : Fld Z h4 b4 "com/example/brief_locator/brieflocator/interchange/CanonicalForm" "pathSegmentsStart" "I" (.int (0 : Int32)) := D4 (Or.inr (hw _ (List.mem_of_getElem? (i := 52) rfl))) (ty := .int) (by decide)
          refine Outs.of st4 ?_
          refine Outs.of (U' := T4.setTop (mkF m 566 #[vi i0, vi i1, vi i2, vi i3, vi i4, vi 0, vi 0, vi (f0_v33 i4), vi (f0_v38 i2), vi 0, vi 0, .val (.ref b1), vi 2, vi 2, vi 0, vi 2, vi 1, vi 0, vi 1] [(.int (2 : Int32)), (.int (2 : Int32)), (.int (2 : Int32)), (.int (2 : Int32)), (.ref b1), (.ref b4), (.ref b4)])) (fun t k => ?_) ?_
          · refine XS.dup X4.here hx rfl (hb hby at_555) rfl rfl ?_
            refine XS.aload X4.here hx rfl (hb hby at_556) rfl rfl ?_
            refine XS.iload X4.here hx rfl (hb hby at_558) rfl ?_
            refine XS.iload X4.here hx rfl (hb hby at_560) rfl ?_
            refine XS.iload X4.here hx rfl (hb hby at_562) rfl ?_
            refine XS.iload X4.here hx rfl (hb hby at_564) rfl ?_
            exact k
          have f6 : AI Z h4 b1 .byte 2 (f0_g206 i2) := (V3.ext E4)
          obtain ⟨_, _, ⟨T5, L5, k5, n5⟩, -, X5, ⟨Lc5, hQ5, l5, y5, z5⟩, st5⟩ := X4.specialBack hx (y := (⟨"com/example/brief_locator/brieflocator/interchange/CanonicalForm", "<init>", "([BIIII)V"⟩ : MethodName)) rfl hown (mvT hZ (hw _ (List.mem_of_getElem? (i := 5) rfl))) (mvT hZ (hw _ (List.mem_of_getElem? (i := 6) rfl))) (mvT hZ (hw _ (List.mem_of_getElem? (i := 7) rfl))) (by decide) (backOf (W := 1) (rmctn l Z a0 hw [] b4 b1 (2 : Int32) (2 : Int32) (2 : Int32) (2 : Int32) 2 (f0_g206 i2) h4 n0 (Nat.le_trans (Nat.le_trans (Nat.le_trans (Nat.le_trans Z0 E1.1) (Keep.of_wr W2).1) (Keep.of_wr W3).1) E4.1) A4 g_b4 F4_12 F4_14 F4_16 F4_18 F4_20 F4_25 F4_27 F4_37 F4_52 f6 ne_b1_b4 (by decide) (by decide) (by decide)) hZ (hw _ (List.mem_of_getElem? (i := 7) rfl)) (hw _ (List.mem_of_getElem? (i := 4) rfl)) (by decide) (by decide)) (g := (mkF m 566 #[vi i0, vi i1, vi i2, vi i3, vi i4, vi 0, vi 0, vi (f0_v33 i4), vi (f0_v38 i2), vi 0, vi 0, .val (.ref b1), vi 2, vi 2, vi 0, vi 2, vi 1, vi 0, vi 1] [(.int (2 : Int32)), (.int (2 : Int32)), (.int (2 : Int32)), (.int (2 : Int32)), (.ref b1), (.ref b4), (.ref b4)])) rfl (by rw [hml]; rfl) (Steps.refl _) (a := b4) (argsL := [(.ref b1), (.int (2 : Int32)), (.int (2 : Int32)), (.int (2 : Int32)), (.int (2 : Int32))]) (rest := [(.ref b4)]) (lenOf pd_0 rfl) rfl (by show 2 * 0 + _ ≤ _; exact Nat.le_of_eq rfl) (hb hby at_566) (fun _ _ => ⟨rfl, e4, (by decide : 2 + 0 ≤ _), (by decide : 12 + 0 ≤ _)⟩)
          dsimp only [Pt.U, Pt.locs, Pt.cells, Pt.slots] at X5 l5 y5 z5 st5 hQ5
          subst l5 y5 z5
          obtain ⟨rfl, N5q, K5, u5_0, u5_1, u5_2, u5_3, u5_4⟩ := hQ5
          have N5 := Fr.app N3 N5q
          obtain ⟨Lh5, X5, N5⟩ := hide X5 N5 (C := 2) (S := 12) (by decide) (by decide)
          refine Outs.to st5 ?_
          refine Outs.of (U' := T5.setTop (mkF m 573 #[vi i0, vi i1, vi i2, vi i3, vi i4, vi 0, vi 0, vi (f0_v33 i4), vi (f0_v38 i2), vi 0, vi 0, .val (.ref b1), vi 2, vi 2, vi 0, vi 2, .val (.ref b4), vi 0, vi 1] [(.ref b4)])) (fun t k => ?_) ?_
          · refine XS.astore X5.here hx rfl (hb hby at_569) rfl rfl (l' := #[vi i0, vi i1, vi i2, vi i3, vi i4, vi 0, vi 0, vi (f0_v33 i4), vi (f0_v38 i2), vi 0, vi 0, .val (.ref b1), vi 2, vi 2, vi 0, vi 2, .val (.ref b4), vi 0, vi 1]) rfl ?_
            refine XS.aload X5.here hx rfl (hb hby at_571) rfl rfl ?_
            exact k
          have f8 : AI Z T5.heap b1 .byte 2 (f0_g206 i2) := (f6.keep K5 (ninS ne_b1_b4 nin0))
          obtain ⟨cq7, kq7, q7a, q7b, q7c⟩ := isOf hZ rfl u5_0
          obtain ⟨_, _, ⟨T7, L7, k7, n7⟩, -, X7, ⟨Lc7, hQ7, l7, y7, z7⟩, st7⟩ := X5.virtualBack hx (y := (⟨"com/example/brief_locator/brieflocator/interchange/CanonicalForm", "hasRootlessAuthority", "()Z"⟩ : MethodName)) (z := (⟨"com/example/brief_locator/brieflocator/interchange/CanonicalForm", "hasRootlessAuthority", "()Z"⟩ : MethodName)) hown (mvT hZ (hw _ (List.mem_of_getElem? (i := 53) rfl))) (mvT hZ (hw _ (List.mem_of_getElem? (i := 54) rfl))) (notFace_of_selects (args := #[]) (mvT hZ (hw _ (List.mem_of_getElem? (i := 56) rfl)))) (mvT hZ (hw _ (List.mem_of_getElem? (i := 56) rfl))) (mvT hZ (hw _ (List.mem_of_getElem? (i := 55) rfl))) (by decide) (backOf (W := 0) (rmhr l Z a0 hw [] b4 (ctn_out4 (2 : Int32) (2 : Int32) (2 : Int32) (2 : Int32) 2 (f0_g206 i2)) (2 : Int32) (2 : Int32) b1 2 (f0_g206 i2) 2 T5.heap n0 u5_0 u5_4 u5_3 u5_2 u5_1 f8 rfl (by decide)) hZ (hw _ (List.mem_of_getElem? (i := 57) rfl)) (hw _ (List.mem_of_getElem? (i := 4) rfl)) (by decide) (by decide)) q7a q7c (g := (mkF m 573 #[vi i0, vi i1, vi i2, vi i3, vi i4, vi 0, vi 0, vi (f0_v33 i4), vi (f0_v38 i2), vi 0, vi 0, .val (.ref b1), vi 2, vi 2, vi 0, vi 2, .val (.ref b4), vi 0, vi 1] [(.ref b4)])) rfl (by rw [hml]; rfl) (Steps.refl _) (argsL := []) (rest := []) (lenOf pd_7 rfl) rfl (by show 2 * 0 + _ ≤ _; exact Nat.le_of_eq rfl) (hb hby at_573) (fun _ _ => ⟨rfl, rfl, (by decide : 2 + 0 ≤ _), (by decide : 12 + 0 ≤ _)⟩)
          dsimp only [Pt.U, Pt.locs, Pt.cells, Pt.slots] at X7 l7 y7 z7 st7 hQ7
          subst l7 y7 z7
          obtain ⟨rfl, N7q, e7⟩ := hQ7
          have N7 := Fr.app N5 N7q
          obtain ⟨Lh7, X7, N7⟩ := hide X7 N7 (C := 2) (S := 12) (by decide) (by decide)
          refine Outs.to st7 ?_
          refine Outs.of (U' := T7.setTop (mkF m 586 #[vi i0, vi i1, vi i2, vi i3, vi i4, vi 0, vi 0, vi (f0_v33 i4), vi (f0_v38 i2), vi 0, vi 0, .val (.ref b1), vi 2, vi 2, vi 0, vi 2, .val (.ref b4), vi 0, vi 1] [(.int (1 : Int32))])) (fun t k => ?_) ?_
          · refine XS.iload X7.here hx rfl (hb hby at_576) rfl ?_
            refine XS.icmpNo X7.here hx rfl (hb hby at_578) rfl (teq (law_x0 i0 i1 i2 i3 i4 hc11 hc68)).2 ?_
            refine XS.iconst X7.here hx rfl (hb hby at_581) ?_
            refine XS.goto X7.here hx rfl (pc0 := 582) (pc' := 586) rfl (hb hby at_582) (by decide) (by decide) ?_
            exact k
          exact Outs.retN (t := .boolean) (z := (1 : Int32)) X7 hx hret (by simp) (hb hby at_586) hlk (by decide) (by decide) e7 ⟨rfl, N7⟩
        · refine Outs.of (U' := s₁.setTop (mkF m 71 #[vi i0, vi i1, vi i2, vi i3, vi i4, vi 0, vi 0, vi (f0_v33 i4), vi (f0_v38 i2), vi 0, vi 0, .unset, .unset, .unset, .unset, .unset, .unset, .unset, .unset] [])) (fun t k => ?_) ?_
          · refine XS.ifNo X0.here hx rfl (hb hby at_68) rfl ((if0 _ _).trans (feq hc68).1) ?_
            exact k
          refine Outs.of (U' := s₁.setTop (mkF m 152 #[vi i0, vi i1, vi i2, vi i3, vi i4, vi 0, vi 0, vi (f0_v33 i4), vi (f0_v38 i2), vi 0, vi 0, .unset, .unset, .unset, .unset, vi 1, vi 2, vi 0, vi 1] [(.int (3 : Int32))])) (fun t k => ?_) ?_
          · refine XS.iconst X0.here hx rfl (hb hby at_71) ?_
            refine XS.goto X0.here hx rfl (pc0 := 72) (pc' := 76) rfl (hb hby at_72) (by decide) (by decide) ?_
            refine XS.istore X0.here hx rfl (hb hby at_76) rfl (l' := #[vi i0, vi i1, vi i2, vi i3, vi i4, vi 0, vi 0, vi (f0_v33 i4), vi (f0_v38 i2), vi 0, vi 0, .unset, .unset, .unset, .unset, vi 1, .unset, .unset, .unset]) rfl ?_
            refine XS.iload X0.here hx rfl (hb hby at_78) rfl ?_
            refine XS.ifNo X0.here hx rfl (hb hby at_80) rfl ((if0 _ _).trans (feq (show ¬ ((1 : Int32) = (0 : Int32)) from (by decide))).1) ?_
            refine XS.iconst X0.here hx rfl (hb hby at_83) ?_
            refine XS.goto X0.here hx rfl (pc0 := 84) (pc' := 88) rfl (hb hby at_84) (by decide) (by decide) ?_
            refine XS.istore X0.here hx rfl (hb hby at_88) rfl (l' := #[vi i0, vi i1, vi i2, vi i3, vi i4, vi 0, vi 0, vi (f0_v33 i4), vi (f0_v38 i2), vi 0, vi 0, .unset, .unset, .unset, .unset, vi 1, vi 2, .unset, .unset]) rfl ?_
            refine XS.iload X0.here hx rfl (hb hby at_90) rfl ?_
            refine XS.iconst X0.here hx rfl (hb hby at_92) ?_
            refine XS.icmpYes X0.here hx rfl (pc0 := 93) (pc' := 100) rfl (hb hby at_93) rfl (feq (show ¬ ((0 : Int32) = (3 : Int32)) from (by decide))).2 (by decide) (by decide) ?_
            refine XS.iload X0.here hx rfl (hb hby at_100) rfl ?_
            refine XS.ifNo X0.here hx rfl (hb hby at_102) rfl ((if0 _ _).trans (teq (show (0 : Int32) = (0 : Int32) from (by decide))).2) ?_
            refine XS.iload X0.here hx rfl (hb hby at_105) rfl ?_
            refine XS.ifNo X0.here hx rfl (hb hby at_107) rfl ((if0 _ _).trans (teq (show (0 : Int32) = (0 : Int32) from (by decide))).2) ?_
            refine XS.iconst X0.here hx rfl (hb hby at_110) ?_
            refine XS.goto X0.here hx rfl (pc0 := 111) (pc' := 115) rfl (hb hby at_111) (by decide) (by decide) ?_
            refine XS.istore X0.here hx rfl (hb hby at_115) rfl (l' := #[vi i0, vi i1, vi i2, vi i3, vi i4, vi 0, vi 0, vi (f0_v33 i4), vi (f0_v38 i2), vi 0, vi 0, .unset, .unset, .unset, .unset, vi 1, vi 2, vi 0, .unset]) rfl ?_
            refine XS.iconst X0.here hx rfl (hb hby at_117) ?_
            refine XS.iload X0.here hx rfl (hb hby at_118) rfl ?_
            refine XS.ifYes X0.here hx rfl (pc0 := 120) (pc' := 127) rfl (hb hby at_120) rfl ((if0 _ _).trans (flt (show ¬ ((0 : Int32) < (0 : Int32)) from (by decide))).2.2.2) (by decide) (by decide) ?_
            refine XS.iconst X0.here hx rfl (hb hby at_127) ?_
            refine XS.iadd X0.here hx rfl (hb hby at_128) rfl ?_
            refine XS.iload X0.here hx rfl (hb hby at_129) rfl ?_
            refine XS.ifYes X0.here hx rfl (pc0 := 131) (pc' := 138) rfl (hb hby at_131) rfl ((if0 _ _).trans (teq (show (0 : Int32) = (0 : Int32) from (by decide))).1) (by decide) (by decide) ?_
            refine XS.iconst X0.here hx rfl (hb hby at_138) ?_
            refine XS.iadd X0.here hx rfl (hb hby at_139) rfl ?_
            refine XS.istore X0.here hx rfl (hb hby at_140) rfl (l' := #[vi i0, vi i1, vi i2, vi i3, vi i4, vi 0, vi 0, vi (f0_v33 i4), vi (f0_v38 i2), vi 0, vi 0, .unset, .unset, .unset, .unset, vi 1, vi 2, vi 0, vi 1]) rfl ?_
            refine XS.iconst X0.here hx rfl (hb hby at_142) ?_
            refine XS.iload X0.here hx rfl (hb hby at_143) rfl ?_
            refine XS.iadd X0.here hx rfl (hb hby at_145) rfl ?_
            refine XS.iload X0.here hx rfl (hb hby at_146) rfl ?_
            refine XS.iadd X0.here hx rfl (hb hby at_148) rfl ?_
            refine XS.iload X0.here hx rfl (hb hby at_149) rfl ?_
            refine XS.iadd X0.here hx rfl (hb hby at_151) rfl ?_
            exact k
          obtain ⟨T9, h9, X9, e9, E9, A9, st9⟩ := newAF X0 hx hZ (aty := .byte) (hw _ (List.mem_of_getElem? (i := 1) rfl)) e0 (f := (mkF m 152 #[vi i0, vi i1, vi i2, vi i3, vi i4, vi 0, vi 0, vi (f0_v33 i4), vi (f0_v38 i2), vi 0, vi 0, .unset, .unset, .unset, .unset, vi 1, vi 2, vi 0, vi 1] [(.int (3 : Int32))])) rfl (hb hby at_152) rfl (k := 3) rfl (cap := 3) (by decide) (by decide) (by decide) (by decide)
          obtain ⟨b9, g9⟩ : ∃ z, z = h0.size := ⟨_, rfl⟩
          rw [← g9] at A9 st9
          have g_b9 : n0 ≤ b9 := Nat.le_trans Z0 (Nat.le_of_eq g9.symm)
          have V9 : AI Z h9 b9 .byte 3 (fun _ => (0 : Int32)) := A9
          refine Outs.of st9 ?_
          refine Outs.of (U' := T9.setTop (mkF m 166 #[vi i0, vi i1, vi i2, vi i3, vi i4, vi 0, vi 0, vi (f0_v33 i4), vi (f0_v38 i2), vi 0, vi 0, .val (.ref b9), .unset, .unset, .unset, vi 1, vi 2, vi 0, vi 1] [(.int ((129 : Int32).toInt8.toInt32)), (.int (0 : Int32)), (.ref b9)])) (fun t k => ?_) ?_
          · refine XS.astore X9.here hx rfl (hb hby at_154) rfl rfl (l' := #[vi i0, vi i1, vi i2, vi i3, vi i4, vi 0, vi 0, vi (f0_v33 i4), vi (f0_v38 i2), vi 0, vi 0, .val (.ref b9), .unset, .unset, .unset, vi 1, vi 2, vi 0, vi 1]) rfl ?_
            refine XS.aload X9.here hx rfl (hb hby at_156) rfl rfl ?_
            refine XS.iconst X9.here hx rfl (hb hby at_158) ?_
            refine XS.sipush X9.here hx rfl (hb hby at_159) ?_
            refine XS.iload X9.here hx rfl (hb hby at_162) rfl ?_
            refine XS.iadd X9.here hx rfl (hb hby at_164) rfl ?_
            refine XS.i2b X9.here hx rfl (hb hby at_165) rfl ?_
            exact k
          obtain ⟨T10, h10, X10, e10, W10, V10, st10⟩ := puB X9 hx hZ e9 V9 (j := (0 : Int32)) (x := ((129 : Int32).toInt8.toInt32)) (k := 0) rfl (by decide) (f := (mkF m 166 #[vi i0, vi i1, vi i2, vi i3, vi i4, vi 0, vi 0, vi (f0_v33 i4), vi (f0_v38 i2), vi 0, vi 0, .val (.ref b9), .unset, .unset, .unset, vi 1, vi 2, vi 0, vi 1] [(.int ((129 : Int32).toInt8.toInt32)), (.int (0 : Int32)), (.ref b9)])) rfl rfl (hb hby at_166)
          replace V10 : AI Z h10 b9 .byte 3 f0_g166 := V10
          have N10 := Fr.snoc X10 N0 g_b9
          obtain ⟨Lh10, X10, N10⟩ := hide X10 N10 (C := 1) (S := 3) (by decide) (by decide)
          refine Outs.of st10 ?_
          refine Outs.of (U' := T10.setTop (mkF m 177 #[vi i0, vi i1, vi i2, vi i3, vi i4, vi 0, vi 0, vi (f0_v33 i4), vi (f0_v38 i2), vi 0, vi 0, .val (.ref b9), .unset, .unset, .unset, vi 1, vi 2, vi 0, vi 1] [(.int (97 : Int32)), (.int (1 : Int32)), (.ref b9)])) (fun t k => ?_) ?_
          · refine XS.iload X10.here hx rfl (hb hby at_167) rfl ?_
            refine XS.ifNo X10.here hx rfl (hb hby at_169) rfl ((if0 _ _).trans (feq (show ¬ ((1 : Int32) = (0 : Int32)) from (by decide))).1) ?_
            refine XS.aload X10.here hx rfl (hb hby at_172) rfl rfl ?_
            refine XS.iconst X10.here hx rfl (hb hby at_174) ?_
            refine XS.bipush X10.here hx rfl (hb hby at_175) ?_
            exact k
          obtain ⟨T11, h11, X11, e11, W11, V11, st11⟩ := puB X10 hx hZ e10 V10 (j := (1 : Int32)) (x := (97 : Int32)) (k := 1) rfl (by decide) (f := (mkF m 177 #[vi i0, vi i1, vi i2, vi i3, vi i4, vi 0, vi 0, vi (f0_v33 i4), vi (f0_v38 i2), vi 0, vi 0, .val (.ref b9), .unset, .unset, .unset, vi 1, vi 2, vi 0, vi 1] [(.int (97 : Int32)), (.int (1 : Int32)), (.ref b9)])) rfl rfl (hb hby at_177)
          replace V11 : AI Z h11 b9 .byte 3 f0_g177 := V11
          have N11 := Fr.snoc X11 N10 g_b9
          obtain ⟨Lh11, X11, N11⟩ := hide X11 N11 (C := 1) (S := 3) (by decide) (by decide)
          refine Outs.of st11 ?_
          refine Outs.of (U' := T11.setTop (mkF m 190 #[vi i0, vi i1, vi i2, vi i3, vi i4, vi 0, vi 0, vi (f0_v33 i4), vi (f0_v38 i2), vi 0, vi 0, .val (.ref b9), .unset, .unset, .unset, vi 1, vi 2, vi 0, vi 1] [(.int (((97 : Int32) + ((f0_v38 i2) % (26 : Int32))).toInt8.toInt32)), (.int (2 : Int32)), (.ref b9)])) (fun t k => ?_) ?_
          · refine XS.aload X11.here hx rfl (hb hby at_178) rfl rfl ?_
            refine XS.iconst X11.here hx rfl (hb hby at_180) ?_
            refine XS.bipush X11.here hx rfl (hb hby at_181) ?_
            refine XS.iload X11.here hx rfl (hb hby at_183) rfl ?_
            refine XS.bipush X11.here hx rfl (hb hby at_185) ?_
            refine iremM X11 hx rfl (hb hby at_187) rfl (by decide) ?_
            refine XS.iadd X11.here hx rfl (hb hby at_188) rfl ?_
            refine XS.i2b X11.here hx rfl (hb hby at_189) rfl ?_
            exact k
          obtain ⟨T12, h12, X12, e12, W12, V12, st12⟩ := puB X11 hx hZ e11 V11 (j := (2 : Int32)) (x := (((97 : Int32) + ((f0_v38 i2) % (26 : Int32))).toInt8.toInt32)) (k := 2) rfl (by decide) (f := (mkF m 190 #[vi i0, vi i1, vi i2, vi i3, vi i4, vi 0, vi 0, vi (f0_v33 i4), vi (f0_v38 i2), vi 0, vi 0, .val (.ref b9), .unset, .unset, .unset, vi 1, vi 2, vi 0, vi 1] [(.int (((97 : Int32) + ((f0_v38 i2) % (26 : Int32))).toInt8.toInt32)), (.int (2 : Int32)), (.ref b9)])) rfl rfl (hb hby at_190)
          replace V12 : AI Z h12 b9 .byte 3 (f0_g190 i2) := V12
          have N12 := Fr.snoc X12 N11 g_b9
          obtain ⟨Lh12, X12, N12⟩ := hide X12 N12 (C := 1) (S := 3) (by decide) (by decide)
          refine Outs.of st12 ?_
          refine Outs.of (U' := T12.setTop (mkF m 552 #[vi i0, vi i1, vi i2, vi i3, vi i4, vi 0, vi 0, vi (f0_v33 i4), vi (f0_v38 i2), vi 0, vi 0, .val (.ref b9), vi 3, vi 3, vi 0, vi 3, vi 2, vi 0, vi 1] [])) (fun t k => ?_) ?_
          · refine XS.goto X12.here hx rfl (pc0 := 191) (pc' := 207) rfl (hb hby at_191) (by decide) (by decide) ?_
            refine XS.iconst X12.here hx rfl (hb hby at_207) ?_
            refine XS.iload X12.here hx rfl (hb hby at_208) rfl ?_
            refine XS.iadd X12.here hx rfl (hb hby at_210) rfl ?_
            refine XS.istore X12.here hx rfl (hb hby at_211) rfl (l' := #[vi i0, vi i1, vi i2, vi i3, vi i4, vi 0, vi 0, vi (f0_v33 i4), vi (f0_v38 i2), vi 0, vi 0, .val (.ref b9), vi 3, .unset, .unset, vi 1, vi 2, vi 0, vi 1]) rfl ?_
            refine XS.iload X12.here hx rfl (hb hby at_213) rfl ?_
            refine XS.ifNo X12.here hx rfl (hb hby at_215) rfl ((if0 _ _).trans (teq (show (0 : Int32) = (0 : Int32) from (by decide))).2) ?_
            refine XS.iload X12.here hx rfl (hb hby at_218) rfl ?_
            refine XS.ifYes X12.here hx rfl (pc0 := 220) (pc' := 233) rfl (hb hby at_220) rfl ((if0 _ _).trans (teq (show (0 : Int32) = (0 : Int32) from (by decide))).1) (by decide) (by decide) ?_
            refine XS.iload X12.here hx rfl (hb hby at_233) rfl ?_
            refine XS.iconst X12.here hx rfl (hb hby at_235) ?_
            refine XS.icmpYes X12.here hx rfl (pc0 := 236) (pc' := 249) rfl (hb hby at_236) rfl (feq (show ¬ ((0 : Int32) = (1 : Int32)) from (by decide))).2 (by decide) (by decide) ?_
            refine XS.iload X12.here hx rfl (hb hby at_249) rfl ?_
            refine XS.iconst X12.here hx rfl (hb hby at_251) ?_
            refine XS.icmpYes X12.here hx rfl (pc0 := 252) (pc' := 265) rfl (hb hby at_252) rfl (feq (show ¬ ((0 : Int32) = (2 : Int32)) from (by decide))).2 (by decide) (by decide) ?_
            refine XS.iload X12.here hx rfl (hb hby at_265) rfl ?_
            refine XS.iconst X12.here hx rfl (hb hby at_267) ?_
            refine XS.icmpYes X12.here hx rfl (pc0 := 268) (pc' := 296) rfl (hb hby at_268) rfl (feq (show ¬ ((0 : Int32) = (3 : Int32)) from (by decide))).2 (by decide) (by decide) ?_
            refine XS.iload X12.here hx rfl (hb hby at_296) rfl ?_
            refine XS.iload X12.here hx rfl (hb hby at_298) rfl ?_
            refine XS.iadd X12.here hx rfl (hb hby at_300) rfl ?_
            refine XS.istore X12.here hx rfl (hb hby at_301) rfl (l' := #[vi i0, vi i1, vi i2, vi i3, vi i4, vi 0, vi 0, vi (f0_v33 i4), vi (f0_v38 i2), vi 0, vi 0, .val (.ref b9), vi 3, vi 3, .unset, vi 1, vi 2, vi 0, vi 1]) rfl ?_
            refine XS.iload X12.here hx rfl (hb hby at_303) rfl ?_
            refine XS.iconst X12.here hx rfl (hb hby at_305) ?_
            refine XS.icmpYes X12.here hx rfl (pc0 := 306) (pc' := 313) rfl (hb hby at_306) rfl (feq (show ¬ ((0 : Int32) = (1 : Int32)) from (by decide))).2 (by decide) (by decide) ?_
            refine XS.iconst X12.here hx rfl (hb hby at_313) ?_
            refine XS.istore X12.here hx rfl (hb hby at_314) rfl (l' := #[vi i0, vi i1, vi i2, vi i3, vi i4, vi 0, vi 0, vi (f0_v33 i4), vi (f0_v38 i2), vi 0, vi 0, .val (.ref b9), vi 3, vi 3, vi 0, vi 1, vi 2, vi 0, vi 1]) rfl ?_
            refine XS.goto X12.here hx rfl (pc0 := 316) (pc' := 515) rfl (hb hby at_316) (by decide) (by decide) ?_
            refine XS.iload X12.here hx rfl (hb hby at_515) rfl ?_
            refine XS.ifYes X12.here hx rfl (pc0 := 517) (pc' := 545) rfl (hb hby at_517) rfl ((if0 _ _).trans (teq (show (0 : Int32) = (0 : Int32) from (by decide))).1) (by decide) (by decide) ?_
            refine XS.iload X12.here hx rfl (hb hby at_545) rfl ?_
            refine XS.iload X12.here hx rfl (hb hby at_547) rfl ?_
            refine XS.iadd X12.here hx rfl (hb hby at_549) rfl ?_
            refine XS.istore X12.here hx rfl (hb hby at_550) rfl (l' := #[vi i0, vi i1, vi i2, vi i3, vi i4, vi 0, vi 0, vi (f0_v33 i4), vi (f0_v38 i2), vi 0, vi 0, .val (.ref b9), vi 3, vi 3, vi 0, vi 3, vi 2, vi 0, vi 1]) rfl ?_
            exact k
          obtain ⟨T13, h13, X13, e13, E13, A13, D13, -, st13⟩ := newO X12 hx hZ hown (hw _ (List.mem_of_getElem? (i := 2) rfl)) (hw _ (List.mem_of_getElem? (i := 3) rfl)) (hw _ (List.mem_of_getElem? (i := 4) rfl)) e12 (g := (mkF m 552 #[vi i0, vi i1, vi i2, vi i3, vi i4, vi 0, vi 0, vi (f0_v33 i4), vi (f0_v38 i2), vi 0, vi 0, .val (.ref b9), vi 3, vi 3, vi 0, vi 3, vi 2, vi 0, vi 1] [])) rfl (hb hby at_552) (by decide) (by decide)
          obtain ⟨b13, g13⟩ : ∃ z, z = h12.size := ⟨_, rfl⟩
          rw [← g13] at A13 D13 st13
          have g_b13 : n0 ≤ b13 := Nat.le_trans (Nat.le_trans (Nat.le_trans (Nat.le_trans (Nat.le_trans Z0 E9.1) (Keep.of_wr W10).1) (Keep.of_wr W11).1) (Keep.of_wr W12).1) (Nat.le_of_eq g13.symm)
          have ne_b9_b13 : b9 ≠ b13 := Nat.ne_of_lt (Nat.lt_of_lt_of_eq V12.lt g13.symm)
          have F13_12 : Fld Z h13 b13 "com/example/brief_locator/brieflocator/interchange/CanonicalForm" "bytes" "[B" .null := D13 (Or.inr (hw _ (List.mem_of_getElem? (i := 12) rfl))) (ty := (.array .byte)) (by decide)
          have F13_14 : Fld Z h13 b13 "com/example/brief_locator/brieflocator/interchange/CanonicalForm" "firstEnd" "I" (.int (0 : Int32)) := D13 (Or.inr (hw _ (List.mem_of_getElem? (i := 14) rfl))) (ty := .int) (by decide)
          have F13_16 : Fld Z h13 b13 "com/example/brief_locator/brieflocator/interchange/CanonicalForm" "pathStart" "I" (.int (0 : Int32)) := D13 (Or.inr (hw _ (List.mem_of_getElem? (i := 16) rfl))) (ty := .int) (by decide)
          have F13_18 : Fld Z h13 b13 "com/example/brief_locator/brieflocator/interchange/CanonicalForm" "pathEnd" "I" (.int (0 : Int32)) := D13 (Or.inr (hw _ (List.mem_of_getElem? (i := 18) rfl))) (ty := .int) (by decide)
          have F13_20 : Fld Z h13 b13 "com/example/brief_locator/brieflocator/interchange/CanonicalForm" "queryEnd" "I" (.int (0 : Int32)) := D13 (Or.inr (hw _ (List.mem_of_getElem? (i := 20) rfl))) (ty := .int) (by decide)
          have F13_25 : Fld Z h13 b13 "com/example/brief_locator/brieflocator/interchange/CanonicalForm" "hasScheme" "Z" (.int (0 : Int32)) := D13 (Or.inr (hw _ (List.mem_of_getElem? (i := 25) rfl))) (ty := .boolean) (by decide)
          have F13_27 : Fld Z h13 b13 "com/example/brief_locator/brieflocator/interchange/CanonicalForm" "hasAuthority" "Z" (.int (0 : Int32)) := D13 (Or.inr (hw _ (List.mem_of_getElem? (i := 27) rfl))) (ty := .boolean) (by decide)
          have F13_37 : Fld Z h13 b13 "com/example/brief_locator/brieflocator/interchange/CanonicalForm" "pathSegments" "I" (.int (0 : Int32)) := D13 (Or.inr (hw _ (List.mem_of_getElem? (i := 37) rfl))) (ty := .int) (by decide)
          have F13_52 : Fld Z h13 b13 "com/example/brief_locator/brieflocator/interchange/CanonicalForm" "pathSegmentsStart" "I" (.int (0 : Int32)) := D13 (Or.inr (hw _ (List.mem_of_getElem? (i := 52) rfl))) (ty := .int) (by decide)
          refine Outs.of st13 ?_
          refine Outs.of (U' := T13.setTop (mkF m 566 #[vi i0, vi i1, vi i2, vi i3, vi i4, vi 0, vi 0, vi (f0_v33 i4), vi (f0_v38 i2), vi 0, vi 0, .val (.ref b9), vi 3, vi 3, vi 0, vi 3, vi 2, vi 0, vi 1] [(.int (3 : Int32)), (.int (3 : Int32)), (.int (3 : Int32)), (.int (3 : Int32)), (.ref b9), (.ref b13), (.ref b13)])) (fun t k => ?_) ?_
          · refine XS.dup X13.here hx rfl (hb hby at_555) rfl rfl ?_
            refine XS.aload X13.here hx rfl (hb hby at_556) rfl rfl ?_
            refine XS.iload X13.here hx rfl (hb hby at_558) rfl ?_
            refine XS.iload X13.here hx rfl (hb hby at_560) rfl ?_
            refine XS.iload X13.here hx rfl (hb hby at_562) rfl ?_
            refine XS.iload X13.here hx rfl (hb hby at_564) rfl ?_
            exact k
          have f15 : AI Z h13 b9 .byte 3 (f0_g190 i2) := (V12.ext E13)
          obtain ⟨_, _, ⟨T14, L14, k14, n14⟩, -, X14, ⟨Lc14, hQ14, l14, y14, z14⟩, st14⟩ := X13.specialBack hx (y := (⟨"com/example/brief_locator/brieflocator/interchange/CanonicalForm", "<init>", "([BIIII)V"⟩ : MethodName)) rfl hown (mvT hZ (hw _ (List.mem_of_getElem? (i := 5) rfl))) (mvT hZ (hw _ (List.mem_of_getElem? (i := 6) rfl))) (mvT hZ (hw _ (List.mem_of_getElem? (i := 7) rfl))) (by decide) (backOf (W := 1) (rmctn l Z a0 hw [] b13 b9 (3 : Int32) (3 : Int32) (3 : Int32) (3 : Int32) 3 (f0_g190 i2) h13 n0 (Nat.le_trans (Nat.le_trans (Nat.le_trans (Nat.le_trans (Nat.le_trans Z0 E9.1) (Keep.of_wr W10).1) (Keep.of_wr W11).1) (Keep.of_wr W12).1) E13.1) A13 g_b13 F13_12 F13_14 F13_16 F13_18 F13_20 F13_25 F13_27 F13_37 F13_52 f15 ne_b9_b13 (by decide) (by decide) (by decide)) hZ (hw _ (List.mem_of_getElem? (i := 7) rfl)) (hw _ (List.mem_of_getElem? (i := 4) rfl)) (by decide) (by decide)) (g := (mkF m 566 #[vi i0, vi i1, vi i2, vi i3, vi i4, vi 0, vi 0, vi (f0_v33 i4), vi (f0_v38 i2), vi 0, vi 0, .val (.ref b9), vi 3, vi 3, vi 0, vi 3, vi 2, vi 0, vi 1] [(.int (3 : Int32)), (.int (3 : Int32)), (.int (3 : Int32)), (.int (3 : Int32)), (.ref b9), (.ref b13), (.ref b13)])) rfl (by rw [hml]; rfl) (Steps.refl _) (a := b13) (argsL := [(.ref b9), (.int (3 : Int32)), (.int (3 : Int32)), (.int (3 : Int32)), (.int (3 : Int32))]) (rest := [(.ref b13)]) (lenOf pd_0 rfl) rfl (by show 2 * 0 + _ ≤ _; exact Nat.le_of_eq rfl) (hb hby at_566) (fun _ _ => ⟨rfl, e13, (by decide : 2 + 0 ≤ _), (by decide : 13 + 0 ≤ _)⟩)
          dsimp only [Pt.U, Pt.locs, Pt.cells, Pt.slots] at X14 l14 y14 z14 st14 hQ14
          subst l14 y14 z14
          obtain ⟨rfl, N14q, K14, u14_0, u14_1, u14_2, u14_3, u14_4⟩ := hQ14
          have N14 := Fr.app N12 N14q
          obtain ⟨Lh14, X14, N14⟩ := hide X14 N14 (C := 2) (S := 13) (by decide) (by decide)
          refine Outs.to st14 ?_
          refine Outs.of (U' := T14.setTop (mkF m 573 #[vi i0, vi i1, vi i2, vi i3, vi i4, vi 0, vi 0, vi (f0_v33 i4), vi (f0_v38 i2), vi 0, vi 0, .val (.ref b9), vi 3, vi 3, vi 0, vi 3, .val (.ref b13), vi 0, vi 1] [(.ref b13)])) (fun t k => ?_) ?_
          · refine XS.astore X14.here hx rfl (hb hby at_569) rfl rfl (l' := #[vi i0, vi i1, vi i2, vi i3, vi i4, vi 0, vi 0, vi (f0_v33 i4), vi (f0_v38 i2), vi 0, vi 0, .val (.ref b9), vi 3, vi 3, vi 0, vi 3, .val (.ref b13), vi 0, vi 1]) rfl ?_
            refine XS.aload X14.here hx rfl (hb hby at_571) rfl rfl ?_
            exact k
          have f17 : AI Z T14.heap b9 .byte 3 (f0_g190 i2) := (f15.keep K14 (ninS ne_b9_b13 nin0))
          obtain ⟨cq16, kq16, q16a, q16b, q16c⟩ := isOf hZ rfl u14_0
          obtain ⟨_, _, ⟨T16, L16, k16, n16⟩, -, X16, ⟨Lc16, hQ16, l16, y16, z16⟩, st16⟩ := X14.virtualBack hx (y := (⟨"com/example/brief_locator/brieflocator/interchange/CanonicalForm", "hasRootlessAuthority", "()Z"⟩ : MethodName)) (z := (⟨"com/example/brief_locator/brieflocator/interchange/CanonicalForm", "hasRootlessAuthority", "()Z"⟩ : MethodName)) hown (mvT hZ (hw _ (List.mem_of_getElem? (i := 53) rfl))) (mvT hZ (hw _ (List.mem_of_getElem? (i := 54) rfl))) (notFace_of_selects (args := #[]) (mvT hZ (hw _ (List.mem_of_getElem? (i := 56) rfl)))) (mvT hZ (hw _ (List.mem_of_getElem? (i := 56) rfl))) (mvT hZ (hw _ (List.mem_of_getElem? (i := 55) rfl))) (by decide) (backOf (W := 0) (rmhr l Z a0 hw [] b13 (ctn_out4 (3 : Int32) (3 : Int32) (3 : Int32) (3 : Int32) 3 (f0_g190 i2)) (3 : Int32) (3 : Int32) b9 3 (f0_g190 i2) 3 T14.heap n0 u14_0 u14_4 u14_3 u14_2 u14_1 f17 rfl (by decide)) hZ (hw _ (List.mem_of_getElem? (i := 57) rfl)) (hw _ (List.mem_of_getElem? (i := 4) rfl)) (by decide) (by decide)) q16a q16c (g := (mkF m 573 #[vi i0, vi i1, vi i2, vi i3, vi i4, vi 0, vi 0, vi (f0_v33 i4), vi (f0_v38 i2), vi 0, vi 0, .val (.ref b9), vi 3, vi 3, vi 0, vi 3, .val (.ref b13), vi 0, vi 1] [(.ref b13)])) rfl (by rw [hml]; rfl) (Steps.refl _) (argsL := []) (rest := []) (lenOf pd_7 rfl) rfl (by show 2 * 0 + _ ≤ _; exact Nat.le_of_eq rfl) (hb hby at_573) (fun _ _ => ⟨rfl, rfl, (by decide : 2 + 0 ≤ _), (by decide : 13 + 0 ≤ _)⟩)
          dsimp only [Pt.U, Pt.locs, Pt.cells, Pt.slots] at X16 l16 y16 z16 st16 hQ16
          subst l16 y16 z16
          obtain ⟨rfl, N16q, e16⟩ := hQ16
          have N16 := Fr.app N14 N16q
          obtain ⟨Lh16, X16, N16⟩ := hide X16 N16 (C := 2) (S := 13) (by decide) (by decide)
          refine Outs.to st16 ?_
          refine Outs.of (U' := T16.setTop (mkF m 586 #[vi i0, vi i1, vi i2, vi i3, vi i4, vi 0, vi 0, vi (f0_v33 i4), vi (f0_v38 i2), vi 0, vi 0, .val (.ref b9), vi 3, vi 3, vi 0, vi 3, .val (.ref b13), vi 0, vi 1] [(.int (1 : Int32))])) (fun t k => ?_) ?_
          · refine XS.iload X16.here hx rfl (hb hby at_576) rfl ?_
            refine XS.icmpNo X16.here hx rfl (hb hby at_578) rfl (teq (law_x1 i0 i1 i2 i3 i4 hc11 hc68)).2 ?_
            refine XS.iconst X16.here hx rfl (hb hby at_581) ?_
            refine XS.goto X16.here hx rfl (pc0 := 582) (pc' := 586) rfl (hb hby at_582) (by decide) (by decide) ?_
            exact k
          exact Outs.retN (t := .boolean) (z := (1 : Int32)) X16 hx hret (by simp) (hb hby at_586) hlk (by decide) (by decide) e16 ⟨rfl, N16⟩
      · rw [q9]
        show Outs p e below s _ _ _ (s₁.setTop (mkF m 65 #[vi i0, vi i1, vi i2, vi i3, vi i4, vi 0, vi 0, vi (f0_v33 i4), vi (f0_v38 i2), vi 1, vi 0, .unset, .unset, .unset, .unset, .unset, .unset, .unset, .unset] []))
        refine Outs.of (U' := s₁.setTop (mkF m 68 #[vi i0, vi i1, vi i2, vi i3, vi i4, vi 0, vi 0, vi (f0_v33 i4), vi (f0_v38 i2), vi 1, vi 0, .unset, .unset, .unset, .unset, .unset, .unset, .unset, .unset] [(.int (i2 &&& (1 : Int32)))])) (fun t k => ?_) ?_
        · refine XS.iloadN X0.here hx rfl (hb hby at_65) rfl ?_
          refine XS.iconst X0.here hx rfl (hb hby at_66) ?_
          refine XS.iand X0.here hx rfl (hb hby at_67) rfl ?_
          exact k
        by_cases hc68 : (i2 &&& (1 : Int32)) = (0 : Int32)
        · refine Outs.of (U' := s₁.setTop (mkF m 75 #[vi i0, vi i1, vi i2, vi i3, vi i4, vi 0, vi 0, vi (f0_v33 i4), vi (f0_v38 i2), vi 1, vi 0, .unset, .unset, .unset, .unset, .unset, .unset, .unset, .unset] [])) (fun t k => ?_) ?_
          · refine XS.ifYes X0.here hx rfl (pc0 := 68) (pc' := 75) rfl (hb hby at_68) rfl ((if0 _ _).trans (teq hc68).1) (by decide) (by decide) ?_
            exact k
          refine Outs.of (U' := s₁.setTop (mkF m 152 #[vi i0, vi i1, vi i2, vi i3, vi i4, vi 0, vi 0, vi (f0_v33 i4), vi (f0_v38 i2), vi 1, vi 0, .unset, .unset, .unset, .unset, vi 0, vi 1, vi 1, vi 2] [(.int (3 : Int32))])) (fun t k => ?_) ?_
          · refine XS.iconst X0.here hx rfl (hb hby at_75) ?_
            refine XS.istore X0.here hx rfl (hb hby at_76) rfl (l' := #[vi i0, vi i1, vi i2, vi i3, vi i4, vi 0, vi 0, vi (f0_v33 i4), vi (f0_v38 i2), vi 1, vi 0, .unset, .unset, .unset, .unset, vi 0, .unset, .unset, .unset]) rfl ?_
            refine XS.iload X0.here hx rfl (hb hby at_78) rfl ?_
            refine XS.ifYes X0.here hx rfl (pc0 := 80) (pc' := 87) rfl (hb hby at_80) rfl ((if0 _ _).trans (teq (show (0 : Int32) = (0 : Int32) from (by decide))).1) (by decide) (by decide) ?_
            refine XS.iconst X0.here hx rfl (hb hby at_87) ?_
            refine XS.istore X0.here hx rfl (hb hby at_88) rfl (l' := #[vi i0, vi i1, vi i2, vi i3, vi i4, vi 0, vi 0, vi (f0_v33 i4), vi (f0_v38 i2), vi 1, vi 0, .unset, .unset, .unset, .unset, vi 0, vi 1, .unset, .unset]) rfl ?_
            refine XS.iload X0.here hx rfl (hb hby at_90) rfl ?_
            refine XS.iconst X0.here hx rfl (hb hby at_92) ?_
            refine XS.icmpYes X0.here hx rfl (pc0 := 93) (pc' := 100) rfl (hb hby at_93) rfl (feq (show ¬ ((1 : Int32) = (3 : Int32)) from (by decide))).2 (by decide) (by decide) ?_
            refine XS.iload X0.here hx rfl (hb hby at_100) rfl ?_
            refine XS.ifYes X0.here hx rfl (pc0 := 102) (pc' := 114) rfl (hb hby at_102) rfl ((if0 _ _).trans (feq (show ¬ ((1 : Int32) = (0 : Int32)) from (by decide))).2) (by decide) (by decide) ?_
            refine XS.iconst X0.here hx rfl (hb hby at_114) ?_
            refine XS.istore X0.here hx rfl (hb hby at_115) rfl (l' := #[vi i0, vi i1, vi i2, vi i3, vi i4, vi 0, vi 0, vi (f0_v33 i4), vi (f0_v38 i2), vi 1, vi 0, .unset, .unset, .unset, .unset, vi 0, vi 1, vi 1, .unset]) rfl ?_
            refine XS.iconst X0.here hx rfl (hb hby at_117) ?_
            refine XS.iload X0.here hx rfl (hb hby at_118) rfl ?_
            refine XS.ifNo X0.here hx rfl (hb hby at_120) rfl ((if0 _ _).trans (tlt (show (0 : Int32) < (1 : Int32) from (by decide))).2.2.2) ?_
            refine XS.iconst X0.here hx rfl (hb hby at_123) ?_
            refine XS.goto X0.here hx rfl (pc0 := 124) (pc' := 128) rfl (hb hby at_124) (by decide) (by decide) ?_
            refine XS.iadd X0.here hx rfl (hb hby at_128) rfl ?_
            refine XS.iload X0.here hx rfl (hb hby at_129) rfl ?_
            refine XS.ifYes X0.here hx rfl (pc0 := 131) (pc' := 138) rfl (hb hby at_131) rfl ((if0 _ _).trans (teq (show (0 : Int32) = (0 : Int32) from (by decide))).1) (by decide) (by decide) ?_
            refine XS.iconst X0.here hx rfl (hb hby at_138) ?_
            refine XS.iadd X0.here hx rfl (hb hby at_139) rfl ?_
            refine XS.istore X0.here hx rfl (hb hby at_140) rfl (l' := #[vi i0, vi i1, vi i2, vi i3, vi i4, vi 0, vi 0, vi (f0_v33 i4), vi (f0_v38 i2), vi 1, vi 0, .unset, .unset, .unset, .unset, vi 0, vi 1, vi 1, vi 2]) rfl ?_
            refine XS.iconst X0.here hx rfl (hb hby at_142) ?_
            refine XS.iload X0.here hx rfl (hb hby at_143) rfl ?_
            refine XS.iadd X0.here hx rfl (hb hby at_145) rfl ?_
            refine XS.iload X0.here hx rfl (hb hby at_146) rfl ?_
            refine XS.iadd X0.here hx rfl (hb hby at_148) rfl ?_
            refine XS.iload X0.here hx rfl (hb hby at_149) rfl ?_
            refine XS.iadd X0.here hx rfl (hb hby at_151) rfl ?_
            exact k
          obtain ⟨T18, h18, X18, e18, E18, A18, st18⟩ := newAF X0 hx hZ (aty := .byte) (hw _ (List.mem_of_getElem? (i := 1) rfl)) e0 (f := (mkF m 152 #[vi i0, vi i1, vi i2, vi i3, vi i4, vi 0, vi 0, vi (f0_v33 i4), vi (f0_v38 i2), vi 1, vi 0, .unset, .unset, .unset, .unset, vi 0, vi 1, vi 1, vi 2] [(.int (3 : Int32))])) rfl (hb hby at_152) rfl (k := 3) rfl (cap := 3) (by decide) (by decide) (by decide) (by decide)
          obtain ⟨b18, g18⟩ : ∃ z, z = h0.size := ⟨_, rfl⟩
          rw [← g18] at A18 st18
          have g_b18 : n0 ≤ b18 := Nat.le_trans Z0 (Nat.le_of_eq g18.symm)
          have V18 : AI Z h18 b18 .byte 3 (fun _ => (0 : Int32)) := A18
          refine Outs.of st18 ?_
          refine Outs.of (U' := T18.setTop (mkF m 166 #[vi i0, vi i1, vi i2, vi i3, vi i4, vi 0, vi 0, vi (f0_v33 i4), vi (f0_v38 i2), vi 1, vi 0, .val (.ref b18), .unset, .unset, .unset, vi 0, vi 1, vi 1, vi 2] [(.int ((130 : Int32).toInt8.toInt32)), (.int (0 : Int32)), (.ref b18)])) (fun t k => ?_) ?_
          · refine XS.astore X18.here hx rfl (hb hby at_154) rfl rfl (l' := #[vi i0, vi i1, vi i2, vi i3, vi i4, vi 0, vi 0, vi (f0_v33 i4), vi (f0_v38 i2), vi 1, vi 0, .val (.ref b18), .unset, .unset, .unset, vi 0, vi 1, vi 1, vi 2]) rfl ?_
            refine XS.aload X18.here hx rfl (hb hby at_156) rfl rfl ?_
            refine XS.iconst X18.here hx rfl (hb hby at_158) ?_
            refine XS.sipush X18.here hx rfl (hb hby at_159) ?_
            refine XS.iload X18.here hx rfl (hb hby at_162) rfl ?_
            refine XS.iadd X18.here hx rfl (hb hby at_164) rfl ?_
            refine XS.i2b X18.here hx rfl (hb hby at_165) rfl ?_
            exact k
          obtain ⟨T19, h19, X19, e19, W19, V19, st19⟩ := puB X18 hx hZ e18 V18 (j := (0 : Int32)) (x := ((130 : Int32).toInt8.toInt32)) (k := 0) rfl (by decide) (f := (mkF m 166 #[vi i0, vi i1, vi i2, vi i3, vi i4, vi 0, vi 0, vi (f0_v33 i4), vi (f0_v38 i2), vi 1, vi 0, .val (.ref b18), .unset, .unset, .unset, vi 0, vi 1, vi 1, vi 2] [(.int ((130 : Int32).toInt8.toInt32)), (.int (0 : Int32)), (.ref b18)])) rfl rfl (hb hby at_166)
          replace V19 : AI Z h19 b18 .byte 3 f0_g166a := V19
          have N19 := Fr.snoc X19 N0 g_b18
          obtain ⟨Lh19, X19, N19⟩ := hide X19 N19 (C := 1) (S := 3) (by decide) (by decide)
          refine Outs.of st19 ?_
          refine Outs.of (U' := T19.setTop (mkF m 206 #[vi i0, vi i1, vi i2, vi i3, vi i4, vi 0, vi 0, vi (f0_v33 i4), vi (f0_v38 i2), vi 1, vi 0, .val (.ref b18), .unset, .unset, .unset, vi 0, vi 1, vi 1, vi 2] [(.int (((32 : Int32) + ((f0_v38 i2) % (24 : Int32))).toInt8.toInt32)), (.int (1 : Int32)), (.ref b18)])) (fun t k => ?_) ?_
          · refine XS.iload X19.here hx rfl (hb hby at_167) rfl ?_
            refine XS.ifYes X19.here hx rfl (pc0 := 169) (pc' := 194) rfl (hb hby at_169) rfl ((if0 _ _).trans (teq (show (0 : Int32) = (0 : Int32) from (by decide))).1) (by decide) (by decide) ?_
            refine XS.aload X19.here hx rfl (hb hby at_194) rfl rfl ?_
            refine XS.iconst X19.here hx rfl (hb hby at_196) ?_
            refine XS.bipush X19.here hx rfl (hb hby at_197) ?_
            refine XS.iload X19.here hx rfl (hb hby at_199) rfl ?_
            refine XS.bipush X19.here hx rfl (hb hby at_201) ?_
            refine iremM X19 hx rfl (hb hby at_203) rfl (by decide) ?_
            refine XS.iadd X19.here hx rfl (hb hby at_204) rfl ?_
            refine XS.i2b X19.here hx rfl (hb hby at_205) rfl ?_
            exact k
          obtain ⟨T20, h20, X20, e20, W20, V20, st20⟩ := puB X19 hx hZ e19 V19 (j := (1 : Int32)) (x := (((32 : Int32) + ((f0_v38 i2) % (24 : Int32))).toInt8.toInt32)) (k := 1) rfl (by decide) (f := (mkF m 206 #[vi i0, vi i1, vi i2, vi i3, vi i4, vi 0, vi 0, vi (f0_v33 i4), vi (f0_v38 i2), vi 1, vi 0, .val (.ref b18), .unset, .unset, .unset, vi 0, vi 1, vi 1, vi 2] [(.int (((32 : Int32) + ((f0_v38 i2) % (24 : Int32))).toInt8.toInt32)), (.int (1 : Int32)), (.ref b18)])) rfl rfl (hb hby at_206)
          replace V20 : AI Z h20 b18 .byte 3 (f0_g206a i2) := V20
          have N20 := Fr.snoc X20 N19 g_b18
          obtain ⟨Lh20, X20, N20⟩ := hide X20 N20 (C := 1) (S := 3) (by decide) (by decide)
          refine Outs.of st20 ?_
          refine Outs.of (U' := T20.setTop (mkF m 245 #[vi i0, vi i1, vi i2, vi i3, vi i4, vi 0, vi 0, vi (f0_v33 i4), vi (f0_v38 i2), vi 1, vi 0, .val (.ref b18), vi 2, .unset, .unset, vi 0, vi 1, vi 1, vi 2] [(.int (-11 : Int32)), (.int (2 : Int32)), (.ref b18)])) (fun t k => ?_) ?_
          · refine XS.iconst X20.here hx rfl (hb hby at_207) ?_
            refine XS.iload X20.here hx rfl (hb hby at_208) rfl ?_
            refine XS.iadd X20.here hx rfl (hb hby at_210) rfl ?_
            refine XS.istore X20.here hx rfl (hb hby at_211) rfl (l' := #[vi i0, vi i1, vi i2, vi i3, vi i4, vi 0, vi 0, vi (f0_v33 i4), vi (f0_v38 i2), vi 1, vi 0, .val (.ref b18), vi 2, .unset, .unset, vi 0, vi 1, vi 1, vi 2]) rfl ?_
            refine XS.iload X20.here hx rfl (hb hby at_213) rfl ?_
            refine XS.ifYes X20.here hx rfl (pc0 := 215) (pc' := 233) rfl (hb hby at_215) rfl ((if0 _ _).trans (feq (show ¬ ((1 : Int32) = (0 : Int32)) from (by decide))).2) (by decide) (by decide) ?_
            refine XS.iload X20.here hx rfl (hb hby at_233) rfl ?_
            refine XS.iconst X20.here hx rfl (hb hby at_235) ?_
            refine XS.icmpNo X20.here hx rfl (hb hby at_236) rfl (teq (show (1 : Int32) = (1 : Int32) from (by decide))).2 ?_
            refine XS.aload X20.here hx rfl (hb hby at_239) rfl rfl ?_
            refine XS.iload X20.here hx rfl (hb hby at_241) rfl ?_
            refine XS.bipush X20.here hx rfl (hb hby at_243) ?_
            exact k
          obtain ⟨T21, h21, X21, e21, W21, V21, st21⟩ := puB X20 hx hZ e20 V20 (j := (2 : Int32)) (x := (-11 : Int32)) (k := 2) rfl (by decide) (f := (mkF m 245 #[vi i0, vi i1, vi i2, vi i3, vi i4, vi 0, vi 0, vi (f0_v33 i4), vi (f0_v38 i2), vi 1, vi 0, .val (.ref b18), vi 2, .unset, .unset, vi 0, vi 1, vi 1, vi 2] [(.int (-11 : Int32)), (.int (2 : Int32)), (.ref b18)])) rfl rfl (hb hby at_245)
          replace V21 : AI Z h21 b18 .byte 3 (f0_g245 i2) := V21
          have N21 := Fr.snoc X21 N20 g_b18
          obtain ⟨Lh21, X21, N21⟩ := hide X21 N21 (C := 1) (S := 3) (by decide) (by decide)
          refine Outs.of st21 ?_
          refine Outs.of (U' := T21.setTop (mkF m 552 #[vi i0, vi i1, vi i2, vi i3, vi i4, vi 0, vi 0, vi (f0_v33 i4), vi (f0_v38 i2), vi 1, vi 0, .val (.ref b18), vi 2, vi 3, vi 1, vi 3, vi 1, vi 1, vi 2] [])) (fun t k => ?_) ?_
          · refine XS.goto X21.here hx rfl (pc0 := 246) (pc' := 296) rfl (hb hby at_246) (by decide) (by decide) ?_
            refine XS.iload X21.here hx rfl (hb hby at_296) rfl ?_
            refine XS.iload X21.here hx rfl (hb hby at_298) rfl ?_
            refine XS.iadd X21.here hx rfl (hb hby at_300) rfl ?_
            refine XS.istore X21.here hx rfl (hb hby at_301) rfl (l' := #[vi i0, vi i1, vi i2, vi i3, vi i4, vi 0, vi 0, vi (f0_v33 i4), vi (f0_v38 i2), vi 1, vi 0, .val (.ref b18), vi 2, vi 3, .unset, vi 0, vi 1, vi 1, vi 2]) rfl ?_
            refine XS.iload X21.here hx rfl (hb hby at_303) rfl ?_
            refine XS.iconst X21.here hx rfl (hb hby at_305) ?_
            refine XS.icmpNo X21.here hx rfl (hb hby at_306) rfl (teq (show (1 : Int32) = (1 : Int32) from (by decide))).2 ?_
            refine XS.iconst X21.here hx rfl (hb hby at_309) ?_
            refine XS.goto X21.here hx rfl (pc0 := 310) (pc' := 314) rfl (hb hby at_310) (by decide) (by decide) ?_
            refine XS.istore X21.here hx rfl (hb hby at_314) rfl (l' := #[vi i0, vi i1, vi i2, vi i3, vi i4, vi 0, vi 0, vi (f0_v33 i4), vi (f0_v38 i2), vi 1, vi 0, .val (.ref b18), vi 2, vi 3, vi 1, vi 0, vi 1, vi 1, vi 2]) rfl ?_
            refine XS.goto X21.here hx rfl (pc0 := 316) (pc' := 515) rfl (hb hby at_316) (by decide) (by decide) ?_
            refine XS.iload X21.here hx rfl (hb hby at_515) rfl ?_
            refine XS.ifYes X21.here hx rfl (pc0 := 517) (pc' := 545) rfl (hb hby at_517) rfl ((if0 _ _).trans (teq (show (0 : Int32) = (0 : Int32) from (by decide))).1) (by decide) (by decide) ?_
            refine XS.iload X21.here hx rfl (hb hby at_545) rfl ?_
            refine XS.iload X21.here hx rfl (hb hby at_547) rfl ?_
            refine XS.iadd X21.here hx rfl (hb hby at_549) rfl ?_
            refine XS.istore X21.here hx rfl (hb hby at_550) rfl (l' := #[vi i0, vi i1, vi i2, vi i3, vi i4, vi 0, vi 0, vi (f0_v33 i4), vi (f0_v38 i2), vi 1, vi 0, .val (.ref b18), vi 2, vi 3, vi 1, vi 3, vi 1, vi 1, vi 2]) rfl ?_
            exact k
          obtain ⟨T22, h22, X22, e22, E22, A22, D22, -, st22⟩ := newO X21 hx hZ hown (hw _ (List.mem_of_getElem? (i := 2) rfl)) (hw _ (List.mem_of_getElem? (i := 3) rfl)) (hw _ (List.mem_of_getElem? (i := 4) rfl)) e21 (g := (mkF m 552 #[vi i0, vi i1, vi i2, vi i3, vi i4, vi 0, vi 0, vi (f0_v33 i4), vi (f0_v38 i2), vi 1, vi 0, .val (.ref b18), vi 2, vi 3, vi 1, vi 3, vi 1, vi 1, vi 2] [])) rfl (hb hby at_552) (by decide) (by decide)
          obtain ⟨b22, g22⟩ : ∃ z, z = h21.size := ⟨_, rfl⟩
          rw [← g22] at A22 D22 st22
          have g_b22 : n0 ≤ b22 := Nat.le_trans (Nat.le_trans (Nat.le_trans (Nat.le_trans (Nat.le_trans Z0 E18.1) (Keep.of_wr W19).1) (Keep.of_wr W20).1) (Keep.of_wr W21).1) (Nat.le_of_eq g22.symm)
          have ne_b18_b22 : b18 ≠ b22 := Nat.ne_of_lt (Nat.lt_of_lt_of_eq V21.lt g22.symm)
          have F22_12 : Fld Z h22 b22 "com/example/brief_locator/brieflocator/interchange/CanonicalForm" "bytes" "[B" .null := D22 (Or.inr (hw _ (List.mem_of_getElem? (i := 12) rfl))) (ty := (.array .byte)) (by decide)
          have F22_14 : Fld Z h22 b22 "com/example/brief_locator/brieflocator/interchange/CanonicalForm" "firstEnd" "I" (.int (0 : Int32)) := D22 (Or.inr (hw _ (List.mem_of_getElem? (i := 14) rfl))) (ty := .int) (by decide)
          have F22_16 : Fld Z h22 b22 "com/example/brief_locator/brieflocator/interchange/CanonicalForm" "pathStart" "I" (.int (0 : Int32)) := D22 (Or.inr (hw _ (List.mem_of_getElem? (i := 16) rfl))) (ty := .int) (by decide)
          have F22_18 : Fld Z h22 b22 "com/example/brief_locator/brieflocator/interchange/CanonicalForm" "pathEnd" "I" (.int (0 : Int32)) := D22 (Or.inr (hw _ (List.mem_of_getElem? (i := 18) rfl))) (ty := .int) (by decide)
          have F22_20 : Fld Z h22 b22 "com/example/brief_locator/brieflocator/interchange/CanonicalForm" "queryEnd" "I" (.int (0 : Int32)) := D22 (Or.inr (hw _ (List.mem_of_getElem? (i := 20) rfl))) (ty := .int) (by decide)
          have F22_25 : Fld Z h22 b22 "com/example/brief_locator/brieflocator/interchange/CanonicalForm" "hasScheme" "Z" (.int (0 : Int32)) := D22 (Or.inr (hw _ (List.mem_of_getElem? (i := 25) rfl))) (ty := .boolean) (by decide)
          have F22_27 : Fld Z h22 b22 "com/example/brief_locator/brieflocator/interchange/CanonicalForm" "hasAuthority" "Z" (.int (0 : Int32)) := D22 (Or.inr (hw _ (List.mem_of_getElem? (i := 27) rfl))) (ty := .boolean) (by decide)
          have F22_37 : Fld Z h22 b22 "com/example/brief_locator/brieflocator/interchange/CanonicalForm" "pathSegments" "I" (.int (0 : Int32)) := D22 (Or.inr (hw _ (List.mem_of_getElem? (i := 37) rfl))) (ty := .int) (by decide)
          have F22_52 : Fld Z h22 b22 "com/example/brief_locator/brieflocator/interchange/CanonicalForm" "pathSegmentsStart" "I" (.int (0 : Int32)) := D22 (Or.inr (hw _ (List.mem_of_getElem? (i := 52) rfl))) (ty := .int) (by decide)
          refine Outs.of st22 ?_
          refine Outs.of (U' := T22.setTop (mkF m 566 #[vi i0, vi i1, vi i2, vi i3, vi i4, vi 0, vi 0, vi (f0_v33 i4), vi (f0_v38 i2), vi 1, vi 0, .val (.ref b18), vi 2, vi 3, vi 1, vi 3, vi 1, vi 1, vi 2] [(.int (3 : Int32)), (.int (3 : Int32)), (.int (3 : Int32)), (.int (2 : Int32)), (.ref b18), (.ref b22), (.ref b22)])) (fun t k => ?_) ?_
          · refine XS.dup X22.here hx rfl (hb hby at_555) rfl rfl ?_
            refine XS.aload X22.here hx rfl (hb hby at_556) rfl rfl ?_
            refine XS.iload X22.here hx rfl (hb hby at_558) rfl ?_
            refine XS.iload X22.here hx rfl (hb hby at_560) rfl ?_
            refine XS.iload X22.here hx rfl (hb hby at_562) rfl ?_
            refine XS.iload X22.here hx rfl (hb hby at_564) rfl ?_
            exact k
          have f24 : AI Z h22 b18 .byte 3 (f0_g245 i2) := (V21.ext E22)
          obtain ⟨_, _, ⟨T23, L23, k23, n23⟩, -, X23, ⟨Lc23, hQ23, l23, y23, z23⟩, st23⟩ := X22.specialBack hx (y := (⟨"com/example/brief_locator/brieflocator/interchange/CanonicalForm", "<init>", "([BIIII)V"⟩ : MethodName)) rfl hown (mvT hZ (hw _ (List.mem_of_getElem? (i := 5) rfl))) (mvT hZ (hw _ (List.mem_of_getElem? (i := 6) rfl))) (mvT hZ (hw _ (List.mem_of_getElem? (i := 7) rfl))) (by decide) (backOf (W := 1) (rmctn l Z a0 hw [] b22 b18 (2 : Int32) (3 : Int32) (3 : Int32) (3 : Int32) 3 (f0_g245 i2) h22 n0 (Nat.le_trans (Nat.le_trans (Nat.le_trans (Nat.le_trans (Nat.le_trans Z0 E18.1) (Keep.of_wr W19).1) (Keep.of_wr W20).1) (Keep.of_wr W21).1) E22.1) A22 g_b22 F22_12 F22_14 F22_16 F22_18 F22_20 F22_25 F22_27 F22_37 F22_52 f24 ne_b18_b22 (by decide) (by decide) (by decide)) hZ (hw _ (List.mem_of_getElem? (i := 7) rfl)) (hw _ (List.mem_of_getElem? (i := 4) rfl)) (by decide) (by decide)) (g := (mkF m 566 #[vi i0, vi i1, vi i2, vi i3, vi i4, vi 0, vi 0, vi (f0_v33 i4), vi (f0_v38 i2), vi 1, vi 0, .val (.ref b18), vi 2, vi 3, vi 1, vi 3, vi 1, vi 1, vi 2] [(.int (3 : Int32)), (.int (3 : Int32)), (.int (3 : Int32)), (.int (2 : Int32)), (.ref b18), (.ref b22), (.ref b22)])) rfl (by rw [hml]; rfl) (Steps.refl _) (a := b22) (argsL := [(.ref b18), (.int (2 : Int32)), (.int (3 : Int32)), (.int (3 : Int32)), (.int (3 : Int32))]) (rest := [(.ref b22)]) (lenOf pd_0 rfl) rfl (by show 2 * 0 + _ ≤ _; exact Nat.le_of_eq rfl) (hb hby at_566) (fun _ _ => ⟨rfl, e22, (by decide : 2 + 0 ≤ _), (by decide : 13 + 0 ≤ _)⟩)
          dsimp only [Pt.U, Pt.locs, Pt.cells, Pt.slots] at X23 l23 y23 z23 st23 hQ23
          subst l23 y23 z23
          obtain ⟨rfl, N23q, K23, u23_0, u23_1, u23_2, u23_3, u23_4⟩ := hQ23
          have N23 := Fr.app N21 N23q
          obtain ⟨Lh23, X23, N23⟩ := hide X23 N23 (C := 2) (S := 13) (by decide) (by decide)
          refine Outs.to st23 ?_
          refine Outs.of (U' := T23.setTop (mkF m 573 #[vi i0, vi i1, vi i2, vi i3, vi i4, vi 0, vi 0, vi (f0_v33 i4), vi (f0_v38 i2), vi 1, vi 0, .val (.ref b18), vi 2, vi 3, vi 1, vi 3, .val (.ref b22), vi 1, vi 2] [(.ref b22)])) (fun t k => ?_) ?_
          · refine XS.astore X23.here hx rfl (hb hby at_569) rfl rfl (l' := #[vi i0, vi i1, vi i2, vi i3, vi i4, vi 0, vi 0, vi (f0_v33 i4), vi (f0_v38 i2), vi 1, vi 0, .val (.ref b18), vi 2, vi 3, vi 1, vi 3, .val (.ref b22), vi 1, vi 2]) rfl ?_
            refine XS.aload X23.here hx rfl (hb hby at_571) rfl rfl ?_
            exact k
          have f26 : AI Z T23.heap b18 .byte 3 (f0_g245 i2) := (f24.keep K23 (ninS ne_b18_b22 nin0))
          obtain ⟨cq25, kq25, q25a, q25b, q25c⟩ := isOf hZ rfl u23_0
          obtain ⟨_, _, ⟨T25, L25, k25, n25⟩, -, X25, ⟨Lc25, hQ25, l25, y25, z25⟩, st25⟩ := X23.virtualBack hx (y := (⟨"com/example/brief_locator/brieflocator/interchange/CanonicalForm", "hasRootlessAuthority", "()Z"⟩ : MethodName)) (z := (⟨"com/example/brief_locator/brieflocator/interchange/CanonicalForm", "hasRootlessAuthority", "()Z"⟩ : MethodName)) hown (mvT hZ (hw _ (List.mem_of_getElem? (i := 53) rfl))) (mvT hZ (hw _ (List.mem_of_getElem? (i := 54) rfl))) (notFace_of_selects (args := #[]) (mvT hZ (hw _ (List.mem_of_getElem? (i := 56) rfl)))) (mvT hZ (hw _ (List.mem_of_getElem? (i := 56) rfl))) (mvT hZ (hw _ (List.mem_of_getElem? (i := 55) rfl))) (by decide) (backOf (W := 0) (rmhr l Z a0 hw [] b22 (ctn_out4 (2 : Int32) (3 : Int32) (3 : Int32) (3 : Int32) 3 (f0_g245 i2)) (3 : Int32) (2 : Int32) b18 3 (f0_g245 i2) 2 T23.heap n0 u23_0 u23_4 u23_3 u23_2 u23_1 f26 rfl (by decide)) hZ (hw _ (List.mem_of_getElem? (i := 57) rfl)) (hw _ (List.mem_of_getElem? (i := 4) rfl)) (by decide) (by decide)) q25a q25c (g := (mkF m 573 #[vi i0, vi i1, vi i2, vi i3, vi i4, vi 0, vi 0, vi (f0_v33 i4), vi (f0_v38 i2), vi 1, vi 0, .val (.ref b18), vi 2, vi 3, vi 1, vi 3, .val (.ref b22), vi 1, vi 2] [(.ref b22)])) rfl (by rw [hml]; rfl) (Steps.refl _) (argsL := []) (rest := []) (lenOf pd_7 rfl) rfl (by show 2 * 0 + _ ≤ _; exact Nat.le_of_eq rfl) (hb hby at_573) (fun _ _ => ⟨rfl, rfl, (by decide : 2 + 0 ≤ _), (by decide : 13 + 0 ≤ _)⟩)
          dsimp only [Pt.U, Pt.locs, Pt.cells, Pt.slots] at X25 l25 y25 z25 st25 hQ25
          subst l25 y25 z25
          obtain ⟨rfl, N25q, e25⟩ := hQ25
          have N25 := Fr.app N23 N25q
          obtain ⟨Lh25, X25, N25⟩ := hide X25 N25 (C := 2) (S := 13) (by decide) (by decide)
          refine Outs.to st25 ?_
          refine Outs.of (U' := T25.setTop (mkF m 586 #[vi i0, vi i1, vi i2, vi i3, vi i4, vi 0, vi 0, vi (f0_v33 i4), vi (f0_v38 i2), vi 1, vi 0, .val (.ref b18), vi 2, vi 3, vi 1, vi 3, .val (.ref b22), vi 1, vi 2] [(.int (1 : Int32))])) (fun t k => ?_) ?_
          · refine XS.iload X25.here hx rfl (hb hby at_576) rfl ?_
            refine XS.icmpNo X25.here hx rfl (hb hby at_578) rfl (teq (law_x2 i0 i1 i2 i3 i4 hc11 hc68)).2 ?_
            refine XS.iconst X25.here hx rfl (hb hby at_581) ?_
            refine XS.goto X25.here hx rfl (pc0 := 582) (pc' := 586) rfl (hb hby at_582) (by decide) (by decide) ?_
            exact k
          exact Outs.retN (t := .boolean) (z := (1 : Int32)) X25 hx hret (by simp) (hb hby at_586) hlk (by decide) (by decide) e25 ⟨rfl, N25⟩
        · refine Outs.of (U' := s₁.setTop (mkF m 71 #[vi i0, vi i1, vi i2, vi i3, vi i4, vi 0, vi 0, vi (f0_v33 i4), vi (f0_v38 i2), vi 1, vi 0, .unset, .unset, .unset, .unset, .unset, .unset, .unset, .unset] [])) (fun t k => ?_) ?_
          · refine XS.ifNo X0.here hx rfl (hb hby at_68) rfl ((if0 _ _).trans (feq hc68).1) ?_
            exact k
          refine Outs.of (U' := s₁.setTop (mkF m 152 #[vi i0, vi i1, vi i2, vi i3, vi i4, vi 0, vi 0, vi (f0_v33 i4), vi (f0_v38 i2), vi 1, vi 0, .unset, .unset, .unset, .unset, vi 1, vi 2, vi 1, vi 2] [(.int (4 : Int32))])) (fun t k => ?_) ?_
          · refine XS.iconst X0.here hx rfl (hb hby at_71) ?_
            refine XS.goto X0.here hx rfl (pc0 := 72) (pc' := 76) rfl (hb hby at_72) (by decide) (by decide) ?_
            refine XS.istore X0.here hx rfl (hb hby at_76) rfl (l' := #[vi i0, vi i1, vi i2, vi i3, vi i4, vi 0, vi 0, vi (f0_v33 i4), vi (f0_v38 i2), vi 1, vi 0, .unset, .unset, .unset, .unset, vi 1, .unset, .unset, .unset]) rfl ?_
            refine XS.iload X0.here hx rfl (hb hby at_78) rfl ?_
            refine XS.ifNo X0.here hx rfl (hb hby at_80) rfl ((if0 _ _).trans (feq (show ¬ ((1 : Int32) = (0 : Int32)) from (by decide))).1) ?_
            refine XS.iconst X0.here hx rfl (hb hby at_83) ?_
            refine XS.goto X0.here hx rfl (pc0 := 84) (pc' := 88) rfl (hb hby at_84) (by decide) (by decide) ?_
            refine XS.istore X0.here hx rfl (hb hby at_88) rfl (l' := #[vi i0, vi i1, vi i2, vi i3, vi i4, vi 0, vi 0, vi (f0_v33 i4), vi (f0_v38 i2), vi 1, vi 0, .unset, .unset, .unset, .unset, vi 1, vi 2, .unset, .unset]) rfl ?_
            refine XS.iload X0.here hx rfl (hb hby at_90) rfl ?_
            refine XS.iconst X0.here hx rfl (hb hby at_92) ?_
            refine XS.icmpYes X0.here hx rfl (pc0 := 93) (pc' := 100) rfl (hb hby at_93) rfl (feq (show ¬ ((1 : Int32) = (3 : Int32)) from (by decide))).2 (by decide) (by decide) ?_
            refine XS.iload X0.here hx rfl (hb hby at_100) rfl ?_
            refine XS.ifYes X0.here hx rfl (pc0 := 102) (pc' := 114) rfl (hb hby at_102) rfl ((if0 _ _).trans (feq (show ¬ ((1 : Int32) = (0 : Int32)) from (by decide))).2) (by decide) (by decide) ?_
            refine XS.iconst X0.here hx rfl (hb hby at_114) ?_
            refine XS.istore X0.here hx rfl (hb hby at_115) rfl (l' := #[vi i0, vi i1, vi i2, vi i3, vi i4, vi 0, vi 0, vi (f0_v33 i4), vi (f0_v38 i2), vi 1, vi 0, .unset, .unset, .unset, .unset, vi 1, vi 2, vi 1, .unset]) rfl ?_
            refine XS.iconst X0.here hx rfl (hb hby at_117) ?_
            refine XS.iload X0.here hx rfl (hb hby at_118) rfl ?_
            refine XS.ifNo X0.here hx rfl (hb hby at_120) rfl ((if0 _ _).trans (tlt (show (0 : Int32) < (1 : Int32) from (by decide))).2.2.2) ?_
            refine XS.iconst X0.here hx rfl (hb hby at_123) ?_
            refine XS.goto X0.here hx rfl (pc0 := 124) (pc' := 128) rfl (hb hby at_124) (by decide) (by decide) ?_
            refine XS.iadd X0.here hx rfl (hb hby at_128) rfl ?_
            refine XS.iload X0.here hx rfl (hb hby at_129) rfl ?_
            refine XS.ifYes X0.here hx rfl (pc0 := 131) (pc' := 138) rfl (hb hby at_131) rfl ((if0 _ _).trans (teq (show (0 : Int32) = (0 : Int32) from (by decide))).1) (by decide) (by decide) ?_
            refine XS.iconst X0.here hx rfl (hb hby at_138) ?_
            refine XS.iadd X0.here hx rfl (hb hby at_139) rfl ?_
            refine XS.istore X0.here hx rfl (hb hby at_140) rfl (l' := #[vi i0, vi i1, vi i2, vi i3, vi i4, vi 0, vi 0, vi (f0_v33 i4), vi (f0_v38 i2), vi 1, vi 0, .unset, .unset, .unset, .unset, vi 1, vi 2, vi 1, vi 2]) rfl ?_
            refine XS.iconst X0.here hx rfl (hb hby at_142) ?_
            refine XS.iload X0.here hx rfl (hb hby at_143) rfl ?_
            refine XS.iadd X0.here hx rfl (hb hby at_145) rfl ?_
            refine XS.iload X0.here hx rfl (hb hby at_146) rfl ?_
            refine XS.iadd X0.here hx rfl (hb hby at_148) rfl ?_
            refine XS.iload X0.here hx rfl (hb hby at_149) rfl ?_
            refine XS.iadd X0.here hx rfl (hb hby at_151) rfl ?_
            exact k
          obtain ⟨T27, h27, X27, e27, E27, A27, st27⟩ := newAF X0 hx hZ (aty := .byte) (hw _ (List.mem_of_getElem? (i := 1) rfl)) e0 (f := (mkF m 152 #[vi i0, vi i1, vi i2, vi i3, vi i4, vi 0, vi 0, vi (f0_v33 i4), vi (f0_v38 i2), vi 1, vi 0, .unset, .unset, .unset, .unset, vi 1, vi 2, vi 1, vi 2] [(.int (4 : Int32))])) rfl (hb hby at_152) rfl (k := 4) rfl (cap := 4) (by decide) (by decide) (by decide) (by decide)
          obtain ⟨b27, g27⟩ : ∃ z, z = h0.size := ⟨_, rfl⟩
          rw [← g27] at A27 st27
          have g_b27 : n0 ≤ b27 := Nat.le_trans Z0 (Nat.le_of_eq g27.symm)
          have V27 : AI Z h27 b27 .byte 4 (fun _ => (0 : Int32)) := A27
          refine Outs.of st27 ?_
          refine Outs.of (U' := T27.setTop (mkF m 166 #[vi i0, vi i1, vi i2, vi i3, vi i4, vi 0, vi 0, vi (f0_v33 i4), vi (f0_v38 i2), vi 1, vi 0, .val (.ref b27), .unset, .unset, .unset, vi 1, vi 2, vi 1, vi 2] [(.int ((130 : Int32).toInt8.toInt32)), (.int (0 : Int32)), (.ref b27)])) (fun t k => ?_) ?_
          · refine XS.astore X27.here hx rfl (hb hby at_154) rfl rfl (l' := #[vi i0, vi i1, vi i2, vi i3, vi i4, vi 0, vi 0, vi (f0_v33 i4), vi (f0_v38 i2), vi 1, vi 0, .val (.ref b27), .unset, .unset, .unset, vi 1, vi 2, vi 1, vi 2]) rfl ?_
            refine XS.aload X27.here hx rfl (hb hby at_156) rfl rfl ?_
            refine XS.iconst X27.here hx rfl (hb hby at_158) ?_
            refine XS.sipush X27.here hx rfl (hb hby at_159) ?_
            refine XS.iload X27.here hx rfl (hb hby at_162) rfl ?_
            refine XS.iadd X27.here hx rfl (hb hby at_164) rfl ?_
            refine XS.i2b X27.here hx rfl (hb hby at_165) rfl ?_
            exact k
          obtain ⟨T28, h28, X28, e28, W28, V28, st28⟩ := puB X27 hx hZ e27 V27 (j := (0 : Int32)) (x := ((130 : Int32).toInt8.toInt32)) (k := 0) rfl (by decide) (f := (mkF m 166 #[vi i0, vi i1, vi i2, vi i3, vi i4, vi 0, vi 0, vi (f0_v33 i4), vi (f0_v38 i2), vi 1, vi 0, .val (.ref b27), .unset, .unset, .unset, vi 1, vi 2, vi 1, vi 2] [(.int ((130 : Int32).toInt8.toInt32)), (.int (0 : Int32)), (.ref b27)])) rfl rfl (hb hby at_166)
          replace V28 : AI Z h28 b27 .byte 4 f0_g166a := V28
          have N28 := Fr.snoc X28 N0 g_b27
          obtain ⟨Lh28, X28, N28⟩ := hide X28 N28 (C := 1) (S := 4) (by decide) (by decide)
          refine Outs.of st28 ?_
          refine Outs.of (U' := T28.setTop (mkF m 177 #[vi i0, vi i1, vi i2, vi i3, vi i4, vi 0, vi 0, vi (f0_v33 i4), vi (f0_v38 i2), vi 1, vi 0, .val (.ref b27), .unset, .unset, .unset, vi 1, vi 2, vi 1, vi 2] [(.int (97 : Int32)), (.int (1 : Int32)), (.ref b27)])) (fun t k => ?_) ?_
          · refine XS.iload X28.here hx rfl (hb hby at_167) rfl ?_
            refine XS.ifNo X28.here hx rfl (hb hby at_169) rfl ((if0 _ _).trans (feq (show ¬ ((1 : Int32) = (0 : Int32)) from (by decide))).1) ?_
            refine XS.aload X28.here hx rfl (hb hby at_172) rfl rfl ?_
            refine XS.iconst X28.here hx rfl (hb hby at_174) ?_
            refine XS.bipush X28.here hx rfl (hb hby at_175) ?_
            exact k
          obtain ⟨T29, h29, X29, e29, W29, V29, st29⟩ := puB X28 hx hZ e28 V28 (j := (1 : Int32)) (x := (97 : Int32)) (k := 1) rfl (by decide) (f := (mkF m 177 #[vi i0, vi i1, vi i2, vi i3, vi i4, vi 0, vi 0, vi (f0_v33 i4), vi (f0_v38 i2), vi 1, vi 0, .val (.ref b27), .unset, .unset, .unset, vi 1, vi 2, vi 1, vi 2] [(.int (97 : Int32)), (.int (1 : Int32)), (.ref b27)])) rfl rfl (hb hby at_177)
          replace V29 : AI Z h29 b27 .byte 4 f0_g177a := V29
          have N29 := Fr.snoc X29 N28 g_b27
          obtain ⟨Lh29, X29, N29⟩ := hide X29 N29 (C := 1) (S := 4) (by decide) (by decide)
          refine Outs.of st29 ?_
          refine Outs.of (U' := T29.setTop (mkF m 190 #[vi i0, vi i1, vi i2, vi i3, vi i4, vi 0, vi 0, vi (f0_v33 i4), vi (f0_v38 i2), vi 1, vi 0, .val (.ref b27), .unset, .unset, .unset, vi 1, vi 2, vi 1, vi 2] [(.int (((97 : Int32) + ((f0_v38 i2) % (26 : Int32))).toInt8.toInt32)), (.int (2 : Int32)), (.ref b27)])) (fun t k => ?_) ?_
          · refine XS.aload X29.here hx rfl (hb hby at_178) rfl rfl ?_
            refine XS.iconst X29.here hx rfl (hb hby at_180) ?_
            refine XS.bipush X29.here hx rfl (hb hby at_181) ?_
            refine XS.iload X29.here hx rfl (hb hby at_183) rfl ?_
            refine XS.bipush X29.here hx rfl (hb hby at_185) ?_
            refine iremM X29 hx rfl (hb hby at_187) rfl (by decide) ?_
            refine XS.iadd X29.here hx rfl (hb hby at_188) rfl ?_
            refine XS.i2b X29.here hx rfl (hb hby at_189) rfl ?_
            exact k
          obtain ⟨T30, h30, X30, e30, W30, V30, st30⟩ := puB X29 hx hZ e29 V29 (j := (2 : Int32)) (x := (((97 : Int32) + ((f0_v38 i2) % (26 : Int32))).toInt8.toInt32)) (k := 2) rfl (by decide) (f := (mkF m 190 #[vi i0, vi i1, vi i2, vi i3, vi i4, vi 0, vi 0, vi (f0_v33 i4), vi (f0_v38 i2), vi 1, vi 0, .val (.ref b27), .unset, .unset, .unset, vi 1, vi 2, vi 1, vi 2] [(.int (((97 : Int32) + ((f0_v38 i2) % (26 : Int32))).toInt8.toInt32)), (.int (2 : Int32)), (.ref b27)])) rfl rfl (hb hby at_190)
          replace V30 : AI Z h30 b27 .byte 4 (f0_g190a i2) := V30
          have N30 := Fr.snoc X30 N29 g_b27
          obtain ⟨Lh30, X30, N30⟩ := hide X30 N30 (C := 1) (S := 4) (by decide) (by decide)
          refine Outs.of st30 ?_
          refine Outs.of (U' := T30.setTop (mkF m 245 #[vi i0, vi i1, vi i2, vi i3, vi i4, vi 0, vi 0, vi (f0_v33 i4), vi (f0_v38 i2), vi 1, vi 0, .val (.ref b27), vi 3, .unset, .unset, vi 1, vi 2, vi 1, vi 2] [(.int (-11 : Int32)), (.int (3 : Int32)), (.ref b27)])) (fun t k => ?_) ?_
          · refine XS.goto X30.here hx rfl (pc0 := 191) (pc' := 207) rfl (hb hby at_191) (by decide) (by decide) ?_
            refine XS.iconst X30.here hx rfl (hb hby at_207) ?_
            refine XS.iload X30.here hx rfl (hb hby at_208) rfl ?_
            refine XS.iadd X30.here hx rfl (hb hby at_210) rfl ?_
            refine XS.istore X30.here hx rfl (hb hby at_211) rfl (l' := #[vi i0, vi i1, vi i2, vi i3, vi i4, vi 0, vi 0, vi (f0_v33 i4), vi (f0_v38 i2), vi 1, vi 0, .val (.ref b27), vi 3, .unset, .unset, vi 1, vi 2, vi 1, vi 2]) rfl ?_
            refine XS.iload X30.here hx rfl (hb hby at_213) rfl ?_
            refine XS.ifYes X30.here hx rfl (pc0 := 215) (pc' := 233) rfl (hb hby at_215) rfl ((if0 _ _).trans (feq (show ¬ ((1 : Int32) = (0 : Int32)) from (by decide))).2) (by decide) (by decide) ?_
            refine XS.iload X30.here hx rfl (hb hby at_233) rfl ?_
            refine XS.iconst X30.here hx rfl (hb hby at_235) ?_
            refine XS.icmpNo X30.here hx rfl (hb hby at_236) rfl (teq (show (1 : Int32) = (1 : Int32) from (by decide))).2 ?_
            refine XS.aload X30.here hx rfl (hb hby at_239) rfl rfl ?_
            refine XS.iload X30.here hx rfl (hb hby at_241) rfl ?_
            refine XS.bipush X30.here hx rfl (hb hby at_243) ?_
            exact k
          obtain ⟨T31, h31, X31, e31, W31, V31, st31⟩ := puB X30 hx hZ e30 V30 (j := (3 : Int32)) (x := (-11 : Int32)) (k := 3) rfl (by decide) (f := (mkF m 245 #[vi i0, vi i1, vi i2, vi i3, vi i4, vi 0, vi 0, vi (f0_v33 i4), vi (f0_v38 i2), vi 1, vi 0, .val (.ref b27), vi 3, .unset, .unset, vi 1, vi 2, vi 1, vi 2] [(.int (-11 : Int32)), (.int (3 : Int32)), (.ref b27)])) rfl rfl (hb hby at_245)
          replace V31 : AI Z h31 b27 .byte 4 (f0_g245a i2) := V31
          have N31 := Fr.snoc X31 N30 g_b27
          obtain ⟨Lh31, X31, N31⟩ := hide X31 N31 (C := 1) (S := 4) (by decide) (by decide)
          refine Outs.of st31 ?_
          refine Outs.of (U' := T31.setTop (mkF m 552 #[vi i0, vi i1, vi i2, vi i3, vi i4, vi 0, vi 0, vi (f0_v33 i4), vi (f0_v38 i2), vi 1, vi 0, .val (.ref b27), vi 3, vi 4, vi 1, vi 4, vi 2, vi 1, vi 2] [])) (fun t k => ?_) ?_
          · refine XS.goto X31.here hx rfl (pc0 := 246) (pc' := 296) rfl (hb hby at_246) (by decide) (by decide) ?_
            refine XS.iload X31.here hx rfl (hb hby at_296) rfl ?_
            refine XS.iload X31.here hx rfl (hb hby at_298) rfl ?_
            refine XS.iadd X31.here hx rfl (hb hby at_300) rfl ?_
            refine XS.istore X31.here hx rfl (hb hby at_301) rfl (l' := #[vi i0, vi i1, vi i2, vi i3, vi i4, vi 0, vi 0, vi (f0_v33 i4), vi (f0_v38 i2), vi 1, vi 0, .val (.ref b27), vi 3, vi 4, .unset, vi 1, vi 2, vi 1, vi 2]) rfl ?_
            refine XS.iload X31.here hx rfl (hb hby at_303) rfl ?_
            refine XS.iconst X31.here hx rfl (hb hby at_305) ?_
            refine XS.icmpNo X31.here hx rfl (hb hby at_306) rfl (teq (show (1 : Int32) = (1 : Int32) from (by decide))).2 ?_
            refine XS.iconst X31.here hx rfl (hb hby at_309) ?_
            refine XS.goto X31.here hx rfl (pc0 := 310) (pc' := 314) rfl (hb hby at_310) (by decide) (by decide) ?_
            refine XS.istore X31.here hx rfl (hb hby at_314) rfl (l' := #[vi i0, vi i1, vi i2, vi i3, vi i4, vi 0, vi 0, vi (f0_v33 i4), vi (f0_v38 i2), vi 1, vi 0, .val (.ref b27), vi 3, vi 4, vi 1, vi 1, vi 2, vi 1, vi 2]) rfl ?_
            refine XS.goto X31.here hx rfl (pc0 := 316) (pc' := 515) rfl (hb hby at_316) (by decide) (by decide) ?_
            refine XS.iload X31.here hx rfl (hb hby at_515) rfl ?_
            refine XS.ifYes X31.here hx rfl (pc0 := 517) (pc' := 545) rfl (hb hby at_517) rfl ((if0 _ _).trans (teq (show (0 : Int32) = (0 : Int32) from (by decide))).1) (by decide) (by decide) ?_
            refine XS.iload X31.here hx rfl (hb hby at_545) rfl ?_
            refine XS.iload X31.here hx rfl (hb hby at_547) rfl ?_
            refine XS.iadd X31.here hx rfl (hb hby at_549) rfl ?_
            refine XS.istore X31.here hx rfl (hb hby at_550) rfl (l' := #[vi i0, vi i1, vi i2, vi i3, vi i4, vi 0, vi 0, vi (f0_v33 i4), vi (f0_v38 i2), vi 1, vi 0, .val (.ref b27), vi 3, vi 4, vi 1, vi 4, vi 2, vi 1, vi 2]) rfl ?_
            exact k
          obtain ⟨T32, h32, X32, e32, E32, A32, D32, -, st32⟩ := newO X31 hx hZ hown (hw _ (List.mem_of_getElem? (i := 2) rfl)) (hw _ (List.mem_of_getElem? (i := 3) rfl)) (hw _ (List.mem_of_getElem? (i := 4) rfl)) e31 (g := (mkF m 552 #[vi i0, vi i1, vi i2, vi i3, vi i4, vi 0, vi 0, vi (f0_v33 i4), vi (f0_v38 i2), vi 1, vi 0, .val (.ref b27), vi 3, vi 4, vi 1, vi 4, vi 2, vi 1, vi 2] [])) rfl (hb hby at_552) (by decide) (by decide)
          obtain ⟨b32, g32⟩ : ∃ z, z = h31.size := ⟨_, rfl⟩
          rw [← g32] at A32 D32 st32
          have g_b32 : n0 ≤ b32 := Nat.le_trans (Nat.le_trans (Nat.le_trans (Nat.le_trans (Nat.le_trans (Nat.le_trans Z0 E27.1) (Keep.of_wr W28).1) (Keep.of_wr W29).1) (Keep.of_wr W30).1) (Keep.of_wr W31).1) (Nat.le_of_eq g32.symm)
          have ne_b27_b32 : b27 ≠ b32 := Nat.ne_of_lt (Nat.lt_of_lt_of_eq V31.lt g32.symm)
          have F32_12 : Fld Z h32 b32 "com/example/brief_locator/brieflocator/interchange/CanonicalForm" "bytes" "[B" .null := D32 (Or.inr (hw _ (List.mem_of_getElem? (i := 12) rfl))) (ty := (.array .byte)) (by decide)
          have F32_14 : Fld Z h32 b32 "com/example/brief_locator/brieflocator/interchange/CanonicalForm" "firstEnd" "I" (.int (0 : Int32)) := D32 (Or.inr (hw _ (List.mem_of_getElem? (i := 14) rfl))) (ty := .int) (by decide)
          have F32_16 : Fld Z h32 b32 "com/example/brief_locator/brieflocator/interchange/CanonicalForm" "pathStart" "I" (.int (0 : Int32)) := D32 (Or.inr (hw _ (List.mem_of_getElem? (i := 16) rfl))) (ty := .int) (by decide)
          have F32_18 : Fld Z h32 b32 "com/example/brief_locator/brieflocator/interchange/CanonicalForm" "pathEnd" "I" (.int (0 : Int32)) := D32 (Or.inr (hw _ (List.mem_of_getElem? (i := 18) rfl))) (ty := .int) (by decide)
          have F32_20 : Fld Z h32 b32 "com/example/brief_locator/brieflocator/interchange/CanonicalForm" "queryEnd" "I" (.int (0 : Int32)) := D32 (Or.inr (hw _ (List.mem_of_getElem? (i := 20) rfl))) (ty := .int) (by decide)
          have F32_25 : Fld Z h32 b32 "com/example/brief_locator/brieflocator/interchange/CanonicalForm" "hasScheme" "Z" (.int (0 : Int32)) := D32 (Or.inr (hw _ (List.mem_of_getElem? (i := 25) rfl))) (ty := .boolean) (by decide)
          have F32_27 : Fld Z h32 b32 "com/example/brief_locator/brieflocator/interchange/CanonicalForm" "hasAuthority" "Z" (.int (0 : Int32)) := D32 (Or.inr (hw _ (List.mem_of_getElem? (i := 27) rfl))) (ty := .boolean) (by decide)
          have F32_37 : Fld Z h32 b32 "com/example/brief_locator/brieflocator/interchange/CanonicalForm" "pathSegments" "I" (.int (0 : Int32)) := D32 (Or.inr (hw _ (List.mem_of_getElem? (i := 37) rfl))) (ty := .int) (by decide)
          have F32_52 : Fld Z h32 b32 "com/example/brief_locator/brieflocator/interchange/CanonicalForm" "pathSegmentsStart" "I" (.int (0 : Int32)) := D32 (Or.inr (hw _ (List.mem_of_getElem? (i := 52) rfl))) (ty := .int) (by decide)
          refine Outs.of st32 ?_
          refine Outs.of (U' := T32.setTop (mkF m 566 #[vi i0, vi i1, vi i2, vi i3, vi i4, vi 0, vi 0, vi (f0_v33 i4), vi (f0_v38 i2), vi 1, vi 0, .val (.ref b27), vi 3, vi 4, vi 1, vi 4, vi 2, vi 1, vi 2] [(.int (4 : Int32)), (.int (4 : Int32)), (.int (4 : Int32)), (.int (3 : Int32)), (.ref b27), (.ref b32), (.ref b32)])) (fun t k => ?_) ?_
          · refine XS.dup X32.here hx rfl (hb hby at_555) rfl rfl ?_
            refine XS.aload X32.here hx rfl (hb hby at_556) rfl rfl ?_
            refine XS.iload X32.here hx rfl (hb hby at_558) rfl ?_
            refine XS.iload X32.here hx rfl (hb hby at_560) rfl ?_
            refine XS.iload X32.here hx rfl (hb hby at_562) rfl ?_
            refine XS.iload X32.here hx rfl (hb hby at_564) rfl ?_
            exact k
          have f34 : AI Z h32 b27 .byte 4 (f0_g245a i2) := (V31.ext E32)
          obtain ⟨_, _, ⟨T33, L33, k33, n33⟩, -, X33, ⟨Lc33, hQ33, l33, y33, z33⟩, st33⟩ := X32.specialBack hx (y := (⟨"com/example/brief_locator/brieflocator/interchange/CanonicalForm", "<init>", "([BIIII)V"⟩ : MethodName)) rfl hown (mvT hZ (hw _ (List.mem_of_getElem? (i := 5) rfl))) (mvT hZ (hw _ (List.mem_of_getElem? (i := 6) rfl))) (mvT hZ (hw _ (List.mem_of_getElem? (i := 7) rfl))) (by decide) (backOf (W := 1) (rmctn l Z a0 hw [] b32 b27 (3 : Int32) (4 : Int32) (4 : Int32) (4 : Int32) 4 (f0_g245a i2) h32 n0 (Nat.le_trans (Nat.le_trans (Nat.le_trans (Nat.le_trans (Nat.le_trans (Nat.le_trans Z0 E27.1) (Keep.of_wr W28).1) (Keep.of_wr W29).1) (Keep.of_wr W30).1) (Keep.of_wr W31).1) E32.1) A32 g_b32 F32_12 F32_14 F32_16 F32_18 F32_20 F32_25 F32_27 F32_37 F32_52 f34 ne_b27_b32 (by decide) (by decide) (by decide)) hZ (hw _ (List.mem_of_getElem? (i := 7) rfl)) (hw _ (List.mem_of_getElem? (i := 4) rfl)) (by decide) (by decide)) (g := (mkF m 566 #[vi i0, vi i1, vi i2, vi i3, vi i4, vi 0, vi 0, vi (f0_v33 i4), vi (f0_v38 i2), vi 1, vi 0, .val (.ref b27), vi 3, vi 4, vi 1, vi 4, vi 2, vi 1, vi 2] [(.int (4 : Int32)), (.int (4 : Int32)), (.int (4 : Int32)), (.int (3 : Int32)), (.ref b27), (.ref b32), (.ref b32)])) rfl (by rw [hml]; rfl) (Steps.refl _) (a := b32) (argsL := [(.ref b27), (.int (3 : Int32)), (.int (4 : Int32)), (.int (4 : Int32)), (.int (4 : Int32))]) (rest := [(.ref b32)]) (lenOf pd_0 rfl) rfl (by show 2 * 0 + _ ≤ _; exact Nat.le_of_eq rfl) (hb hby at_566) (fun _ _ => ⟨rfl, e32, (by decide : 2 + 0 ≤ _), (by decide : 14 + 0 ≤ _)⟩)
          dsimp only [Pt.U, Pt.locs, Pt.cells, Pt.slots] at X33 l33 y33 z33 st33 hQ33
          subst l33 y33 z33
          obtain ⟨rfl, N33q, K33, u33_0, u33_1, u33_2, u33_3, u33_4⟩ := hQ33
          have N33 := Fr.app N31 N33q
          obtain ⟨Lh33, X33, N33⟩ := hide X33 N33 (C := 2) (S := 14) (by decide) (by decide)
          refine Outs.to st33 ?_
          refine Outs.of (U' := T33.setTop (mkF m 573 #[vi i0, vi i1, vi i2, vi i3, vi i4, vi 0, vi 0, vi (f0_v33 i4), vi (f0_v38 i2), vi 1, vi 0, .val (.ref b27), vi 3, vi 4, vi 1, vi 4, .val (.ref b32), vi 1, vi 2] [(.ref b32)])) (fun t k => ?_) ?_
          · refine XS.astore X33.here hx rfl (hb hby at_569) rfl rfl (l' := #[vi i0, vi i1, vi i2, vi i3, vi i4, vi 0, vi 0, vi (f0_v33 i4), vi (f0_v38 i2), vi 1, vi 0, .val (.ref b27), vi 3, vi 4, vi 1, vi 4, .val (.ref b32), vi 1, vi 2]) rfl ?_
            refine XS.aload X33.here hx rfl (hb hby at_571) rfl rfl ?_
            exact k
          have f36 : AI Z T33.heap b27 .byte 4 (f0_g245a i2) := (f34.keep K33 (ninS ne_b27_b32 nin0))
          obtain ⟨cq35, kq35, q35a, q35b, q35c⟩ := isOf hZ rfl u33_0
          obtain ⟨_, _, ⟨T35, L35, k35, n35⟩, -, X35, ⟨Lc35, hQ35, l35, y35, z35⟩, st35⟩ := X33.virtualBack hx (y := (⟨"com/example/brief_locator/brieflocator/interchange/CanonicalForm", "hasRootlessAuthority", "()Z"⟩ : MethodName)) (z := (⟨"com/example/brief_locator/brieflocator/interchange/CanonicalForm", "hasRootlessAuthority", "()Z"⟩ : MethodName)) hown (mvT hZ (hw _ (List.mem_of_getElem? (i := 53) rfl))) (mvT hZ (hw _ (List.mem_of_getElem? (i := 54) rfl))) (notFace_of_selects (args := #[]) (mvT hZ (hw _ (List.mem_of_getElem? (i := 56) rfl)))) (mvT hZ (hw _ (List.mem_of_getElem? (i := 56) rfl))) (mvT hZ (hw _ (List.mem_of_getElem? (i := 55) rfl))) (by decide) (backOf (W := 0) (rmhr l Z a0 hw [] b32 (ctn_out4 (3 : Int32) (4 : Int32) (4 : Int32) (4 : Int32) 4 (f0_g245a i2)) (4 : Int32) (3 : Int32) b27 4 (f0_g245a i2) 3 T33.heap n0 u33_0 u33_4 u33_3 u33_2 u33_1 f36 rfl (by decide)) hZ (hw _ (List.mem_of_getElem? (i := 57) rfl)) (hw _ (List.mem_of_getElem? (i := 4) rfl)) (by decide) (by decide)) q35a q35c (g := (mkF m 573 #[vi i0, vi i1, vi i2, vi i3, vi i4, vi 0, vi 0, vi (f0_v33 i4), vi (f0_v38 i2), vi 1, vi 0, .val (.ref b27), vi 3, vi 4, vi 1, vi 4, .val (.ref b32), vi 1, vi 2] [(.ref b32)])) rfl (by rw [hml]; rfl) (Steps.refl _) (argsL := []) (rest := []) (lenOf pd_7 rfl) rfl (by show 2 * 0 + _ ≤ _; exact Nat.le_of_eq rfl) (hb hby at_573) (fun _ _ => ⟨rfl, rfl, (by decide : 2 + 0 ≤ _), (by decide : 14 + 0 ≤ _)⟩)
          dsimp only [Pt.U, Pt.locs, Pt.cells, Pt.slots] at X35 l35 y35 z35 st35 hQ35
          subst l35 y35 z35
          obtain ⟨rfl, N35q, e35⟩ := hQ35
          have N35 := Fr.app N33 N35q
          obtain ⟨Lh35, X35, N35⟩ := hide X35 N35 (C := 2) (S := 14) (by decide) (by decide)
          refine Outs.to st35 ?_
          refine Outs.of (U' := T35.setTop (mkF m 586 #[vi i0, vi i1, vi i2, vi i3, vi i4, vi 0, vi 0, vi (f0_v33 i4), vi (f0_v38 i2), vi 1, vi 0, .val (.ref b27), vi 3, vi 4, vi 1, vi 4, .val (.ref b32), vi 1, vi 2] [(.int (1 : Int32))])) (fun t k => ?_) ?_
          · refine XS.iload X35.here hx rfl (hb hby at_576) rfl ?_
            refine XS.icmpNo X35.here hx rfl (hb hby at_578) rfl (teq (law_x3 i0 i1 i2 i3 i4 hc11 hc68)).2 ?_
            refine XS.iconst X35.here hx rfl (hb hby at_581) ?_
            refine XS.goto X35.here hx rfl (pc0 := 582) (pc' := 586) rfl (hb hby at_582) (by decide) (by decide) ?_
            exact k
          exact Outs.retN (t := .boolean) (z := (1 : Int32)) X35 hx hret (by simp) (hb hby at_586) hlk (by decide) (by decide) e35 ⟨rfl, N35⟩
      · rw [q9]
        show Outs p e below s _ _ _ (s₁.setTop (mkF m 65 #[vi i0, vi i1, vi i2, vi i3, vi i4, vi 0, vi 0, vi (f0_v33 i4), vi (f0_v38 i2), vi 2, vi 0, .unset, .unset, .unset, .unset, .unset, .unset, .unset, .unset] []))
        refine Outs.of (U' := s₁.setTop (mkF m 68 #[vi i0, vi i1, vi i2, vi i3, vi i4, vi 0, vi 0, vi (f0_v33 i4), vi (f0_v38 i2), vi 2, vi 0, .unset, .unset, .unset, .unset, .unset, .unset, .unset, .unset] [(.int (i2 &&& (1 : Int32)))])) (fun t k => ?_) ?_
        · refine XS.iloadN X0.here hx rfl (hb hby at_65) rfl ?_
          refine XS.iconst X0.here hx rfl (hb hby at_66) ?_
          refine XS.iand X0.here hx rfl (hb hby at_67) rfl ?_
          exact k
        by_cases hc68 : (i2 &&& (1 : Int32)) = (0 : Int32)
        · refine Outs.of (U' := s₁.setTop (mkF m 75 #[vi i0, vi i1, vi i2, vi i3, vi i4, vi 0, vi 0, vi (f0_v33 i4), vi (f0_v38 i2), vi 2, vi 0, .unset, .unset, .unset, .unset, .unset, .unset, .unset, .unset] [])) (fun t k => ?_) ?_
          · refine XS.ifYes X0.here hx rfl (pc0 := 68) (pc' := 75) rfl (hb hby at_68) rfl ((if0 _ _).trans (teq hc68).1) (by decide) (by decide) ?_
            exact k
          refine Outs.of (U' := s₁.setTop (mkF m 152 #[vi i0, vi i1, vi i2, vi i3, vi i4, vi 0, vi 0, vi (f0_v33 i4), vi (f0_v38 i2), vi 2, vi 0, .unset, .unset, .unset, .unset, vi 0, vi 1, vi 1, vi 2] [(.int (3 : Int32))])) (fun t k => ?_) ?_
          · refine XS.iconst X0.here hx rfl (hb hby at_75) ?_
            refine XS.istore X0.here hx rfl (hb hby at_76) rfl (l' := #[vi i0, vi i1, vi i2, vi i3, vi i4, vi 0, vi 0, vi (f0_v33 i4), vi (f0_v38 i2), vi 2, vi 0, .unset, .unset, .unset, .unset, vi 0, .unset, .unset, .unset]) rfl ?_
            refine XS.iload X0.here hx rfl (hb hby at_78) rfl ?_
            refine XS.ifYes X0.here hx rfl (pc0 := 80) (pc' := 87) rfl (hb hby at_80) rfl ((if0 _ _).trans (teq (show (0 : Int32) = (0 : Int32) from (by decide))).1) (by decide) (by decide) ?_
            refine XS.iconst X0.here hx rfl (hb hby at_87) ?_
            refine XS.istore X0.here hx rfl (hb hby at_88) rfl (l' := #[vi i0, vi i1, vi i2, vi i3, vi i4, vi 0, vi 0, vi (f0_v33 i4), vi (f0_v38 i2), vi 2, vi 0, .unset, .unset, .unset, .unset, vi 0, vi 1, .unset, .unset]) rfl ?_
            refine XS.iload X0.here hx rfl (hb hby at_90) rfl ?_
            refine XS.iconst X0.here hx rfl (hb hby at_92) ?_
            refine XS.icmpYes X0.here hx rfl (pc0 := 93) (pc' := 100) rfl (hb hby at_93) rfl (feq (show ¬ ((2 : Int32) = (3 : Int32)) from (by decide))).2 (by decide) (by decide) ?_
            refine XS.iload X0.here hx rfl (hb hby at_100) rfl ?_
            refine XS.ifYes X0.here hx rfl (pc0 := 102) (pc' := 114) rfl (hb hby at_102) rfl ((if0 _ _).trans (feq (show ¬ ((2 : Int32) = (0 : Int32)) from (by decide))).2) (by decide) (by decide) ?_
            refine XS.iconst X0.here hx rfl (hb hby at_114) ?_
            refine XS.istore X0.here hx rfl (hb hby at_115) rfl (l' := #[vi i0, vi i1, vi i2, vi i3, vi i4, vi 0, vi 0, vi (f0_v33 i4), vi (f0_v38 i2), vi 2, vi 0, .unset, .unset, .unset, .unset, vi 0, vi 1, vi 1, .unset]) rfl ?_
            refine XS.iconst X0.here hx rfl (hb hby at_117) ?_
            refine XS.iload X0.here hx rfl (hb hby at_118) rfl ?_
            refine XS.ifNo X0.here hx rfl (hb hby at_120) rfl ((if0 _ _).trans (tlt (show (0 : Int32) < (1 : Int32) from (by decide))).2.2.2) ?_
            refine XS.iconst X0.here hx rfl (hb hby at_123) ?_
            refine XS.goto X0.here hx rfl (pc0 := 124) (pc' := 128) rfl (hb hby at_124) (by decide) (by decide) ?_
            refine XS.iadd X0.here hx rfl (hb hby at_128) rfl ?_
            refine XS.iload X0.here hx rfl (hb hby at_129) rfl ?_
            refine XS.ifYes X0.here hx rfl (pc0 := 131) (pc' := 138) rfl (hb hby at_131) rfl ((if0 _ _).trans (teq (show (0 : Int32) = (0 : Int32) from (by decide))).1) (by decide) (by decide) ?_
            refine XS.iconst X0.here hx rfl (hb hby at_138) ?_
            refine XS.iadd X0.here hx rfl (hb hby at_139) rfl ?_
            refine XS.istore X0.here hx rfl (hb hby at_140) rfl (l' := #[vi i0, vi i1, vi i2, vi i3, vi i4, vi 0, vi 0, vi (f0_v33 i4), vi (f0_v38 i2), vi 2, vi 0, .unset, .unset, .unset, .unset, vi 0, vi 1, vi 1, vi 2]) rfl ?_
            refine XS.iconst X0.here hx rfl (hb hby at_142) ?_
            refine XS.iload X0.here hx rfl (hb hby at_143) rfl ?_
            refine XS.iadd X0.here hx rfl (hb hby at_145) rfl ?_
            refine XS.iload X0.here hx rfl (hb hby at_146) rfl ?_
            refine XS.iadd X0.here hx rfl (hb hby at_148) rfl ?_
            refine XS.iload X0.here hx rfl (hb hby at_149) rfl ?_
            refine XS.iadd X0.here hx rfl (hb hby at_151) rfl ?_
            exact k
          obtain ⟨T37, h37, X37, e37, E37, A37, st37⟩ := newAF X0 hx hZ (aty := .byte) (hw _ (List.mem_of_getElem? (i := 1) rfl)) e0 (f := (mkF m 152 #[vi i0, vi i1, vi i2, vi i3, vi i4, vi 0, vi 0, vi (f0_v33 i4), vi (f0_v38 i2), vi 2, vi 0, .unset, .unset, .unset, .unset, vi 0, vi 1, vi 1, vi 2] [(.int (3 : Int32))])) rfl (hb hby at_152) rfl (k := 3) rfl (cap := 3) (by decide) (by decide) (by decide) (by decide)
          obtain ⟨b37, g37⟩ : ∃ z, z = h0.size := ⟨_, rfl⟩
          rw [← g37] at A37 st37
          have g_b37 : n0 ≤ b37 := Nat.le_trans Z0 (Nat.le_of_eq g37.symm)
          have V37 : AI Z h37 b37 .byte 3 (fun _ => (0 : Int32)) := A37
          refine Outs.of st37 ?_
          refine Outs.of (U' := T37.setTop (mkF m 166 #[vi i0, vi i1, vi i2, vi i3, vi i4, vi 0, vi 0, vi (f0_v33 i4), vi (f0_v38 i2), vi 2, vi 0, .val (.ref b37), .unset, .unset, .unset, vi 0, vi 1, vi 1, vi 2] [(.int ((130 : Int32).toInt8.toInt32)), (.int (0 : Int32)), (.ref b37)])) (fun t k => ?_) ?_
          · refine XS.astore X37.here hx rfl (hb hby at_154) rfl rfl (l' := #[vi i0, vi i1, vi i2, vi i3, vi i4, vi 0, vi 0, vi (f0_v33 i4), vi (f0_v38 i2), vi 2, vi 0, .val (.ref b37), .unset, .unset, .unset, vi 0, vi 1, vi 1, vi 2]) rfl ?_
            refine XS.aload X37.here hx rfl (hb hby at_156) rfl rfl ?_
            refine XS.iconst X37.here hx rfl (hb hby at_158) ?_
            refine XS.sipush X37.here hx rfl (hb hby at_159) ?_
            refine XS.iload X37.here hx rfl (hb hby at_162) rfl ?_
            refine XS.iadd X37.here hx rfl (hb hby at_164) rfl ?_
            refine XS.i2b X37.here hx rfl (hb hby at_165) rfl ?_
            exact k
          obtain ⟨T38, h38, X38, e38, W38, V38, st38⟩ := puB X37 hx hZ e37 V37 (j := (0 : Int32)) (x := ((130 : Int32).toInt8.toInt32)) (k := 0) rfl (by decide) (f := (mkF m 166 #[vi i0, vi i1, vi i2, vi i3, vi i4, vi 0, vi 0, vi (f0_v33 i4), vi (f0_v38 i2), vi 2, vi 0, .val (.ref b37), .unset, .unset, .unset, vi 0, vi 1, vi 1, vi 2] [(.int ((130 : Int32).toInt8.toInt32)), (.int (0 : Int32)), (.ref b37)])) rfl rfl (hb hby at_166)
          replace V38 : AI Z h38 b37 .byte 3 f0_g166a := V38
          have N38 := Fr.snoc X38 N0 g_b37
          obtain ⟨Lh38, X38, N38⟩ := hide X38 N38 (C := 1) (S := 3) (by decide) (by decide)
          refine Outs.of st38 ?_
          refine Outs.of (U' := T38.setTop (mkF m 206 #[vi i0, vi i1, vi i2, vi i3, vi i4, vi 0, vi 0, vi (f0_v33 i4), vi (f0_v38 i2), vi 2, vi 0, .val (.ref b37), .unset, .unset, .unset, vi 0, vi 1, vi 1, vi 2] [(.int (((32 : Int32) + ((f0_v38 i2) % (24 : Int32))).toInt8.toInt32)), (.int (1 : Int32)), (.ref b37)])) (fun t k => ?_) ?_
          · refine XS.iload X38.here hx rfl (hb hby at_167) rfl ?_
            refine XS.ifYes X38.here hx rfl (pc0 := 169) (pc' := 194) rfl (hb hby at_169) rfl ((if0 _ _).trans (teq (show (0 : Int32) = (0 : Int32) from (by decide))).1) (by decide) (by decide) ?_
            refine XS.aload X38.here hx rfl (hb hby at_194) rfl rfl ?_
            refine XS.iconst X38.here hx rfl (hb hby at_196) ?_
            refine XS.bipush X38.here hx rfl (hb hby at_197) ?_
            refine XS.iload X38.here hx rfl (hb hby at_199) rfl ?_
            refine XS.bipush X38.here hx rfl (hb hby at_201) ?_
            refine iremM X38 hx rfl (hb hby at_203) rfl (by decide) ?_
            refine XS.iadd X38.here hx rfl (hb hby at_204) rfl ?_
            refine XS.i2b X38.here hx rfl (hb hby at_205) rfl ?_
            exact k
          obtain ⟨T39, h39, X39, e39, W39, V39, st39⟩ := puB X38 hx hZ e38 V38 (j := (1 : Int32)) (x := (((32 : Int32) + ((f0_v38 i2) % (24 : Int32))).toInt8.toInt32)) (k := 1) rfl (by decide) (f := (mkF m 206 #[vi i0, vi i1, vi i2, vi i3, vi i4, vi 0, vi 0, vi (f0_v33 i4), vi (f0_v38 i2), vi 2, vi 0, .val (.ref b37), .unset, .unset, .unset, vi 0, vi 1, vi 1, vi 2] [(.int (((32 : Int32) + ((f0_v38 i2) % (24 : Int32))).toInt8.toInt32)), (.int (1 : Int32)), (.ref b37)])) rfl rfl (hb hby at_206)
          replace V39 : AI Z h39 b37 .byte 3 (f0_g206a i2) := V39
          have N39 := Fr.snoc X39 N38 g_b37
          obtain ⟨Lh39, X39, N39⟩ := hide X39 N39 (C := 1) (S := 3) (by decide) (by decide)
          refine Outs.of st39 ?_
          refine Outs.of (U' := T39.setTop (mkF m 261 #[vi i0, vi i1, vi i2, vi i3, vi i4, vi 0, vi 0, vi (f0_v33 i4), vi (f0_v38 i2), vi 2, vi 0, .val (.ref b37), vi 2, .unset, .unset, vi 0, vi 1, vi 1, vi 2] [(.int (-128 : Int32)), (.int (2 : Int32)), (.ref b37)])) (fun t k => ?_) ?_
          · refine XS.iconst X39.here hx rfl (hb hby at_207) ?_
            refine XS.iload X39.here hx rfl (hb hby at_208) rfl ?_
            refine XS.iadd X39.here hx rfl (hb hby at_210) rfl ?_
            refine XS.istore X39.here hx rfl (hb hby at_211) rfl (l' := #[vi i0, vi i1, vi i2, vi i3, vi i4, vi 0, vi 0, vi (f0_v33 i4), vi (f0_v38 i2), vi 2, vi 0, .val (.ref b37), vi 2, .unset, .unset, vi 0, vi 1, vi 1, vi 2]) rfl ?_
            refine XS.iload X39.here hx rfl (hb hby at_213) rfl ?_
            refine XS.ifYes X39.here hx rfl (pc0 := 215) (pc' := 233) rfl (hb hby at_215) rfl ((if0 _ _).trans (feq (show ¬ ((2 : Int32) = (0 : Int32)) from (by decide))).2) (by decide) (by decide) ?_
            refine XS.iload X39.here hx rfl (hb hby at_233) rfl ?_
            refine XS.iconst X39.here hx rfl (hb hby at_235) ?_
            refine XS.icmpYes X39.here hx rfl (pc0 := 236) (pc' := 249) rfl (hb hby at_236) rfl (feq (show ¬ ((2 : Int32) = (1 : Int32)) from (by decide))).2 (by decide) (by decide) ?_
            refine XS.iload X39.here hx rfl (hb hby at_249) rfl ?_
            refine XS.iconst X39.here hx rfl (hb hby at_251) ?_
            refine XS.icmpNo X39.here hx rfl (hb hby at_252) rfl (teq (show (2 : Int32) = (2 : Int32) from (by decide))).2 ?_
            refine XS.aload X39.here hx rfl (hb hby at_255) rfl rfl ?_
            refine XS.iload X39.here hx rfl (hb hby at_257) rfl ?_
            refine XS.bipush X39.here hx rfl (hb hby at_259) ?_
            exact k
          obtain ⟨T40, h40, X40, e40, W40, V40, st40⟩ := puB X39 hx hZ e39 V39 (j := (2 : Int32)) (x := (-128 : Int32)) (k := 2) rfl (by decide) (f := (mkF m 261 #[vi i0, vi i1, vi i2, vi i3, vi i4, vi 0, vi 0, vi (f0_v33 i4), vi (f0_v38 i2), vi 2, vi 0, .val (.ref b37), vi 2, .unset, .unset, vi 0, vi 1, vi 1, vi 2] [(.int (-128 : Int32)), (.int (2 : Int32)), (.ref b37)])) rfl rfl (hb hby at_261)
          replace V40 : AI Z h40 b37 .byte 3 (f0_g261 i2) := V40
          have N40 := Fr.snoc X40 N39 g_b37
          obtain ⟨Lh40, X40, N40⟩ := hide X40 N40 (C := 1) (S := 3) (by decide) (by decide)
          refine Outs.of st40 ?_
          refine Outs.of (U' := T40.setTop (mkF m 552 #[vi i0, vi i1, vi i2, vi i3, vi i4, vi 0, vi 0, vi (f0_v33 i4), vi (f0_v38 i2), vi 2, vi 0, .val (.ref b37), vi 2, vi 3, vi 0, vi 3, vi 1, vi 1, vi 2] [])) (fun t k => ?_) ?_
          · refine XS.goto X40.here hx rfl (pc0 := 262) (pc' := 296) rfl (hb hby at_262) (by decide) (by decide) ?_
            refine XS.iload X40.here hx rfl (hb hby at_296) rfl ?_
            refine XS.iload X40.here hx rfl (hb hby at_298) rfl ?_
            refine XS.iadd X40.here hx rfl (hb hby at_300) rfl ?_
            refine XS.istore X40.here hx rfl (hb hby at_301) rfl (l' := #[vi i0, vi i1, vi i2, vi i3, vi i4, vi 0, vi 0, vi (f0_v33 i4), vi (f0_v38 i2), vi 2, vi 0, .val (.ref b37), vi 2, vi 3, .unset, vi 0, vi 1, vi 1, vi 2]) rfl ?_
            refine XS.iload X40.here hx rfl (hb hby at_303) rfl ?_
            refine XS.iconst X40.here hx rfl (hb hby at_305) ?_
            refine XS.icmpYes X40.here hx rfl (pc0 := 306) (pc' := 313) rfl (hb hby at_306) rfl (feq (show ¬ ((2 : Int32) = (1 : Int32)) from (by decide))).2 (by decide) (by decide) ?_
            refine XS.iconst X40.here hx rfl (hb hby at_313) ?_
            refine XS.istore X40.here hx rfl (hb hby at_314) rfl (l' := #[vi i0, vi i1, vi i2, vi i3, vi i4, vi 0, vi 0, vi (f0_v33 i4), vi (f0_v38 i2), vi 2, vi 0, .val (.ref b37), vi 2, vi 3, vi 0, vi 0, vi 1, vi 1, vi 2]) rfl ?_
            refine XS.goto X40.here hx rfl (pc0 := 316) (pc' := 515) rfl (hb hby at_316) (by decide) (by decide) ?_
            refine XS.iload X40.here hx rfl (hb hby at_515) rfl ?_
            refine XS.ifYes X40.here hx rfl (pc0 := 517) (pc' := 545) rfl (hb hby at_517) rfl ((if0 _ _).trans (teq (show (0 : Int32) = (0 : Int32) from (by decide))).1) (by decide) (by decide) ?_
            refine XS.iload X40.here hx rfl (hb hby at_545) rfl ?_
            refine XS.iload X40.here hx rfl (hb hby at_547) rfl ?_
            refine XS.iadd X40.here hx rfl (hb hby at_549) rfl ?_
            refine XS.istore X40.here hx rfl (hb hby at_550) rfl (l' := #[vi i0, vi i1, vi i2, vi i3, vi i4, vi 0, vi 0, vi (f0_v33 i4), vi (f0_v38 i2), vi 2, vi 0, .val (.ref b37), vi 2, vi 3, vi 0, vi 3, vi 1, vi 1, vi 2]) rfl ?_
            exact k
          obtain ⟨T41, h41, X41, e41, E41, A41, D41, -, st41⟩ := newO X40 hx hZ hown (hw _ (List.mem_of_getElem? (i := 2) rfl)) (hw _ (List.mem_of_getElem? (i := 3) rfl)) (hw _ (List.mem_of_getElem? (i := 4) rfl)) e40 (g := (mkF m 552 #[vi i0, vi i1, vi i2, vi i3, vi i4, vi 0, vi 0, vi (f0_v33 i4), vi (f0_v38 i2), vi 2, vi 0, .val (.ref b37), vi 2, vi 3, vi 0, vi 3, vi 1, vi 1, vi 2] [])) rfl (hb hby at_552) (by decide) (by decide)
          obtain ⟨b41, g41⟩ : ∃ z, z = h40.size := ⟨_, rfl⟩
          rw [← g41] at A41 D41 st41
          have g_b41 : n0 ≤ b41 := Nat.le_trans (Nat.le_trans (Nat.le_trans (Nat.le_trans (Nat.le_trans Z0 E37.1) (Keep.of_wr W38).1) (Keep.of_wr W39).1) (Keep.of_wr W40).1) (Nat.le_of_eq g41.symm)
          have ne_b37_b41 : b37 ≠ b41 := Nat.ne_of_lt (Nat.lt_of_lt_of_eq V40.lt g41.symm)
          have F41_12 : Fld Z h41 b41 "com/example/brief_locator/brieflocator/interchange/CanonicalForm" "bytes" "[B" .null := D41 (Or.inr (hw _ (List.mem_of_getElem? (i := 12) rfl))) (ty := (.array .byte)) (by decide)
          have F41_14 : Fld Z h41 b41 "com/example/brief_locator/brieflocator/interchange/CanonicalForm" "firstEnd" "I" (.int (0 : Int32)) := D41 (Or.inr (hw _ (List.mem_of_getElem? (i := 14) rfl))) (ty := .int) (by decide)
          have F41_16 : Fld Z h41 b41 "com/example/brief_locator/brieflocator/interchange/CanonicalForm" "pathStart" "I" (.int (0 : Int32)) := D41 (Or.inr (hw _ (List.mem_of_getElem? (i := 16) rfl))) (ty := .int) (by decide)
          have F41_18 : Fld Z h41 b41 "com/example/brief_locator/brieflocator/interchange/CanonicalForm" "pathEnd" "I" (.int (0 : Int32)) := D41 (Or.inr (hw _ (List.mem_of_getElem? (i := 18) rfl))) (ty := .int) (by decide)
          have F41_20 : Fld Z h41 b41 "com/example/brief_locator/brieflocator/interchange/CanonicalForm" "queryEnd" "I" (.int (0 : Int32)) := D41 (Or.inr (hw _ (List.mem_of_getElem? (i := 20) rfl))) (ty := .int) (by decide)
          have F41_25 : Fld Z h41 b41 "com/example/brief_locator/brieflocator/interchange/CanonicalForm" "hasScheme" "Z" (.int (0 : Int32)) := D41 (Or.inr (hw _ (List.mem_of_getElem? (i := 25) rfl))) (ty := .boolean) (by decide)
          have F41_27 : Fld Z h41 b41 "com/example/brief_locator/brieflocator/interchange/CanonicalForm" "hasAuthority" "Z" (.int (0 : Int32)) := D41 (Or.inr (hw _ (List.mem_of_getElem? (i := 27) rfl))) (ty := .boolean) (by decide)
          have F41_37 : Fld Z h41 b41 "com/example/brief_locator/brieflocator/interchange/CanonicalForm" "pathSegments" "I" (.int (0 : Int32)) := D41 (Or.inr (hw _ (List.mem_of_getElem? (i := 37) rfl))) (ty := .int) (by decide)
          have F41_52 : Fld Z h41 b41 "com/example/brief_locator/brieflocator/interchange/CanonicalForm" "pathSegmentsStart" "I" (.int (0 : Int32)) := D41 (Or.inr (hw _ (List.mem_of_getElem? (i := 52) rfl))) (ty := .int) (by decide)
          refine Outs.of st41 ?_
          refine Outs.of (U' := T41.setTop (mkF m 566 #[vi i0, vi i1, vi i2, vi i3, vi i4, vi 0, vi 0, vi (f0_v33 i4), vi (f0_v38 i2), vi 2, vi 0, .val (.ref b37), vi 2, vi 3, vi 0, vi 3, vi 1, vi 1, vi 2] [(.int (3 : Int32)), (.int (3 : Int32)), (.int (3 : Int32)), (.int (2 : Int32)), (.ref b37), (.ref b41), (.ref b41)])) (fun t k => ?_) ?_
          · refine XS.dup X41.here hx rfl (hb hby at_555) rfl rfl ?_
            refine XS.aload X41.here hx rfl (hb hby at_556) rfl rfl ?_
            refine XS.iload X41.here hx rfl (hb hby at_558) rfl ?_
            refine XS.iload X41.here hx rfl (hb hby at_560) rfl ?_
            refine XS.iload X41.here hx rfl (hb hby at_562) rfl ?_
            refine XS.iload X41.here hx rfl (hb hby at_564) rfl ?_
            exact k
          have f43 : AI Z h41 b37 .byte 3 (f0_g261 i2) := (V40.ext E41)
          obtain ⟨_, _, ⟨T42, L42, k42, n42⟩, -, X42, ⟨Lc42, hQ42, l42, y42, z42⟩, st42⟩ := X41.specialBack hx (y := (⟨"com/example/brief_locator/brieflocator/interchange/CanonicalForm", "<init>", "([BIIII)V"⟩ : MethodName)) rfl hown (mvT hZ (hw _ (List.mem_of_getElem? (i := 5) rfl))) (mvT hZ (hw _ (List.mem_of_getElem? (i := 6) rfl))) (mvT hZ (hw _ (List.mem_of_getElem? (i := 7) rfl))) (by decide) (backOf (W := 1) (rmctn l Z a0 hw [] b41 b37 (2 : Int32) (3 : Int32) (3 : Int32) (3 : Int32) 3 (f0_g261 i2) h41 n0 (Nat.le_trans (Nat.le_trans (Nat.le_trans (Nat.le_trans (Nat.le_trans Z0 E37.1) (Keep.of_wr W38).1) (Keep.of_wr W39).1) (Keep.of_wr W40).1) E41.1) A41 g_b41 F41_12 F41_14 F41_16 F41_18 F41_20 F41_25 F41_27 F41_37 F41_52 f43 ne_b37_b41 (by decide) (by decide) (by decide)) hZ (hw _ (List.mem_of_getElem? (i := 7) rfl)) (hw _ (List.mem_of_getElem? (i := 4) rfl)) (by decide) (by decide)) (g := (mkF m 566 #[vi i0, vi i1, vi i2, vi i3, vi i4, vi 0, vi 0, vi (f0_v33 i4), vi (f0_v38 i2), vi 2, vi 0, .val (.ref b37), vi 2, vi 3, vi 0, vi 3, vi 1, vi 1, vi 2] [(.int (3 : Int32)), (.int (3 : Int32)), (.int (3 : Int32)), (.int (2 : Int32)), (.ref b37), (.ref b41), (.ref b41)])) rfl (by rw [hml]; rfl) (Steps.refl _) (a := b41) (argsL := [(.ref b37), (.int (2 : Int32)), (.int (3 : Int32)), (.int (3 : Int32)), (.int (3 : Int32))]) (rest := [(.ref b41)]) (lenOf pd_0 rfl) rfl (by show 2 * 0 + _ ≤ _; exact Nat.le_of_eq rfl) (hb hby at_566) (fun _ _ => ⟨rfl, e41, (by decide : 2 + 0 ≤ _), (by decide : 13 + 0 ≤ _)⟩)
          dsimp only [Pt.U, Pt.locs, Pt.cells, Pt.slots] at X42 l42 y42 z42 st42 hQ42
          subst l42 y42 z42
          obtain ⟨rfl, N42q, K42, u42_0, u42_1, u42_2, u42_3, u42_4⟩ := hQ42
          have N42 := Fr.app N40 N42q
          obtain ⟨Lh42, X42, N42⟩ := hide X42 N42 (C := 2) (S := 13) (by decide) (by decide)
          refine Outs.to st42 ?_
          refine Outs.of (U' := T42.setTop (mkF m 573 #[vi i0, vi i1, vi i2, vi i3, vi i4, vi 0, vi 0, vi (f0_v33 i4), vi (f0_v38 i2), vi 2, vi 0, .val (.ref b37), vi 2, vi 3, vi 0, vi 3, .val (.ref b41), vi 1, vi 2] [(.ref b41)])) (fun t k => ?_) ?_
          · refine XS.astore X42.here hx rfl (hb hby at_569) rfl rfl (l' := #[vi i0, vi i1, vi i2, vi i3, vi i4, vi 0, vi 0, vi (f0_v33 i4), vi (f0_v38 i2), vi 2, vi 0, .val (.ref b37), vi 2, vi 3, vi 0, vi 3, .val (.ref b41), vi 1, vi 2]) rfl ?_
            refine XS.aload X42.here hx rfl (hb hby at_571) rfl rfl ?_
            exact k
          have f45 : AI Z T42.heap b37 .byte 3 (f0_g261 i2) := (f43.keep K42 (ninS ne_b37_b41 nin0))
          obtain ⟨cq44, kq44, q44a, q44b, q44c⟩ := isOf hZ rfl u42_0
          obtain ⟨_, _, ⟨T44, L44, k44, n44⟩, -, X44, ⟨Lc44, hQ44, l44, y44, z44⟩, st44⟩ := X42.virtualBack hx (y := (⟨"com/example/brief_locator/brieflocator/interchange/CanonicalForm", "hasRootlessAuthority", "()Z"⟩ : MethodName)) (z := (⟨"com/example/brief_locator/brieflocator/interchange/CanonicalForm", "hasRootlessAuthority", "()Z"⟩ : MethodName)) hown (mvT hZ (hw _ (List.mem_of_getElem? (i := 53) rfl))) (mvT hZ (hw _ (List.mem_of_getElem? (i := 54) rfl))) (notFace_of_selects (args := #[]) (mvT hZ (hw _ (List.mem_of_getElem? (i := 56) rfl)))) (mvT hZ (hw _ (List.mem_of_getElem? (i := 56) rfl))) (mvT hZ (hw _ (List.mem_of_getElem? (i := 55) rfl))) (by decide) (backOf (W := 0) (rmhr l Z a0 hw [] b41 (ctn_out4 (2 : Int32) (3 : Int32) (3 : Int32) (3 : Int32) 3 (f0_g261 i2)) (3 : Int32) (2 : Int32) b37 3 (f0_g261 i2) 2 T42.heap n0 u42_0 u42_4 u42_3 u42_2 u42_1 f45 rfl (by decide)) hZ (hw _ (List.mem_of_getElem? (i := 57) rfl)) (hw _ (List.mem_of_getElem? (i := 4) rfl)) (by decide) (by decide)) q44a q44c (g := (mkF m 573 #[vi i0, vi i1, vi i2, vi i3, vi i4, vi 0, vi 0, vi (f0_v33 i4), vi (f0_v38 i2), vi 2, vi 0, .val (.ref b37), vi 2, vi 3, vi 0, vi 3, .val (.ref b41), vi 1, vi 2] [(.ref b41)])) rfl (by rw [hml]; rfl) (Steps.refl _) (argsL := []) (rest := []) (lenOf pd_7 rfl) rfl (by show 2 * 0 + _ ≤ _; exact Nat.le_of_eq rfl) (hb hby at_573) (fun _ _ => ⟨rfl, rfl, (by decide : 2 + 0 ≤ _), (by decide : 13 + 0 ≤ _)⟩)
          dsimp only [Pt.U, Pt.locs, Pt.cells, Pt.slots] at X44 l44 y44 z44 st44 hQ44
          subst l44 y44 z44
          obtain ⟨rfl, N44q, e44⟩ := hQ44
          have N44 := Fr.app N42 N44q
          obtain ⟨Lh44, X44, N44⟩ := hide X44 N44 (C := 2) (S := 13) (by decide) (by decide)
          refine Outs.to st44 ?_
          refine Outs.of (U' := T44.setTop (mkF m 586 #[vi i0, vi i1, vi i2, vi i3, vi i4, vi 0, vi 0, vi (f0_v33 i4), vi (f0_v38 i2), vi 2, vi 0, .val (.ref b37), vi 2, vi 3, vi 0, vi 3, .val (.ref b41), vi 1, vi 2] [(.int (1 : Int32))])) (fun t k => ?_) ?_
          · refine XS.iload X44.here hx rfl (hb hby at_576) rfl ?_
            refine XS.icmpNo X44.here hx rfl (hb hby at_578) rfl (teq (law_x4 i0 i1 i2 i3 i4 hc11 hc68)).2 ?_
            refine XS.iconst X44.here hx rfl (hb hby at_581) ?_
            refine XS.goto X44.here hx rfl (pc0 := 582) (pc' := 586) rfl (hb hby at_582) (by decide) (by decide) ?_
            exact k
          exact Outs.retN (t := .boolean) (z := (1 : Int32)) X44 hx hret (by simp) (hb hby at_586) hlk (by decide) (by decide) e44 ⟨rfl, N44⟩
        · refine Outs.of (U' := s₁.setTop (mkF m 71 #[vi i0, vi i1, vi i2, vi i3, vi i4, vi 0, vi 0, vi (f0_v33 i4), vi (f0_v38 i2), vi 2, vi 0, .unset, .unset, .unset, .unset, .unset, .unset, .unset, .unset] [])) (fun t k => ?_) ?_
          · refine XS.ifNo X0.here hx rfl (hb hby at_68) rfl ((if0 _ _).trans (feq hc68).1) ?_
            exact k
          refine Outs.of (U' := s₁.setTop (mkF m 152 #[vi i0, vi i1, vi i2, vi i3, vi i4, vi 0, vi 0, vi (f0_v33 i4), vi (f0_v38 i2), vi 2, vi 0, .unset, .unset, .unset, .unset, vi 1, vi 2, vi 1, vi 2] [(.int (4 : Int32))])) (fun t k => ?_) ?_
          · refine XS.iconst X0.here hx rfl (hb hby at_71) ?_
            refine XS.goto X0.here hx rfl (pc0 := 72) (pc' := 76) rfl (hb hby at_72) (by decide) (by decide) ?_
            refine XS.istore X0.here hx rfl (hb hby at_76) rfl (l' := #[vi i0, vi i1, vi i2, vi i3, vi i4, vi 0, vi 0, vi (f0_v33 i4), vi (f0_v38 i2), vi 2, vi 0, .unset, .unset, .unset, .unset, vi 1, .unset, .unset, .unset]) rfl ?_
            refine XS.iload X0.here hx rfl (hb hby at_78) rfl ?_
            refine XS.ifNo X0.here hx rfl (hb hby at_80) rfl ((if0 _ _).trans (feq (show ¬ ((1 : Int32) = (0 : Int32)) from (by decide))).1) ?_
            refine XS.iconst X0.here hx rfl (hb hby at_83) ?_
            refine XS.goto X0.here hx rfl (pc0 := 84) (pc' := 88) rfl (hb hby at_84) (by decide) (by decide) ?_
            refine XS.istore X0.here hx rfl (hb hby at_88) rfl (l' := #[vi i0, vi i1, vi i2, vi i3, vi i4, vi 0, vi 0, vi (f0_v33 i4), vi (f0_v38 i2), vi 2, vi 0, .unset, .unset, .unset, .unset, vi 1, vi 2, .unset, .unset]) rfl ?_
            refine XS.iload X0.here hx rfl (hb hby at_90) rfl ?_
            refine XS.iconst X0.here hx rfl (hb hby at_92) ?_
            refine XS.icmpYes X0.here hx rfl (pc0 := 93) (pc' := 100) rfl (hb hby at_93) rfl (feq (show ¬ ((2 : Int32) = (3 : Int32)) from (by decide))).2 (by decide) (by decide) ?_
            refine XS.iload X0.here hx rfl (hb hby at_100) rfl ?_
            refine XS.ifYes X0.here hx rfl (pc0 := 102) (pc' := 114) rfl (hb hby at_102) rfl ((if0 _ _).trans (feq (show ¬ ((2 : Int32) = (0 : Int32)) from (by decide))).2) (by decide) (by decide) ?_
            refine XS.iconst X0.here hx rfl (hb hby at_114) ?_
            refine XS.istore X0.here hx rfl (hb hby at_115) rfl (l' := #[vi i0, vi i1, vi i2, vi i3, vi i4, vi 0, vi 0, vi (f0_v33 i4), vi (f0_v38 i2), vi 2, vi 0, .unset, .unset, .unset, .unset, vi 1, vi 2, vi 1, .unset]) rfl ?_
            refine XS.iconst X0.here hx rfl (hb hby at_117) ?_
            refine XS.iload X0.here hx rfl (hb hby at_118) rfl ?_
            refine XS.ifNo X0.here hx rfl (hb hby at_120) rfl ((if0 _ _).trans (tlt (show (0 : Int32) < (1 : Int32) from (by decide))).2.2.2) ?_
            refine XS.iconst X0.here hx rfl (hb hby at_123) ?_
            refine XS.goto X0.here hx rfl (pc0 := 124) (pc' := 128) rfl (hb hby at_124) (by decide) (by decide) ?_
            refine XS.iadd X0.here hx rfl (hb hby at_128) rfl ?_
            refine XS.iload X0.here hx rfl (hb hby at_129) rfl ?_
            refine XS.ifYes X0.here hx rfl (pc0 := 131) (pc' := 138) rfl (hb hby at_131) rfl ((if0 _ _).trans (teq (show (0 : Int32) = (0 : Int32) from (by decide))).1) (by decide) (by decide) ?_
            refine XS.iconst X0.here hx rfl (hb hby at_138) ?_
            refine XS.iadd X0.here hx rfl (hb hby at_139) rfl ?_
            refine XS.istore X0.here hx rfl (hb hby at_140) rfl (l' := #[vi i0, vi i1, vi i2, vi i3, vi i4, vi 0, vi 0, vi (f0_v33 i4), vi (f0_v38 i2), vi 2, vi 0, .unset, .unset, .unset, .unset, vi 1, vi 2, vi 1, vi 2]) rfl ?_
            refine XS.iconst X0.here hx rfl (hb hby at_142) ?_
            refine XS.iload X0.here hx rfl (hb hby at_143) rfl ?_
            refine XS.iadd X0.here hx rfl (hb hby at_145) rfl ?_
            refine XS.iload X0.here hx rfl (hb hby at_146) rfl ?_
            refine XS.iadd X0.here hx rfl (hb hby at_148) rfl ?_
            refine XS.iload X0.here hx rfl (hb hby at_149) rfl ?_
            refine XS.iadd X0.here hx rfl (hb hby at_151) rfl ?_
            exact k
          obtain ⟨T46, h46, X46, e46, E46, A46, st46⟩ := newAF X0 hx hZ (aty := .byte) (hw _ (List.mem_of_getElem? (i := 1) rfl)) e0 (f := (mkF m 152 #[vi i0, vi i1, vi i2, vi i3, vi i4, vi 0, vi 0, vi (f0_v33 i4), vi (f0_v38 i2), vi 2, vi 0, .unset, .unset, .unset, .unset, vi 1, vi 2, vi 1, vi 2] [(.int (4 : Int32))])) rfl (hb hby at_152) rfl (k := 4) rfl (cap := 4) (by decide) (by decide) (by decide) (by decide)
          obtain ⟨b46, g46⟩ : ∃ z, z = h0.size := ⟨_, rfl⟩
          rw [← g46] at A46 st46
          have g_b46 : n0 ≤ b46 := Nat.le_trans Z0 (Nat.le_of_eq g46.symm)
          have V46 : AI Z h46 b46 .byte 4 (fun _ => (0 : Int32)) := A46
          refine Outs.of st46 ?_
          refine Outs.of (U' := T46.setTop (mkF m 166 #[vi i0, vi i1, vi i2, vi i3, vi i4, vi 0, vi 0, vi (f0_v33 i4), vi (f0_v38 i2), vi 2, vi 0, .val (.ref b46), .unset, .unset, .unset, vi 1, vi 2, vi 1, vi 2] [(.int ((130 : Int32).toInt8.toInt32)), (.int (0 : Int32)), (.ref b46)])) (fun t k => ?_) ?_
          · refine XS.astore X46.here hx rfl (hb hby at_154) rfl rfl (l' := #[vi i0, vi i1, vi i2, vi i3, vi i4, vi 0, vi 0, vi (f0_v33 i4), vi (f0_v38 i2), vi 2, vi 0, .val (.ref b46), .unset, .unset, .unset, vi 1, vi 2, vi 1, vi 2]) rfl ?_
            refine XS.aload X46.here hx rfl (hb hby at_156) rfl rfl ?_
            refine XS.iconst X46.here hx rfl (hb hby at_158) ?_
            refine XS.sipush X46.here hx rfl (hb hby at_159) ?_
            refine XS.iload X46.here hx rfl (hb hby at_162) rfl ?_
            refine XS.iadd X46.here hx rfl (hb hby at_164) rfl ?_
            refine XS.i2b X46.here hx rfl (hb hby at_165) rfl ?_
            exact k
          obtain ⟨T47, h47, X47, e47, W47, V47, st47⟩ := puB X46 hx hZ e46 V46 (j := (0 : Int32)) (x := ((130 : Int32).toInt8.toInt32)) (k := 0) rfl (by decide) (f := (mkF m 166 #[vi i0, vi i1, vi i2, vi i3, vi i4, vi 0, vi 0, vi (f0_v33 i4), vi (f0_v38 i2), vi 2, vi 0, .val (.ref b46), .unset, .unset, .unset, vi 1, vi 2, vi 1, vi 2] [(.int ((130 : Int32).toInt8.toInt32)), (.int (0 : Int32)), (.ref b46)])) rfl rfl (hb hby at_166)
          replace V47 : AI Z h47 b46 .byte 4 f0_g166a := V47
          have N47 := Fr.snoc X47 N0 g_b46
          obtain ⟨Lh47, X47, N47⟩ := hide X47 N47 (C := 1) (S := 4) (by decide) (by decide)
          refine Outs.of st47 ?_
          refine Outs.of (U' := T47.setTop (mkF m 177 #[vi i0, vi i1, vi i2, vi i3, vi i4, vi 0, vi 0, vi (f0_v33 i4), vi (f0_v38 i2), vi 2, vi 0, .val (.ref b46), .unset, .unset, .unset, vi 1, vi 2, vi 1, vi 2] [(.int (97 : Int32)), (.int (1 : Int32)), (.ref b46)])) (fun t k => ?_) ?_
          · refine XS.iload X47.here hx rfl (hb hby at_167) rfl ?_
            refine XS.ifNo X47.here hx rfl (hb hby at_169) rfl ((if0 _ _).trans (feq (show ¬ ((1 : Int32) = (0 : Int32)) from (by decide))).1) ?_
            refine XS.aload X47.here hx rfl (hb hby at_172) rfl rfl ?_
            refine XS.iconst X47.here hx rfl (hb hby at_174) ?_
            refine XS.bipush X47.here hx rfl (hb hby at_175) ?_
            exact k
          obtain ⟨T48, h48, X48, e48, W48, V48, st48⟩ := puB X47 hx hZ e47 V47 (j := (1 : Int32)) (x := (97 : Int32)) (k := 1) rfl (by decide) (f := (mkF m 177 #[vi i0, vi i1, vi i2, vi i3, vi i4, vi 0, vi 0, vi (f0_v33 i4), vi (f0_v38 i2), vi 2, vi 0, .val (.ref b46), .unset, .unset, .unset, vi 1, vi 2, vi 1, vi 2] [(.int (97 : Int32)), (.int (1 : Int32)), (.ref b46)])) rfl rfl (hb hby at_177)
          replace V48 : AI Z h48 b46 .byte 4 f0_g177a := V48
          have N48 := Fr.snoc X48 N47 g_b46
          obtain ⟨Lh48, X48, N48⟩ := hide X48 N48 (C := 1) (S := 4) (by decide) (by decide)
          refine Outs.of st48 ?_
          refine Outs.of (U' := T48.setTop (mkF m 190 #[vi i0, vi i1, vi i2, vi i3, vi i4, vi 0, vi 0, vi (f0_v33 i4), vi (f0_v38 i2), vi 2, vi 0, .val (.ref b46), .unset, .unset, .unset, vi 1, vi 2, vi 1, vi 2] [(.int (((97 : Int32) + ((f0_v38 i2) % (26 : Int32))).toInt8.toInt32)), (.int (2 : Int32)), (.ref b46)])) (fun t k => ?_) ?_
          · refine XS.aload X48.here hx rfl (hb hby at_178) rfl rfl ?_
            refine XS.iconst X48.here hx rfl (hb hby at_180) ?_
            refine XS.bipush X48.here hx rfl (hb hby at_181) ?_
            refine XS.iload X48.here hx rfl (hb hby at_183) rfl ?_
            refine XS.bipush X48.here hx rfl (hb hby at_185) ?_
            refine iremM X48 hx rfl (hb hby at_187) rfl (by decide) ?_
            refine XS.iadd X48.here hx rfl (hb hby at_188) rfl ?_
            refine XS.i2b X48.here hx rfl (hb hby at_189) rfl ?_
            exact k
          obtain ⟨T49, h49, X49, e49, W49, V49, st49⟩ := puB X48 hx hZ e48 V48 (j := (2 : Int32)) (x := (((97 : Int32) + ((f0_v38 i2) % (26 : Int32))).toInt8.toInt32)) (k := 2) rfl (by decide) (f := (mkF m 190 #[vi i0, vi i1, vi i2, vi i3, vi i4, vi 0, vi 0, vi (f0_v33 i4), vi (f0_v38 i2), vi 2, vi 0, .val (.ref b46), .unset, .unset, .unset, vi 1, vi 2, vi 1, vi 2] [(.int (((97 : Int32) + ((f0_v38 i2) % (26 : Int32))).toInt8.toInt32)), (.int (2 : Int32)), (.ref b46)])) rfl rfl (hb hby at_190)
          replace V49 : AI Z h49 b46 .byte 4 (f0_g190a i2) := V49
          have N49 := Fr.snoc X49 N48 g_b46
          obtain ⟨Lh49, X49, N49⟩ := hide X49 N49 (C := 1) (S := 4) (by decide) (by decide)
          refine Outs.of st49 ?_
          refine Outs.of (U' := T49.setTop (mkF m 261 #[vi i0, vi i1, vi i2, vi i3, vi i4, vi 0, vi 0, vi (f0_v33 i4), vi (f0_v38 i2), vi 2, vi 0, .val (.ref b46), vi 3, .unset, .unset, vi 1, vi 2, vi 1, vi 2] [(.int (-128 : Int32)), (.int (3 : Int32)), (.ref b46)])) (fun t k => ?_) ?_
          · refine XS.goto X49.here hx rfl (pc0 := 191) (pc' := 207) rfl (hb hby at_191) (by decide) (by decide) ?_
            refine XS.iconst X49.here hx rfl (hb hby at_207) ?_
            refine XS.iload X49.here hx rfl (hb hby at_208) rfl ?_
            refine XS.iadd X49.here hx rfl (hb hby at_210) rfl ?_
            refine XS.istore X49.here hx rfl (hb hby at_211) rfl (l' := #[vi i0, vi i1, vi i2, vi i3, vi i4, vi 0, vi 0, vi (f0_v33 i4), vi (f0_v38 i2), vi 2, vi 0, .val (.ref b46), vi 3, .unset, .unset, vi 1, vi 2, vi 1, vi 2]) rfl ?_
            refine XS.iload X49.here hx rfl (hb hby at_213) rfl ?_
            refine XS.ifYes X49.here hx rfl (pc0 := 215) (pc' := 233) rfl (hb hby at_215) rfl ((if0 _ _).trans (feq (show ¬ ((2 : Int32) = (0 : Int32)) from (by decide))).2) (by decide) (by decide) ?_
            refine XS.iload X49.here hx rfl (hb hby at_233) rfl ?_
            refine XS.iconst X49.here hx rfl (hb hby at_235) ?_
            refine XS.icmpYes X49.here hx rfl (pc0 := 236) (pc' := 249) rfl (hb hby at_236) rfl (feq (show ¬ ((2 : Int32) = (1 : Int32)) from (by decide))).2 (by decide) (by decide) ?_
            refine XS.iload X49.here hx rfl (hb hby at_249) rfl ?_
            refine XS.iconst X49.here hx rfl (hb hby at_251) ?_
            refine XS.icmpNo X49.here hx rfl (hb hby at_252) rfl (teq (show (2 : Int32) = (2 : Int32) from (by decide))).2 ?_
            refine XS.aload X49.here hx rfl (hb hby at_255) rfl rfl ?_
            refine XS.iload X49.here hx rfl (hb hby at_257) rfl ?_
            refine XS.bipush X49.here hx rfl (hb hby at_259) ?_
            exact k
          obtain ⟨T50, h50, X50, e50, W50, V50, st50⟩ := puB X49 hx hZ e49 V49 (j := (3 : Int32)) (x := (-128 : Int32)) (k := 3) rfl (by decide) (f := (mkF m 261 #[vi i0, vi i1, vi i2, vi i3, vi i4, vi 0, vi 0, vi (f0_v33 i4), vi (f0_v38 i2), vi 2, vi 0, .val (.ref b46), vi 3, .unset, .unset, vi 1, vi 2, vi 1, vi 2] [(.int (-128 : Int32)), (.int (3 : Int32)), (.ref b46)])) rfl rfl (hb hby at_261)
          replace V50 : AI Z h50 b46 .byte 4 (f0_g261a i2) := V50
          have N50 := Fr.snoc X50 N49 g_b46
          obtain ⟨Lh50, X50, N50⟩ := hide X50 N50 (C := 1) (S := 4) (by decide) (by decide)
          refine Outs.of st50 ?_
          refine Outs.of (U' := T50.setTop (mkF m 552 #[vi i0, vi i1, vi i2, vi i3, vi i4, vi 0, vi 0, vi (f0_v33 i4), vi (f0_v38 i2), vi 2, vi 0, .val (.ref b46), vi 3, vi 4, vi 0, vi 4, vi 2, vi 1, vi 2] [])) (fun t k => ?_) ?_
          · refine XS.goto X50.here hx rfl (pc0 := 262) (pc' := 296) rfl (hb hby at_262) (by decide) (by decide) ?_
            refine XS.iload X50.here hx rfl (hb hby at_296) rfl ?_
            refine XS.iload X50.here hx rfl (hb hby at_298) rfl ?_
            refine XS.iadd X50.here hx rfl (hb hby at_300) rfl ?_
            refine XS.istore X50.here hx rfl (hb hby at_301) rfl (l' := #[vi i0, vi i1, vi i2, vi i3, vi i4, vi 0, vi 0, vi (f0_v33 i4), vi (f0_v38 i2), vi 2, vi 0, .val (.ref b46), vi 3, vi 4, .unset, vi 1, vi 2, vi 1, vi 2]) rfl ?_
            refine XS.iload X50.here hx rfl (hb hby at_303) rfl ?_
            refine XS.iconst X50.here hx rfl (hb hby at_305) ?_
            refine XS.icmpYes X50.here hx rfl (pc0 := 306) (pc' := 313) rfl (hb hby at_306) rfl (feq (show ¬ ((2 : Int32) = (1 : Int32)) from (by decide))).2 (by decide) (by decide) ?_
            refine XS.iconst X50.here hx rfl (hb hby at_313) ?_
            refine XS.istore X50.here hx rfl (hb hby at_314) rfl (l' := #[vi i0, vi i1, vi i2, vi i3, vi i4, vi 0, vi 0, vi (f0_v33 i4), vi (f0_v38 i2), vi 2, vi 0, .val (.ref b46), vi 3, vi 4, vi 0, vi 1, vi 2, vi 1, vi 2]) rfl ?_
            refine XS.goto X50.here hx rfl (pc0 := 316) (pc' := 515) rfl (hb hby at_316) (by decide) (by decide) ?_
            refine XS.iload X50.here hx rfl (hb hby at_515) rfl ?_
            refine XS.ifYes X50.here hx rfl (pc0 := 517) (pc' := 545) rfl (hb hby at_517) rfl ((if0 _ _).trans (teq (show (0 : Int32) = (0 : Int32) from (by decide))).1) (by decide) (by decide) ?_
            refine XS.iload X50.here hx rfl (hb hby at_545) rfl ?_
            refine XS.iload X50.here hx rfl (hb hby at_547) rfl ?_
            refine XS.iadd X50.here hx rfl (hb hby at_549) rfl ?_
            refine XS.istore X50.here hx rfl (hb hby at_550) rfl (l' := #[vi i0, vi i1, vi i2, vi i3, vi i4, vi 0, vi 0, vi (f0_v33 i4), vi (f0_v38 i2), vi 2, vi 0, .val (.ref b46), vi 3, vi 4, vi 0, vi 4, vi 2, vi 1, vi 2]) rfl ?_
            exact k
          obtain ⟨T51, h51, X51, e51, E51, A51, D51, -, st51⟩ := newO X50 hx hZ hown (hw _ (List.mem_of_getElem? (i := 2) rfl)) (hw _ (List.mem_of_getElem? (i := 3) rfl)) (hw _ (List.mem_of_getElem? (i := 4) rfl)) e50 (g := (mkF m 552 #[vi i0, vi i1, vi i2, vi i3, vi i4, vi 0, vi 0, vi (f0_v33 i4), vi (f0_v38 i2), vi 2, vi 0, .val (.ref b46), vi 3, vi 4, vi 0, vi 4, vi 2, vi 1, vi 2] [])) rfl (hb hby at_552) (by decide) (by decide)
          obtain ⟨b51, g51⟩ : ∃ z, z = h50.size := ⟨_, rfl⟩
          rw [← g51] at A51 D51 st51
          have g_b51 : n0 ≤ b51 := Nat.le_trans (Nat.le_trans (Nat.le_trans (Nat.le_trans (Nat.le_trans (Nat.le_trans Z0 E46.1) (Keep.of_wr W47).1) (Keep.of_wr W48).1) (Keep.of_wr W49).1) (Keep.of_wr W50).1) (Nat.le_of_eq g51.symm)
          have ne_b46_b51 : b46 ≠ b51 := Nat.ne_of_lt (Nat.lt_of_lt_of_eq V50.lt g51.symm)
          have F51_12 : Fld Z h51 b51 "com/example/brief_locator/brieflocator/interchange/CanonicalForm" "bytes" "[B" .null := D51 (Or.inr (hw _ (List.mem_of_getElem? (i := 12) rfl))) (ty := (.array .byte)) (by decide)
          have F51_14 : Fld Z h51 b51 "com/example/brief_locator/brieflocator/interchange/CanonicalForm" "firstEnd" "I" (.int (0 : Int32)) := D51 (Or.inr (hw _ (List.mem_of_getElem? (i := 14) rfl))) (ty := .int) (by decide)
          have F51_16 : Fld Z h51 b51 "com/example/brief_locator/brieflocator/interchange/CanonicalForm" "pathStart" "I" (.int (0 : Int32)) := D51 (Or.inr (hw _ (List.mem_of_getElem? (i := 16) rfl))) (ty := .int) (by decide)
          have F51_18 : Fld Z h51 b51 "com/example/brief_locator/brieflocator/interchange/CanonicalForm" "pathEnd" "I" (.int (0 : Int32)) := D51 (Or.inr (hw _ (List.mem_of_getElem? (i := 18) rfl))) (ty := .int) (by decide)
          have F51_20 : Fld Z h51 b51 "com/example/brief_locator/brieflocator/interchange/CanonicalForm" "queryEnd" "I" (.int (0 : Int32)) := D51 (Or.inr (hw _ (List.mem_of_getElem? (i := 20) rfl))) (ty := .int) (by decide)
          have F51_25 : Fld Z h51 b51 "com/example/brief_locator/brieflocator/interchange/CanonicalForm" "hasScheme" "Z" (.int (0 : Int32)) := D51 (Or.inr (hw _ (List.mem_of_getElem? (i := 25) rfl))) (ty := .boolean) (by decide)
          have F51_27 : Fld Z h51 b51 "com/example/brief_locator/brieflocator/interchange/CanonicalForm" "hasAuthority" "Z" (.int (0 : Int32)) := D51 (Or.inr (hw _ (List.mem_of_getElem? (i := 27) rfl))) (ty := .boolean) (by decide)
          have F51_37 : Fld Z h51 b51 "com/example/brief_locator/brieflocator/interchange/CanonicalForm" "pathSegments" "I" (.int (0 : Int32)) := D51 (Or.inr (hw _ (List.mem_of_getElem? (i := 37) rfl))) (ty := .int) (by decide)
          have F51_52 : Fld Z h51 b51 "com/example/brief_locator/brieflocator/interchange/CanonicalForm" "pathSegmentsStart" "I" (.int (0 : Int32)) := D51 (Or.inr (hw _ (List.mem_of_getElem? (i := 52) rfl))) (ty := .int) (by decide)
          refine Outs.of st51 ?_
          refine Outs.of (U' := T51.setTop (mkF m 566 #[vi i0, vi i1, vi i2, vi i3, vi i4, vi 0, vi 0, vi (f0_v33 i4), vi (f0_v38 i2), vi 2, vi 0, .val (.ref b46), vi 3, vi 4, vi 0, vi 4, vi 2, vi 1, vi 2] [(.int (4 : Int32)), (.int (4 : Int32)), (.int (4 : Int32)), (.int (3 : Int32)), (.ref b46), (.ref b51), (.ref b51)])) (fun t k => ?_) ?_
          · refine XS.dup X51.here hx rfl (hb hby at_555) rfl rfl ?_
            refine XS.aload X51.here hx rfl (hb hby at_556) rfl rfl ?_
            refine XS.iload X51.here hx rfl (hb hby at_558) rfl ?_
            refine XS.iload X51.here hx rfl (hb hby at_560) rfl ?_
            refine XS.iload X51.here hx rfl (hb hby at_562) rfl ?_
            refine XS.iload X51.here hx rfl (hb hby at_564) rfl ?_
            exact k
          have f53 : AI Z h51 b46 .byte 4 (f0_g261a i2) := (V50.ext E51)
          obtain ⟨_, _, ⟨T52, L52, k52, n52⟩, -, X52, ⟨Lc52, hQ52, l52, y52, z52⟩, st52⟩ := X51.specialBack hx (y := (⟨"com/example/brief_locator/brieflocator/interchange/CanonicalForm", "<init>", "([BIIII)V"⟩ : MethodName)) rfl hown (mvT hZ (hw _ (List.mem_of_getElem? (i := 5) rfl))) (mvT hZ (hw _ (List.mem_of_getElem? (i := 6) rfl))) (mvT hZ (hw _ (List.mem_of_getElem? (i := 7) rfl))) (by decide) (backOf (W := 1) (rmctn l Z a0 hw [] b51 b46 (3 : Int32) (4 : Int32) (4 : Int32) (4 : Int32) 4 (f0_g261a i2) h51 n0 (Nat.le_trans (Nat.le_trans (Nat.le_trans (Nat.le_trans (Nat.le_trans (Nat.le_trans Z0 E46.1) (Keep.of_wr W47).1) (Keep.of_wr W48).1) (Keep.of_wr W49).1) (Keep.of_wr W50).1) E51.1) A51 g_b51 F51_12 F51_14 F51_16 F51_18 F51_20 F51_25 F51_27 F51_37 F51_52 f53 ne_b46_b51 (by decide) (by decide) (by decide)) hZ (hw _ (List.mem_of_getElem? (i := 7) rfl)) (hw _ (List.mem_of_getElem? (i := 4) rfl)) (by decide) (by decide)) (g := (mkF m 566 #[vi i0, vi i1, vi i2, vi i3, vi i4, vi 0, vi 0, vi (f0_v33 i4), vi (f0_v38 i2), vi 2, vi 0, .val (.ref b46), vi 3, vi 4, vi 0, vi 4, vi 2, vi 1, vi 2] [(.int (4 : Int32)), (.int (4 : Int32)), (.int (4 : Int32)), (.int (3 : Int32)), (.ref b46), (.ref b51), (.ref b51)])) rfl (by rw [hml]; rfl) (Steps.refl _) (a := b51) (argsL := [(.ref b46), (.int (3 : Int32)), (.int (4 : Int32)), (.int (4 : Int32)), (.int (4 : Int32))]) (rest := [(.ref b51)]) (lenOf pd_0 rfl) rfl (by show 2 * 0 + _ ≤ _; exact Nat.le_of_eq rfl) (hb hby at_566) (fun _ _ => ⟨rfl, e51, (by decide : 2 + 0 ≤ _), (by decide : 14 + 0 ≤ _)⟩)
          dsimp only [Pt.U, Pt.locs, Pt.cells, Pt.slots] at X52 l52 y52 z52 st52 hQ52
          subst l52 y52 z52
          obtain ⟨rfl, N52q, K52, u52_0, u52_1, u52_2, u52_3, u52_4⟩ := hQ52
          have N52 := Fr.app N50 N52q
          obtain ⟨Lh52, X52, N52⟩ := hide X52 N52 (C := 2) (S := 14) (by decide) (by decide)
          refine Outs.to st52 ?_
          refine Outs.of (U' := T52.setTop (mkF m 573 #[vi i0, vi i1, vi i2, vi i3, vi i4, vi 0, vi 0, vi (f0_v33 i4), vi (f0_v38 i2), vi 2, vi 0, .val (.ref b46), vi 3, vi 4, vi 0, vi 4, .val (.ref b51), vi 1, vi 2] [(.ref b51)])) (fun t k => ?_) ?_
          · refine XS.astore X52.here hx rfl (hb hby at_569) rfl rfl (l' := #[vi i0, vi i1, vi i2, vi i3, vi i4, vi 0, vi 0, vi (f0_v33 i4), vi (f0_v38 i2), vi 2, vi 0, .val (.ref b46), vi 3, vi 4, vi 0, vi 4, .val (.ref b51), vi 1, vi 2]) rfl ?_
            refine XS.aload X52.here hx rfl (hb hby at_571) rfl rfl ?_
            exact k
          have f55 : AI Z T52.heap b46 .byte 4 (f0_g261a i2) := (f53.keep K52 (ninS ne_b46_b51 nin0))
          obtain ⟨cq54, kq54, q54a, q54b, q54c⟩ := isOf hZ rfl u52_0
          obtain ⟨_, _, ⟨T54, L54, k54, n54⟩, -, X54, ⟨Lc54, hQ54, l54, y54, z54⟩, st54⟩ := X52.virtualBack hx (y := (⟨"com/example/brief_locator/brieflocator/interchange/CanonicalForm", "hasRootlessAuthority", "()Z"⟩ : MethodName)) (z := (⟨"com/example/brief_locator/brieflocator/interchange/CanonicalForm", "hasRootlessAuthority", "()Z"⟩ : MethodName)) hown (mvT hZ (hw _ (List.mem_of_getElem? (i := 53) rfl))) (mvT hZ (hw _ (List.mem_of_getElem? (i := 54) rfl))) (notFace_of_selects (args := #[]) (mvT hZ (hw _ (List.mem_of_getElem? (i := 56) rfl)))) (mvT hZ (hw _ (List.mem_of_getElem? (i := 56) rfl))) (mvT hZ (hw _ (List.mem_of_getElem? (i := 55) rfl))) (by decide) (backOf (W := 0) (rmhr l Z a0 hw [] b51 (ctn_out4 (3 : Int32) (4 : Int32) (4 : Int32) (4 : Int32) 4 (f0_g261a i2)) (4 : Int32) (3 : Int32) b46 4 (f0_g261a i2) 3 T52.heap n0 u52_0 u52_4 u52_3 u52_2 u52_1 f55 rfl (by decide)) hZ (hw _ (List.mem_of_getElem? (i := 57) rfl)) (hw _ (List.mem_of_getElem? (i := 4) rfl)) (by decide) (by decide)) q54a q54c (g := (mkF m 573 #[vi i0, vi i1, vi i2, vi i3, vi i4, vi 0, vi 0, vi (f0_v33 i4), vi (f0_v38 i2), vi 2, vi 0, .val (.ref b46), vi 3, vi 4, vi 0, vi 4, .val (.ref b51), vi 1, vi 2] [(.ref b51)])) rfl (by rw [hml]; rfl) (Steps.refl _) (argsL := []) (rest := []) (lenOf pd_7 rfl) rfl (by show 2 * 0 + _ ≤ _; exact Nat.le_of_eq rfl) (hb hby at_573) (fun _ _ => ⟨rfl, rfl, (by decide : 2 + 0 ≤ _), (by decide : 14 + 0 ≤ _)⟩)
          dsimp only [Pt.U, Pt.locs, Pt.cells, Pt.slots] at X54 l54 y54 z54 st54 hQ54
          subst l54 y54 z54
          obtain ⟨rfl, N54q, e54⟩ := hQ54
          have N54 := Fr.app N52 N54q
          obtain ⟨Lh54, X54, N54⟩ := hide X54 N54 (C := 2) (S := 14) (by decide) (by decide)
          refine Outs.to st54 ?_
          refine Outs.of (U' := T54.setTop (mkF m 586 #[vi i0, vi i1, vi i2, vi i3, vi i4, vi 0, vi 0, vi (f0_v33 i4), vi (f0_v38 i2), vi 2, vi 0, .val (.ref b46), vi 3, vi 4, vi 0, vi 4, .val (.ref b51), vi 1, vi 2] [(.int (1 : Int32))])) (fun t k => ?_) ?_
          · refine XS.iload X54.here hx rfl (hb hby at_576) rfl ?_
            refine XS.icmpNo X54.here hx rfl (hb hby at_578) rfl (teq (law_x5 i0 i1 i2 i3 i4 hc11 hc68)).2 ?_
            refine XS.iconst X54.here hx rfl (hb hby at_581) ?_
            refine XS.goto X54.here hx rfl (pc0 := 582) (pc' := 586) rfl (hb hby at_582) (by decide) (by decide) ?_
            exact k
          exact Outs.retN (t := .boolean) (z := (1 : Int32)) X54 hx hret (by simp) (hb hby at_586) hlk (by decide) (by decide) e54 ⟨rfl, N54⟩
      · rw [q9]
        show Outs p e below s _ _ _ (s₁.setTop (mkF m 65 #[vi i0, vi i1, vi i2, vi i3, vi i4, vi 0, vi 0, vi (f0_v33 i4), vi (f0_v38 i2), vi 3, vi 0, .unset, .unset, .unset, .unset, .unset, .unset, .unset, .unset] []))
        refine Outs.of (U' := s₁.setTop (mkF m 68 #[vi i0, vi i1, vi i2, vi i3, vi i4, vi 0, vi 0, vi (f0_v33 i4), vi (f0_v38 i2), vi 3, vi 0, .unset, .unset, .unset, .unset, .unset, .unset, .unset, .unset] [(.int (i2 &&& (1 : Int32)))])) (fun t k => ?_) ?_
        · refine XS.iloadN X0.here hx rfl (hb hby at_65) rfl ?_
          refine XS.iconst X0.here hx rfl (hb hby at_66) ?_
          refine XS.iand X0.here hx rfl (hb hby at_67) rfl ?_
          exact k
        by_cases hc68 : (i2 &&& (1 : Int32)) = (0 : Int32)
        · refine Outs.of (U' := s₁.setTop (mkF m 75 #[vi i0, vi i1, vi i2, vi i3, vi i4, vi 0, vi 0, vi (f0_v33 i4), vi (f0_v38 i2), vi 3, vi 0, .unset, .unset, .unset, .unset, .unset, .unset, .unset, .unset] [])) (fun t k => ?_) ?_
          · refine XS.ifYes X0.here hx rfl (pc0 := 68) (pc' := 75) rfl (hb hby at_68) rfl ((if0 _ _).trans (teq hc68).1) (by decide) (by decide) ?_
            exact k
          refine Outs.of (U' := s₁.setTop (mkF m 152 #[vi i0, vi i1, vi i2, vi i3, vi i4, vi 0, vi 0, vi (f0_v33 i4), vi (f0_v38 i2), vi 3, vi 0, .unset, .unset, .unset, .unset, vi 0, vi 1, vi 3, vi 2] [(.int (5 : Int32))])) (fun t k => ?_) ?_
          · refine XS.iconst X0.here hx rfl (hb hby at_75) ?_
            refine XS.istore X0.here hx rfl (hb hby at_76) rfl (l' := #[vi i0, vi i1, vi i2, vi i3, vi i4, vi 0, vi 0, vi (f0_v33 i4), vi (f0_v38 i2), vi 3, vi 0, .unset, .unset, .unset, .unset, vi 0, .unset, .unset, .unset]) rfl ?_
            refine XS.iload X0.here hx rfl (hb hby at_78) rfl ?_
            refine XS.ifYes X0.here hx rfl (pc0 := 80) (pc' := 87) rfl (hb hby at_80) rfl ((if0 _ _).trans (teq (show (0 : Int32) = (0 : Int32) from (by decide))).1) (by decide) (by decide) ?_
            refine XS.iconst X0.here hx rfl (hb hby at_87) ?_
            refine XS.istore X0.here hx rfl (hb hby at_88) rfl (l' := #[vi i0, vi i1, vi i2, vi i3, vi i4, vi 0, vi 0, vi (f0_v33 i4), vi (f0_v38 i2), vi 3, vi 0, .unset, .unset, .unset, .unset, vi 0, vi 1, .unset, .unset]) rfl ?_
            refine XS.iload X0.here hx rfl (hb hby at_90) rfl ?_
            refine XS.iconst X0.here hx rfl (hb hby at_92) ?_
            refine XS.icmpNo X0.here hx rfl (hb hby at_93) rfl (teq (show (3 : Int32) = (3 : Int32) from (by decide))).2 ?_
            refine XS.iconst X0.here hx rfl (hb hby at_96) ?_
            refine XS.goto X0.here hx rfl (pc0 := 97) (pc' := 115) rfl (hb hby at_97) (by decide) (by decide) ?_
            refine XS.istore X0.here hx rfl (hb hby at_115) rfl (l' := #[vi i0, vi i1, vi i2, vi i3, vi i4, vi 0, vi 0, vi (f0_v33 i4), vi (f0_v38 i2), vi 3, vi 0, .unset, .unset, .unset, .unset, vi 0, vi 1, vi 3, .unset]) rfl ?_
            refine XS.iconst X0.here hx rfl (hb hby at_117) ?_
            refine XS.iload X0.here hx rfl (hb hby at_118) rfl ?_
            refine XS.ifNo X0.here hx rfl (hb hby at_120) rfl ((if0 _ _).trans (tlt (show (0 : Int32) < (3 : Int32) from (by decide))).2.2.2) ?_
            refine XS.iconst X0.here hx rfl (hb hby at_123) ?_
            refine XS.goto X0.here hx rfl (pc0 := 124) (pc' := 128) rfl (hb hby at_124) (by decide) (by decide) ?_
            refine XS.iadd X0.here hx rfl (hb hby at_128) rfl ?_
            refine XS.iload X0.here hx rfl (hb hby at_129) rfl ?_
            refine XS.ifYes X0.here hx rfl (pc0 := 131) (pc' := 138) rfl (hb hby at_131) rfl ((if0 _ _).trans (teq (show (0 : Int32) = (0 : Int32) from (by decide))).1) (by decide) (by decide) ?_
            refine XS.iconst X0.here hx rfl (hb hby at_138) ?_
            refine XS.iadd X0.here hx rfl (hb hby at_139) rfl ?_
            refine XS.istore X0.here hx rfl (hb hby at_140) rfl (l' := #[vi i0, vi i1, vi i2, vi i3, vi i4, vi 0, vi 0, vi (f0_v33 i4), vi (f0_v38 i2), vi 3, vi 0, .unset, .unset, .unset, .unset, vi 0, vi 1, vi 3, vi 2]) rfl ?_
            refine XS.iconst X0.here hx rfl (hb hby at_142) ?_
            refine XS.iload X0.here hx rfl (hb hby at_143) rfl ?_
            refine XS.iadd X0.here hx rfl (hb hby at_145) rfl ?_
            refine XS.iload X0.here hx rfl (hb hby at_146) rfl ?_
            refine XS.iadd X0.here hx rfl (hb hby at_148) rfl ?_
            refine XS.iload X0.here hx rfl (hb hby at_149) rfl ?_
            refine XS.iadd X0.here hx rfl (hb hby at_151) rfl ?_
            exact k
          obtain ⟨T56, h56, X56, e56, E56, A56, st56⟩ := newAF X0 hx hZ (aty := .byte) (hw _ (List.mem_of_getElem? (i := 1) rfl)) e0 (f := (mkF m 152 #[vi i0, vi i1, vi i2, vi i3, vi i4, vi 0, vi 0, vi (f0_v33 i4), vi (f0_v38 i2), vi 3, vi 0, .unset, .unset, .unset, .unset, vi 0, vi 1, vi 3, vi 2] [(.int (5 : Int32))])) rfl (hb hby at_152) rfl (k := 5) rfl (cap := 5) (by decide) (by decide) (by decide) (by decide)
          obtain ⟨b56, g56⟩ : ∃ z, z = h0.size := ⟨_, rfl⟩
          rw [← g56] at A56 st56
          have g_b56 : n0 ≤ b56 := Nat.le_trans Z0 (Nat.le_of_eq g56.symm)
          have V56 : AI Z h56 b56 .byte 5 (fun _ => (0 : Int32)) := A56
          refine Outs.of st56 ?_
          refine Outs.of (U' := T56.setTop (mkF m 166 #[vi i0, vi i1, vi i2, vi i3, vi i4, vi 0, vi 0, vi (f0_v33 i4), vi (f0_v38 i2), vi 3, vi 0, .val (.ref b56), .unset, .unset, .unset, vi 0, vi 1, vi 3, vi 2] [(.int ((130 : Int32).toInt8.toInt32)), (.int (0 : Int32)), (.ref b56)])) (fun t k => ?_) ?_
          · refine XS.astore X56.here hx rfl (hb hby at_154) rfl rfl (l' := #[vi i0, vi i1, vi i2, vi i3, vi i4, vi 0, vi 0, vi (f0_v33 i4), vi (f0_v38 i2), vi 3, vi 0, .val (.ref b56), .unset, .unset, .unset, vi 0, vi 1, vi 3, vi 2]) rfl ?_
            refine XS.aload X56.here hx rfl (hb hby at_156) rfl rfl ?_
            refine XS.iconst X56.here hx rfl (hb hby at_158) ?_
            refine XS.sipush X56.here hx rfl (hb hby at_159) ?_
            refine XS.iload X56.here hx rfl (hb hby at_162) rfl ?_
            refine XS.iadd X56.here hx rfl (hb hby at_164) rfl ?_
            refine XS.i2b X56.here hx rfl (hb hby at_165) rfl ?_
            exact k
          obtain ⟨T57, h57, X57, e57, W57, V57, st57⟩ := puB X56 hx hZ e56 V56 (j := (0 : Int32)) (x := ((130 : Int32).toInt8.toInt32)) (k := 0) rfl (by decide) (f := (mkF m 166 #[vi i0, vi i1, vi i2, vi i3, vi i4, vi 0, vi 0, vi (f0_v33 i4), vi (f0_v38 i2), vi 3, vi 0, .val (.ref b56), .unset, .unset, .unset, vi 0, vi 1, vi 3, vi 2] [(.int ((130 : Int32).toInt8.toInt32)), (.int (0 : Int32)), (.ref b56)])) rfl rfl (hb hby at_166)
          replace V57 : AI Z h57 b56 .byte 5 f0_g166a := V57
          have N57 := Fr.snoc X57 N0 g_b56
          obtain ⟨Lh57, X57, N57⟩ := hide X57 N57 (C := 1) (S := 5) (by decide) (by decide)
          refine Outs.of st57 ?_
          refine Outs.of (U' := T57.setTop (mkF m 206 #[vi i0, vi i1, vi i2, vi i3, vi i4, vi 0, vi 0, vi (f0_v33 i4), vi (f0_v38 i2), vi 3, vi 0, .val (.ref b56), .unset, .unset, .unset, vi 0, vi 1, vi 3, vi 2] [(.int (((32 : Int32) + ((f0_v38 i2) % (24 : Int32))).toInt8.toInt32)), (.int (1 : Int32)), (.ref b56)])) (fun t k => ?_) ?_
          · refine XS.iload X57.here hx rfl (hb hby at_167) rfl ?_
            refine XS.ifYes X57.here hx rfl (pc0 := 169) (pc' := 194) rfl (hb hby at_169) rfl ((if0 _ _).trans (teq (show (0 : Int32) = (0 : Int32) from (by decide))).1) (by decide) (by decide) ?_
            refine XS.aload X57.here hx rfl (hb hby at_194) rfl rfl ?_
            refine XS.iconst X57.here hx rfl (hb hby at_196) ?_
            refine XS.bipush X57.here hx rfl (hb hby at_197) ?_
            refine XS.iload X57.here hx rfl (hb hby at_199) rfl ?_
            refine XS.bipush X57.here hx rfl (hb hby at_201) ?_
            refine iremM X57 hx rfl (hb hby at_203) rfl (by decide) ?_
            refine XS.iadd X57.here hx rfl (hb hby at_204) rfl ?_
            refine XS.i2b X57.here hx rfl (hb hby at_205) rfl ?_
            exact k
          obtain ⟨T58, h58, X58, e58, W58, V58, st58⟩ := puB X57 hx hZ e57 V57 (j := (1 : Int32)) (x := (((32 : Int32) + ((f0_v38 i2) % (24 : Int32))).toInt8.toInt32)) (k := 1) rfl (by decide) (f := (mkF m 206 #[vi i0, vi i1, vi i2, vi i3, vi i4, vi 0, vi 0, vi (f0_v33 i4), vi (f0_v38 i2), vi 3, vi 0, .val (.ref b56), .unset, .unset, .unset, vi 0, vi 1, vi 3, vi 2] [(.int (((32 : Int32) + ((f0_v38 i2) % (24 : Int32))).toInt8.toInt32)), (.int (1 : Int32)), (.ref b56)])) rfl rfl (hb hby at_206)
          replace V58 : AI Z h58 b56 .byte 5 (f0_g206a i2) := V58
          have N58 := Fr.snoc X58 N57 g_b56
          obtain ⟨Lh58, X58, N58⟩ := hide X58 N58 (C := 1) (S := 5) (by decide) (by decide)
          refine Outs.of st58 ?_
          refine Outs.of (U' := T58.setTop (mkF m 277 #[vi i0, vi i1, vi i2, vi i3, vi i4, vi 0, vi 0, vi (f0_v33 i4), vi (f0_v38 i2), vi 3, vi 0, .val (.ref b56), vi 2, .unset, .unset, vi 0, vi 1, vi 3, vi 2] [(.int (-127 : Int32)), (.int (2 : Int32)), (.ref b56)])) (fun t k => ?_) ?_
          · refine XS.iconst X58.here hx rfl (hb hby at_207) ?_
            refine XS.iload X58.here hx rfl (hb hby at_208) rfl ?_
            refine XS.iadd X58.here hx rfl (hb hby at_210) rfl ?_
            refine XS.istore X58.here hx rfl (hb hby at_211) rfl (l' := #[vi i0, vi i1, vi i2, vi i3, vi i4, vi 0, vi 0, vi (f0_v33 i4), vi (f0_v38 i2), vi 3, vi 0, .val (.ref b56), vi 2, .unset, .unset, vi 0, vi 1, vi 3, vi 2]) rfl ?_
            refine XS.iload X58.here hx rfl (hb hby at_213) rfl ?_
            refine XS.ifYes X58.here hx rfl (pc0 := 215) (pc' := 233) rfl (hb hby at_215) rfl ((if0 _ _).trans (feq (show ¬ ((3 : Int32) = (0 : Int32)) from (by decide))).2) (by decide) (by decide) ?_
            refine XS.iload X58.here hx rfl (hb hby at_233) rfl ?_
            refine XS.iconst X58.here hx rfl (hb hby at_235) ?_
            refine XS.icmpYes X58.here hx rfl (pc0 := 236) (pc' := 249) rfl (hb hby at_236) rfl (feq (show ¬ ((3 : Int32) = (1 : Int32)) from (by decide))).2 (by decide) (by decide) ?_
            refine XS.iload X58.here hx rfl (hb hby at_249) rfl ?_
            refine XS.iconst X58.here hx rfl (hb hby at_251) ?_
            refine XS.icmpYes X58.here hx rfl (pc0 := 252) (pc' := 265) rfl (hb hby at_252) rfl (feq (show ¬ ((3 : Int32) = (2 : Int32)) from (by decide))).2 (by decide) (by decide) ?_
            refine XS.iload X58.here hx rfl (hb hby at_265) rfl ?_
            refine XS.iconst X58.here hx rfl (hb hby at_267) ?_
            refine XS.icmpNo X58.here hx rfl (hb hby at_268) rfl (teq (show (3 : Int32) = (3 : Int32) from (by decide))).2 ?_
            refine XS.aload X58.here hx rfl (hb hby at_271) rfl rfl ?_
            refine XS.iload X58.here hx rfl (hb hby at_273) rfl ?_
            refine XS.bipush X58.here hx rfl (hb hby at_275) ?_
            exact k
          obtain ⟨T59, h59, X59, e59, W59, V59, st59⟩ := puB X58 hx hZ e58 V58 (j := (2 : Int32)) (x := (-127 : Int32)) (k := 2) rfl (by decide) (f := (mkF m 277 #[vi i0, vi i1, vi i2, vi i3, vi i4, vi 0, vi 0, vi (f0_v33 i4), vi (f0_v38 i2), vi 3, vi 0, .val (.ref b56), vi 2, .unset, .unset, vi 0, vi 1, vi 3, vi 2] [(.int (-127 : Int32)), (.int (2 : Int32)), (.ref b56)])) rfl rfl (hb hby at_277)
          replace V59 : AI Z h59 b56 .byte 5 (f0_g277 i2) := V59
          have N59 := Fr.snoc X59 N58 g_b56
          obtain ⟨Lh59, X59, N59⟩ := hide X59 N59 (C := 1) (S := 5) (by decide) (by decide)
          refine Outs.of st59 ?_
          refine Outs.of (U' := T59.setTop (mkF m 286 #[vi i0, vi i1, vi i2, vi i3, vi i4, vi 0, vi 0, vi (f0_v33 i4), vi (f0_v38 i2), vi 3, vi 0, .val (.ref b56), vi 2, .unset, .unset, vi 0, vi 1, vi 3, vi 2] [(.int (97 : Int32)), (.int (3 : Int32)), (.ref b56)])) (fun t k => ?_) ?_
          · refine XS.aload X59.here hx rfl (hb hby at_278) rfl rfl ?_
            refine XS.iload X59.here hx rfl (hb hby at_280) rfl ?_
            refine XS.iconst X59.here hx rfl (hb hby at_282) ?_
            refine XS.iadd X59.here hx rfl (hb hby at_283) rfl ?_
            refine XS.bipush X59.here hx rfl (hb hby at_284) ?_
            exact k
          obtain ⟨T60, h60, X60, e60, W60, V60, st60⟩ := puB X59 hx hZ e59 V59 (j := (3 : Int32)) (x := (97 : Int32)) (k := 3) rfl (by decide) (f := (mkF m 286 #[vi i0, vi i1, vi i2, vi i3, vi i4, vi 0, vi 0, vi (f0_v33 i4), vi (f0_v38 i2), vi 3, vi 0, .val (.ref b56), vi 2, .unset, .unset, vi 0, vi 1, vi 3, vi 2] [(.int (97 : Int32)), (.int (3 : Int32)), (.ref b56)])) rfl rfl (hb hby at_286)
          replace V60 : AI Z h60 b56 .byte 5 (f0_g286 i2) := V60
          have N60 := Fr.snoc X60 N59 g_b56
          obtain ⟨Lh60, X60, N60⟩ := hide X60 N60 (C := 1) (S := 5) (by decide) (by decide)
          refine Outs.of st60 ?_
          refine Outs.of (U' := T60.setTop (mkF m 295 #[vi i0, vi i1, vi i2, vi i3, vi i4, vi 0, vi 0, vi (f0_v33 i4), vi (f0_v38 i2), vi 3, vi 0, .val (.ref b56), vi 2, .unset, .unset, vi 0, vi 1, vi 3, vi 2] [(.int (f0_v33 i4)), (.int (4 : Int32)), (.ref b56)])) (fun t k => ?_) ?_
          · refine XS.aload X60.here hx rfl (hb hby at_287) rfl rfl ?_
            refine XS.iload X60.here hx rfl (hb hby at_289) rfl ?_
            refine XS.iconst X60.here hx rfl (hb hby at_291) ?_
            refine XS.iadd X60.here hx rfl (hb hby at_292) rfl ?_
            refine XS.iload X60.here hx rfl (hb hby at_293) rfl ?_
            exact k
          obtain ⟨T61, h61, X61, e61, W61, V61, st61⟩ := puB X60 hx hZ e60 V60 (j := (4 : Int32)) (x := (f0_v33 i4)) (k := 4) rfl (by decide) (f := (mkF m 295 #[vi i0, vi i1, vi i2, vi i3, vi i4, vi 0, vi 0, vi (f0_v33 i4), vi (f0_v38 i2), vi 3, vi 0, .val (.ref b56), vi 2, .unset, .unset, vi 0, vi 1, vi 3, vi 2] [(.int (f0_v33 i4)), (.int (4 : Int32)), (.ref b56)])) rfl rfl (hb hby at_295)
          replace V61 : AI Z h61 b56 .byte 5 (f0_g295 i2 i4) := V61
          have N61 := Fr.snoc X61 N60 g_b56
          obtain ⟨Lh61, X61, N61⟩ := hide X61 N61 (C := 1) (S := 5) (by decide) (by decide)
          refine Outs.of st61 ?_
          refine Outs.of (U' := T61.setTop (mkF m 552 #[vi i0, vi i1, vi i2, vi i3, vi i4, vi 0, vi 0, vi (f0_v33 i4), vi (f0_v38 i2), vi 3, vi 0, .val (.ref b56), vi 2, vi 5, vi 0, vi 5, vi 1, vi 3, vi 2] [])) (fun t k => ?_) ?_
          · refine XS.iload X61.here hx rfl (hb hby at_296) rfl ?_
            refine XS.iload X61.here hx rfl (hb hby at_298) rfl ?_
            refine XS.iadd X61.here hx rfl (hb hby at_300) rfl ?_
            refine XS.istore X61.here hx rfl (hb hby at_301) rfl (l' := #[vi i0, vi i1, vi i2, vi i3, vi i4, vi 0, vi 0, vi (f0_v33 i4), vi (f0_v38 i2), vi 3, vi 0, .val (.ref b56), vi 2, vi 5, .unset, vi 0, vi 1, vi 3, vi 2]) rfl ?_
            refine XS.iload X61.here hx rfl (hb hby at_303) rfl ?_
            refine XS.iconst X61.here hx rfl (hb hby at_305) ?_
            refine XS.icmpYes X61.here hx rfl (pc0 := 306) (pc' := 313) rfl (hb hby at_306) rfl (feq (show ¬ ((3 : Int32) = (1 : Int32)) from (by decide))).2 (by decide) (by decide) ?_
            refine XS.iconst X61.here hx rfl (hb hby at_313) ?_
            refine XS.istore X61.here hx rfl (hb hby at_314) rfl (l' := #[vi i0, vi i1, vi i2, vi i3, vi i4, vi 0, vi 0, vi (f0_v33 i4), vi (f0_v38 i2), vi 3, vi 0, .val (.ref b56), vi 2, vi 5, vi 0, vi 0, vi 1, vi 3, vi 2]) rfl ?_
            refine XS.goto X61.here hx rfl (pc0 := 316) (pc' := 515) rfl (hb hby at_316) (by decide) (by decide) ?_
            refine XS.iload X61.here hx rfl (hb hby at_515) rfl ?_
            refine XS.ifYes X61.here hx rfl (pc0 := 517) (pc' := 545) rfl (hb hby at_517) rfl ((if0 _ _).trans (teq (show (0 : Int32) = (0 : Int32) from (by decide))).1) (by decide) (by decide) ?_
            refine XS.iload X61.here hx rfl (hb hby at_545) rfl ?_
            refine XS.iload X61.here hx rfl (hb hby at_547) rfl ?_
            refine XS.iadd X61.here hx rfl (hb hby at_549) rfl ?_
            refine XS.istore X61.here hx rfl (hb hby at_550) rfl (l' := #[vi i0, vi i1, vi i2, vi i3, vi i4, vi 0, vi 0, vi (f0_v33 i4), vi (f0_v38 i2), vi 3, vi 0, .val (.ref b56), vi 2, vi 5, vi 0, vi 5, vi 1, vi 3, vi 2]) rfl ?_
            exact k
          obtain ⟨T62, h62, X62, e62, E62, A62, D62, -, st62⟩ := newO X61 hx hZ hown (hw _ (List.mem_of_getElem? (i := 2) rfl)) (hw _ (List.mem_of_getElem? (i := 3) rfl)) (hw _ (List.mem_of_getElem? (i := 4) rfl)) e61 (g := (mkF m 552 #[vi i0, vi i1, vi i2, vi i3, vi i4, vi 0, vi 0, vi (f0_v33 i4), vi (f0_v38 i2), vi 3, vi 0, .val (.ref b56), vi 2, vi 5, vi 0, vi 5, vi 1, vi 3, vi 2] [])) rfl (hb hby at_552) (by decide) (by decide)
          obtain ⟨b62, g62⟩ : ∃ z, z = h61.size := ⟨_, rfl⟩
          rw [← g62] at A62 D62 st62
          have g_b62 : n0 ≤ b62 := Nat.le_trans (Nat.le_trans (Nat.le_trans (Nat.le_trans (Nat.le_trans (Nat.le_trans (Nat.le_trans Z0 E56.1) (Keep.of_wr W57).1) (Keep.of_wr W58).1) (Keep.of_wr W59).1) (Keep.of_wr W60).1) (Keep.of_wr W61).1) (Nat.le_of_eq g62.symm)
          have ne_b56_b62 : b56 ≠ b62 := Nat.ne_of_lt (Nat.lt_of_lt_of_eq V61.lt g62.symm)
          have F62_12 : Fld Z h62 b62 "com/example/brief_locator/brieflocator/interchange/CanonicalForm" "bytes" "[B" .null := D62 (Or.inr (hw _ (List.mem_of_getElem? (i := 12) rfl))) (ty := (.array .byte)) (by decide)
          have F62_14 : Fld Z h62 b62 "com/example/brief_locator/brieflocator/interchange/CanonicalForm" "firstEnd" "I" (.int (0 : Int32)) := D62 (Or.inr (hw _ (List.mem_of_getElem? (i := 14) rfl))) (ty := .int) (by decide)
          have F62_16 : Fld Z h62 b62 "com/example/brief_locator/brieflocator/interchange/CanonicalForm" "pathStart" "I" (.int (0 : Int32)) := D62 (Or.inr (hw _ (List.mem_of_getElem? (i := 16) rfl))) (ty := .int) (by decide)
          have F62_18 : Fld Z h62 b62 "com/example/brief_locator/brieflocator/interchange/CanonicalForm" "pathEnd" "I" (.int (0 : Int32)) := D62 (Or.inr (hw _ (List.mem_of_getElem? (i := 18) rfl))) (ty := .int) (by decide)
          have F62_20 : Fld Z h62 b62 "com/example/brief_locator/brieflocator/interchange/CanonicalForm" "queryEnd" "I" (.int (0 : Int32)) := D62 (Or.inr (hw _ (List.mem_of_getElem? (i := 20) rfl))) (ty := .int) (by decide)
          have F62_25 : Fld Z h62 b62 "com/example/brief_locator/brieflocator/interchange/CanonicalForm" "hasScheme" "Z" (.int (0 : Int32)) := D62 (Or.inr (hw _ (List.mem_of_getElem? (i := 25) rfl))) (ty := .boolean) (by decide)
          have F62_27 : Fld Z h62 b62 "com/example/brief_locator/brieflocator/interchange/CanonicalForm" "hasAuthority" "Z" (.int (0 : Int32)) := D62 (Or.inr (hw _ (List.mem_of_getElem? (i := 27) rfl))) (ty := .boolean) (by decide)
          have F62_37 : Fld Z h62 b62 "com/example/brief_locator/brieflocator/interchange/CanonicalForm" "pathSegments" "I" (.int (0 : Int32)) := D62 (Or.inr (hw _ (List.mem_of_getElem? (i := 37) rfl))) (ty := .int) (by decide)
          have F62_52 : Fld Z h62 b62 "com/example/brief_locator/brieflocator/interchange/CanonicalForm" "pathSegmentsStart" "I" (.int (0 : Int32)) := D62 (Or.inr (hw _ (List.mem_of_getElem? (i := 52) rfl))) (ty := .int) (by decide)
          refine Outs.of st62 ?_
          refine Outs.of (U' := T62.setTop (mkF m 566 #[vi i0, vi i1, vi i2, vi i3, vi i4, vi 0, vi 0, vi (f0_v33 i4), vi (f0_v38 i2), vi 3, vi 0, .val (.ref b56), vi 2, vi 5, vi 0, vi 5, vi 1, vi 3, vi 2] [(.int (5 : Int32)), (.int (5 : Int32)), (.int (5 : Int32)), (.int (2 : Int32)), (.ref b56), (.ref b62), (.ref b62)])) (fun t k => ?_) ?_
          · refine XS.dup X62.here hx rfl (hb hby at_555) rfl rfl ?_
            refine XS.aload X62.here hx rfl (hb hby at_556) rfl rfl ?_
            refine XS.iload X62.here hx rfl (hb hby at_558) rfl ?_
            refine XS.iload X62.here hx rfl (hb hby at_560) rfl ?_
            refine XS.iload X62.here hx rfl (hb hby at_562) rfl ?_
            refine XS.iload X62.here hx rfl (hb hby at_564) rfl ?_
            exact k
          have f64 : AI Z h62 b56 .byte 5 (f0_g295 i2 i4) := (V61.ext E62)
          obtain ⟨_, _, ⟨T63, L63, k63, n63⟩, -, X63, ⟨Lc63, hQ63, l63, y63, z63⟩, st63⟩ := X62.specialBack hx (y := (⟨"com/example/brief_locator/brieflocator/interchange/CanonicalForm", "<init>", "([BIIII)V"⟩ : MethodName)) rfl hown (mvT hZ (hw _ (List.mem_of_getElem? (i := 5) rfl))) (mvT hZ (hw _ (List.mem_of_getElem? (i := 6) rfl))) (mvT hZ (hw _ (List.mem_of_getElem? (i := 7) rfl))) (by decide) (backOf (W := 1) (rmctn l Z a0 hw [] b62 b56 (2 : Int32) (5 : Int32) (5 : Int32) (5 : Int32) 5 (f0_g295 i2 i4) h62 n0 (Nat.le_trans (Nat.le_trans (Nat.le_trans (Nat.le_trans (Nat.le_trans (Nat.le_trans (Nat.le_trans Z0 E56.1) (Keep.of_wr W57).1) (Keep.of_wr W58).1) (Keep.of_wr W59).1) (Keep.of_wr W60).1) (Keep.of_wr W61).1) E62.1) A62 g_b62 F62_12 F62_14 F62_16 F62_18 F62_20 F62_25 F62_27 F62_37 F62_52 f64 ne_b56_b62 (by decide) (by decide) (by decide)) hZ (hw _ (List.mem_of_getElem? (i := 7) rfl)) (hw _ (List.mem_of_getElem? (i := 4) rfl)) (by decide) (by decide)) (g := (mkF m 566 #[vi i0, vi i1, vi i2, vi i3, vi i4, vi 0, vi 0, vi (f0_v33 i4), vi (f0_v38 i2), vi 3, vi 0, .val (.ref b56), vi 2, vi 5, vi 0, vi 5, vi 1, vi 3, vi 2] [(.int (5 : Int32)), (.int (5 : Int32)), (.int (5 : Int32)), (.int (2 : Int32)), (.ref b56), (.ref b62), (.ref b62)])) rfl (by rw [hml]; rfl) (Steps.refl _) (a := b62) (argsL := [(.ref b56), (.int (2 : Int32)), (.int (5 : Int32)), (.int (5 : Int32)), (.int (5 : Int32))]) (rest := [(.ref b62)]) (lenOf pd_0 rfl) rfl (by show 2 * 0 + _ ≤ _; exact Nat.le_of_eq rfl) (hb hby at_566) (fun _ _ => ⟨rfl, e62, (by decide : 2 + 0 ≤ _), (by decide : 15 + 0 ≤ _)⟩)
          dsimp only [Pt.U, Pt.locs, Pt.cells, Pt.slots] at X63 l63 y63 z63 st63 hQ63
          subst l63 y63 z63
          obtain ⟨rfl, N63q, K63, u63_0, u63_1, u63_2, u63_3, u63_4⟩ := hQ63
          have N63 := Fr.app N61 N63q
          obtain ⟨Lh63, X63, N63⟩ := hide X63 N63 (C := 2) (S := 15) (by decide) (by decide)
          refine Outs.to st63 ?_
          refine Outs.of (U' := T63.setTop (mkF m 573 #[vi i0, vi i1, vi i2, vi i3, vi i4, vi 0, vi 0, vi (f0_v33 i4), vi (f0_v38 i2), vi 3, vi 0, .val (.ref b56), vi 2, vi 5, vi 0, vi 5, .val (.ref b62), vi 3, vi 2] [(.ref b62)])) (fun t k => ?_) ?_
          · refine XS.astore X63.here hx rfl (hb hby at_569) rfl rfl (l' := #[vi i0, vi i1, vi i2, vi i3, vi i4, vi 0, vi 0, vi (f0_v33 i4), vi (f0_v38 i2), vi 3, vi 0, .val (.ref b56), vi 2, vi 5, vi 0, vi 5, .val (.ref b62), vi 3, vi 2]) rfl ?_
            refine XS.aload X63.here hx rfl (hb hby at_571) rfl rfl ?_
            exact k
          have f66 : AI Z T63.heap b56 .byte 5 (f0_g295 i2 i4) := (f64.keep K63 (ninS ne_b56_b62 nin0))
          obtain ⟨cq65, kq65, q65a, q65b, q65c⟩ := isOf hZ rfl u63_0
          obtain ⟨_, _, ⟨T65, L65, k65, n65⟩, -, X65, ⟨Lc65, hQ65, l65, y65, z65⟩, st65⟩ := X63.virtualBack hx (y := (⟨"com/example/brief_locator/brieflocator/interchange/CanonicalForm", "hasRootlessAuthority", "()Z"⟩ : MethodName)) (z := (⟨"com/example/brief_locator/brieflocator/interchange/CanonicalForm", "hasRootlessAuthority", "()Z"⟩ : MethodName)) hown (mvT hZ (hw _ (List.mem_of_getElem? (i := 53) rfl))) (mvT hZ (hw _ (List.mem_of_getElem? (i := 54) rfl))) (notFace_of_selects (args := #[]) (mvT hZ (hw _ (List.mem_of_getElem? (i := 56) rfl)))) (mvT hZ (hw _ (List.mem_of_getElem? (i := 56) rfl))) (mvT hZ (hw _ (List.mem_of_getElem? (i := 55) rfl))) (by decide) (backOf (W := 0) (rmhr l Z a0 hw [] b62 (ctn_out4 (2 : Int32) (5 : Int32) (5 : Int32) (5 : Int32) 5 (f0_g295 i2 i4)) (5 : Int32) (2 : Int32) b56 5 (f0_g295 i2 i4) 2 T63.heap n0 u63_0 u63_4 u63_3 u63_2 u63_1 f66 rfl (by decide)) hZ (hw _ (List.mem_of_getElem? (i := 57) rfl)) (hw _ (List.mem_of_getElem? (i := 4) rfl)) (by decide) (by decide)) q65a q65c (g := (mkF m 573 #[vi i0, vi i1, vi i2, vi i3, vi i4, vi 0, vi 0, vi (f0_v33 i4), vi (f0_v38 i2), vi 3, vi 0, .val (.ref b56), vi 2, vi 5, vi 0, vi 5, .val (.ref b62), vi 3, vi 2] [(.ref b62)])) rfl (by rw [hml]; rfl) (Steps.refl _) (argsL := []) (rest := []) (lenOf pd_7 rfl) rfl (by show 2 * 0 + _ ≤ _; exact Nat.le_of_eq rfl) (hb hby at_573) (fun _ _ => ⟨rfl, rfl, (by decide : 2 + 0 ≤ _), (by decide : 15 + 0 ≤ _)⟩)
          dsimp only [Pt.U, Pt.locs, Pt.cells, Pt.slots] at X65 l65 y65 z65 st65 hQ65
          subst l65 y65 z65
          obtain ⟨rfl, N65q, e65⟩ := hQ65
          have N65 := Fr.app N63 N65q
          obtain ⟨Lh65, X65, N65⟩ := hide X65 N65 (C := 2) (S := 15) (by decide) (by decide)
          refine Outs.to st65 ?_
          refine Outs.of (U' := T65.setTop (mkF m 586 #[vi i0, vi i1, vi i2, vi i3, vi i4, vi 0, vi 0, vi (f0_v33 i4), vi (f0_v38 i2), vi 3, vi 0, .val (.ref b56), vi 2, vi 5, vi 0, vi 5, .val (.ref b62), vi 3, vi 2] [(.int (1 : Int32))])) (fun t k => ?_) ?_
          · refine XS.iload X65.here hx rfl (hb hby at_576) rfl ?_
            refine XS.icmpNo X65.here hx rfl (hb hby at_578) rfl (teq (law_x6 i0 i1 i2 i3 i4 hc11 hc68)).2 ?_
            refine XS.iconst X65.here hx rfl (hb hby at_581) ?_
            refine XS.goto X65.here hx rfl (pc0 := 582) (pc' := 586) rfl (hb hby at_582) (by decide) (by decide) ?_
            exact k
          exact Outs.retN (t := .boolean) (z := (1 : Int32)) X65 hx hret (by simp) (hb hby at_586) hlk (by decide) (by decide) e65 ⟨rfl, N65⟩
        · refine Outs.of (U' := s₁.setTop (mkF m 71 #[vi i0, vi i1, vi i2, vi i3, vi i4, vi 0, vi 0, vi (f0_v33 i4), vi (f0_v38 i2), vi 3, vi 0, .unset, .unset, .unset, .unset, .unset, .unset, .unset, .unset] [])) (fun t k => ?_) ?_
          · refine XS.ifNo X0.here hx rfl (hb hby at_68) rfl ((if0 _ _).trans (feq hc68).1) ?_
            exact k
          refine Outs.of (U' := s₁.setTop (mkF m 152 #[vi i0, vi i1, vi i2, vi i3, vi i4, vi 0, vi 0, vi (f0_v33 i4), vi (f0_v38 i2), vi 3, vi 0, .unset, .unset, .unset, .unset, vi 1, vi 2, vi 3, vi 2] [(.int (6 : Int32))])) (fun t k => ?_) ?_
          · refine XS.iconst X0.here hx rfl (hb hby at_71) ?_
            refine XS.goto X0.here hx rfl (pc0 := 72) (pc' := 76) rfl (hb hby at_72) (by decide) (by decide) ?_
            refine XS.istore X0.here hx rfl (hb hby at_76) rfl (l' := #[vi i0, vi i1, vi i2, vi i3, vi i4, vi 0, vi 0, vi (f0_v33 i4), vi (f0_v38 i2), vi 3, vi 0, .unset, .unset, .unset, .unset, vi 1, .unset, .unset, .unset]) rfl ?_
            refine XS.iload X0.here hx rfl (hb hby at_78) rfl ?_
            refine XS.ifNo X0.here hx rfl (hb hby at_80) rfl ((if0 _ _).trans (feq (show ¬ ((1 : Int32) = (0 : Int32)) from (by decide))).1) ?_
            refine XS.iconst X0.here hx rfl (hb hby at_83) ?_
            refine XS.goto X0.here hx rfl (pc0 := 84) (pc' := 88) rfl (hb hby at_84) (by decide) (by decide) ?_
            refine XS.istore X0.here hx rfl (hb hby at_88) rfl (l' := #[vi i0, vi i1, vi i2, vi i3, vi i4, vi 0, vi 0, vi (f0_v33 i4), vi (f0_v38 i2), vi 3, vi 0, .unset, .unset, .unset, .unset, vi 1, vi 2, .unset, .unset]) rfl ?_
            refine XS.iload X0.here hx rfl (hb hby at_90) rfl ?_
            refine XS.iconst X0.here hx rfl (hb hby at_92) ?_
            refine XS.icmpNo X0.here hx rfl (hb hby at_93) rfl (teq (show (3 : Int32) = (3 : Int32) from (by decide))).2 ?_
            refine XS.iconst X0.here hx rfl (hb hby at_96) ?_
            refine XS.goto X0.here hx rfl (pc0 := 97) (pc' := 115) rfl (hb hby at_97) (by decide) (by decide) ?_
            refine XS.istore X0.here hx rfl (hb hby at_115) rfl (l' := #[vi i0, vi i1, vi i2, vi i3, vi i4, vi 0, vi 0, vi (f0_v33 i4), vi (f0_v38 i2), vi 3, vi 0, .unset, .unset, .unset, .unset, vi 1, vi 2, vi 3, .unset]) rfl ?_
            refine XS.iconst X0.here hx rfl (hb hby at_117) ?_
            refine XS.iload X0.here hx rfl (hb hby at_118) rfl ?_
            refine XS.ifNo X0.here hx rfl (hb hby at_120) rfl ((if0 _ _).trans (tlt (show (0 : Int32) < (3 : Int32) from (by decide))).2.2.2) ?_
            refine XS.iconst X0.here hx rfl (hb hby at_123) ?_
            refine XS.goto X0.here hx rfl (pc0 := 124) (pc' := 128) rfl (hb hby at_124) (by decide) (by decide) ?_
            refine XS.iadd X0.here hx rfl (hb hby at_128) rfl ?_
            refine XS.iload X0.here hx rfl (hb hby at_129) rfl ?_
            refine XS.ifYes X0.here hx rfl (pc0 := 131) (pc' := 138) rfl (hb hby at_131) rfl ((if0 _ _).trans (teq (show (0 : Int32) = (0 : Int32) from (by decide))).1) (by decide) (by decide) ?_
            refine XS.iconst X0.here hx rfl (hb hby at_138) ?_
            refine XS.iadd X0.here hx rfl (hb hby at_139) rfl ?_
            refine XS.istore X0.here hx rfl (hb hby at_140) rfl (l' := #[vi i0, vi i1, vi i2, vi i3, vi i4, vi 0, vi 0, vi (f0_v33 i4), vi (f0_v38 i2), vi 3, vi 0, .unset, .unset, .unset, .unset, vi 1, vi 2, vi 3, vi 2]) rfl ?_
            refine XS.iconst X0.here hx rfl (hb hby at_142) ?_
            refine XS.iload X0.here hx rfl (hb hby at_143) rfl ?_
            refine XS.iadd X0.here hx rfl (hb hby at_145) rfl ?_
            refine XS.iload X0.here hx rfl (hb hby at_146) rfl ?_
            refine XS.iadd X0.here hx rfl (hb hby at_148) rfl ?_
            refine XS.iload X0.here hx rfl (hb hby at_149) rfl ?_
            refine XS.iadd X0.here hx rfl (hb hby at_151) rfl ?_
            exact k
          obtain ⟨T67, h67, X67, e67, E67, A67, st67⟩ := newAF X0 hx hZ (aty := .byte) (hw _ (List.mem_of_getElem? (i := 1) rfl)) e0 (f := (mkF m 152 #[vi i0, vi i1, vi i2, vi i3, vi i4, vi 0, vi 0, vi (f0_v33 i4), vi (f0_v38 i2), vi 3, vi 0, .unset, .unset, .unset, .unset, vi 1, vi 2, vi 3, vi 2] [(.int (6 : Int32))])) rfl (hb hby at_152) rfl (k := 6) rfl (cap := 6) (by decide) (by decide) (by decide) (by decide)
          obtain ⟨b67, g67⟩ : ∃ z, z = h0.size := ⟨_, rfl⟩
          rw [← g67] at A67 st67
          have g_b67 : n0 ≤ b67 := Nat.le_trans Z0 (Nat.le_of_eq g67.symm)
          have V67 : AI Z h67 b67 .byte 6 (fun _ => (0 : Int32)) := A67
          refine Outs.of st67 ?_
          refine Outs.of (U' := T67.setTop (mkF m 166 #[vi i0, vi i1, vi i2, vi i3, vi i4, vi 0, vi 0, vi (f0_v33 i4), vi (f0_v38 i2), vi 3, vi 0, .val (.ref b67), .unset, .unset, .unset, vi 1, vi 2, vi 3, vi 2] [(.int ((130 : Int32).toInt8.toInt32)), (.int (0 : Int32)), (.ref b67)])) (fun t k => ?_) ?_
          · refine XS.astore X67.here hx rfl (hb hby at_154) rfl rfl (l' := #[vi i0, vi i1, vi i2, vi i3, vi i4, vi 0, vi 0, vi (f0_v33 i4), vi (f0_v38 i2), vi 3, vi 0, .val (.ref b67), .unset, .unset, .unset, vi 1, vi 2, vi 3, vi 2]) rfl ?_
            refine XS.aload X67.here hx rfl (hb hby at_156) rfl rfl ?_
            refine XS.iconst X67.here hx rfl (hb hby at_158) ?_
            refine XS.sipush X67.here hx rfl (hb hby at_159) ?_
            refine XS.iload X67.here hx rfl (hb hby at_162) rfl ?_
            refine XS.iadd X67.here hx rfl (hb hby at_164) rfl ?_
            refine XS.i2b X67.here hx rfl (hb hby at_165) rfl ?_
            exact k
          obtain ⟨T68, h68, X68, e68, W68, V68, st68⟩ := puB X67 hx hZ e67 V67 (j := (0 : Int32)) (x := ((130 : Int32).toInt8.toInt32)) (k := 0) rfl (by decide) (f := (mkF m 166 #[vi i0, vi i1, vi i2, vi i3, vi i4, vi 0, vi 0, vi (f0_v33 i4), vi (f0_v38 i2), vi 3, vi 0, .val (.ref b67), .unset, .unset, .unset, vi 1, vi 2, vi 3, vi 2] [(.int ((130 : Int32).toInt8.toInt32)), (.int (0 : Int32)), (.ref b67)])) rfl rfl (hb hby at_166)
          replace V68 : AI Z h68 b67 .byte 6 f0_g166a := V68
          have N68 := Fr.snoc X68 N0 g_b67
          obtain ⟨Lh68, X68, N68⟩ := hide X68 N68 (C := 1) (S := 6) (by decide) (by decide)
          refine Outs.of st68 ?_
          refine Outs.of (U' := T68.setTop (mkF m 177 #[vi i0, vi i1, vi i2, vi i3, vi i4, vi 0, vi 0, vi (f0_v33 i4), vi (f0_v38 i2), vi 3, vi 0, .val (.ref b67), .unset, .unset, .unset, vi 1, vi 2, vi 3, vi 2] [(.int (97 : Int32)), (.int (1 : Int32)), (.ref b67)])) (fun t k => ?_) ?_
          · refine XS.iload X68.here hx rfl (hb hby at_167) rfl ?_
            refine XS.ifNo X68.here hx rfl (hb hby at_169) rfl ((if0 _ _).trans (feq (show ¬ ((1 : Int32) = (0 : Int32)) from (by decide))).1) ?_
            refine XS.aload X68.here hx rfl (hb hby at_172) rfl rfl ?_
            refine XS.iconst X68.here hx rfl (hb hby at_174) ?_
            refine XS.bipush X68.here hx rfl (hb hby at_175) ?_
            exact k
          obtain ⟨T69, h69, X69, e69, W69, V69, st69⟩ := puB X68 hx hZ e68 V68 (j := (1 : Int32)) (x := (97 : Int32)) (k := 1) rfl (by decide) (f := (mkF m 177 #[vi i0, vi i1, vi i2, vi i3, vi i4, vi 0, vi 0, vi (f0_v33 i4), vi (f0_v38 i2), vi 3, vi 0, .val (.ref b67), .unset, .unset, .unset, vi 1, vi 2, vi 3, vi 2] [(.int (97 : Int32)), (.int (1 : Int32)), (.ref b67)])) rfl rfl (hb hby at_177)
          replace V69 : AI Z h69 b67 .byte 6 f0_g177a := V69
          have N69 := Fr.snoc X69 N68 g_b67
          obtain ⟨Lh69, X69, N69⟩ := hide X69 N69 (C := 1) (S := 6) (by decide) (by decide)
          refine Outs.of st69 ?_
          refine Outs.of (U' := T69.setTop (mkF m 190 #[vi i0, vi i1, vi i2, vi i3, vi i4, vi 0, vi 0, vi (f0_v33 i4), vi (f0_v38 i2), vi 3, vi 0, .val (.ref b67), .unset, .unset, .unset, vi 1, vi 2, vi 3, vi 2] [(.int (((97 : Int32) + ((f0_v38 i2) % (26 : Int32))).toInt8.toInt32)), (.int (2 : Int32)), (.ref b67)])) (fun t k => ?_) ?_
          · refine XS.aload X69.here hx rfl (hb hby at_178) rfl rfl ?_
            refine XS.iconst X69.here hx rfl (hb hby at_180) ?_
            refine XS.bipush X69.here hx rfl (hb hby at_181) ?_
            refine XS.iload X69.here hx rfl (hb hby at_183) rfl ?_
            refine XS.bipush X69.here hx rfl (hb hby at_185) ?_
            refine iremM X69 hx rfl (hb hby at_187) rfl (by decide) ?_
            refine XS.iadd X69.here hx rfl (hb hby at_188) rfl ?_
            refine XS.i2b X69.here hx rfl (hb hby at_189) rfl ?_
            exact k
          obtain ⟨T70, h70, X70, e70, W70, V70, st70⟩ := puB X69 hx hZ e69 V69 (j := (2 : Int32)) (x := (((97 : Int32) + ((f0_v38 i2) % (26 : Int32))).toInt8.toInt32)) (k := 2) rfl (by decide) (f := (mkF m 190 #[vi i0, vi i1, vi i2, vi i3, vi i4, vi 0, vi 0, vi (f0_v33 i4), vi (f0_v38 i2), vi 3, vi 0, .val (.ref b67), .unset, .unset, .unset, vi 1, vi 2, vi 3, vi 2] [(.int (((97 : Int32) + ((f0_v38 i2) % (26 : Int32))).toInt8.toInt32)), (.int (2 : Int32)), (.ref b67)])) rfl rfl (hb hby at_190)
          replace V70 : AI Z h70 b67 .byte 6 (f0_g190a i2) := V70
          have N70 := Fr.snoc X70 N69 g_b67
          obtain ⟨Lh70, X70, N70⟩ := hide X70 N70 (C := 1) (S := 6) (by decide) (by decide)
          refine Outs.of st70 ?_
          refine Outs.of (U' := T70.setTop (mkF m 277 #[vi i0, vi i1, vi i2, vi i3, vi i4, vi 0, vi 0, vi (f0_v33 i4), vi (f0_v38 i2), vi 3, vi 0, .val (.ref b67), vi 3, .unset, .unset, vi 1, vi 2, vi 3, vi 2] [(.int (-127 : Int32)), (.int (3 : Int32)), (.ref b67)])) (fun t k => ?_) ?_
          · refine XS.goto X70.here hx rfl (pc0 := 191) (pc' := 207) rfl (hb hby at_191) (by decide) (by decide) ?_
            refine XS.iconst X70.here hx rfl (hb hby at_207) ?_
            refine XS.iload X70.here hx rfl (hb hby at_208) rfl ?_
            refine XS.iadd X70.here hx rfl (hb hby at_210) rfl ?_
            refine XS.istore X70.here hx rfl (hb hby at_211) rfl (l' := #[vi i0, vi i1, vi i2, vi i3, vi i4, vi 0, vi 0, vi (f0_v33 i4), vi (f0_v38 i2), vi 3, vi 0, .val (.ref b67), vi 3, .unset, .unset, vi 1, vi 2, vi 3, vi 2]) rfl ?_
            refine XS.iload X70.here hx rfl (hb hby at_213) rfl ?_
            refine XS.ifYes X70.here hx rfl (pc0 := 215) (pc' := 233) rfl (hb hby at_215) rfl ((if0 _ _).trans (feq (show ¬ ((3 : Int32) = (0 : Int32)) from (by decide))).2) (by decide) (by decide) ?_
            refine XS.iload X70.here hx rfl (hb hby at_233) rfl ?_
            refine XS.iconst X70.here hx rfl (hb hby at_235) ?_
            refine XS.icmpYes X70.here hx rfl (pc0 := 236) (pc' := 249) rfl (hb hby at_236) rfl (feq (show ¬ ((3 : Int32) = (1 : Int32)) from (by decide))).2 (by decide) (by decide) ?_
            refine XS.iload X70.here hx rfl (hb hby at_249) rfl ?_
            refine XS.iconst X70.here hx rfl (hb hby at_251) ?_
            refine XS.icmpYes X70.here hx rfl (pc0 := 252) (pc' := 265) rfl (hb hby at_252) rfl (feq (show ¬ ((3 : Int32) = (2 : Int32)) from (by decide))).2 (by decide) (by decide) ?_
            refine XS.iload X70.here hx rfl (hb hby at_265) rfl ?_
            refine XS.iconst X70.here hx rfl (hb hby at_267) ?_
            refine XS.icmpNo X70.here hx rfl (hb hby at_268) rfl (teq (show (3 : Int32) = (3 : Int32) from (by decide))).2 ?_
            refine XS.aload X70.here hx rfl (hb hby at_271) rfl rfl ?_
            refine XS.iload X70.here hx rfl (hb hby at_273) rfl ?_
            refine XS.bipush X70.here hx rfl (hb hby at_275) ?_
            exact k
          obtain ⟨T71, h71, X71, e71, W71, V71, st71⟩ := puB X70 hx hZ e70 V70 (j := (3 : Int32)) (x := (-127 : Int32)) (k := 3) rfl (by decide) (f := (mkF m 277 #[vi i0, vi i1, vi i2, vi i3, vi i4, vi 0, vi 0, vi (f0_v33 i4), vi (f0_v38 i2), vi 3, vi 0, .val (.ref b67), vi 3, .unset, .unset, vi 1, vi 2, vi 3, vi 2] [(.int (-127 : Int32)), (.int (3 : Int32)), (.ref b67)])) rfl rfl (hb hby at_277)
          replace V71 : AI Z h71 b67 .byte 6 (f0_g277a i2) := V71
          have N71 := Fr.snoc X71 N70 g_b67
          obtain ⟨Lh71, X71, N71⟩ := hide X71 N71 (C := 1) (S := 6) (by decide) (by decide)
          refine Outs.of st71 ?_
          refine Outs.of (U' := T71.setTop (mkF m 286 #[vi i0, vi i1, vi i2, vi i3, vi i4, vi 0, vi 0, vi (f0_v33 i4), vi (f0_v38 i2), vi 3, vi 0, .val (.ref b67), vi 3, .unset, .unset, vi 1, vi 2, vi 3, vi 2] [(.int (97 : Int32)), (.int (4 : Int32)), (.ref b67)])) (fun t k => ?_) ?_
          · refine XS.aload X71.here hx rfl (hb hby at_278) rfl rfl ?_
            refine XS.iload X71.here hx rfl (hb hby at_280) rfl ?_
            refine XS.iconst X71.here hx rfl (hb hby at_282) ?_
            refine XS.iadd X71.here hx rfl (hb hby at_283) rfl ?_
            refine XS.bipush X71.here hx rfl (hb hby at_284) ?_
            exact k
          obtain ⟨T72, h72, X72, e72, W72, V72, st72⟩ := puB X71 hx hZ e71 V71 (j := (4 : Int32)) (x := (97 : Int32)) (k := 4) rfl (by decide) (f := (mkF m 286 #[vi i0, vi i1, vi i2, vi i3, vi i4, vi 0, vi 0, vi (f0_v33 i4), vi (f0_v38 i2), vi 3, vi 0, .val (.ref b67), vi 3, .unset, .unset, vi 1, vi 2, vi 3, vi 2] [(.int (97 : Int32)), (.int (4 : Int32)), (.ref b67)])) rfl rfl (hb hby at_286)
          replace V72 : AI Z h72 b67 .byte 6 (f0_g286a i2) := V72
          have N72 := Fr.snoc X72 N71 g_b67
          obtain ⟨Lh72, X72, N72⟩ := hide X72 N72 (C := 1) (S := 6) (by decide) (by decide)
          refine Outs.of st72 ?_
          refine Outs.of (U' := T72.setTop (mkF m 295 #[vi i0, vi i1, vi i2, vi i3, vi i4, vi 0, vi 0, vi (f0_v33 i4), vi (f0_v38 i2), vi 3, vi 0, .val (.ref b67), vi 3, .unset, .unset, vi 1, vi 2, vi 3, vi 2] [(.int (f0_v33 i4)), (.int (5 : Int32)), (.ref b67)])) (fun t k => ?_) ?_
          · refine XS.aload X72.here hx rfl (hb hby at_287) rfl rfl ?_
            refine XS.iload X72.here hx rfl (hb hby at_289) rfl ?_
            refine XS.iconst X72.here hx rfl (hb hby at_291) ?_
            refine XS.iadd X72.here hx rfl (hb hby at_292) rfl ?_
            refine XS.iload X72.here hx rfl (hb hby at_293) rfl ?_
            exact k
          obtain ⟨T73, h73, X73, e73, W73, V73, st73⟩ := puB X72 hx hZ e72 V72 (j := (5 : Int32)) (x := (f0_v33 i4)) (k := 5) rfl (by decide) (f := (mkF m 295 #[vi i0, vi i1, vi i2, vi i3, vi i4, vi 0, vi 0, vi (f0_v33 i4), vi (f0_v38 i2), vi 3, vi 0, .val (.ref b67), vi 3, .unset, .unset, vi 1, vi 2, vi 3, vi 2] [(.int (f0_v33 i4)), (.int (5 : Int32)), (.ref b67)])) rfl rfl (hb hby at_295)
          replace V73 : AI Z h73 b67 .byte 6 (f0_g295a i2 i4) := V73
          have N73 := Fr.snoc X73 N72 g_b67
          obtain ⟨Lh73, X73, N73⟩ := hide X73 N73 (C := 1) (S := 6) (by decide) (by decide)
          refine Outs.of st73 ?_
          refine Outs.of (U' := T73.setTop (mkF m 552 #[vi i0, vi i1, vi i2, vi i3, vi i4, vi 0, vi 0, vi (f0_v33 i4), vi (f0_v38 i2), vi 3, vi 0, .val (.ref b67), vi 3, vi 6, vi 0, vi 6, vi 2, vi 3, vi 2] [])) (fun t k => ?_) ?_
          · refine XS.iload X73.here hx rfl (hb hby at_296) rfl ?_
            refine XS.iload X73.here hx rfl (hb hby at_298) rfl ?_
            refine XS.iadd X73.here hx rfl (hb hby at_300) rfl ?_
            refine XS.istore X73.here hx rfl (hb hby at_301) rfl (l' := #[vi i0, vi i1, vi i2, vi i3, vi i4, vi 0, vi 0, vi (f0_v33 i4), vi (f0_v38 i2), vi 3, vi 0, .val (.ref b67), vi 3, vi 6, .unset, vi 1, vi 2, vi 3, vi 2]) rfl ?_
            refine XS.iload X73.here hx rfl (hb hby at_303) rfl ?_
            refine XS.iconst X73.here hx rfl (hb hby at_305) ?_
            refine XS.icmpYes X73.here hx rfl (pc0 := 306) (pc' := 313) rfl (hb hby at_306) rfl (feq (show ¬ ((3 : Int32) = (1 : Int32)) from (by decide))).2 (by decide) (by decide) ?_
            refine XS.iconst X73.here hx rfl (hb hby at_313) ?_
            refine XS.istore X73.here hx rfl (hb hby at_314) rfl (l' := #[vi i0, vi i1, vi i2, vi i3, vi i4, vi 0, vi 0, vi (f0_v33 i4), vi (f0_v38 i2), vi 3, vi 0, .val (.ref b67), vi 3, vi 6, vi 0, vi 1, vi 2, vi 3, vi 2]) rfl ?_
            refine XS.goto X73.here hx rfl (pc0 := 316) (pc' := 515) rfl (hb hby at_316) (by decide) (by decide) ?_
            refine XS.iload X73.here hx rfl (hb hby at_515) rfl ?_
            refine XS.ifYes X73.here hx rfl (pc0 := 517) (pc' := 545) rfl (hb hby at_517) rfl ((if0 _ _).trans (teq (show (0 : Int32) = (0 : Int32) from (by decide))).1) (by decide) (by decide) ?_
            refine XS.iload X73.here hx rfl (hb hby at_545) rfl ?_
            refine XS.iload X73.here hx rfl (hb hby at_547) rfl ?_
            refine XS.iadd X73.here hx rfl (hb hby at_549) rfl ?_
            refine XS.istore X73.here hx rfl (hb hby at_550) rfl (l' := #[vi i0, vi i1, vi i2, vi i3, vi i4, vi 0, vi 0, vi (f0_v33 i4), vi (f0_v38 i2), vi 3, vi 0, .val (.ref b67), vi 3, vi 6, vi 0, vi 6, vi 2, vi 3, vi 2]) rfl ?_
            exact k
          obtain ⟨T74, h74, X74, e74, E74, A74, D74, -, st74⟩ := newO X73 hx hZ hown (hw _ (List.mem_of_getElem? (i := 2) rfl)) (hw _ (List.mem_of_getElem? (i := 3) rfl)) (hw _ (List.mem_of_getElem? (i := 4) rfl)) e73 (g := (mkF m 552 #[vi i0, vi i1, vi i2, vi i3, vi i4, vi 0, vi 0, vi (f0_v33 i4), vi (f0_v38 i2), vi 3, vi 0, .val (.ref b67), vi 3, vi 6, vi 0, vi 6, vi 2, vi 3, vi 2] [])) rfl (hb hby at_552) (by decide) (by decide)
          obtain ⟨b74, g74⟩ : ∃ z, z = h73.size := ⟨_, rfl⟩
          rw [← g74] at A74 D74 st74
          have g_b74 : n0 ≤ b74 := Nat.le_trans (Nat.le_trans (Nat.le_trans (Nat.le_trans (Nat.le_trans (Nat.le_trans (Nat.le_trans (Nat.le_trans Z0 E67.1) (Keep.of_wr W68).1) (Keep.of_wr W69).1) (Keep.of_wr W70).1) (Keep.of_wr W71).1) (Keep.of_wr W72).1) (Keep.of_wr W73).1) (Nat.le_of_eq g74.symm)
          have ne_b67_b74 : b67 ≠ b74 := Nat.ne_of_lt (Nat.lt_of_lt_of_eq V73.lt g74.symm)
          have F74_12 : Fld Z h74 b74 "com/example/brief_locator/brieflocator/interchange/CanonicalForm" "bytes" "[B" .null := D74 (Or.inr (hw _ (List.mem_of_getElem? (i := 12) rfl))) (ty := (.array .byte)) (by decide)
          have F74_14 : Fld Z h74 b74 "com/example/brief_locator/brieflocator/interchange/CanonicalForm" "firstEnd" "I" (.int (0 : Int32)) := D74 (Or.inr (hw _ (List.mem_of_getElem? (i := 14) rfl))) (ty := .int) (by decide)
          have F74_16 : Fld Z h74 b74 "com/example/brief_locator/brieflocator/interchange/CanonicalForm" "pathStart" "I" (.int (0 : Int32)) := D74 (Or.inr (hw _ (List.mem_of_getElem? (i := 16) rfl))) (ty := .int) (by decide)
          have F74_18 : Fld Z h74 b74 "com/example/brief_locator/brieflocator/interchange/CanonicalForm" "pathEnd" "I" (.int (0 : Int32)) := D74 (Or.inr (hw _ (List.mem_of_getElem? (i := 18) rfl))) (ty := .int) (by decide)
          have F74_20 : Fld Z h74 b74 "com/example/brief_locator/brieflocator/interchange/CanonicalForm" "queryEnd" "I" (.int (0 : Int32)) := D74 (Or.inr (hw _ (List.mem_of_getElem? (i := 20) rfl))) (ty := .int) (by decide)
          have F74_25 : Fld Z h74 b74 "com/example/brief_locator/brieflocator/interchange/CanonicalForm" "hasScheme" "Z" (.int (0 : Int32)) := D74 (Or.inr (hw _ (List.mem_of_getElem? (i := 25) rfl))) (ty := .boolean) (by decide)
          have F74_27 : Fld Z h74 b74 "com/example/brief_locator/brieflocator/interchange/CanonicalForm" "hasAuthority" "Z" (.int (0 : Int32)) := D74 (Or.inr (hw _ (List.mem_of_getElem? (i := 27) rfl))) (ty := .boolean) (by decide)
          have F74_37 : Fld Z h74 b74 "com/example/brief_locator/brieflocator/interchange/CanonicalForm" "pathSegments" "I" (.int (0 : Int32)) := D74 (Or.inr (hw _ (List.mem_of_getElem? (i := 37) rfl))) (ty := .int) (by decide)
          have F74_52 : Fld Z h74 b74 "com/example/brief_locator/brieflocator/interchange/CanonicalForm" "pathSegmentsStart" "I" (.int (0 : Int32)) := D74 (Or.inr (hw _ (List.mem_of_getElem? (i := 52) rfl))) (ty := .int) (by decide)
          refine Outs.of st74 ?_
          refine Outs.of (U' := T74.setTop (mkF m 566 #[vi i0, vi i1, vi i2, vi i3, vi i4, vi 0, vi 0, vi (f0_v33 i4), vi (f0_v38 i2), vi 3, vi 0, .val (.ref b67), vi 3, vi 6, vi 0, vi 6, vi 2, vi 3, vi 2] [(.int (6 : Int32)), (.int (6 : Int32)), (.int (6 : Int32)), (.int (3 : Int32)), (.ref b67), (.ref b74), (.ref b74)])) (fun t k => ?_) ?_
          · refine XS.dup X74.here hx rfl (hb hby at_555) rfl rfl ?_
            refine XS.aload X74.here hx rfl (hb hby at_556) rfl rfl ?_
            refine XS.iload X74.here hx rfl (hb hby at_558) rfl ?_
            refine XS.iload X74.here hx rfl (hb hby at_560) rfl ?_
            refine XS.iload X74.here hx rfl (hb hby at_562) rfl ?_
            refine XS.iload X74.here hx rfl (hb hby at_564) rfl ?_
            exact k
          have f76 : AI Z h74 b67 .byte 6 (f0_g295a i2 i4) := (V73.ext E74)
          obtain ⟨_, _, ⟨T75, L75, k75, n75⟩, -, X75, ⟨Lc75, hQ75, l75, y75, z75⟩, st75⟩ := X74.specialBack hx (y := (⟨"com/example/brief_locator/brieflocator/interchange/CanonicalForm", "<init>", "([BIIII)V"⟩ : MethodName)) rfl hown (mvT hZ (hw _ (List.mem_of_getElem? (i := 5) rfl))) (mvT hZ (hw _ (List.mem_of_getElem? (i := 6) rfl))) (mvT hZ (hw _ (List.mem_of_getElem? (i := 7) rfl))) (by decide) (backOf (W := 1) (rmctn l Z a0 hw [] b74 b67 (3 : Int32) (6 : Int32) (6 : Int32) (6 : Int32) 6 (f0_g295a i2 i4) h74 n0 (Nat.le_trans (Nat.le_trans (Nat.le_trans (Nat.le_trans (Nat.le_trans (Nat.le_trans (Nat.le_trans (Nat.le_trans Z0 E67.1) (Keep.of_wr W68).1) (Keep.of_wr W69).1) (Keep.of_wr W70).1) (Keep.of_wr W71).1) (Keep.of_wr W72).1) (Keep.of_wr W73).1) E74.1) A74 g_b74 F74_12 F74_14 F74_16 F74_18 F74_20 F74_25 F74_27 F74_37 F74_52 f76 ne_b67_b74 (by decide) (by decide) (by decide)) hZ (hw _ (List.mem_of_getElem? (i := 7) rfl)) (hw _ (List.mem_of_getElem? (i := 4) rfl)) (by decide) (by decide)) (g := (mkF m 566 #[vi i0, vi i1, vi i2, vi i3, vi i4, vi 0, vi 0, vi (f0_v33 i4), vi (f0_v38 i2), vi 3, vi 0, .val (.ref b67), vi 3, vi 6, vi 0, vi 6, vi 2, vi 3, vi 2] [(.int (6 : Int32)), (.int (6 : Int32)), (.int (6 : Int32)), (.int (3 : Int32)), (.ref b67), (.ref b74), (.ref b74)])) rfl (by rw [hml]; rfl) (Steps.refl _) (a := b74) (argsL := [(.ref b67), (.int (3 : Int32)), (.int (6 : Int32)), (.int (6 : Int32)), (.int (6 : Int32))]) (rest := [(.ref b74)]) (lenOf pd_0 rfl) rfl (by show 2 * 0 + _ ≤ _; exact Nat.le_of_eq rfl) (hb hby at_566) (fun _ _ => ⟨rfl, e74, (by decide : 2 + 0 ≤ _), (by decide : 16 + 0 ≤ _)⟩)
          dsimp only [Pt.U, Pt.locs, Pt.cells, Pt.slots] at X75 l75 y75 z75 st75 hQ75
          subst l75 y75 z75
          obtain ⟨rfl, N75q, K75, u75_0, u75_1, u75_2, u75_3, u75_4⟩ := hQ75
          have N75 := Fr.app N73 N75q
          obtain ⟨Lh75, X75, N75⟩ := hide X75 N75 (C := 2) (S := 16) (by decide) (by decide)
          refine Outs.to st75 ?_
          refine Outs.of (U' := T75.setTop (mkF m 573 #[vi i0, vi i1, vi i2, vi i3, vi i4, vi 0, vi 0, vi (f0_v33 i4), vi (f0_v38 i2), vi 3, vi 0, .val (.ref b67), vi 3, vi 6, vi 0, vi 6, .val (.ref b74), vi 3, vi 2] [(.ref b74)])) (fun t k => ?_) ?_
          · refine XS.astore X75.here hx rfl (hb hby at_569) rfl rfl (l' := #[vi i0, vi i1, vi i2, vi i3, vi i4, vi 0, vi 0, vi (f0_v33 i4), vi (f0_v38 i2), vi 3, vi 0, .val (.ref b67), vi 3, vi 6, vi 0, vi 6, .val (.ref b74), vi 3, vi 2]) rfl ?_
            refine XS.aload X75.here hx rfl (hb hby at_571) rfl rfl ?_
            exact k
          have f78 : AI Z T75.heap b67 .byte 6 (f0_g295a i2 i4) := (f76.keep K75 (ninS ne_b67_b74 nin0))
          obtain ⟨cq77, kq77, q77a, q77b, q77c⟩ := isOf hZ rfl u75_0
          obtain ⟨_, _, ⟨T77, L77, k77, n77⟩, -, X77, ⟨Lc77, hQ77, l77, y77, z77⟩, st77⟩ := X75.virtualBack hx (y := (⟨"com/example/brief_locator/brieflocator/interchange/CanonicalForm", "hasRootlessAuthority", "()Z"⟩ : MethodName)) (z := (⟨"com/example/brief_locator/brieflocator/interchange/CanonicalForm", "hasRootlessAuthority", "()Z"⟩ : MethodName)) hown (mvT hZ (hw _ (List.mem_of_getElem? (i := 53) rfl))) (mvT hZ (hw _ (List.mem_of_getElem? (i := 54) rfl))) (notFace_of_selects (args := #[]) (mvT hZ (hw _ (List.mem_of_getElem? (i := 56) rfl)))) (mvT hZ (hw _ (List.mem_of_getElem? (i := 56) rfl))) (mvT hZ (hw _ (List.mem_of_getElem? (i := 55) rfl))) (by decide) (backOf (W := 0) (rmhr l Z a0 hw [] b74 (ctn_out4 (3 : Int32) (6 : Int32) (6 : Int32) (6 : Int32) 6 (f0_g295a i2 i4)) (6 : Int32) (3 : Int32) b67 6 (f0_g295a i2 i4) 3 T75.heap n0 u75_0 u75_4 u75_3 u75_2 u75_1 f78 rfl (by decide)) hZ (hw _ (List.mem_of_getElem? (i := 57) rfl)) (hw _ (List.mem_of_getElem? (i := 4) rfl)) (by decide) (by decide)) q77a q77c (g := (mkF m 573 #[vi i0, vi i1, vi i2, vi i3, vi i4, vi 0, vi 0, vi (f0_v33 i4), vi (f0_v38 i2), vi 3, vi 0, .val (.ref b67), vi 3, vi 6, vi 0, vi 6, .val (.ref b74), vi 3, vi 2] [(.ref b74)])) rfl (by rw [hml]; rfl) (Steps.refl _) (argsL := []) (rest := []) (lenOf pd_7 rfl) rfl (by show 2 * 0 + _ ≤ _; exact Nat.le_of_eq rfl) (hb hby at_573) (fun _ _ => ⟨rfl, rfl, (by decide : 2 + 0 ≤ _), (by decide : 16 + 0 ≤ _)⟩)
          dsimp only [Pt.U, Pt.locs, Pt.cells, Pt.slots] at X77 l77 y77 z77 st77 hQ77
          subst l77 y77 z77
          obtain ⟨rfl, N77q, e77⟩ := hQ77
          have N77 := Fr.app N75 N77q
          obtain ⟨Lh77, X77, N77⟩ := hide X77 N77 (C := 2) (S := 16) (by decide) (by decide)
          refine Outs.to st77 ?_
          refine Outs.of (U' := T77.setTop (mkF m 586 #[vi i0, vi i1, vi i2, vi i3, vi i4, vi 0, vi 0, vi (f0_v33 i4), vi (f0_v38 i2), vi 3, vi 0, .val (.ref b67), vi 3, vi 6, vi 0, vi 6, .val (.ref b74), vi 3, vi 2] [(.int (1 : Int32))])) (fun t k => ?_) ?_
          · refine XS.iload X77.here hx rfl (hb hby at_576) rfl ?_
            refine XS.icmpNo X77.here hx rfl (hb hby at_578) rfl (teq (law_x7 i0 i1 i2 i3 i4 hc11 hc68)).2 ?_
            refine XS.iconst X77.here hx rfl (hb hby at_581) ?_
            refine XS.goto X77.here hx rfl (pc0 := 582) (pc' := 586) rfl (hb hby at_582) (by decide) (by decide) ?_
            exact k
          exact Outs.retN (t := .boolean) (z := (1 : Int32)) X77 hx hret (by simp) (hb hby at_586) hlk (by decide) (by decide) e77 ⟨rfl, N77⟩
    · rw [q5]
      show Outs p e below s _ _ _ (s₁.setTop (mkF m 60 #[vi i0, vi i1, vi i2, vi i3, vi i4, vi 1, vi 0, vi (f0_v33 i4), vi (f0_v38 i2), vi (f0_v46 i1), vi 0, .unset, .unset, .unset, .unset, .unset, .unset, .unset, .unset] []))
      refine Outs.of (U' := s₁.setTop (mkF m 329 #[vi i0, vi i1, vi i2, vi i3, vi i4, vi 1, vi 0, vi (f0_v33 i4), vi (f0_v38 i2), vi (f0_v46 i1), vi 0, .unset, .unset, .unset, .unset, .unset, .unset, .unset, .unset] [(.int ((f0_v46 i1) &&& (1 : Int32)))])) (fun t k => ?_) ?_
      · refine XS.iload X0.here hx rfl (hb hby at_60) rfl ?_
        refine XS.ifYes X0.here hx rfl (pc0 := 62) (pc' := 319) rfl (hb hby at_62) rfl ((if0 _ _).trans (feq (show ¬ ((1 : Int32) = (0 : Int32)) from (by decide))).2) (by decide) (by decide) ?_
        refine XS.iload X0.here hx rfl (hb hby at_319) rfl ?_
        refine XS.iconst X0.here hx rfl (hb hby at_321) ?_
        refine XS.icmpNo X0.here hx rfl (hb hby at_322) rfl (teq (show (1 : Int32) = (1 : Int32) from (by decide))).2 ?_
        refine XS.iload X0.here hx rfl (hb hby at_325) rfl ?_
        refine XS.iconst X0.here hx rfl (hb hby at_327) ?_
        refine XS.iand X0.here hx rfl (hb hby at_328) rfl ?_
        exact k
      by_cases hc329 : ((f0_v46 i1) &&& (1 : Int32)) = (0 : Int32)
      · refine Outs.of (U' := s₁.setTop (mkF m 332 #[vi i0, vi i1, vi i2, vi i3, vi i4, vi 1, vi 0, vi (f0_v33 i4), vi (f0_v38 i2), vi (f0_v46 i1), vi 0, .unset, .unset, .unset, .unset, .unset, .unset, .unset, .unset] [])) (fun t k => ?_) ?_
        · refine XS.ifNo X0.here hx rfl (hb hby at_329) rfl ((if0 _ _).trans (teq hc329).2) ?_
          exact k
        refine Outs.of (U' := s₁.setTop (mkF m 346 #[vi i0, vi i1, vi i2, vi i3, vi i4, vi 1, vi 0, vi (f0_v33 i4), vi (f0_v38 i2), vi (f0_v46 i1), vi 0, .unset, .unset, .unset, .unset, vi 1, .unset, .unset, .unset] [(.int (3 : Int32))])) (fun t k => ?_) ?_
        · refine XS.iconst X0.here hx rfl (hb hby at_332) ?_
          refine XS.goto X0.here hx rfl (pc0 := 333) (pc' := 337) rfl (hb hby at_333) (by decide) (by decide) ?_
          refine XS.istore X0.here hx rfl (hb hby at_337) rfl (l' := #[vi i0, vi i1, vi i2, vi i3, vi i4, vi 1, vi 0, vi (f0_v33 i4), vi (f0_v38 i2), vi (f0_v46 i1), vi 0, .unset, .unset, .unset, .unset, vi 1, .unset, .unset, .unset]) rfl ?_
          refine XS.iconst X0.here hx rfl (hb hby at_339) ?_
          refine XS.iload X0.here hx rfl (hb hby at_340) rfl ?_
          refine XS.iadd X0.here hx rfl (hb hby at_342) rfl ?_
          refine XS.iload X0.here hx rfl (hb hby at_343) rfl ?_
          refine XS.iadd X0.here hx rfl (hb hby at_345) rfl ?_
          exact k
        obtain ⟨T79, h79, X79, e79, E79, A79, st79⟩ := newAF X0 hx hZ (aty := .byte) (hw _ (List.mem_of_getElem? (i := 1) rfl)) e0 (f := (mkF m 346 #[vi i0, vi i1, vi i2, vi i3, vi i4, vi 1, vi 0, vi (f0_v33 i4), vi (f0_v38 i2), vi (f0_v46 i1), vi 0, .unset, .unset, .unset, .unset, vi 1, .unset, .unset, .unset] [(.int (3 : Int32))])) rfl (hb hby at_346) rfl (k := 3) rfl (cap := 3) (by decide) (by decide) (by decide) (by decide)
        obtain ⟨b79, g79⟩ : ∃ z, z = h0.size := ⟨_, rfl⟩
        rw [← g79] at A79 st79
        have g_b79 : n0 ≤ b79 := Nat.le_trans Z0 (Nat.le_of_eq g79.symm)
        have V79 : AI Z h79 b79 .byte 3 (fun _ => (0 : Int32)) := A79
        refine Outs.of st79 ?_
        refine Outs.of (U' := T79.setTop (mkF m 368 #[vi i0, vi i1, vi i2, vi i3, vi i4, vi 1, vi 0, vi (f0_v33 i4), vi (f0_v38 i2), vi (f0_v46 i1), vi 0, .val (.ref b79), .unset, .unset, .unset, vi 1, .unset, .unset, .unset] [(.int ((130 : Int32).toInt8.toInt32)), (.int (0 : Int32)), (.ref b79)])) (fun t k => ?_) ?_
        · refine XS.astore X79.here hx rfl (hb hby at_348) rfl rfl (l' := #[vi i0, vi i1, vi i2, vi i3, vi i4, vi 1, vi 0, vi (f0_v33 i4), vi (f0_v38 i2), vi (f0_v46 i1), vi 0, .val (.ref b79), .unset, .unset, .unset, vi 1, .unset, .unset, .unset]) rfl ?_
          refine XS.aload X79.here hx rfl (hb hby at_350) rfl rfl ?_
          refine XS.iconst X79.here hx rfl (hb hby at_352) ?_
          refine XS.sipush X79.here hx rfl (hb hby at_353) ?_
          refine XS.iload X79.here hx rfl (hb hby at_356) rfl ?_
          refine XS.ifYes X79.here hx rfl (pc0 := 358) (pc' := 365) rfl (hb hby at_358) rfl ((if0 _ _).trans (teq (show (0 : Int32) = (0 : Int32) from (by decide))).1) (by decide) (by decide) ?_
          refine XS.iconst X79.here hx rfl (hb hby at_365) ?_
          refine XS.iadd X79.here hx rfl (hb hby at_366) rfl ?_
          refine XS.i2b X79.here hx rfl (hb hby at_367) rfl ?_
          exact k
        obtain ⟨T80, h80, X80, e80, W80, V80, st80⟩ := puB X79 hx hZ e79 V79 (j := (0 : Int32)) (x := ((130 : Int32).toInt8.toInt32)) (k := 0) rfl (by decide) (f := (mkF m 368 #[vi i0, vi i1, vi i2, vi i3, vi i4, vi 1, vi 0, vi (f0_v33 i4), vi (f0_v38 i2), vi (f0_v46 i1), vi 0, .val (.ref b79), .unset, .unset, .unset, vi 1, .unset, .unset, .unset] [(.int ((130 : Int32).toInt8.toInt32)), (.int (0 : Int32)), (.ref b79)])) rfl rfl (hb hby at_368)
        replace V80 : AI Z h80 b79 .byte 3 f0_g368 := V80
        have N80 := Fr.snoc X80 N0 g_b79
        obtain ⟨Lh80, X80, N80⟩ := hide X80 N80 (C := 1) (S := 3) (by decide) (by decide)
        refine Outs.of st80 ?_
        refine Outs.of (U' := T80.setTop (mkF m 374 #[vi i0, vi i1, vi i2, vi i3, vi i4, vi 1, vi 0, vi (f0_v33 i4), vi (f0_v38 i2), vi (f0_v46 i1), vi 0, .val (.ref b79), .unset, .unset, .unset, vi 1, .unset, .unset, .unset] [(.int (-10 : Int32)), (.int (1 : Int32)), (.ref b79)])) (fun t k => ?_) ?_
        · refine XS.aload X80.here hx rfl (hb hby at_369) rfl rfl ?_
          refine XS.iconst X80.here hx rfl (hb hby at_371) ?_
          refine XS.bipush X80.here hx rfl (hb hby at_372) ?_
          exact k
        obtain ⟨T81, h81, X81, e81, W81, V81, st81⟩ := puB X80 hx hZ e80 V80 (j := (1 : Int32)) (x := (-10 : Int32)) (k := 1) rfl (by decide) (f := (mkF m 374 #[vi i0, vi i1, vi i2, vi i3, vi i4, vi 1, vi 0, vi (f0_v33 i4), vi (f0_v38 i2), vi (f0_v46 i1), vi 0, .val (.ref b79), .unset, .unset, .unset, vi 1, .unset, .unset, .unset] [(.int (-10 : Int32)), (.int (1 : Int32)), (.ref b79)])) rfl rfl (hb hby at_374)
        replace V81 : AI Z h81 b79 .byte 3 f0_g374 := V81
        have N81 := Fr.snoc X81 N80 g_b79
        obtain ⟨Lh81, X81, N81⟩ := hide X81 N81 (C := 1) (S := 3) (by decide) (by decide)
        refine Outs.of st81 ?_
        refine Outs.of (U' := T81.setTop (mkF m 386 #[vi i0, vi i1, vi i2, vi i3, vi i4, vi 1, vi 0, vi (f0_v33 i4), vi (f0_v38 i2), vi (f0_v46 i1), vi 0, .val (.ref b79), .unset, .unset, .unset, vi 1, .unset, .unset, .unset] [(.int (-128 : Int32)), (.int (2 : Int32)), (.ref b79)])) (fun t k => ?_) ?_
        · refine XS.iload X81.here hx rfl (hb hby at_375) rfl ?_
          refine XS.iconst X81.here hx rfl (hb hby at_377) ?_
          refine XS.icmpNo X81.here hx rfl (hb hby at_378) rfl (teq (show (1 : Int32) = (1 : Int32) from (by decide))).2 ?_
          refine XS.aload X81.here hx rfl (hb hby at_381) rfl rfl ?_
          refine XS.iconst X81.here hx rfl (hb hby at_383) ?_
          refine XS.bipush X81.here hx rfl (hb hby at_384) ?_
          exact k
        obtain ⟨T82, h82, X82, e82, W82, V82, st82⟩ := puB X81 hx hZ e81 V81 (j := (2 : Int32)) (x := (-128 : Int32)) (k := 2) rfl (by decide) (f := (mkF m 386 #[vi i0, vi i1, vi i2, vi i3, vi i4, vi 1, vi 0, vi (f0_v33 i4), vi (f0_v38 i2), vi (f0_v46 i1), vi 0, .val (.ref b79), .unset, .unset, .unset, vi 1, .unset, .unset, .unset] [(.int (-128 : Int32)), (.int (2 : Int32)), (.ref b79)])) rfl rfl (hb hby at_386)
        replace V82 : AI Z h82 b79 .byte 3 f0_g386 := V82
        have N82 := Fr.snoc X82 N81 g_b79
        obtain ⟨Lh82, X82, N82⟩ := hide X82 N82 (C := 1) (S := 3) (by decide) (by decide)
        refine Outs.of st82 ?_
        refine Outs.of (U' := T82.setTop (mkF m 552 #[vi i0, vi i1, vi i2, vi i3, vi i4, vi 1, vi 0, vi (f0_v33 i4), vi (f0_v38 i2), vi (f0_v46 i1), vi 0, .val (.ref b79), vi 2, vi 3, vi 0, vi 3, .unset, .unset, .unset] [])) (fun t k => ?_) ?_
        · refine XS.goto X82.here hx rfl (pc0 := 387) (pc' := 408) rfl (hb hby at_387) (by decide) (by decide) ?_
          refine XS.iconst X82.here hx rfl (hb hby at_408) ?_
          refine XS.istore X82.here hx rfl (hb hby at_409) rfl (l' := #[vi i0, vi i1, vi i2, vi i3, vi i4, vi 1, vi 0, vi (f0_v33 i4), vi (f0_v38 i2), vi (f0_v46 i1), vi 0, .val (.ref b79), vi 2, .unset, .unset, vi 1, .unset, .unset, .unset]) rfl ?_
          refine XS.iconst X82.here hx rfl (hb hby at_411) ?_
          refine XS.iload X82.here hx rfl (hb hby at_412) rfl ?_
          refine XS.iadd X82.here hx rfl (hb hby at_414) rfl ?_
          refine XS.istore X82.here hx rfl (hb hby at_415) rfl (l' := #[vi i0, vi i1, vi i2, vi i3, vi i4, vi 1, vi 0, vi (f0_v33 i4), vi (f0_v38 i2), vi (f0_v46 i1), vi 0, .val (.ref b79), vi 2, vi 3, .unset, vi 1, .unset, .unset, .unset]) rfl ?_
          refine XS.iconst X82.here hx rfl (hb hby at_417) ?_
          refine XS.istore X82.here hx rfl (hb hby at_418) rfl (l' := #[vi i0, vi i1, vi i2, vi i3, vi i4, vi 1, vi 0, vi (f0_v33 i4), vi (f0_v38 i2), vi (f0_v46 i1), vi 0, .val (.ref b79), vi 2, vi 3, vi 0, vi 1, .unset, .unset, .unset]) rfl ?_
          refine XS.goto X82.here hx rfl (pc0 := 420) (pc' := 515) rfl (hb hby at_420) (by decide) (by decide) ?_
          refine XS.iload X82.here hx rfl (hb hby at_515) rfl ?_
          refine XS.ifYes X82.here hx rfl (pc0 := 517) (pc' := 545) rfl (hb hby at_517) rfl ((if0 _ _).trans (teq (show (0 : Int32) = (0 : Int32) from (by decide))).1) (by decide) (by decide) ?_
          refine XS.iload X82.here hx rfl (hb hby at_545) rfl ?_
          refine XS.iload X82.here hx rfl (hb hby at_547) rfl ?_
          refine XS.iadd X82.here hx rfl (hb hby at_549) rfl ?_
          refine XS.istore X82.here hx rfl (hb hby at_550) rfl (l' := #[vi i0, vi i1, vi i2, vi i3, vi i4, vi 1, vi 0, vi (f0_v33 i4), vi (f0_v38 i2), vi (f0_v46 i1), vi 0, .val (.ref b79), vi 2, vi 3, vi 0, vi 3, .unset, .unset, .unset]) rfl ?_
          exact k
        obtain ⟨T83, h83, X83, e83, E83, A83, D83, -, st83⟩ := newO X82 hx hZ hown (hw _ (List.mem_of_getElem? (i := 2) rfl)) (hw _ (List.mem_of_getElem? (i := 3) rfl)) (hw _ (List.mem_of_getElem? (i := 4) rfl)) e82 (g := (mkF m 552 #[vi i0, vi i1, vi i2, vi i3, vi i4, vi 1, vi 0, vi (f0_v33 i4), vi (f0_v38 i2), vi (f0_v46 i1), vi 0, .val (.ref b79), vi 2, vi 3, vi 0, vi 3, .unset, .unset, .unset] [])) rfl (hb hby at_552) (by decide) (by decide)
        obtain ⟨b83, g83⟩ : ∃ z, z = h82.size := ⟨_, rfl⟩
        rw [← g83] at A83 D83 st83
        have g_b83 : n0 ≤ b83 := Nat.le_trans (Nat.le_trans (Nat.le_trans (Nat.le_trans (Nat.le_trans Z0 E79.1) (Keep.of_wr W80).1) (Keep.of_wr W81).1) (Keep.of_wr W82).1) (Nat.le_of_eq g83.symm)
        have ne_b79_b83 : b79 ≠ b83 := Nat.ne_of_lt (Nat.lt_of_lt_of_eq V82.lt g83.symm)
        have F83_12 : Fld Z h83 b83 "com/example/brief_locator/brieflocator/interchange/CanonicalForm" "bytes" "[B" .null := D83 (Or.inr (hw _ (List.mem_of_getElem? (i := 12) rfl))) (ty := (.array .byte)) (by decide)
        have F83_14 : Fld Z h83 b83 "com/example/brief_locator/brieflocator/interchange/CanonicalForm" "firstEnd" "I" (.int (0 : Int32)) := D83 (Or.inr (hw _ (List.mem_of_getElem? (i := 14) rfl))) (ty := .int) (by decide)
        have F83_16 : Fld Z h83 b83 "com/example/brief_locator/brieflocator/interchange/CanonicalForm" "pathStart" "I" (.int (0 : Int32)) := D83 (Or.inr (hw _ (List.mem_of_getElem? (i := 16) rfl))) (ty := .int) (by decide)
        have F83_18 : Fld Z h83 b83 "com/example/brief_locator/brieflocator/interchange/CanonicalForm" "pathEnd" "I" (.int (0 : Int32)) := D83 (Or.inr (hw _ (List.mem_of_getElem? (i := 18) rfl))) (ty := .int) (by decide)
        have F83_20 : Fld Z h83 b83 "com/example/brief_locator/brieflocator/interchange/CanonicalForm" "queryEnd" "I" (.int (0 : Int32)) := D83 (Or.inr (hw _ (List.mem_of_getElem? (i := 20) rfl))) (ty := .int) (by decide)
        have F83_25 : Fld Z h83 b83 "com/example/brief_locator/brieflocator/interchange/CanonicalForm" "hasScheme" "Z" (.int (0 : Int32)) := D83 (Or.inr (hw _ (List.mem_of_getElem? (i := 25) rfl))) (ty := .boolean) (by decide)
        have F83_27 : Fld Z h83 b83 "com/example/brief_locator/brieflocator/interchange/CanonicalForm" "hasAuthority" "Z" (.int (0 : Int32)) := D83 (Or.inr (hw _ (List.mem_of_getElem? (i := 27) rfl))) (ty := .boolean) (by decide)
        have F83_37 : Fld Z h83 b83 "com/example/brief_locator/brieflocator/interchange/CanonicalForm" "pathSegments" "I" (.int (0 : Int32)) := D83 (Or.inr (hw _ (List.mem_of_getElem? (i := 37) rfl))) (ty := .int) (by decide)
        have F83_52 : Fld Z h83 b83 "com/example/brief_locator/brieflocator/interchange/CanonicalForm" "pathSegmentsStart" "I" (.int (0 : Int32)) := D83 (Or.inr (hw _ (List.mem_of_getElem? (i := 52) rfl))) (ty := .int) (by decide)
        refine Outs.of st83 ?_
        refine Outs.of (U' := T83.setTop (mkF m 566 #[vi i0, vi i1, vi i2, vi i3, vi i4, vi 1, vi 0, vi (f0_v33 i4), vi (f0_v38 i2), vi (f0_v46 i1), vi 0, .val (.ref b79), vi 2, vi 3, vi 0, vi 3, .unset, .unset, .unset] [(.int (3 : Int32)), (.int (3 : Int32)), (.int (3 : Int32)), (.int (2 : Int32)), (.ref b79), (.ref b83), (.ref b83)])) (fun t k => ?_) ?_
        · refine XS.dup X83.here hx rfl (hb hby at_555) rfl rfl ?_
          refine XS.aload X83.here hx rfl (hb hby at_556) rfl rfl ?_
          refine XS.iload X83.here hx rfl (hb hby at_558) rfl ?_
          refine XS.iload X83.here hx rfl (hb hby at_560) rfl ?_
          refine XS.iload X83.here hx rfl (hb hby at_562) rfl ?_
          refine XS.iload X83.here hx rfl (hb hby at_564) rfl ?_
          exact k
        have f85 : AI Z h83 b79 .byte 3 f0_g386 := (V82.ext E83)
        obtain ⟨_, _, ⟨T84, L84, k84, n84⟩, -, X84, ⟨Lc84, hQ84, l84, y84, z84⟩, st84⟩ := X83.specialBack hx (y := (⟨"com/example/brief_locator/brieflocator/interchange/CanonicalForm", "<init>", "([BIIII)V"⟩ : MethodName)) rfl hown (mvT hZ (hw _ (List.mem_of_getElem? (i := 5) rfl))) (mvT hZ (hw _ (List.mem_of_getElem? (i := 6) rfl))) (mvT hZ (hw _ (List.mem_of_getElem? (i := 7) rfl))) (by decide) (backOf (W := 1) (rmctn l Z a0 hw [] b83 b79 (2 : Int32) (3 : Int32) (3 : Int32) (3 : Int32) 3 f0_g386 h83 n0 (Nat.le_trans (Nat.le_trans (Nat.le_trans (Nat.le_trans (Nat.le_trans Z0 E79.1) (Keep.of_wr W80).1) (Keep.of_wr W81).1) (Keep.of_wr W82).1) E83.1) A83 g_b83 F83_12 F83_14 F83_16 F83_18 F83_20 F83_25 F83_27 F83_37 F83_52 f85 ne_b79_b83 (by decide) (by decide) (by decide)) hZ (hw _ (List.mem_of_getElem? (i := 7) rfl)) (hw _ (List.mem_of_getElem? (i := 4) rfl)) (by decide) (by decide)) (g := (mkF m 566 #[vi i0, vi i1, vi i2, vi i3, vi i4, vi 1, vi 0, vi (f0_v33 i4), vi (f0_v38 i2), vi (f0_v46 i1), vi 0, .val (.ref b79), vi 2, vi 3, vi 0, vi 3, .unset, .unset, .unset] [(.int (3 : Int32)), (.int (3 : Int32)), (.int (3 : Int32)), (.int (2 : Int32)), (.ref b79), (.ref b83), (.ref b83)])) rfl (by rw [hml]; rfl) (Steps.refl _) (a := b83) (argsL := [(.ref b79), (.int (2 : Int32)), (.int (3 : Int32)), (.int (3 : Int32)), (.int (3 : Int32))]) (rest := [(.ref b83)]) (lenOf pd_0 rfl) rfl (by show 2 * 0 + _ ≤ _; exact Nat.le_of_eq rfl) (hb hby at_566) (fun _ _ => ⟨rfl, e83, (by decide : 2 + 0 ≤ _), (by decide : 13 + 0 ≤ _)⟩)
        dsimp only [Pt.U, Pt.locs, Pt.cells, Pt.slots] at X84 l84 y84 z84 st84 hQ84
        subst l84 y84 z84
        obtain ⟨rfl, N84q, K84, u84_0, u84_1, u84_2, u84_3, u84_4⟩ := hQ84
        have N84 := Fr.app N82 N84q
        obtain ⟨Lh84, X84, N84⟩ := hide X84 N84 (C := 2) (S := 13) (by decide) (by decide)
        refine Outs.to st84 ?_
        refine Outs.of (U' := T84.setTop (mkF m 573 #[vi i0, vi i1, vi i2, vi i3, vi i4, vi 1, vi 0, vi (f0_v33 i4), vi (f0_v38 i2), vi (f0_v46 i1), vi 0, .val (.ref b79), vi 2, vi 3, vi 0, vi 3, .val (.ref b83), .unset, .unset] [(.ref b83)])) (fun t k => ?_) ?_
        · refine XS.astore X84.here hx rfl (hb hby at_569) rfl rfl (l' := #[vi i0, vi i1, vi i2, vi i3, vi i4, vi 1, vi 0, vi (f0_v33 i4), vi (f0_v38 i2), vi (f0_v46 i1), vi 0, .val (.ref b79), vi 2, vi 3, vi 0, vi 3, .val (.ref b83), .unset, .unset]) rfl ?_
          refine XS.aload X84.here hx rfl (hb hby at_571) rfl rfl ?_
          exact k
        have f87 : AI Z T84.heap b79 .byte 3 f0_g386 := (f85.keep K84 (ninS ne_b79_b83 nin0))
        obtain ⟨cq86, kq86, q86a, q86b, q86c⟩ := isOf hZ rfl u84_0
        obtain ⟨_, _, ⟨T86, L86, k86, n86⟩, -, X86, ⟨Lc86, hQ86, l86, y86, z86⟩, st86⟩ := X84.virtualBack hx (y := (⟨"com/example/brief_locator/brieflocator/interchange/CanonicalForm", "hasRootlessAuthority", "()Z"⟩ : MethodName)) (z := (⟨"com/example/brief_locator/brieflocator/interchange/CanonicalForm", "hasRootlessAuthority", "()Z"⟩ : MethodName)) hown (mvT hZ (hw _ (List.mem_of_getElem? (i := 53) rfl))) (mvT hZ (hw _ (List.mem_of_getElem? (i := 54) rfl))) (notFace_of_selects (args := #[]) (mvT hZ (hw _ (List.mem_of_getElem? (i := 56) rfl)))) (mvT hZ (hw _ (List.mem_of_getElem? (i := 56) rfl))) (mvT hZ (hw _ (List.mem_of_getElem? (i := 55) rfl))) (by decide) (backOf (W := 0) (rmhr l Z a0 hw [] b83 (ctn_out4 (2 : Int32) (3 : Int32) (3 : Int32) (3 : Int32) 3 f0_g386) (3 : Int32) (2 : Int32) b79 3 f0_g386 2 T84.heap n0 u84_0 u84_4 u84_3 u84_2 u84_1 f87 rfl (by decide)) hZ (hw _ (List.mem_of_getElem? (i := 57) rfl)) (hw _ (List.mem_of_getElem? (i := 4) rfl)) (by decide) (by decide)) q86a q86c (g := (mkF m 573 #[vi i0, vi i1, vi i2, vi i3, vi i4, vi 1, vi 0, vi (f0_v33 i4), vi (f0_v38 i2), vi (f0_v46 i1), vi 0, .val (.ref b79), vi 2, vi 3, vi 0, vi 3, .val (.ref b83), .unset, .unset] [(.ref b83)])) rfl (by rw [hml]; rfl) (Steps.refl _) (argsL := []) (rest := []) (lenOf pd_7 rfl) rfl (by show 2 * 0 + _ ≤ _; exact Nat.le_of_eq rfl) (hb hby at_573) (fun _ _ => ⟨rfl, rfl, (by decide : 2 + 0 ≤ _), (by decide : 13 + 0 ≤ _)⟩)
        dsimp only [Pt.U, Pt.locs, Pt.cells, Pt.slots] at X86 l86 y86 z86 st86 hQ86
        subst l86 y86 z86
        obtain ⟨rfl, N86q, e86⟩ := hQ86
        have N86 := Fr.app N84 N86q
        obtain ⟨Lh86, X86, N86⟩ := hide X86 N86 (C := 2) (S := 13) (by decide) (by decide)
        refine Outs.to st86 ?_
        refine Outs.of (U' := T86.setTop (mkF m 586 #[vi i0, vi i1, vi i2, vi i3, vi i4, vi 1, vi 0, vi (f0_v33 i4), vi (f0_v38 i2), vi (f0_v46 i1), vi 0, .val (.ref b79), vi 2, vi 3, vi 0, vi 3, .val (.ref b83), .unset, .unset] [(.int (1 : Int32))])) (fun t k => ?_) ?_
        · refine XS.iload X86.here hx rfl (hb hby at_576) rfl ?_
          refine XS.icmpNo X86.here hx rfl (hb hby at_578) rfl (teq (law_x8 i0 i1 i2 i3 i4 hc11 hc329)).2 ?_
          refine XS.iconst X86.here hx rfl (hb hby at_581) ?_
          refine XS.goto X86.here hx rfl (pc0 := 582) (pc' := 586) rfl (hb hby at_582) (by decide) (by decide) ?_
          exact k
        exact Outs.retN (t := .boolean) (z := (1 : Int32)) X86 hx hret (by simp) (hb hby at_586) hlk (by decide) (by decide) e86 ⟨rfl, N86⟩
      · refine Outs.of (U' := s₁.setTop (mkF m 336 #[vi i0, vi i1, vi i2, vi i3, vi i4, vi 1, vi 0, vi (f0_v33 i4), vi (f0_v38 i2), vi (f0_v46 i1), vi 0, .unset, .unset, .unset, .unset, .unset, .unset, .unset, .unset] [])) (fun t k => ?_) ?_
        · refine XS.ifYes X0.here hx rfl (pc0 := 329) (pc' := 336) rfl (hb hby at_329) rfl ((if0 _ _).trans (feq hc329).2) (by decide) (by decide) ?_
          exact k
        refine Outs.of (U' := s₁.setTop (mkF m 346 #[vi i0, vi i1, vi i2, vi i3, vi i4, vi 1, vi 0, vi (f0_v33 i4), vi (f0_v38 i2), vi (f0_v46 i1), vi 0, .unset, .unset, .unset, .unset, vi 3, .unset, .unset, .unset] [(.int (5 : Int32))])) (fun t k => ?_) ?_
        · refine XS.iconst X0.here hx rfl (hb hby at_336) ?_
          refine XS.istore X0.here hx rfl (hb hby at_337) rfl (l' := #[vi i0, vi i1, vi i2, vi i3, vi i4, vi 1, vi 0, vi (f0_v33 i4), vi (f0_v38 i2), vi (f0_v46 i1), vi 0, .unset, .unset, .unset, .unset, vi 3, .unset, .unset, .unset]) rfl ?_
          refine XS.iconst X0.here hx rfl (hb hby at_339) ?_
          refine XS.iload X0.here hx rfl (hb hby at_340) rfl ?_
          refine XS.iadd X0.here hx rfl (hb hby at_342) rfl ?_
          refine XS.iload X0.here hx rfl (hb hby at_343) rfl ?_
          refine XS.iadd X0.here hx rfl (hb hby at_345) rfl ?_
          exact k
        obtain ⟨T88, h88, X88, e88, E88, A88, st88⟩ := newAF X0 hx hZ (aty := .byte) (hw _ (List.mem_of_getElem? (i := 1) rfl)) e0 (f := (mkF m 346 #[vi i0, vi i1, vi i2, vi i3, vi i4, vi 1, vi 0, vi (f0_v33 i4), vi (f0_v38 i2), vi (f0_v46 i1), vi 0, .unset, .unset, .unset, .unset, vi 3, .unset, .unset, .unset] [(.int (5 : Int32))])) rfl (hb hby at_346) rfl (k := 5) rfl (cap := 5) (by decide) (by decide) (by decide) (by decide)
        obtain ⟨b88, g88⟩ : ∃ z, z = h0.size := ⟨_, rfl⟩
        rw [← g88] at A88 st88
        have g_b88 : n0 ≤ b88 := Nat.le_trans Z0 (Nat.le_of_eq g88.symm)
        have V88 : AI Z h88 b88 .byte 5 (fun _ => (0 : Int32)) := A88
        refine Outs.of st88 ?_
        refine Outs.of (U' := T88.setTop (mkF m 368 #[vi i0, vi i1, vi i2, vi i3, vi i4, vi 1, vi 0, vi (f0_v33 i4), vi (f0_v38 i2), vi (f0_v46 i1), vi 0, .val (.ref b88), .unset, .unset, .unset, vi 3, .unset, .unset, .unset] [(.int ((130 : Int32).toInt8.toInt32)), (.int (0 : Int32)), (.ref b88)])) (fun t k => ?_) ?_
        · refine XS.astore X88.here hx rfl (hb hby at_348) rfl rfl (l' := #[vi i0, vi i1, vi i2, vi i3, vi i4, vi 1, vi 0, vi (f0_v33 i4), vi (f0_v38 i2), vi (f0_v46 i1), vi 0, .val (.ref b88), .unset, .unset, .unset, vi 3, .unset, .unset, .unset]) rfl ?_
          refine XS.aload X88.here hx rfl (hb hby at_350) rfl rfl ?_
          refine XS.iconst X88.here hx rfl (hb hby at_352) ?_
          refine XS.sipush X88.here hx rfl (hb hby at_353) ?_
          refine XS.iload X88.here hx rfl (hb hby at_356) rfl ?_
          refine XS.ifYes X88.here hx rfl (pc0 := 358) (pc' := 365) rfl (hb hby at_358) rfl ((if0 _ _).trans (teq (show (0 : Int32) = (0 : Int32) from (by decide))).1) (by decide) (by decide) ?_
          refine XS.iconst X88.here hx rfl (hb hby at_365) ?_
          refine XS.iadd X88.here hx rfl (hb hby at_366) rfl ?_
          refine XS.i2b X88.here hx rfl (hb hby at_367) rfl ?_
          exact k
        obtain ⟨T89, h89, X89, e89, W89, V89, st89⟩ := puB X88 hx hZ e88 V88 (j := (0 : Int32)) (x := ((130 : Int32).toInt8.toInt32)) (k := 0) rfl (by decide) (f := (mkF m 368 #[vi i0, vi i1, vi i2, vi i3, vi i4, vi 1, vi 0, vi (f0_v33 i4), vi (f0_v38 i2), vi (f0_v46 i1), vi 0, .val (.ref b88), .unset, .unset, .unset, vi 3, .unset, .unset, .unset] [(.int ((130 : Int32).toInt8.toInt32)), (.int (0 : Int32)), (.ref b88)])) rfl rfl (hb hby at_368)
        replace V89 : AI Z h89 b88 .byte 5 f0_g368 := V89
        have N89 := Fr.snoc X89 N0 g_b88
        obtain ⟨Lh89, X89, N89⟩ := hide X89 N89 (C := 1) (S := 5) (by decide) (by decide)
        refine Outs.of st89 ?_
        refine Outs.of (U' := T89.setTop (mkF m 374 #[vi i0, vi i1, vi i2, vi i3, vi i4, vi 1, vi 0, vi (f0_v33 i4), vi (f0_v38 i2), vi (f0_v46 i1), vi 0, .val (.ref b88), .unset, .unset, .unset, vi 3, .unset, .unset, .unset] [(.int (-10 : Int32)), (.int (1 : Int32)), (.ref b88)])) (fun t k => ?_) ?_
        · refine XS.aload X89.here hx rfl (hb hby at_369) rfl rfl ?_
          refine XS.iconst X89.here hx rfl (hb hby at_371) ?_
          refine XS.bipush X89.here hx rfl (hb hby at_372) ?_
          exact k
        obtain ⟨T90, h90, X90, e90, W90, V90, st90⟩ := puB X89 hx hZ e89 V89 (j := (1 : Int32)) (x := (-10 : Int32)) (k := 1) rfl (by decide) (f := (mkF m 374 #[vi i0, vi i1, vi i2, vi i3, vi i4, vi 1, vi 0, vi (f0_v33 i4), vi (f0_v38 i2), vi (f0_v46 i1), vi 0, .val (.ref b88), .unset, .unset, .unset, vi 3, .unset, .unset, .unset] [(.int (-10 : Int32)), (.int (1 : Int32)), (.ref b88)])) rfl rfl (hb hby at_374)
        replace V90 : AI Z h90 b88 .byte 5 f0_g374 := V90
        have N90 := Fr.snoc X90 N89 g_b88
        obtain ⟨Lh90, X90, N90⟩ := hide X90 N90 (C := 1) (S := 5) (by decide) (by decide)
        refine Outs.of st90 ?_
        refine Outs.of (U' := T90.setTop (mkF m 395 #[vi i0, vi i1, vi i2, vi i3, vi i4, vi 1, vi 0, vi (f0_v33 i4), vi (f0_v38 i2), vi (f0_v46 i1), vi 0, .val (.ref b88), .unset, .unset, .unset, vi 3, .unset, .unset, .unset] [(.int (-127 : Int32)), (.int (2 : Int32)), (.ref b88)])) (fun t k => ?_) ?_
        · refine XS.iload X90.here hx rfl (hb hby at_375) rfl ?_
          refine XS.iconst X90.here hx rfl (hb hby at_377) ?_
          refine XS.icmpYes X90.here hx rfl (pc0 := 378) (pc' := 390) rfl (hb hby at_378) rfl (feq (show ¬ ((3 : Int32) = (1 : Int32)) from (by decide))).2 (by decide) (by decide) ?_
          refine XS.aload X90.here hx rfl (hb hby at_390) rfl rfl ?_
          refine XS.iconst X90.here hx rfl (hb hby at_392) ?_
          refine XS.bipush X90.here hx rfl (hb hby at_393) ?_
          exact k
        obtain ⟨T91, h91, X91, e91, W91, V91, st91⟩ := puB X90 hx hZ e90 V90 (j := (2 : Int32)) (x := (-127 : Int32)) (k := 2) rfl (by decide) (f := (mkF m 395 #[vi i0, vi i1, vi i2, vi i3, vi i4, vi 1, vi 0, vi (f0_v33 i4), vi (f0_v38 i2), vi (f0_v46 i1), vi 0, .val (.ref b88), .unset, .unset, .unset, vi 3, .unset, .unset, .unset] [(.int (-127 : Int32)), (.int (2 : Int32)), (.ref b88)])) rfl rfl (hb hby at_395)
        replace V91 : AI Z h91 b88 .byte 5 f0_g395 := V91
        have N91 := Fr.snoc X91 N90 g_b88
        obtain ⟨Lh91, X91, N91⟩ := hide X91 N91 (C := 1) (S := 5) (by decide) (by decide)
        refine Outs.of st91 ?_
        refine Outs.of (U' := T91.setTop (mkF m 401 #[vi i0, vi i1, vi i2, vi i3, vi i4, vi 1, vi 0, vi (f0_v33 i4), vi (f0_v38 i2), vi (f0_v46 i1), vi 0, .val (.ref b88), .unset, .unset, .unset, vi 3, .unset, .unset, .unset] [(.int (97 : Int32)), (.int (3 : Int32)), (.ref b88)])) (fun t k => ?_) ?_
        · refine XS.aload X91.here hx rfl (hb hby at_396) rfl rfl ?_
          refine XS.iconst X91.here hx rfl (hb hby at_398) ?_
          refine XS.bipush X91.here hx rfl (hb hby at_399) ?_
          exact k
        obtain ⟨T92, h92, X92, e92, W92, V92, st92⟩ := puB X91 hx hZ e91 V91 (j := (3 : Int32)) (x := (97 : Int32)) (k := 3) rfl (by decide) (f := (mkF m 401 #[vi i0, vi i1, vi i2, vi i3, vi i4, vi 1, vi 0, vi (f0_v33 i4), vi (f0_v38 i2), vi (f0_v46 i1), vi 0, .val (.ref b88), .unset, .unset, .unset, vi 3, .unset, .unset, .unset] [(.int (97 : Int32)), (.int (3 : Int32)), (.ref b88)])) rfl rfl (hb hby at_401)
        replace V92 : AI Z h92 b88 .byte 5 f0_g401 := V92
        have N92 := Fr.snoc X92 N91 g_b88
        obtain ⟨Lh92, X92, N92⟩ := hide X92 N92 (C := 1) (S := 5) (by decide) (by decide)
        refine Outs.of st92 ?_
        refine Outs.of (U' := T92.setTop (mkF m 407 #[vi i0, vi i1, vi i2, vi i3, vi i4, vi 1, vi 0, vi (f0_v33 i4), vi (f0_v38 i2), vi (f0_v46 i1), vi 0, .val (.ref b88), .unset, .unset, .unset, vi 3, .unset, .unset, .unset] [(.int (f0_v33 i4)), (.int (4 : Int32)), (.ref b88)])) (fun t k => ?_) ?_
        · refine XS.aload X92.here hx rfl (hb hby at_402) rfl rfl ?_
          refine XS.iconst X92.here hx rfl (hb hby at_404) ?_
          refine XS.iload X92.here hx rfl (hb hby at_405) rfl ?_
          exact k
        obtain ⟨T93, h93, X93, e93, W93, V93, st93⟩ := puB X92 hx hZ e92 V92 (j := (4 : Int32)) (x := (f0_v33 i4)) (k := 4) rfl (by decide) (f := (mkF m 407 #[vi i0, vi i1, vi i2, vi i3, vi i4, vi 1, vi 0, vi (f0_v33 i4), vi (f0_v38 i2), vi (f0_v46 i1), vi 0, .val (.ref b88), .unset, .unset, .unset, vi 3, .unset, .unset, .unset] [(.int (f0_v33 i4)), (.int (4 : Int32)), (.ref b88)])) rfl rfl (hb hby at_407)
        replace V93 : AI Z h93 b88 .byte 5 (f0_g407 i4) := V93
        have N93 := Fr.snoc X93 N92 g_b88
        obtain ⟨Lh93, X93, N93⟩ := hide X93 N93 (C := 1) (S := 5) (by decide) (by decide)
        refine Outs.of st93 ?_
        refine Outs.of (U' := T93.setTop (mkF m 552 #[vi i0, vi i1, vi i2, vi i3, vi i4, vi 1, vi 0, vi (f0_v33 i4), vi (f0_v38 i2), vi (f0_v46 i1), vi 0, .val (.ref b88), vi 2, vi 5, vi 0, vi 5, .unset, .unset, .unset] [])) (fun t k => ?_) ?_
        · refine XS.iconst X93.here hx rfl (hb hby at_408) ?_
          refine XS.istore X93.here hx rfl (hb hby at_409) rfl (l' := #[vi i0, vi i1, vi i2, vi i3, vi i4, vi 1, vi 0, vi (f0_v33 i4), vi (f0_v38 i2), vi (f0_v46 i1), vi 0, .val (.ref b88), vi 2, .unset, .unset, vi 3, .unset, .unset, .unset]) rfl ?_
          refine XS.iconst X93.here hx rfl (hb hby at_411) ?_
          refine XS.iload X93.here hx rfl (hb hby at_412) rfl ?_
          refine XS.iadd X93.here hx rfl (hb hby at_414) rfl ?_
          refine XS.istore X93.here hx rfl (hb hby at_415) rfl (l' := #[vi i0, vi i1, vi i2, vi i3, vi i4, vi 1, vi 0, vi (f0_v33 i4), vi (f0_v38 i2), vi (f0_v46 i1), vi 0, .val (.ref b88), vi 2, vi 5, .unset, vi 3, .unset, .unset, .unset]) rfl ?_
          refine XS.iconst X93.here hx rfl (hb hby at_417) ?_
          refine XS.istore X93.here hx rfl (hb hby at_418) rfl (l' := #[vi i0, vi i1, vi i2, vi i3, vi i4, vi 1, vi 0, vi (f0_v33 i4), vi (f0_v38 i2), vi (f0_v46 i1), vi 0, .val (.ref b88), vi 2, vi 5, vi 0, vi 3, .unset, .unset, .unset]) rfl ?_
          refine XS.goto X93.here hx rfl (pc0 := 420) (pc' := 515) rfl (hb hby at_420) (by decide) (by decide) ?_
          refine XS.iload X93.here hx rfl (hb hby at_515) rfl ?_
          refine XS.ifYes X93.here hx rfl (pc0 := 517) (pc' := 545) rfl (hb hby at_517) rfl ((if0 _ _).trans (teq (show (0 : Int32) = (0 : Int32) from (by decide))).1) (by decide) (by decide) ?_
          refine XS.iload X93.here hx rfl (hb hby at_545) rfl ?_
          refine XS.iload X93.here hx rfl (hb hby at_547) rfl ?_
          refine XS.iadd X93.here hx rfl (hb hby at_549) rfl ?_
          refine XS.istore X93.here hx rfl (hb hby at_550) rfl (l' := #[vi i0, vi i1, vi i2, vi i3, vi i4, vi 1, vi 0, vi (f0_v33 i4), vi (f0_v38 i2), vi (f0_v46 i1), vi 0, .val (.ref b88), vi 2, vi 5, vi 0, vi 5, .unset, .unset, .unset]) rfl ?_
          exact k
        obtain ⟨T94, h94, X94, e94, E94, A94, D94, -, st94⟩ := newO X93 hx hZ hown (hw _ (List.mem_of_getElem? (i := 2) rfl)) (hw _ (List.mem_of_getElem? (i := 3) rfl)) (hw _ (List.mem_of_getElem? (i := 4) rfl)) e93 (g := (mkF m 552 #[vi i0, vi i1, vi i2, vi i3, vi i4, vi 1, vi 0, vi (f0_v33 i4), vi (f0_v38 i2), vi (f0_v46 i1), vi 0, .val (.ref b88), vi 2, vi 5, vi 0, vi 5, .unset, .unset, .unset] [])) rfl (hb hby at_552) (by decide) (by decide)
        obtain ⟨b94, g94⟩ : ∃ z, z = h93.size := ⟨_, rfl⟩
        rw [← g94] at A94 D94 st94
        have g_b94 : n0 ≤ b94 := Nat.le_trans (Nat.le_trans (Nat.le_trans (Nat.le_trans (Nat.le_trans (Nat.le_trans (Nat.le_trans Z0 E88.1) (Keep.of_wr W89).1) (Keep.of_wr W90).1) (Keep.of_wr W91).1) (Keep.of_wr W92).1) (Keep.of_wr W93).1) (Nat.le_of_eq g94.symm)
        have ne_b88_b94 : b88 ≠ b94 := Nat.ne_of_lt (Nat.lt_of_lt_of_eq V93.lt g94.symm)
        have F94_12 : Fld Z h94 b94 "com/example/brief_locator/brieflocator/interchange/CanonicalForm" "bytes" "[B" .null := D94 (Or.inr (hw _ (List.mem_of_getElem? (i := 12) rfl))) (ty := (.array .byte)) (by decide)
        have F94_14 : Fld Z h94 b94 "com/example/brief_locator/brieflocator/interchange/CanonicalForm" "firstEnd" "I" (.int (0 : Int32)) := D94 (Or.inr (hw _ (List.mem_of_getElem? (i := 14) rfl))) (ty := .int) (by decide)
        have F94_16 : Fld Z h94 b94 "com/example/brief_locator/brieflocator/interchange/CanonicalForm" "pathStart" "I" (.int (0 : Int32)) := D94 (Or.inr (hw _ (List.mem_of_getElem? (i := 16) rfl))) (ty := .int) (by decide)
        have F94_18 : Fld Z h94 b94 "com/example/brief_locator/brieflocator/interchange/CanonicalForm" "pathEnd" "I" (.int (0 : Int32)) := D94 (Or.inr (hw _ (List.mem_of_getElem? (i := 18) rfl))) (ty := .int) (by decide)
        have F94_20 : Fld Z h94 b94 "com/example/brief_locator/brieflocator/interchange/CanonicalForm" "queryEnd" "I" (.int (0 : Int32)) := D94 (Or.inr (hw _ (List.mem_of_getElem? (i := 20) rfl))) (ty := .int) (by decide)
        have F94_25 : Fld Z h94 b94 "com/example/brief_locator/brieflocator/interchange/CanonicalForm" "hasScheme" "Z" (.int (0 : Int32)) := D94 (Or.inr (hw _ (List.mem_of_getElem? (i := 25) rfl))) (ty := .boolean) (by decide)
        have F94_27 : Fld Z h94 b94 "com/example/brief_locator/brieflocator/interchange/CanonicalForm" "hasAuthority" "Z" (.int (0 : Int32)) := D94 (Or.inr (hw _ (List.mem_of_getElem? (i := 27) rfl))) (ty := .boolean) (by decide)
        have F94_37 : Fld Z h94 b94 "com/example/brief_locator/brieflocator/interchange/CanonicalForm" "pathSegments" "I" (.int (0 : Int32)) := D94 (Or.inr (hw _ (List.mem_of_getElem? (i := 37) rfl))) (ty := .int) (by decide)
        have F94_52 : Fld Z h94 b94 "com/example/brief_locator/brieflocator/interchange/CanonicalForm" "pathSegmentsStart" "I" (.int (0 : Int32)) := D94 (Or.inr (hw _ (List.mem_of_getElem? (i := 52) rfl))) (ty := .int) (by decide)
        refine Outs.of st94 ?_
        refine Outs.of (U' := T94.setTop (mkF m 566 #[vi i0, vi i1, vi i2, vi i3, vi i4, vi 1, vi 0, vi (f0_v33 i4), vi (f0_v38 i2), vi (f0_v46 i1), vi 0, .val (.ref b88), vi 2, vi 5, vi 0, vi 5, .unset, .unset, .unset] [(.int (5 : Int32)), (.int (5 : Int32)), (.int (5 : Int32)), (.int (2 : Int32)), (.ref b88), (.ref b94), (.ref b94)])) (fun t k => ?_) ?_
        · refine XS.dup X94.here hx rfl (hb hby at_555) rfl rfl ?_
          refine XS.aload X94.here hx rfl (hb hby at_556) rfl rfl ?_
          refine XS.iload X94.here hx rfl (hb hby at_558) rfl ?_
          refine XS.iload X94.here hx rfl (hb hby at_560) rfl ?_
          refine XS.iload X94.here hx rfl (hb hby at_562) rfl ?_
          refine XS.iload X94.here hx rfl (hb hby at_564) rfl ?_
          exact k
        have f96 : AI Z h94 b88 .byte 5 (f0_g407 i4) := (V93.ext E94)
        obtain ⟨_, _, ⟨T95, L95, k95, n95⟩, -, X95, ⟨Lc95, hQ95, l95, y95, z95⟩, st95⟩ := X94.specialBack hx (y := (⟨"com/example/brief_locator/brieflocator/interchange/CanonicalForm", "<init>", "([BIIII)V"⟩ : MethodName)) rfl hown (mvT hZ (hw _ (List.mem_of_getElem? (i := 5) rfl))) (mvT hZ (hw _ (List.mem_of_getElem? (i := 6) rfl))) (mvT hZ (hw _ (List.mem_of_getElem? (i := 7) rfl))) (by decide) (backOf (W := 1) (rmctn l Z a0 hw [] b94 b88 (2 : Int32) (5 : Int32) (5 : Int32) (5 : Int32) 5 (f0_g407 i4) h94 n0 (Nat.le_trans (Nat.le_trans (Nat.le_trans (Nat.le_trans (Nat.le_trans (Nat.le_trans (Nat.le_trans Z0 E88.1) (Keep.of_wr W89).1) (Keep.of_wr W90).1) (Keep.of_wr W91).1) (Keep.of_wr W92).1) (Keep.of_wr W93).1) E94.1) A94 g_b94 F94_12 F94_14 F94_16 F94_18 F94_20 F94_25 F94_27 F94_37 F94_52 f96 ne_b88_b94 (by decide) (by decide) (by decide)) hZ (hw _ (List.mem_of_getElem? (i := 7) rfl)) (hw _ (List.mem_of_getElem? (i := 4) rfl)) (by decide) (by decide)) (g := (mkF m 566 #[vi i0, vi i1, vi i2, vi i3, vi i4, vi 1, vi 0, vi (f0_v33 i4), vi (f0_v38 i2), vi (f0_v46 i1), vi 0, .val (.ref b88), vi 2, vi 5, vi 0, vi 5, .unset, .unset, .unset] [(.int (5 : Int32)), (.int (5 : Int32)), (.int (5 : Int32)), (.int (2 : Int32)), (.ref b88), (.ref b94), (.ref b94)])) rfl (by rw [hml]; rfl) (Steps.refl _) (a := b94) (argsL := [(.ref b88), (.int (2 : Int32)), (.int (5 : Int32)), (.int (5 : Int32)), (.int (5 : Int32))]) (rest := [(.ref b94)]) (lenOf pd_0 rfl) rfl (by show 2 * 0 + _ ≤ _; exact Nat.le_of_eq rfl) (hb hby at_566) (fun _ _ => ⟨rfl, e94, (by decide : 2 + 0 ≤ _), (by decide : 15 + 0 ≤ _)⟩)
        dsimp only [Pt.U, Pt.locs, Pt.cells, Pt.slots] at X95 l95 y95 z95 st95 hQ95
        subst l95 y95 z95
        obtain ⟨rfl, N95q, K95, u95_0, u95_1, u95_2, u95_3, u95_4⟩ := hQ95
        have N95 := Fr.app N93 N95q
        obtain ⟨Lh95, X95, N95⟩ := hide X95 N95 (C := 2) (S := 15) (by decide) (by decide)
        refine Outs.to st95 ?_
        refine Outs.of (U' := T95.setTop (mkF m 573 #[vi i0, vi i1, vi i2, vi i3, vi i4, vi 1, vi 0, vi (f0_v33 i4), vi (f0_v38 i2), vi (f0_v46 i1), vi 0, .val (.ref b88), vi 2, vi 5, vi 0, vi 5, .val (.ref b94), .unset, .unset] [(.ref b94)])) (fun t k => ?_) ?_
        · refine XS.astore X95.here hx rfl (hb hby at_569) rfl rfl (l' := #[vi i0, vi i1, vi i2, vi i3, vi i4, vi 1, vi 0, vi (f0_v33 i4), vi (f0_v38 i2), vi (f0_v46 i1), vi 0, .val (.ref b88), vi 2, vi 5, vi 0, vi 5, .val (.ref b94), .unset, .unset]) rfl ?_
          refine XS.aload X95.here hx rfl (hb hby at_571) rfl rfl ?_
          exact k
        have f98 : AI Z T95.heap b88 .byte 5 (f0_g407 i4) := (f96.keep K95 (ninS ne_b88_b94 nin0))
        obtain ⟨cq97, kq97, q97a, q97b, q97c⟩ := isOf hZ rfl u95_0
        obtain ⟨_, _, ⟨T97, L97, k97, n97⟩, -, X97, ⟨Lc97, hQ97, l97, y97, z97⟩, st97⟩ := X95.virtualBack hx (y := (⟨"com/example/brief_locator/brieflocator/interchange/CanonicalForm", "hasRootlessAuthority", "()Z"⟩ : MethodName)) (z := (⟨"com/example/brief_locator/brieflocator/interchange/CanonicalForm", "hasRootlessAuthority", "()Z"⟩ : MethodName)) hown (mvT hZ (hw _ (List.mem_of_getElem? (i := 53) rfl))) (mvT hZ (hw _ (List.mem_of_getElem? (i := 54) rfl))) (notFace_of_selects (args := #[]) (mvT hZ (hw _ (List.mem_of_getElem? (i := 56) rfl)))) (mvT hZ (hw _ (List.mem_of_getElem? (i := 56) rfl))) (mvT hZ (hw _ (List.mem_of_getElem? (i := 55) rfl))) (by decide) (backOf (W := 0) (rmhr l Z a0 hw [] b94 (ctn_out4 (2 : Int32) (5 : Int32) (5 : Int32) (5 : Int32) 5 (f0_g407 i4)) (5 : Int32) (2 : Int32) b88 5 (f0_g407 i4) 2 T95.heap n0 u95_0 u95_4 u95_3 u95_2 u95_1 f98 rfl (by decide)) hZ (hw _ (List.mem_of_getElem? (i := 57) rfl)) (hw _ (List.mem_of_getElem? (i := 4) rfl)) (by decide) (by decide)) q97a q97c (g := (mkF m 573 #[vi i0, vi i1, vi i2, vi i3, vi i4, vi 1, vi 0, vi (f0_v33 i4), vi (f0_v38 i2), vi (f0_v46 i1), vi 0, .val (.ref b88), vi 2, vi 5, vi 0, vi 5, .val (.ref b94), .unset, .unset] [(.ref b94)])) rfl (by rw [hml]; rfl) (Steps.refl _) (argsL := []) (rest := []) (lenOf pd_7 rfl) rfl (by show 2 * 0 + _ ≤ _; exact Nat.le_of_eq rfl) (hb hby at_573) (fun _ _ => ⟨rfl, rfl, (by decide : 2 + 0 ≤ _), (by decide : 15 + 0 ≤ _)⟩)
        dsimp only [Pt.U, Pt.locs, Pt.cells, Pt.slots] at X97 l97 y97 z97 st97 hQ97
        subst l97 y97 z97
        obtain ⟨rfl, N97q, e97⟩ := hQ97
        have N97 := Fr.app N95 N97q
        obtain ⟨Lh97, X97, N97⟩ := hide X97 N97 (C := 2) (S := 15) (by decide) (by decide)
        refine Outs.to st97 ?_
        refine Outs.of (U' := T97.setTop (mkF m 586 #[vi i0, vi i1, vi i2, vi i3, vi i4, vi 1, vi 0, vi (f0_v33 i4), vi (f0_v38 i2), vi (f0_v46 i1), vi 0, .val (.ref b88), vi 2, vi 5, vi 0, vi 5, .val (.ref b94), .unset, .unset] [(.int (1 : Int32))])) (fun t k => ?_) ?_
        · refine XS.iload X97.here hx rfl (hb hby at_576) rfl ?_
          refine XS.icmpNo X97.here hx rfl (hb hby at_578) rfl (teq (law_x9 i0 i1 i2 i3 i4 hc11 hc329)).2 ?_
          refine XS.iconst X97.here hx rfl (hb hby at_581) ?_
          refine XS.goto X97.here hx rfl (pc0 := 582) (pc' := 586) rfl (hb hby at_582) (by decide) (by decide) ?_
          exact k
        exact Outs.retN (t := .boolean) (z := (1 : Int32)) X97 hx hret (by simp) (hb hby at_586) hlk (by decide) (by decide) e97 ⟨rfl, N97⟩
    · rw [q5]
      show Outs p e below s _ _ _ (s₁.setTop (mkF m 60 #[vi i0, vi i1, vi i2, vi i3, vi i4, vi 2, vi 0, vi (f0_v33 i4), vi (f0_v38 i2), vi (f0_v46 i1), vi 0, .unset, .unset, .unset, .unset, .unset, .unset, .unset, .unset] []))
      refine Outs.of (U' := s₁.setTop (mkF m 432 #[vi i0, vi i1, vi i2, vi i3, vi i4, vi 2, vi 0, vi (f0_v33 i4), vi (f0_v38 i2), vi (f0_v46 i1), vi 0, .unset, .unset, .unset, .unset, vi ((f0_v38 i2) % (25 : Int32)), .unset, .unset, .unset] [(.int ((f0_v38 i2) % (25 : Int32)))])) (fun t k => ?_) ?_
      · refine XS.iload X0.here hx rfl (hb hby at_60) rfl ?_
        refine XS.ifYes X0.here hx rfl (pc0 := 62) (pc' := 319) rfl (hb hby at_62) rfl ((if0 _ _).trans (feq (show ¬ ((2 : Int32) = (0 : Int32)) from (by decide))).2) (by decide) (by decide) ?_
        refine XS.iload X0.here hx rfl (hb hby at_319) rfl ?_
        refine XS.iconst X0.here hx rfl (hb hby at_321) ?_
        refine XS.icmpYes X0.here hx rfl (pc0 := 322) (pc' := 423) rfl (hb hby at_322) rfl (feq (show ¬ ((2 : Int32) = (1 : Int32)) from (by decide))).2 (by decide) (by decide) ?_
        refine XS.iload X0.here hx rfl (hb hby at_423) rfl ?_
        refine XS.bipush X0.here hx rfl (hb hby at_425) ?_
        refine iremM X0 hx rfl (hb hby at_427) rfl (by decide) ?_
        refine XS.istore X0.here hx rfl (hb hby at_428) rfl (l' := #[vi i0, vi i1, vi i2, vi i3, vi i4, vi 2, vi 0, vi (f0_v33 i4), vi (f0_v38 i2), vi (f0_v46 i1), vi 0, .unset, .unset, .unset, .unset, vi ((f0_v38 i2) % (25 : Int32)), .unset, .unset, .unset]) rfl ?_
        refine XS.iload X0.here hx rfl (hb hby at_430) rfl ?_
        exact k
      by_cases hc432 : ((f0_v38 i2) % (25 : Int32)) = (0 : Int32)
      · refine Outs.of (U' := s₁.setTop (mkF m 435 #[vi i0, vi i1, vi i2, vi i3, vi i4, vi 2, vi 0, vi (f0_v33 i4), vi (f0_v38 i2), vi (f0_v46 i1), vi 0, .unset, .unset, .unset, .unset, vi ((f0_v38 i2) % (25 : Int32)), .unset, .unset, .unset] [])) (fun t k => ?_) ?_
        · refine XS.ifNo X0.here hx rfl (hb hby at_432) rfl ((if0 _ _).trans (teq hc432).2) ?_
          exact k
        refine Outs.of (U' := s₁.setTop (mkF m 441 #[vi i0, vi i1, vi i2, vi i3, vi i4, vi 2, vi 0, vi (f0_v33 i4), vi (f0_v38 i2), vi (f0_v46 i1), vi 0, .unset, .unset, .unset, .unset, vi ((f0_v38 i2) % (25 : Int32)), .unset, .unset, .unset] [(.int (1 : Int32))])) (fun t k => ?_) ?_
        · refine XS.iload X0.here hx rfl (hb hby at_435) rfl ?_
          refine XS.ifNo X0.here hx rfl (hb hby at_437) rfl ((if0 _ _).trans (teq (show (0 : Int32) = (0 : Int32) from (by decide))).2) ?_
          refine XS.iconst X0.here hx rfl (hb hby at_440) ?_
          exact k
        obtain ⟨T99, h99, X99, e99, E99, A99, st99⟩ := newAF X0 hx hZ (aty := .byte) (hw _ (List.mem_of_getElem? (i := 1) rfl)) e0 (f := (mkF m 441 #[vi i0, vi i1, vi i2, vi i3, vi i4, vi 2, vi 0, vi (f0_v33 i4), vi (f0_v38 i2), vi (f0_v46 i1), vi 0, .unset, .unset, .unset, .unset, vi ((f0_v38 i2) % (25 : Int32)), .unset, .unset, .unset] [(.int (1 : Int32))])) rfl (hb hby at_441) rfl (k := 1) rfl (cap := 1) (by decide) (by decide) (by decide) (by decide)
        obtain ⟨b99, g99⟩ : ∃ z, z = h0.size := ⟨_, rfl⟩
        rw [← g99] at A99 st99
        have g_b99 : n0 ≤ b99 := Nat.le_trans Z0 (Nat.le_of_eq g99.symm)
        have V99 : AI Z h99 b99 .byte 1 (fun _ => (0 : Int32)) := A99
        refine Outs.of st99 ?_
        refine Outs.of (U' := T99.setTop (mkF m 450 #[vi i0, vi i1, vi i2, vi i3, vi i4, vi 2, vi 0, vi (f0_v33 i4), vi (f0_v38 i2), vi (f0_v46 i1), vi 0, .val (.ref b99), .unset, .unset, .unset, vi ((f0_v38 i2) % (25 : Int32)), .unset, .unset, .unset] [(.int (-128 : Int32)), (.int (0 : Int32)), (.ref b99)])) (fun t k => ?_) ?_
        · refine XS.astore X99.here hx rfl (hb hby at_443) rfl rfl (l' := #[vi i0, vi i1, vi i2, vi i3, vi i4, vi 2, vi 0, vi (f0_v33 i4), vi (f0_v38 i2), vi (f0_v46 i1), vi 0, .val (.ref b99), .unset, .unset, .unset, vi ((f0_v38 i2) % (25 : Int32)), .unset, .unset, .unset]) rfl ?_
          refine XS.aload X99.here hx rfl (hb hby at_445) rfl rfl ?_
          refine XS.iconst X99.here hx rfl (hb hby at_447) ?_
          refine XS.bipush X99.here hx rfl (hb hby at_448) ?_
          exact k
        obtain ⟨T100, h100, X100, e100, W100, V100, st100⟩ := puB X99 hx hZ e99 V99 (j := (0 : Int32)) (x := (-128 : Int32)) (k := 0) rfl (by decide) (f := (mkF m 450 #[vi i0, vi i1, vi i2, vi i3, vi i4, vi 2, vi 0, vi (f0_v33 i4), vi (f0_v38 i2), vi (f0_v46 i1), vi 0, .val (.ref b99), .unset, .unset, .unset, vi ((f0_v38 i2) % (25 : Int32)), .unset, .unset, .unset] [(.int (-128 : Int32)), (.int (0 : Int32)), (.ref b99)])) rfl rfl (hb hby at_450)
        replace V100 : AI Z h100 b99 .byte 1 f0_g450 := V100
        have N100 := Fr.snoc X100 N0 g_b99
        obtain ⟨Lh100, X100, N100⟩ := hide X100 N100 (C := 1) (S := 1) (by decide) (by decide)
        refine Outs.of st100 ?_
        refine Outs.of (U' := T100.setTop (mkF m 552 #[vi i0, vi i1, vi i2, vi i3, vi i4, vi 2, vi 0, vi (f0_v33 i4), vi (f0_v38 i2), vi (f0_v46 i1), vi 0, .val (.ref b99), vi 1, vi 1, vi 0, vi 1, .unset, .unset, .unset] [])) (fun t k => ?_) ?_
        · refine XS.iconst X100.here hx rfl (hb hby at_451) ?_
          refine XS.istore X100.here hx rfl (hb hby at_452) rfl (l' := #[vi i0, vi i1, vi i2, vi i3, vi i4, vi 2, vi 0, vi (f0_v33 i4), vi (f0_v38 i2), vi (f0_v46 i1), vi 0, .val (.ref b99), vi 1, .unset, .unset, vi ((f0_v38 i2) % (25 : Int32)), .unset, .unset, .unset]) rfl ?_
          refine XS.iconst X100.here hx rfl (hb hby at_454) ?_
          refine XS.istore X100.here hx rfl (hb hby at_455) rfl (l' := #[vi i0, vi i1, vi i2, vi i3, vi i4, vi 2, vi 0, vi (f0_v33 i4), vi (f0_v38 i2), vi (f0_v46 i1), vi 0, .val (.ref b99), vi 1, vi 1, .unset, vi ((f0_v38 i2) % (25 : Int32)), .unset, .unset, .unset]) rfl ?_
          refine XS.goto X100.here hx rfl (pc0 := 457) (pc' := 512) rfl (hb hby at_457) (by decide) (by decide) ?_
          refine XS.iconst X100.here hx rfl (hb hby at_512) ?_
          refine XS.istore X100.here hx rfl (hb hby at_513) rfl (l' := #[vi i0, vi i1, vi i2, vi i3, vi i4, vi 2, vi 0, vi (f0_v33 i4), vi (f0_v38 i2), vi (f0_v46 i1), vi 0, .val (.ref b99), vi 1, vi 1, vi 0, vi ((f0_v38 i2) % (25 : Int32)), .unset, .unset, .unset]) rfl ?_
          refine XS.iload X100.here hx rfl (hb hby at_515) rfl ?_
          refine XS.ifYes X100.here hx rfl (pc0 := 517) (pc' := 545) rfl (hb hby at_517) rfl ((if0 _ _).trans (teq (show (0 : Int32) = (0 : Int32) from (by decide))).1) (by decide) (by decide) ?_
          refine XS.iload X100.here hx rfl (hb hby at_545) rfl ?_
          refine XS.iload X100.here hx rfl (hb hby at_547) rfl ?_
          refine XS.iadd X100.here hx rfl (hb hby at_549) rfl ?_
          refine XS.istore X100.here hx rfl (hb hby at_550) rfl (l' := #[vi i0, vi i1, vi i2, vi i3, vi i4, vi 2, vi 0, vi (f0_v33 i4), vi (f0_v38 i2), vi (f0_v46 i1), vi 0, .val (.ref b99), vi 1, vi 1, vi 0, vi 1, .unset, .unset, .unset]) rfl ?_
          exact k
        obtain ⟨T101, h101, X101, e101, E101, A101, D101, -, st101⟩ := newO X100 hx hZ hown (hw _ (List.mem_of_getElem? (i := 2) rfl)) (hw _ (List.mem_of_getElem? (i := 3) rfl)) (hw _ (List.mem_of_getElem? (i := 4) rfl)) e100 (g := (mkF m 552 #[vi i0, vi i1, vi i2, vi i3, vi i4, vi 2, vi 0, vi (f0_v33 i4), vi (f0_v38 i2), vi (f0_v46 i1), vi 0, .val (.ref b99), vi 1, vi 1, vi 0, vi 1, .unset, .unset, .unset] [])) rfl (hb hby at_552) (by decide) (by decide)
        obtain ⟨b101, g101⟩ : ∃ z, z = h100.size := ⟨_, rfl⟩
        rw [← g101] at A101 D101 st101
        have g_b101 : n0 ≤ b101 := Nat.le_trans (Nat.le_trans (Nat.le_trans Z0 E99.1) (Keep.of_wr W100).1) (Nat.le_of_eq g101.symm)
        have ne_b99_b101 : b99 ≠ b101 := Nat.ne_of_lt (Nat.lt_of_lt_of_eq V100.lt g101.symm)
        have F101_12 : Fld Z h101 b101 "com/example/brief_locator/brieflocator/interchange/CanonicalForm" "bytes" "[B" .null := D101 (Or.inr (hw _ (List.mem_of_getElem? (i := 12) rfl))) (ty := (.array .byte)) (by decide)
        have F101_14 : Fld Z h101 b101 "com/example/brief_locator/brieflocator/interchange/CanonicalForm" "firstEnd" "I" (.int (0 : Int32)) := D101 (Or.inr (hw _ (List.mem_of_getElem? (i := 14) rfl))) (ty := .int) (by decide)
        have F101_16 : Fld Z h101 b101 "com/example/brief_locator/brieflocator/interchange/CanonicalForm" "pathStart" "I" (.int (0 : Int32)) := D101 (Or.inr (hw _ (List.mem_of_getElem? (i := 16) rfl))) (ty := .int) (by decide)
        have F101_18 : Fld Z h101 b101 "com/example/brief_locator/brieflocator/interchange/CanonicalForm" "pathEnd" "I" (.int (0 : Int32)) := D101 (Or.inr (hw _ (List.mem_of_getElem? (i := 18) rfl))) (ty := .int) (by decide)
        have F101_20 : Fld Z h101 b101 "com/example/brief_locator/brieflocator/interchange/CanonicalForm" "queryEnd" "I" (.int (0 : Int32)) := D101 (Or.inr (hw _ (List.mem_of_getElem? (i := 20) rfl))) (ty := .int) (by decide)
        have F101_25 : Fld Z h101 b101 "com/example/brief_locator/brieflocator/interchange/CanonicalForm" "hasScheme" "Z" (.int (0 : Int32)) := D101 (Or.inr (hw _ (List.mem_of_getElem? (i := 25) rfl))) (ty := .boolean) (by decide)
        have F101_27 : Fld Z h101 b101 "com/example/brief_locator/brieflocator/interchange/CanonicalForm" "hasAuthority" "Z" (.int (0 : Int32)) := D101 (Or.inr (hw _ (List.mem_of_getElem? (i := 27) rfl))) (ty := .boolean) (by decide)
        have F101_37 : Fld Z h101 b101 "com/example/brief_locator/brieflocator/interchange/CanonicalForm" "pathSegments" "I" (.int (0 : Int32)) := D101 (Or.inr (hw _ (List.mem_of_getElem? (i := 37) rfl))) (ty := .int) (by decide)
        have F101_52 : Fld Z h101 b101 "com/example/brief_locator/brieflocator/interchange/CanonicalForm" "pathSegmentsStart" "I" (.int (0 : Int32)) := D101 (Or.inr (hw _ (List.mem_of_getElem? (i := 52) rfl))) (ty := .int) (by decide)
        refine Outs.of st101 ?_
        refine Outs.of (U' := T101.setTop (mkF m 566 #[vi i0, vi i1, vi i2, vi i3, vi i4, vi 2, vi 0, vi (f0_v33 i4), vi (f0_v38 i2), vi (f0_v46 i1), vi 0, .val (.ref b99), vi 1, vi 1, vi 0, vi 1, .unset, .unset, .unset] [(.int (1 : Int32)), (.int (1 : Int32)), (.int (1 : Int32)), (.int (1 : Int32)), (.ref b99), (.ref b101), (.ref b101)])) (fun t k => ?_) ?_
        · refine XS.dup X101.here hx rfl (hb hby at_555) rfl rfl ?_
          refine XS.aload X101.here hx rfl (hb hby at_556) rfl rfl ?_
          refine XS.iload X101.here hx rfl (hb hby at_558) rfl ?_
          refine XS.iload X101.here hx rfl (hb hby at_560) rfl ?_
          refine XS.iload X101.here hx rfl (hb hby at_562) rfl ?_
          refine XS.iload X101.here hx rfl (hb hby at_564) rfl ?_
          exact k
        have f103 : AI Z h101 b99 .byte 1 f0_g450 := (V100.ext E101)
        obtain ⟨_, _, ⟨T102, L102, k102, n102⟩, -, X102, ⟨Lc102, hQ102, l102, y102, z102⟩, st102⟩ := X101.specialBack hx (y := (⟨"com/example/brief_locator/brieflocator/interchange/CanonicalForm", "<init>", "([BIIII)V"⟩ : MethodName)) rfl hown (mvT hZ (hw _ (List.mem_of_getElem? (i := 5) rfl))) (mvT hZ (hw _ (List.mem_of_getElem? (i := 6) rfl))) (mvT hZ (hw _ (List.mem_of_getElem? (i := 7) rfl))) (by decide) (backOf (W := 1) (rmct1 l Z a0 hw [] b101 b99 (1 : Int32) (1 : Int32) (1 : Int32) 1 f0_g450 h101 n0 (Nat.le_trans (Nat.le_trans (Nat.le_trans Z0 E99.1) (Keep.of_wr W100).1) E101.1) A101 g_b101 F101_12 F101_14 F101_16 F101_18 F101_20 F101_25 F101_27 F101_37 F101_52 f103 ne_b99_b101 (by decide)) hZ (hw _ (List.mem_of_getElem? (i := 7) rfl)) (hw _ (List.mem_of_getElem? (i := 4) rfl)) (by decide) (by decide)) (g := (mkF m 566 #[vi i0, vi i1, vi i2, vi i3, vi i4, vi 2, vi 0, vi (f0_v33 i4), vi (f0_v38 i2), vi (f0_v46 i1), vi 0, .val (.ref b99), vi 1, vi 1, vi 0, vi 1, .unset, .unset, .unset] [(.int (1 : Int32)), (.int (1 : Int32)), (.int (1 : Int32)), (.int (1 : Int32)), (.ref b99), (.ref b101), (.ref b101)])) rfl (by rw [hml]; rfl) (Steps.refl _) (a := b101) (argsL := [(.ref b99), (.int (1 : Int32)), (.int (1 : Int32)), (.int (1 : Int32)), (.int (1 : Int32))]) (rest := [(.ref b101)]) (lenOf pd_0 rfl) rfl (by show 2 * 0 + _ ≤ _; exact Nat.le_of_eq rfl) (hb hby at_566) (fun _ _ => ⟨rfl, e101, (by decide : 2 + 0 ≤ _), (by decide : 11 + 0 ≤ _)⟩)
        dsimp only [Pt.U, Pt.locs, Pt.cells, Pt.slots] at X102 l102 y102 z102 st102 hQ102
        subst l102 y102 z102
        obtain ⟨rfl, N102q, K102, u102_0, u102_1, u102_2, u102_3, u102_4⟩ := hQ102
        have N102 := Fr.app N100 N102q
        obtain ⟨Lh102, X102, N102⟩ := hide X102 N102 (C := 2) (S := 11) (by decide) (by decide)
        refine Outs.to st102 ?_
        refine Outs.of (U' := T102.setTop (mkF m 573 #[vi i0, vi i1, vi i2, vi i3, vi i4, vi 2, vi 0, vi (f0_v33 i4), vi (f0_v38 i2), vi (f0_v46 i1), vi 0, .val (.ref b99), vi 1, vi 1, vi 0, vi 1, .val (.ref b101), .unset, .unset] [(.ref b101)])) (fun t k => ?_) ?_
        · refine XS.astore X102.here hx rfl (hb hby at_569) rfl rfl (l' := #[vi i0, vi i1, vi i2, vi i3, vi i4, vi 2, vi 0, vi (f0_v33 i4), vi (f0_v38 i2), vi (f0_v46 i1), vi 0, .val (.ref b99), vi 1, vi 1, vi 0, vi 1, .val (.ref b101), .unset, .unset]) rfl ?_
          refine XS.aload X102.here hx rfl (hb hby at_571) rfl rfl ?_
          exact k
        have f105 : AI Z T102.heap b99 .byte 1 f0_g450 := (f103.keep K102 (ninS ne_b99_b101 nin0))
        obtain ⟨cq104, kq104, q104a, q104b, q104c⟩ := isOf hZ rfl u102_0
        obtain ⟨_, _, ⟨T104, L104, k104, n104⟩, -, X104, ⟨Lc104, hQ104, l104, y104, z104⟩, st104⟩ := X102.virtualBack hx (y := (⟨"com/example/brief_locator/brieflocator/interchange/CanonicalForm", "hasRootlessAuthority", "()Z"⟩ : MethodName)) (z := (⟨"com/example/brief_locator/brieflocator/interchange/CanonicalForm", "hasRootlessAuthority", "()Z"⟩ : MethodName)) hown (mvT hZ (hw _ (List.mem_of_getElem? (i := 53) rfl))) (mvT hZ (hw _ (List.mem_of_getElem? (i := 54) rfl))) (notFace_of_selects (args := #[]) (mvT hZ (hw _ (List.mem_of_getElem? (i := 56) rfl)))) (mvT hZ (hw _ (List.mem_of_getElem? (i := 56) rfl))) (mvT hZ (hw _ (List.mem_of_getElem? (i := 55) rfl))) (by decide) (backOf (W := 0) (rmhr l Z a0 hw [] b101 (0 : Int32) (1 : Int32) (1 : Int32) b99 1 f0_g450 1 T102.heap n0 u102_0 u102_4 u102_3 u102_2 u102_1 f105 rfl (by decide)) hZ (hw _ (List.mem_of_getElem? (i := 57) rfl)) (hw _ (List.mem_of_getElem? (i := 4) rfl)) (by decide) (by decide)) q104a q104c (g := (mkF m 573 #[vi i0, vi i1, vi i2, vi i3, vi i4, vi 2, vi 0, vi (f0_v33 i4), vi (f0_v38 i2), vi (f0_v46 i1), vi 0, .val (.ref b99), vi 1, vi 1, vi 0, vi 1, .val (.ref b101), .unset, .unset] [(.ref b101)])) rfl (by rw [hml]; rfl) (Steps.refl _) (argsL := []) (rest := []) (lenOf pd_7 rfl) rfl (by show 2 * 0 + _ ≤ _; exact Nat.le_of_eq rfl) (hb hby at_573) (fun _ _ => ⟨rfl, rfl, (by decide : 2 + 0 ≤ _), (by decide : 11 + 0 ≤ _)⟩)
        dsimp only [Pt.U, Pt.locs, Pt.cells, Pt.slots] at X104 l104 y104 z104 st104 hQ104
        subst l104 y104 z104
        obtain ⟨rfl, N104q, e104⟩ := hQ104
        have N104 := Fr.app N102 N104q
        obtain ⟨Lh104, X104, N104⟩ := hide X104 N104 (C := 2) (S := 11) (by decide) (by decide)
        refine Outs.to st104 ?_
        refine Outs.of (U' := T104.setTop (mkF m 586 #[vi i0, vi i1, vi i2, vi i3, vi i4, vi 2, vi 0, vi (f0_v33 i4), vi (f0_v38 i2), vi (f0_v46 i1), vi 0, .val (.ref b99), vi 1, vi 1, vi 0, vi 1, .val (.ref b101), .unset, .unset] [(.int (1 : Int32))])) (fun t k => ?_) ?_
        · refine XS.iload X104.here hx rfl (hb hby at_576) rfl ?_
          refine XS.icmpNo X104.here hx rfl (hb hby at_578) rfl (teq (law_x10 i0 i1 i2 i3 i4 hc11 hc432)).2 ?_
          refine XS.iconst X104.here hx rfl (hb hby at_581) ?_
          refine XS.goto X104.here hx rfl (pc0 := 582) (pc' := 586) rfl (hb hby at_582) (by decide) (by decide) ?_
          exact k
        exact Outs.retN (t := .boolean) (z := (1 : Int32)) X104 hx hret (by simp) (hb hby at_586) hlk (by decide) (by decide) e104 ⟨rfl, N104⟩
      · refine Outs.of (U' := s₁.setTop (mkF m 460 #[vi i0, vi i1, vi i2, vi i3, vi i4, vi 2, vi 0, vi (f0_v33 i4), vi (f0_v38 i2), vi (f0_v46 i1), vi 0, .unset, .unset, .unset, .unset, vi ((f0_v38 i2) % (25 : Int32)), .unset, .unset, .unset] [])) (fun t k => ?_) ?_
        · refine XS.ifYes X0.here hx rfl (pc0 := 432) (pc' := 460) rfl (hb hby at_432) rfl ((if0 _ _).trans (feq hc432).2) (by decide) (by decide) ?_
          exact k
        refine Outs.of (U' := s₁.setTop (mkF m 464 #[vi i0, vi i1, vi i2, vi i3, vi i4, vi 2, vi 0, vi (f0_v33 i4), vi (f0_v38 i2), vi (f0_v46 i1), vi 0, .unset, .unset, .unset, .unset, vi ((f0_v38 i2) % (25 : Int32)), .unset, .unset, .unset] [(.int (2 : Int32))])) (fun t k => ?_) ?_
        · refine XS.iconst X0.here hx rfl (hb hby at_460) ?_
          refine XS.iload X0.here hx rfl (hb hby at_461) rfl ?_
          refine XS.iadd X0.here hx rfl (hb hby at_463) rfl ?_
          exact k
        obtain ⟨T106, h106, X106, e106, E106, A106, st106⟩ := newAF X0 hx hZ (aty := .byte) (hw _ (List.mem_of_getElem? (i := 1) rfl)) e0 (f := (mkF m 464 #[vi i0, vi i1, vi i2, vi i3, vi i4, vi 2, vi 0, vi (f0_v33 i4), vi (f0_v38 i2), vi (f0_v46 i1), vi 0, .unset, .unset, .unset, .unset, vi ((f0_v38 i2) % (25 : Int32)), .unset, .unset, .unset] [(.int (2 : Int32))])) rfl (hb hby at_464) rfl (k := 2) rfl (cap := 2) (by decide) (by decide) (by decide) (by decide)
        obtain ⟨b106, g106⟩ : ∃ z, z = h0.size := ⟨_, rfl⟩
        rw [← g106] at A106 st106
        have g_b106 : n0 ≤ b106 := Nat.le_trans Z0 (Nat.le_of_eq g106.symm)
        have V106 : AI Z h106 b106 .byte 2 (fun _ => (0 : Int32)) := A106
        refine Outs.of st106 ?_
        refine Outs.of (U' := T106.setTop (mkF m 486 #[vi i0, vi i1, vi i2, vi i3, vi i4, vi 2, vi 0, vi (f0_v33 i4), vi (f0_v38 i2), vi (f0_v46 i1), vi 0, .val (.ref b106), .unset, .unset, .unset, vi ((f0_v38 i2) % (25 : Int32)), .unset, .unset, .unset] [(.int ((129 : Int32).toInt8.toInt32)), (.int (0 : Int32)), (.ref b106)])) (fun t k => ?_) ?_
        · refine XS.astore X106.here hx rfl (hb hby at_466) rfl rfl (l' := #[vi i0, vi i1, vi i2, vi i3, vi i4, vi 2, vi 0, vi (f0_v33 i4), vi (f0_v38 i2), vi (f0_v46 i1), vi 0, .val (.ref b106), .unset, .unset, .unset, vi ((f0_v38 i2) % (25 : Int32)), .unset, .unset, .unset]) rfl ?_
          refine XS.aload X106.here hx rfl (hb hby at_468) rfl rfl ?_
          refine XS.iconst X106.here hx rfl (hb hby at_470) ?_
          refine XS.sipush X106.here hx rfl (hb hby at_471) ?_
          refine XS.iload X106.here hx rfl (hb hby at_474) rfl ?_
          refine XS.ifYes X106.here hx rfl (pc0 := 476) (pc' := 483) rfl (hb hby at_476) rfl ((if0 _ _).trans (teq (show (0 : Int32) = (0 : Int32) from (by decide))).1) (by decide) (by decide) ?_
          refine XS.iconst X106.here hx rfl (hb hby at_483) ?_
          refine XS.iadd X106.here hx rfl (hb hby at_484) rfl ?_
          refine XS.i2b X106.here hx rfl (hb hby at_485) rfl ?_
          exact k
        obtain ⟨T107, h107, X107, e107, W107, V107, st107⟩ := puB X106 hx hZ e106 V106 (j := (0 : Int32)) (x := ((129 : Int32).toInt8.toInt32)) (k := 0) rfl (by decide) (f := (mkF m 486 #[vi i0, vi i1, vi i2, vi i3, vi i4, vi 2, vi 0, vi (f0_v33 i4), vi (f0_v38 i2), vi (f0_v46 i1), vi 0, .val (.ref b106), .unset, .unset, .unset, vi ((f0_v38 i2) % (25 : Int32)), .unset, .unset, .unset] [(.int ((129 : Int32).toInt8.toInt32)), (.int (0 : Int32)), (.ref b106)])) rfl rfl (hb hby at_486)
        replace V107 : AI Z h107 b106 .byte 2 f0_g486 := V107
        have N107 := Fr.snoc X107 N0 g_b106
        obtain ⟨Lh107, X107, N107⟩ := hide X107 N107 (C := 1) (S := 2) (by decide) (by decide)
        refine Outs.of st107 ?_
        refine Outs.of (U' := T107.setTop (mkF m 505 #[vi i0, vi i1, vi i2, vi i3, vi i4, vi 2, vi 0, vi (f0_v33 i4), vi (f0_v38 i2), vi (f0_v46 i1), vi 0, .val (.ref b106), .unset, .unset, .unset, vi ((f0_v38 i2) % (25 : Int32)), .unset, .unset, .unset] [(.int (f0_494_s0 i2)), (.int (1 : Int32)), (.ref b106)])) (fun t k => ?_) ?_
        · refine XS.aload X107.here hx rfl (hb hby at_487) rfl rfl ?_
          refine XS.iconst X107.here hx rfl (hb hby at_489) ?_
          refine XS.iload X107.here hx rfl (hb hby at_490) rfl ?_
          refine XS.bipush X107.here hx rfl (hb hby at_492) ?_
          by_cases hc494 : ((f0_v38 i2) % (25 : Int32)) = (24 : Int32)
          · refine XS.icmpNo X107.here hx rfl (hb hby at_494) rfl (teq hc494).2 ?_
            refine XS.bipush X107.here hx rfl (hb hby at_497) ?_
            refine XS.goto X107.here hx rfl (pc0 := 499) (pc' := 505) rfl (hb hby at_499) (by decide) (by decide) ?_
            rw [show (f0_494_s0 i2) = (-11 : Int32) from (if_pos hc494)] at k
            exact k
          · refine XS.icmpYes X107.here hx rfl (pc0 := 494) (pc' := 502) rfl (hb hby at_494) rfl (feq hc494).2 (by decide) (by decide) ?_
            refine XS.iload X107.here hx rfl (hb hby at_502) rfl ?_
            refine XS.i2b X107.here hx rfl (hb hby at_504) rfl ?_
            rw [show (f0_494_s0 i2) = (((f0_v38 i2) % (25 : Int32)).toInt8.toInt32) from (if_neg hc494)] at k
            exact k
        obtain ⟨T108, h108, X108, e108, W108, V108, st108⟩ := puB X107 hx hZ e107 V107 (j := (1 : Int32)) (x := (f0_494_s0 i2)) (k := 1) rfl (by decide) (f := (mkF m 505 #[vi i0, vi i1, vi i2, vi i3, vi i4, vi 2, vi 0, vi (f0_v33 i4), vi (f0_v38 i2), vi (f0_v46 i1), vi 0, .val (.ref b106), .unset, .unset, .unset, vi ((f0_v38 i2) % (25 : Int32)), .unset, .unset, .unset] [(.int (f0_494_s0 i2)), (.int (1 : Int32)), (.ref b106)])) rfl rfl (hb hby at_505)
        replace V108 : AI Z h108 b106 .byte 2 (f0_g505 i2) := V108
        have N108 := Fr.snoc X108 N107 g_b106
        obtain ⟨Lh108, X108, N108⟩ := hide X108 N108 (C := 1) (S := 2) (by decide) (by decide)
        refine Outs.of st108 ?_
        refine Outs.of (U' := T108.setTop (mkF m 552 #[vi i0, vi i1, vi i2, vi i3, vi i4, vi 2, vi 0, vi (f0_v33 i4), vi (f0_v38 i2), vi (f0_v46 i1), vi 0, .val (.ref b106), vi 2, vi 2, vi 0, vi 2, .unset, .unset, .unset] [])) (fun t k => ?_) ?_
        · refine XS.iconst X108.here hx rfl (hb hby at_506) ?_
          refine XS.istore X108.here hx rfl (hb hby at_507) rfl (l' := #[vi i0, vi i1, vi i2, vi i3, vi i4, vi 2, vi 0, vi (f0_v33 i4), vi (f0_v38 i2), vi (f0_v46 i1), vi 0, .val (.ref b106), vi 2, .unset, .unset, vi ((f0_v38 i2) % (25 : Int32)), .unset, .unset, .unset]) rfl ?_
          refine XS.iconst X108.here hx rfl (hb hby at_509) ?_
          refine XS.istore X108.here hx rfl (hb hby at_510) rfl (l' := #[vi i0, vi i1, vi i2, vi i3, vi i4, vi 2, vi 0, vi (f0_v33 i4), vi (f0_v38 i2), vi (f0_v46 i1), vi 0, .val (.ref b106), vi 2, vi 2, .unset, vi ((f0_v38 i2) % (25 : Int32)), .unset, .unset, .unset]) rfl ?_
          refine XS.iconst X108.here hx rfl (hb hby at_512) ?_
          refine XS.istore X108.here hx rfl (hb hby at_513) rfl (l' := #[vi i0, vi i1, vi i2, vi i3, vi i4, vi 2, vi 0, vi (f0_v33 i4), vi (f0_v38 i2), vi (f0_v46 i1), vi 0, .val (.ref b106), vi 2, vi 2, vi 0, vi ((f0_v38 i2) % (25 : Int32)), .unset, .unset, .unset]) rfl ?_
          refine XS.iload X108.here hx rfl (hb hby at_515) rfl ?_
          refine XS.ifYes X108.here hx rfl (pc0 := 517) (pc' := 545) rfl (hb hby at_517) rfl ((if0 _ _).trans (teq (show (0 : Int32) = (0 : Int32) from (by decide))).1) (by decide) (by decide) ?_
          refine XS.iload X108.here hx rfl (hb hby at_545) rfl ?_
          refine XS.iload X108.here hx rfl (hb hby at_547) rfl ?_
          refine XS.iadd X108.here hx rfl (hb hby at_549) rfl ?_
          refine XS.istore X108.here hx rfl (hb hby at_550) rfl (l' := #[vi i0, vi i1, vi i2, vi i3, vi i4, vi 2, vi 0, vi (f0_v33 i4), vi (f0_v38 i2), vi (f0_v46 i1), vi 0, .val (.ref b106), vi 2, vi 2, vi 0, vi 2, .unset, .unset, .unset]) rfl ?_
          exact k
        obtain ⟨T109, h109, X109, e109, E109, A109, D109, -, st109⟩ := newO X108 hx hZ hown (hw _ (List.mem_of_getElem? (i := 2) rfl)) (hw _ (List.mem_of_getElem? (i := 3) rfl)) (hw _ (List.mem_of_getElem? (i := 4) rfl)) e108 (g := (mkF m 552 #[vi i0, vi i1, vi i2, vi i3, vi i4, vi 2, vi 0, vi (f0_v33 i4), vi (f0_v38 i2), vi (f0_v46 i1), vi 0, .val (.ref b106), vi 2, vi 2, vi 0, vi 2, .unset, .unset, .unset] [])) rfl (hb hby at_552) (by decide) (by decide)
        obtain ⟨b109, g109⟩ : ∃ z, z = h108.size := ⟨_, rfl⟩
        rw [← g109] at A109 D109 st109
        have g_b109 : n0 ≤ b109 := Nat.le_trans (Nat.le_trans (Nat.le_trans (Nat.le_trans Z0 E106.1) (Keep.of_wr W107).1) (Keep.of_wr W108).1) (Nat.le_of_eq g109.symm)
        have ne_b106_b109 : b106 ≠ b109 := Nat.ne_of_lt (Nat.lt_of_lt_of_eq V108.lt g109.symm)
        have F109_12 : Fld Z h109 b109 "com/example/brief_locator/brieflocator/interchange/CanonicalForm" "bytes" "[B" .null := D109 (Or.inr (hw _ (List.mem_of_getElem? (i := 12) rfl))) (ty := (.array .byte)) (by decide)
        have F109_14 : Fld Z h109 b109 "com/example/brief_locator/brieflocator/interchange/CanonicalForm" "firstEnd" "I" (.int (0 : Int32)) := D109 (Or.inr (hw _ (List.mem_of_getElem? (i := 14) rfl))) (ty := .int) (by decide)
        have F109_16 : Fld Z h109 b109 "com/example/brief_locator/brieflocator/interchange/CanonicalForm" "pathStart" "I" (.int (0 : Int32)) := D109 (Or.inr (hw _ (List.mem_of_getElem? (i := 16) rfl))) (ty := .int) (by decide)
        have F109_18 : Fld Z h109 b109 "com/example/brief_locator/brieflocator/interchange/CanonicalForm" "pathEnd" "I" (.int (0 : Int32)) := D109 (Or.inr (hw _ (List.mem_of_getElem? (i := 18) rfl))) (ty := .int) (by decide)
        have F109_20 : Fld Z h109 b109 "com/example/brief_locator/brieflocator/interchange/CanonicalForm" "queryEnd" "I" (.int (0 : Int32)) := D109 (Or.inr (hw _ (List.mem_of_getElem? (i := 20) rfl))) (ty := .int) (by decide)
        have F109_25 : Fld Z h109 b109 "com/example/brief_locator/brieflocator/interchange/CanonicalForm" "hasScheme" "Z" (.int (0 : Int32)) := D109 (Or.inr (hw _ (List.mem_of_getElem? (i := 25) rfl))) (ty := .boolean) (by decide)
        have F109_27 : Fld Z h109 b109 "com/example/brief_locator/brieflocator/interchange/CanonicalForm" "hasAuthority" "Z" (.int (0 : Int32)) := D109 (Or.inr (hw _ (List.mem_of_getElem? (i := 27) rfl))) (ty := .boolean) (by decide)
        have F109_37 : Fld Z h109 b109 "com/example/brief_locator/brieflocator/interchange/CanonicalForm" "pathSegments" "I" (.int (0 : Int32)) := D109 (Or.inr (hw _ (List.mem_of_getElem? (i := 37) rfl))) (ty := .int) (by decide)
        have F109_52 : Fld Z h109 b109 "com/example/brief_locator/brieflocator/interchange/CanonicalForm" "pathSegmentsStart" "I" (.int (0 : Int32)) := D109 (Or.inr (hw _ (List.mem_of_getElem? (i := 52) rfl))) (ty := .int) (by decide)
        refine Outs.of st109 ?_
        refine Outs.of (U' := T109.setTop (mkF m 566 #[vi i0, vi i1, vi i2, vi i3, vi i4, vi 2, vi 0, vi (f0_v33 i4), vi (f0_v38 i2), vi (f0_v46 i1), vi 0, .val (.ref b106), vi 2, vi 2, vi 0, vi 2, .unset, .unset, .unset] [(.int (2 : Int32)), (.int (2 : Int32)), (.int (2 : Int32)), (.int (2 : Int32)), (.ref b106), (.ref b109), (.ref b109)])) (fun t k => ?_) ?_
        · refine XS.dup X109.here hx rfl (hb hby at_555) rfl rfl ?_
          refine XS.aload X109.here hx rfl (hb hby at_556) rfl rfl ?_
          refine XS.iload X109.here hx rfl (hb hby at_558) rfl ?_
          refine XS.iload X109.here hx rfl (hb hby at_560) rfl ?_
          refine XS.iload X109.here hx rfl (hb hby at_562) rfl ?_
          refine XS.iload X109.here hx rfl (hb hby at_564) rfl ?_
          exact k
        have f111 : AI Z h109 b106 .byte 2 (f0_g505 i2) := (V108.ext E109)
        obtain ⟨_, _, ⟨T110, L110, k110, n110⟩, -, X110, ⟨Lc110, hQ110, l110, y110, z110⟩, st110⟩ := X109.specialBack hx (y := (⟨"com/example/brief_locator/brieflocator/interchange/CanonicalForm", "<init>", "([BIIII)V"⟩ : MethodName)) rfl hown (mvT hZ (hw _ (List.mem_of_getElem? (i := 5) rfl))) (mvT hZ (hw _ (List.mem_of_getElem? (i := 6) rfl))) (mvT hZ (hw _ (List.mem_of_getElem? (i := 7) rfl))) (by decide) (backOf (W := 1) (rmctn l Z a0 hw [] b109 b106 (2 : Int32) (2 : Int32) (2 : Int32) (2 : Int32) 2 (f0_g505 i2) h109 n0 (Nat.le_trans (Nat.le_trans (Nat.le_trans (Nat.le_trans Z0 E106.1) (Keep.of_wr W107).1) (Keep.of_wr W108).1) E109.1) A109 g_b109 F109_12 F109_14 F109_16 F109_18 F109_20 F109_25 F109_27 F109_37 F109_52 f111 ne_b106_b109 (by decide) (by decide) (by decide)) hZ (hw _ (List.mem_of_getElem? (i := 7) rfl)) (hw _ (List.mem_of_getElem? (i := 4) rfl)) (by decide) (by decide)) (g := (mkF m 566 #[vi i0, vi i1, vi i2, vi i3, vi i4, vi 2, vi 0, vi (f0_v33 i4), vi (f0_v38 i2), vi (f0_v46 i1), vi 0, .val (.ref b106), vi 2, vi 2, vi 0, vi 2, .unset, .unset, .unset] [(.int (2 : Int32)), (.int (2 : Int32)), (.int (2 : Int32)), (.int (2 : Int32)), (.ref b106), (.ref b109), (.ref b109)])) rfl (by rw [hml]; rfl) (Steps.refl _) (a := b109) (argsL := [(.ref b106), (.int (2 : Int32)), (.int (2 : Int32)), (.int (2 : Int32)), (.int (2 : Int32))]) (rest := [(.ref b109)]) (lenOf pd_0 rfl) rfl (by show 2 * 0 + _ ≤ _; exact Nat.le_of_eq rfl) (hb hby at_566) (fun _ _ => ⟨rfl, e109, (by decide : 2 + 0 ≤ _), (by decide : 12 + 0 ≤ _)⟩)
        dsimp only [Pt.U, Pt.locs, Pt.cells, Pt.slots] at X110 l110 y110 z110 st110 hQ110
        subst l110 y110 z110
        obtain ⟨rfl, N110q, K110, u110_0, u110_1, u110_2, u110_3, u110_4⟩ := hQ110
        have N110 := Fr.app N108 N110q
        obtain ⟨Lh110, X110, N110⟩ := hide X110 N110 (C := 2) (S := 12) (by decide) (by decide)
        refine Outs.to st110 ?_
        refine Outs.of (U' := T110.setTop (mkF m 573 #[vi i0, vi i1, vi i2, vi i3, vi i4, vi 2, vi 0, vi (f0_v33 i4), vi (f0_v38 i2), vi (f0_v46 i1), vi 0, .val (.ref b106), vi 2, vi 2, vi 0, vi 2, .val (.ref b109), .unset, .unset] [(.ref b109)])) (fun t k => ?_) ?_
        · refine XS.astore X110.here hx rfl (hb hby at_569) rfl rfl (l' := #[vi i0, vi i1, vi i2, vi i3, vi i4, vi 2, vi 0, vi (f0_v33 i4), vi (f0_v38 i2), vi (f0_v46 i1), vi 0, .val (.ref b106), vi 2, vi 2, vi 0, vi 2, .val (.ref b109), .unset, .unset]) rfl ?_
          refine XS.aload X110.here hx rfl (hb hby at_571) rfl rfl ?_
          exact k
        have f113 : AI Z T110.heap b106 .byte 2 (f0_g505 i2) := (f111.keep K110 (ninS ne_b106_b109 nin0))
        obtain ⟨cq112, kq112, q112a, q112b, q112c⟩ := isOf hZ rfl u110_0
        obtain ⟨_, _, ⟨T112, L112, k112, n112⟩, -, X112, ⟨Lc112, hQ112, l112, y112, z112⟩, st112⟩ := X110.virtualBack hx (y := (⟨"com/example/brief_locator/brieflocator/interchange/CanonicalForm", "hasRootlessAuthority", "()Z"⟩ : MethodName)) (z := (⟨"com/example/brief_locator/brieflocator/interchange/CanonicalForm", "hasRootlessAuthority", "()Z"⟩ : MethodName)) hown (mvT hZ (hw _ (List.mem_of_getElem? (i := 53) rfl))) (mvT hZ (hw _ (List.mem_of_getElem? (i := 54) rfl))) (notFace_of_selects (args := #[]) (mvT hZ (hw _ (List.mem_of_getElem? (i := 56) rfl)))) (mvT hZ (hw _ (List.mem_of_getElem? (i := 56) rfl))) (mvT hZ (hw _ (List.mem_of_getElem? (i := 55) rfl))) (by decide) (backOf (W := 0) (rmhr l Z a0 hw [] b109 (ctn_out4 (2 : Int32) (2 : Int32) (2 : Int32) (2 : Int32) 2 (f0_g505 i2)) (2 : Int32) (2 : Int32) b106 2 (f0_g505 i2) 2 T110.heap n0 u110_0 u110_4 u110_3 u110_2 u110_1 f113 rfl (by decide)) hZ (hw _ (List.mem_of_getElem? (i := 57) rfl)) (hw _ (List.mem_of_getElem? (i := 4) rfl)) (by decide) (by decide)) q112a q112c (g := (mkF m 573 #[vi i0, vi i1, vi i2, vi i3, vi i4, vi 2, vi 0, vi (f0_v33 i4), vi (f0_v38 i2), vi (f0_v46 i1), vi 0, .val (.ref b106), vi 2, vi 2, vi 0, vi 2, .val (.ref b109), .unset, .unset] [(.ref b109)])) rfl (by rw [hml]; rfl) (Steps.refl _) (argsL := []) (rest := []) (lenOf pd_7 rfl) rfl (by show 2 * 0 + _ ≤ _; exact Nat.le_of_eq rfl) (hb hby at_573) (fun _ _ => ⟨rfl, rfl, (by decide : 2 + 0 ≤ _), (by decide : 12 + 0 ≤ _)⟩)
        dsimp only [Pt.U, Pt.locs, Pt.cells, Pt.slots] at X112 l112 y112 z112 st112 hQ112
        subst l112 y112 z112
        obtain ⟨rfl, N112q, e112⟩ := hQ112
        have N112 := Fr.app N110 N112q
        obtain ⟨Lh112, X112, N112⟩ := hide X112 N112 (C := 2) (S := 12) (by decide) (by decide)
        refine Outs.to st112 ?_
        refine Outs.of (U' := T112.setTop (mkF m 586 #[vi i0, vi i1, vi i2, vi i3, vi i4, vi 2, vi 0, vi (f0_v33 i4), vi (f0_v38 i2), vi (f0_v46 i1), vi 0, .val (.ref b106), vi 2, vi 2, vi 0, vi 2, .val (.ref b109), .unset, .unset] [(.int (1 : Int32))])) (fun t k => ?_) ?_
        · refine XS.iload X112.here hx rfl (hb hby at_576) rfl ?_
          refine XS.icmpNo X112.here hx rfl (hb hby at_578) rfl (teq (law_x11 i0 i1 i2 i3 i4 hc11 hc432)).2 ?_
          refine XS.iconst X112.here hx rfl (hb hby at_581) ?_
          refine XS.goto X112.here hx rfl (pc0 := 582) (pc' := 586) rfl (hb hby at_582) (by decide) (by decide) ?_
          exact k
        exact Outs.retN (t := .boolean) (z := (1 : Int32)) X112 hx hret (by simp) (hb hby at_586) hlk (by decide) (by decide) e112 ⟨rfl, N112⟩
  · refine Outs.of (U' := s₁.setTop (mkF m 14 #[vi i0, vi i1, vi i2, vi i3, vi i4, vi (f0_v6 i0), .unset, .unset, .unset, .unset, .unset, .unset, .unset, .unset, .unset, .unset, .unset, .unset, .unset] [])) (fun t k => ?_) ?_
    · refine XS.ifNo X0.here hx rfl (hb hby at_11) rfl ((if0 _ _).trans (feq hc11).1) ?_
      exact k
    refine Outs.of (U' := s₁.setTop (mkF m 60 #[vi i0, vi i1, vi i2, vi i3, vi i4, vi (f0_v6 i0), vi 1, vi (f0_v33 i4), vi (f0_v38 i2), vi (f0_v46 i1), vi 3, .unset, .unset, .unset, .unset, .unset, .unset, .unset, .unset] [])) (fun t k => ?_) ?_
    · refine XS.iconst X0.here hx rfl (hb hby at_14) ?_
      refine XS.goto X0.here hx rfl (pc0 := 15) (pc' := 19) rfl (hb hby at_15) (by decide) (by decide) ?_
      refine XS.istore X0.here hx rfl (hb hby at_19) rfl (l' := #[vi i0, vi i1, vi i2, vi i3, vi i4, vi (f0_v6 i0), vi 1, .unset, .unset, .unset, .unset, .unset, .unset, .unset, .unset, .unset, .unset, .unset, .unset]) rfl ?_
      refine XS.bipush X0.here hx rfl (hb hby at_21) ?_
      refine XS.iload X0.here hx rfl (hb hby at_23) rfl ?_
      refine X0.ldcInt hx hown (mvT hZ (hw _ (List.mem_of_getElem? (i := 0) rfl))) (g := (mkF m 25 #[vi i0, vi i1, vi i2, vi i3, vi i4, vi (f0_v6 i0), vi 1, .unset, .unset, .unset, .unset, .unset, .unset, .unset, .unset, .unset, .unset, .unset, .unset] [(.int i4), (.int (97 : Int32))])) rfl (hb hby at_25) _ ?_
      refine XS.iand X0.here hx rfl (hb hby at_27) rfl ?_
      refine XS.bipush X0.here hx rfl (hb hby at_28) ?_
      refine iremM X0 hx rfl (hb hby at_30) rfl (by decide) ?_
      refine XS.iadd X0.here hx rfl (hb hby at_31) rfl ?_
      refine XS.i2b X0.here hx rfl (hb hby at_32) rfl ?_
      refine XS.istore X0.here hx rfl (hb hby at_33) rfl (l' := #[vi i0, vi i1, vi i2, vi i3, vi i4, vi (f0_v6 i0), vi 1, vi (f0_v33 i4), .unset, .unset, .unset, .unset, .unset, .unset, .unset, .unset, .unset, .unset, .unset]) rfl ?_
      refine XS.iloadN X0.here hx rfl (hb hby at_35) rfl ?_
      refine XS.iconst X0.here hx rfl (hb hby at_36) ?_
      refine XS.iushr X0.here hx rfl (hb hby at_37) rfl ?_
      refine XS.istore X0.here hx rfl (hb hby at_38) rfl (l' := #[vi i0, vi i1, vi i2, vi i3, vi i4, vi (f0_v6 i0), vi 1, vi (f0_v33 i4), vi (f0_v38 i2), .unset, .unset, .unset, .unset, .unset, .unset, .unset, .unset, .unset, .unset]) rfl ?_
      refine XS.iloadN X0.here hx rfl (hb hby at_40) rfl ?_
      refine X0.ldcInt hx hown (mvT hZ (hw _ (List.mem_of_getElem? (i := 0) rfl))) (g := (mkF m 41 #[vi i0, vi i1, vi i2, vi i3, vi i4, vi (f0_v6 i0), vi 1, vi (f0_v33 i4), vi (f0_v38 i2), .unset, .unset, .unset, .unset, .unset, .unset, .unset, .unset, .unset, .unset] [(.int i1)])) rfl (hb hby at_41) _ ?_
      refine XS.iand X0.here hx rfl (hb hby at_43) rfl ?_
      refine XS.iconst X0.here hx rfl (hb hby at_44) ?_
      refine iremM X0 hx rfl (hb hby at_45) rfl (by decide) ?_
      refine XS.istore X0.here hx rfl (hb hby at_46) rfl (l' := #[vi i0, vi i1, vi i2, vi i3, vi i4, vi (f0_v6 i0), vi 1, vi (f0_v33 i4), vi (f0_v38 i2), vi (f0_v46 i1), .unset, .unset, .unset, .unset, .unset, .unset, .unset, .unset, .unset]) rfl ?_
      refine XS.iload X0.here hx rfl (hb hby at_48) rfl ?_
      refine XS.ifNo X0.here hx rfl (hb hby at_50) rfl ((if0 _ _).trans (feq (show ¬ ((1 : Int32) = (0 : Int32)) from (by decide))).1) ?_
      refine XS.iconst X0.here hx rfl (hb hby at_53) ?_
      refine XS.goto X0.here hx rfl (pc0 := 54) (pc' := 58) rfl (hb hby at_54) (by decide) (by decide) ?_
      refine XS.istore X0.here hx rfl (hb hby at_58) rfl (l' := #[vi i0, vi i1, vi i2, vi i3, vi i4, vi (f0_v6 i0), vi 1, vi (f0_v33 i4), vi (f0_v38 i2), vi (f0_v46 i1), vi 3, .unset, .unset, .unset, .unset, .unset, .unset, .unset, .unset]) rfl ?_
      exact k
    rcases own_k3 i0 with q5 | q5 | q5
    · rw [q5]
      show Outs p e below s _ _ _ (s₁.setTop (mkF m 60 #[vi i0, vi i1, vi i2, vi i3, vi i4, vi 0, vi 1, vi (f0_v33 i4), vi (f0_v38 i2), vi (f0_v46 i1), vi 3, .unset, .unset, .unset, .unset, .unset, .unset, .unset, .unset] []))
      refine Outs.of (U' := s₁.setTop (mkF m 65 #[vi i0, vi i1, vi i2, vi i3, vi i4, vi 0, vi 1, vi (f0_v33 i4), vi (f0_v38 i2), vi (f0_v46 i1), vi 3, .unset, .unset, .unset, .unset, .unset, .unset, .unset, .unset] [])) (fun t k => ?_) ?_
      · refine XS.iload X0.here hx rfl (hb hby at_60) rfl ?_
        refine XS.ifNo X0.here hx rfl (hb hby at_62) rfl ((if0 _ _).trans (teq (show (0 : Int32) = (0 : Int32) from (by decide))).2) ?_
        exact k
      rcases own_a4 i1 with q9 | q9 | q9 | q9
      · rw [q9]
        show Outs p e below s _ _ _ (s₁.setTop (mkF m 65 #[vi i0, vi i1, vi i2, vi i3, vi i4, vi 0, vi 1, vi (f0_v33 i4), vi (f0_v38 i2), vi 0, vi 3, .unset, .unset, .unset, .unset, .unset, .unset, .unset, .unset] []))
        refine Outs.of (U' := s₁.setTop (mkF m 68 #[vi i0, vi i1, vi i2, vi i3, vi i4, vi 0, vi 1, vi (f0_v33 i4), vi (f0_v38 i2), vi 0, vi 3, .unset, .unset, .unset, .unset, .unset, .unset, .unset, .unset] [(.int (i2 &&& (1 : Int32)))])) (fun t k => ?_) ?_
        · refine XS.iloadN X0.here hx rfl (hb hby at_65) rfl ?_
          refine XS.iconst X0.here hx rfl (hb hby at_66) ?_
          refine XS.iand X0.here hx rfl (hb hby at_67) rfl ?_
          exact k
        by_cases hc68 : (i2 &&& (1 : Int32)) = (0 : Int32)
        · refine Outs.of (U' := s₁.setTop (mkF m 75 #[vi i0, vi i1, vi i2, vi i3, vi i4, vi 0, vi 1, vi (f0_v33 i4), vi (f0_v38 i2), vi 0, vi 3, .unset, .unset, .unset, .unset, .unset, .unset, .unset, .unset] [])) (fun t k => ?_) ?_
          · refine XS.ifYes X0.here hx rfl (pc0 := 68) (pc' := 75) rfl (hb hby at_68) rfl ((if0 _ _).trans (teq hc68).1) (by decide) (by decide) ?_
            exact k
          refine Outs.of (U' := s₁.setTop (mkF m 152 #[vi i0, vi i1, vi i2, vi i3, vi i4, vi 0, vi 1, vi (f0_v33 i4), vi (f0_v38 i2), vi 0, vi 3, .unset, .unset, .unset, .unset, vi 0, vi 1, vi 1, vi 3] [(.int (6 : Int32))])) (fun t k => ?_) ?_
          · refine XS.iconst X0.here hx rfl (hb hby at_75) ?_
            refine XS.istore X0.here hx rfl (hb hby at_76) rfl (l' := #[vi i0, vi i1, vi i2, vi i3, vi i4, vi 0, vi 1, vi (f0_v33 i4), vi (f0_v38 i2), vi 0, vi 3, .unset, .unset, .unset, .unset, vi 0, .unset, .unset, .unset]) rfl ?_
            refine XS.iload X0.here hx rfl (hb hby at_78) rfl ?_
            refine XS.ifYes X0.here hx rfl (pc0 := 80) (pc' := 87) rfl (hb hby at_80) rfl ((if0 _ _).trans (teq (show (0 : Int32) = (0 : Int32) from (by decide))).1) (by decide) (by decide) ?_
            refine XS.iconst X0.here hx rfl (hb hby at_87) ?_
            refine XS.istore X0.here hx rfl (hb hby at_88) rfl (l' := #[vi i0, vi i1, vi i2, vi i3, vi i4, vi 0, vi 1, vi (f0_v33 i4), vi (f0_v38 i2), vi 0, vi 3, .unset, .unset, .unset, .unset, vi 0, vi 1, .unset, .unset]) rfl ?_
            refine XS.iload X0.here hx rfl (hb hby at_90) rfl ?_
            refine XS.iconst X0.here hx rfl (hb hby at_92) ?_
            refine XS.icmpYes X0.here hx rfl (pc0 := 93) (pc' := 100) rfl (hb hby at_93) rfl (feq (show ¬ ((0 : Int32) = (3 : Int32)) from (by decide))).2 (by decide) (by decide) ?_
            refine XS.iload X0.here hx rfl (hb hby at_100) rfl ?_
            refine XS.ifNo X0.here hx rfl (hb hby at_102) rfl ((if0 _ _).trans (teq (show (0 : Int32) = (0 : Int32) from (by decide))).2) ?_
            refine XS.iload X0.here hx rfl (hb hby at_105) rfl ?_
            refine XS.ifYes X0.here hx rfl (pc0 := 107) (pc' := 114) rfl (hb hby at_107) rfl ((if0 _ _).trans (feq (show ¬ ((1 : Int32) = (0 : Int32)) from (by decide))).2) (by decide) (by decide) ?_
            refine XS.iconst X0.here hx rfl (hb hby at_114) ?_
            refine XS.istore X0.here hx rfl (hb hby at_115) rfl (l' := #[vi i0, vi i1, vi i2, vi i3, vi i4, vi 0, vi 1, vi (f0_v33 i4), vi (f0_v38 i2), vi 0, vi 3, .unset, .unset, .unset, .unset, vi 0, vi 1, vi 1, .unset]) rfl ?_
            refine XS.iconst X0.here hx rfl (hb hby at_117) ?_
            refine XS.iload X0.here hx rfl (hb hby at_118) rfl ?_
            refine XS.ifNo X0.here hx rfl (hb hby at_120) rfl ((if0 _ _).trans (tlt (show (0 : Int32) < (1 : Int32) from (by decide))).2.2.2) ?_
            refine XS.iconst X0.here hx rfl (hb hby at_123) ?_
            refine XS.goto X0.here hx rfl (pc0 := 124) (pc' := 128) rfl (hb hby at_124) (by decide) (by decide) ?_
            refine XS.iadd X0.here hx rfl (hb hby at_128) rfl ?_
            refine XS.iload X0.here hx rfl (hb hby at_129) rfl ?_
            refine XS.ifNo X0.here hx rfl (hb hby at_131) rfl ((if0 _ _).trans (feq (show ¬ ((1 : Int32) = (0 : Int32)) from (by decide))).1) ?_
            refine XS.iconst X0.here hx rfl (hb hby at_134) ?_
            refine XS.goto X0.here hx rfl (pc0 := 135) (pc' := 139) rfl (hb hby at_135) (by decide) (by decide) ?_
            refine XS.iadd X0.here hx rfl (hb hby at_139) rfl ?_
            refine XS.istore X0.here hx rfl (hb hby at_140) rfl (l' := #[vi i0, vi i1, vi i2, vi i3, vi i4, vi 0, vi 1, vi (f0_v33 i4), vi (f0_v38 i2), vi 0, vi 3, .unset, .unset, .unset, .unset, vi 0, vi 1, vi 1, vi 3]) rfl ?_
            refine XS.iconst X0.here hx rfl (hb hby at_142) ?_
            refine XS.iload X0.here hx rfl (hb hby at_143) rfl ?_
            refine XS.iadd X0.here hx rfl (hb hby at_145) rfl ?_
            refine XS.iload X0.here hx rfl (hb hby at_146) rfl ?_
            refine XS.iadd X0.here hx rfl (hb hby at_148) rfl ?_
            refine XS.iload X0.here hx rfl (hb hby at_149) rfl ?_
            refine XS.iadd X0.here hx rfl (hb hby at_151) rfl ?_
            exact k
          obtain ⟨T114, h114, X114, e114, E114, A114, st114⟩ := newAF X0 hx hZ (aty := .byte) (hw _ (List.mem_of_getElem? (i := 1) rfl)) e0 (f := (mkF m 152 #[vi i0, vi i1, vi i2, vi i3, vi i4, vi 0, vi 1, vi (f0_v33 i4), vi (f0_v38 i2), vi 0, vi 3, .unset, .unset, .unset, .unset, vi 0, vi 1, vi 1, vi 3] [(.int (6 : Int32))])) rfl (hb hby at_152) rfl (k := 6) rfl (cap := 6) (by decide) (by decide) (by decide) (by decide)
          obtain ⟨b114, g114⟩ : ∃ z, z = h0.size := ⟨_, rfl⟩
          rw [← g114] at A114 st114
          have g_b114 : n0 ≤ b114 := Nat.le_trans Z0 (Nat.le_of_eq g114.symm)
          have V114 : AI Z h114 b114 .byte 6 (fun _ => (0 : Int32)) := A114
          refine Outs.of st114 ?_
          refine Outs.of (U' := T114.setTop (mkF m 166 #[vi i0, vi i1, vi i2, vi i3, vi i4, vi 0, vi 1, vi (f0_v33 i4), vi (f0_v38 i2), vi 0, vi 3, .val (.ref b114), .unset, .unset, .unset, vi 0, vi 1, vi 1, vi 3] [(.int ((131 : Int32).toInt8.toInt32)), (.int (0 : Int32)), (.ref b114)])) (fun t k => ?_) ?_
          · refine XS.astore X114.here hx rfl (hb hby at_154) rfl rfl (l' := #[vi i0, vi i1, vi i2, vi i3, vi i4, vi 0, vi 1, vi (f0_v33 i4), vi (f0_v38 i2), vi 0, vi 3, .val (.ref b114), .unset, .unset, .unset, vi 0, vi 1, vi 1, vi 3]) rfl ?_
            refine XS.aload X114.here hx rfl (hb hby at_156) rfl rfl ?_
            refine XS.iconst X114.here hx rfl (hb hby at_158) ?_
            refine XS.sipush X114.here hx rfl (hb hby at_159) ?_
            refine XS.iload X114.here hx rfl (hb hby at_162) rfl ?_
            refine XS.iadd X114.here hx rfl (hb hby at_164) rfl ?_
            refine XS.i2b X114.here hx rfl (hb hby at_165) rfl ?_
            exact k
          obtain ⟨T115, h115, X115, e115, W115, V115, st115⟩ := puB X114 hx hZ e114 V114 (j := (0 : Int32)) (x := ((131 : Int32).toInt8.toInt32)) (k := 0) rfl (by decide) (f := (mkF m 166 #[vi i0, vi i1, vi i2, vi i3, vi i4, vi 0, vi 1, vi (f0_v33 i4), vi (f0_v38 i2), vi 0, vi 3, .val (.ref b114), .unset, .unset, .unset, vi 0, vi 1, vi 1, vi 3] [(.int ((131 : Int32).toInt8.toInt32)), (.int (0 : Int32)), (.ref b114)])) rfl rfl (hb hby at_166)
          replace V115 : AI Z h115 b114 .byte 6 f0_g166b := V115
          have N115 := Fr.snoc X115 N0 g_b114
          obtain ⟨Lh115, X115, N115⟩ := hide X115 N115 (C := 1) (S := 6) (by decide) (by decide)
          refine Outs.of st115 ?_
          refine Outs.of (U' := T115.setTop (mkF m 206 #[vi i0, vi i1, vi i2, vi i3, vi i4, vi 0, vi 1, vi (f0_v33 i4), vi (f0_v38 i2), vi 0, vi 3, .val (.ref b114), .unset, .unset, .unset, vi 0, vi 1, vi 1, vi 3] [(.int (((32 : Int32) + ((f0_v38 i2) % (24 : Int32))).toInt8.toInt32)), (.int (1 : Int32)), (.ref b114)])) (fun t k => ?_) ?_
          · refine XS.iload X115.here hx rfl (hb hby at_167) rfl ?_
            refine XS.ifYes X115.here hx rfl (pc0 := 169) (pc' := 194) rfl (hb hby at_169) rfl ((if0 _ _).trans (teq (show (0 : Int32) = (0 : Int32) from (by decide))).1) (by decide) (by decide) ?_
            refine XS.aload X115.here hx rfl (hb hby at_194) rfl rfl ?_
            refine XS.iconst X115.here hx rfl (hb hby at_196) ?_
            refine XS.bipush X115.here hx rfl (hb hby at_197) ?_
            refine XS.iload X115.here hx rfl (hb hby at_199) rfl ?_
            refine XS.bipush X115.here hx rfl (hb hby at_201) ?_
            refine iremM X115 hx rfl (hb hby at_203) rfl (by decide) ?_
            refine XS.iadd X115.here hx rfl (hb hby at_204) rfl ?_
            refine XS.i2b X115.here hx rfl (hb hby at_205) rfl ?_
            exact k
          obtain ⟨T116, h116, X116, e116, W116, V116, st116⟩ := puB X115 hx hZ e115 V115 (j := (1 : Int32)) (x := (((32 : Int32) + ((f0_v38 i2) % (24 : Int32))).toInt8.toInt32)) (k := 1) rfl (by decide) (f := (mkF m 206 #[vi i0, vi i1, vi i2, vi i3, vi i4, vi 0, vi 1, vi (f0_v33 i4), vi (f0_v38 i2), vi 0, vi 3, .val (.ref b114), .unset, .unset, .unset, vi 0, vi 1, vi 1, vi 3] [(.int (((32 : Int32) + ((f0_v38 i2) % (24 : Int32))).toInt8.toInt32)), (.int (1 : Int32)), (.ref b114)])) rfl rfl (hb hby at_206)
          replace V116 : AI Z h116 b114 .byte 6 (f0_g206b i2) := V116
          have N116 := Fr.snoc X116 N115 g_b114
          obtain ⟨Lh116, X116, N116⟩ := hide X116 N116 (C := 1) (S := 6) (by decide) (by decide)
          refine Outs.of st116 ?_
          refine Outs.of (U' := T116.setTop (mkF m 229 #[vi i0, vi i1, vi i2, vi i3, vi i4, vi 0, vi 1, vi (f0_v33 i4), vi (f0_v38 i2), vi 0, vi 3, .val (.ref b114), vi 2, .unset, .unset, vi 0, vi 1, vi 1, vi 3] [(.int (-10 : Int32)), (.int (2 : Int32)), (.ref b114)])) (fun t k => ?_) ?_
          · refine XS.iconst X116.here hx rfl (hb hby at_207) ?_
            refine XS.iload X116.here hx rfl (hb hby at_208) rfl ?_
            refine XS.iadd X116.here hx rfl (hb hby at_210) rfl ?_
            refine XS.istore X116.here hx rfl (hb hby at_211) rfl (l' := #[vi i0, vi i1, vi i2, vi i3, vi i4, vi 0, vi 1, vi (f0_v33 i4), vi (f0_v38 i2), vi 0, vi 3, .val (.ref b114), vi 2, .unset, .unset, vi 0, vi 1, vi 1, vi 3]) rfl ?_
            refine XS.iload X116.here hx rfl (hb hby at_213) rfl ?_
            refine XS.ifNo X116.here hx rfl (hb hby at_215) rfl ((if0 _ _).trans (teq (show (0 : Int32) = (0 : Int32) from (by decide))).2) ?_
            refine XS.iload X116.here hx rfl (hb hby at_218) rfl ?_
            refine XS.ifNo X116.here hx rfl (hb hby at_220) rfl ((if0 _ _).trans (feq (show ¬ ((1 : Int32) = (0 : Int32)) from (by decide))).1) ?_
            refine XS.aload X116.here hx rfl (hb hby at_223) rfl rfl ?_
            refine XS.iload X116.here hx rfl (hb hby at_225) rfl ?_
            refine XS.bipush X116.here hx rfl (hb hby at_227) ?_
            exact k
          obtain ⟨T117, h117, X117, e117, W117, V117, st117⟩ := puB X116 hx hZ e116 V116 (j := (2 : Int32)) (x := (-10 : Int32)) (k := 2) rfl (by decide) (f := (mkF m 229 #[vi i0, vi i1, vi i2, vi i3, vi i4, vi 0, vi 1, vi (f0_v33 i4), vi (f0_v38 i2), vi 0, vi 3, .val (.ref b114), vi 2, .unset, .unset, vi 0, vi 1, vi 1, vi 3] [(.int (-10 : Int32)), (.int (2 : Int32)), (.ref b114)])) rfl rfl (hb hby at_229)
          replace V117 : AI Z h117 b114 .byte 6 (f0_g229 i2) := V117
          have N117 := Fr.snoc X117 N116 g_b114
          obtain ⟨Lh117, X117, N117⟩ := hide X117 N117 (C := 1) (S := 6) (by decide) (by decide)
          refine Outs.of st117 ?_
          refine Outs.of (U' := T117.setTop (mkF m 526 #[vi i0, vi i1, vi i2, vi i3, vi i4, vi 0, vi 1, vi (f0_v33 i4), vi (f0_v38 i2), vi 0, vi 3, .val (.ref b114), vi 2, vi 3, vi 0, vi 0, vi 1, vi 1, vi 3] [(.int (-127 : Int32)), (.int (3 : Int32)), (.ref b114)])) (fun t k => ?_) ?_
          · refine XS.goto X117.here hx rfl (pc0 := 230) (pc' := 296) rfl (hb hby at_230) (by decide) (by decide) ?_
            refine XS.iload X117.here hx rfl (hb hby at_296) rfl ?_
            refine XS.iload X117.here hx rfl (hb hby at_298) rfl ?_
            refine XS.iadd X117.here hx rfl (hb hby at_300) rfl ?_
            refine XS.istore X117.here hx rfl (hb hby at_301) rfl (l' := #[vi i0, vi i1, vi i2, vi i3, vi i4, vi 0, vi 1, vi (f0_v33 i4), vi (f0_v38 i2), vi 0, vi 3, .val (.ref b114), vi 2, vi 3, .unset, vi 0, vi 1, vi 1, vi 3]) rfl ?_
            refine XS.iload X117.here hx rfl (hb hby at_303) rfl ?_
            refine XS.iconst X117.here hx rfl (hb hby at_305) ?_
            refine XS.icmpYes X117.here hx rfl (pc0 := 306) (pc' := 313) rfl (hb hby at_306) rfl (feq (show ¬ ((0 : Int32) = (1 : Int32)) from (by decide))).2 (by decide) (by decide) ?_
            refine XS.iconst X117.here hx rfl (hb hby at_313) ?_
            refine XS.istore X117.here hx rfl (hb hby at_314) rfl (l' := #[vi i0, vi i1, vi i2, vi i3, vi i4, vi 0, vi 1, vi (f0_v33 i4), vi (f0_v38 i2), vi 0, vi 3, .val (.ref b114), vi 2, vi 3, vi 0, vi 0, vi 1, vi 1, vi 3]) rfl ?_
            refine XS.goto X117.here hx rfl (pc0 := 316) (pc' := 515) rfl (hb hby at_316) (by decide) (by decide) ?_
            refine XS.iload X117.here hx rfl (hb hby at_515) rfl ?_
            refine XS.ifNo X117.here hx rfl (hb hby at_517) rfl ((if0 _ _).trans (feq (show ¬ ((1 : Int32) = (0 : Int32)) from (by decide))).1) ?_
            refine XS.aload X117.here hx rfl (hb hby at_520) rfl rfl ?_
            refine XS.iload X117.here hx rfl (hb hby at_522) rfl ?_
            refine XS.bipush X117.here hx rfl (hb hby at_524) ?_
            exact k
          obtain ⟨T118, h118, X118, e118, W118, V118, st118⟩ := puB X117 hx hZ e117 V117 (j := (3 : Int32)) (x := (-127 : Int32)) (k := 3) rfl (by decide) (f := (mkF m 526 #[vi i0, vi i1, vi i2, vi i3, vi i4, vi 0, vi 1, vi (f0_v33 i4), vi (f0_v38 i2), vi 0, vi 3, .val (.ref b114), vi 2, vi 3, vi 0, vi 0, vi 1, vi 1, vi 3] [(.int (-127 : Int32)), (.int (3 : Int32)), (.ref b114)])) rfl rfl (hb hby at_526)
          replace V118 : AI Z h118 b114 .byte 6 (f0_g526 i2) := V118
          have N118 := Fr.snoc X118 N117 g_b114
          obtain ⟨Lh118, X118, N118⟩ := hide X118 N118 (C := 1) (S := 6) (by decide) (by decide)
          refine Outs.of st118 ?_
          refine Outs.of (U' := T118.setTop (mkF m 535 #[vi i0, vi i1, vi i2, vi i3, vi i4, vi 0, vi 1, vi (f0_v33 i4), vi (f0_v38 i2), vi 0, vi 3, .val (.ref b114), vi 2, vi 3, vi 0, vi 0, vi 1, vi 1, vi 3] [(.int (97 : Int32)), (.int (4 : Int32)), (.ref b114)])) (fun t k => ?_) ?_
          · refine XS.aload X118.here hx rfl (hb hby at_527) rfl rfl ?_
            refine XS.iload X118.here hx rfl (hb hby at_529) rfl ?_
            refine XS.iconst X118.here hx rfl (hb hby at_531) ?_
            refine XS.iadd X118.here hx rfl (hb hby at_532) rfl ?_
            refine XS.bipush X118.here hx rfl (hb hby at_533) ?_
            exact k
          obtain ⟨T119, h119, X119, e119, W119, V119, st119⟩ := puB X118 hx hZ e118 V118 (j := (4 : Int32)) (x := (97 : Int32)) (k := 4) rfl (by decide) (f := (mkF m 535 #[vi i0, vi i1, vi i2, vi i3, vi i4, vi 0, vi 1, vi (f0_v33 i4), vi (f0_v38 i2), vi 0, vi 3, .val (.ref b114), vi 2, vi 3, vi 0, vi 0, vi 1, vi 1, vi 3] [(.int (97 : Int32)), (.int (4 : Int32)), (.ref b114)])) rfl rfl (hb hby at_535)
          replace V119 : AI Z h119 b114 .byte 6 (f0_g535 i2) := V119
          have N119 := Fr.snoc X119 N118 g_b114
          obtain ⟨Lh119, X119, N119⟩ := hide X119 N119 (C := 1) (S := 6) (by decide) (by decide)
          refine Outs.of st119 ?_
          refine Outs.of (U' := T119.setTop (mkF m 544 #[vi i0, vi i1, vi i2, vi i3, vi i4, vi 0, vi 1, vi (f0_v33 i4), vi (f0_v38 i2), vi 0, vi 3, .val (.ref b114), vi 2, vi 3, vi 0, vi 0, vi 1, vi 1, vi 3] [(.int (f0_v33 i4)), (.int (5 : Int32)), (.ref b114)])) (fun t k => ?_) ?_
          · refine XS.aload X119.here hx rfl (hb hby at_536) rfl rfl ?_
            refine XS.iload X119.here hx rfl (hb hby at_538) rfl ?_
            refine XS.iconst X119.here hx rfl (hb hby at_540) ?_
            refine XS.iadd X119.here hx rfl (hb hby at_541) rfl ?_
            refine XS.iload X119.here hx rfl (hb hby at_542) rfl ?_
            exact k
          obtain ⟨T120, h120, X120, e120, W120, V120, st120⟩ := puB X119 hx hZ e119 V119 (j := (5 : Int32)) (x := (f0_v33 i4)) (k := 5) rfl (by decide) (f := (mkF m 544 #[vi i0, vi i1, vi i2, vi i3, vi i4, vi 0, vi 1, vi (f0_v33 i4), vi (f0_v38 i2), vi 0, vi 3, .val (.ref b114), vi 2, vi 3, vi 0, vi 0, vi 1, vi 1, vi 3] [(.int (f0_v33 i4)), (.int (5 : Int32)), (.ref b114)])) rfl rfl (hb hby at_544)
          replace V120 : AI Z h120 b114 .byte 6 (f0_g544 i2 i4) := V120
          have N120 := Fr.snoc X120 N119 g_b114
          obtain ⟨Lh120, X120, N120⟩ := hide X120 N120 (C := 1) (S := 6) (by decide) (by decide)
          refine Outs.of st120 ?_
          refine Outs.of (U' := T120.setTop (mkF m 552 #[vi i0, vi i1, vi i2, vi i3, vi i4, vi 0, vi 1, vi (f0_v33 i4), vi (f0_v38 i2), vi 0, vi 3, .val (.ref b114), vi 2, vi 3, vi 0, vi 6, vi 1, vi 1, vi 3] [])) (fun t k => ?_) ?_
          · refine XS.iload X120.here hx rfl (hb hby at_545) rfl ?_
            refine XS.iload X120.here hx rfl (hb hby at_547) rfl ?_
            refine XS.iadd X120.here hx rfl (hb hby at_549) rfl ?_
            refine XS.istore X120.here hx rfl (hb hby at_550) rfl (l' := #[vi i0, vi i1, vi i2, vi i3, vi i4, vi 0, vi 1, vi (f0_v33 i4), vi (f0_v38 i2), vi 0, vi 3, .val (.ref b114), vi 2, vi 3, vi 0, vi 6, vi 1, vi 1, vi 3]) rfl ?_
            exact k
          obtain ⟨T121, h121, X121, e121, E121, A121, D121, -, st121⟩ := newO X120 hx hZ hown (hw _ (List.mem_of_getElem? (i := 2) rfl)) (hw _ (List.mem_of_getElem? (i := 3) rfl)) (hw _ (List.mem_of_getElem? (i := 4) rfl)) e120 (g := (mkF m 552 #[vi i0, vi i1, vi i2, vi i3, vi i4, vi 0, vi 1, vi (f0_v33 i4), vi (f0_v38 i2), vi 0, vi 3, .val (.ref b114), vi 2, vi 3, vi 0, vi 6, vi 1, vi 1, vi 3] [])) rfl (hb hby at_552) (by decide) (by decide)
          obtain ⟨b121, g121⟩ : ∃ z, z = h120.size := ⟨_, rfl⟩
          rw [← g121] at A121 D121 st121
          have g_b121 : n0 ≤ b121 := Nat.le_trans (Nat.le_trans (Nat.le_trans (Nat.le_trans (Nat.le_trans (Nat.le_trans (Nat.le_trans (Nat.le_trans Z0 E114.1) (Keep.of_wr W115).1) (Keep.of_wr W116).1) (Keep.of_wr W117).1) (Keep.of_wr W118).1) (Keep.of_wr W119).1) (Keep.of_wr W120).1) (Nat.le_of_eq g121.symm)
          have ne_b114_b121 : b114 ≠ b121 := Nat.ne_of_lt (Nat.lt_of_lt_of_eq V120.lt g121.symm)
          have F121_12 : Fld Z h121 b121 "com/example/brief_locator/brieflocator/interchange/CanonicalForm" "bytes" "[B" .null := D121 (Or.inr (hw _ (List.mem_of_getElem? (i := 12) rfl))) (ty := (.array .byte)) (by decide)
          have F121_14 : Fld Z h121 b121 "com/example/brief_locator/brieflocator/interchange/CanonicalForm" "firstEnd" "I" (.int (0 : Int32)) := D121 (Or.inr (hw _ (List.mem_of_getElem? (i := 14) rfl))) (ty := .int) (by decide)
          have F121_16 : Fld Z h121 b121 "com/example/brief_locator/brieflocator/interchange/CanonicalForm" "pathStart" "I" (.int (0 : Int32)) := D121 (Or.inr (hw _ (List.mem_of_getElem? (i := 16) rfl))) (ty := .int) (by decide)
          have F121_18 : Fld Z h121 b121 "com/example/brief_locator/brieflocator/interchange/CanonicalForm" "pathEnd" "I" (.int (0 : Int32)) := D121 (Or.inr (hw _ (List.mem_of_getElem? (i := 18) rfl))) (ty := .int) (by decide)
          have F121_20 : Fld Z h121 b121 "com/example/brief_locator/brieflocator/interchange/CanonicalForm" "queryEnd" "I" (.int (0 : Int32)) := D121 (Or.inr (hw _ (List.mem_of_getElem? (i := 20) rfl))) (ty := .int) (by decide)
          have F121_25 : Fld Z h121 b121 "com/example/brief_locator/brieflocator/interchange/CanonicalForm" "hasScheme" "Z" (.int (0 : Int32)) := D121 (Or.inr (hw _ (List.mem_of_getElem? (i := 25) rfl))) (ty := .boolean) (by decide)
          have F121_27 : Fld Z h121 b121 "com/example/brief_locator/brieflocator/interchange/CanonicalForm" "hasAuthority" "Z" (.int (0 : Int32)) := D121 (Or.inr (hw _ (List.mem_of_getElem? (i := 27) rfl))) (ty := .boolean) (by decide)
          have F121_37 : Fld Z h121 b121 "com/example/brief_locator/brieflocator/interchange/CanonicalForm" "pathSegments" "I" (.int (0 : Int32)) := D121 (Or.inr (hw _ (List.mem_of_getElem? (i := 37) rfl))) (ty := .int) (by decide)
          have F121_52 : Fld Z h121 b121 "com/example/brief_locator/brieflocator/interchange/CanonicalForm" "pathSegmentsStart" "I" (.int (0 : Int32)) := D121 (Or.inr (hw _ (List.mem_of_getElem? (i := 52) rfl))) (ty := .int) (by decide)
          refine Outs.of st121 ?_
          refine Outs.of (U' := T121.setTop (mkF m 566 #[vi i0, vi i1, vi i2, vi i3, vi i4, vi 0, vi 1, vi (f0_v33 i4), vi (f0_v38 i2), vi 0, vi 3, .val (.ref b114), vi 2, vi 3, vi 0, vi 6, vi 1, vi 1, vi 3] [(.int (6 : Int32)), (.int (6 : Int32)), (.int (3 : Int32)), (.int (2 : Int32)), (.ref b114), (.ref b121), (.ref b121)])) (fun t k => ?_) ?_
          · refine XS.dup X121.here hx rfl (hb hby at_555) rfl rfl ?_
            refine XS.aload X121.here hx rfl (hb hby at_556) rfl rfl ?_
            refine XS.iload X121.here hx rfl (hb hby at_558) rfl ?_
            refine XS.iload X121.here hx rfl (hb hby at_560) rfl ?_
            refine XS.iload X121.here hx rfl (hb hby at_562) rfl ?_
            refine XS.iload X121.here hx rfl (hb hby at_564) rfl ?_
            exact k
          have f123 : AI Z h121 b114 .byte 6 (f0_g544 i2 i4) := (V120.ext E121)
          obtain ⟨_, _, ⟨T122, L122, k122, n122⟩, -, X122, ⟨Lc122, hQ122, l122, y122, z122⟩, st122⟩ := X121.specialBack hx (y := (⟨"com/example/brief_locator/brieflocator/interchange/CanonicalForm", "<init>", "([BIIII)V"⟩ : MethodName)) rfl hown (mvT hZ (hw _ (List.mem_of_getElem? (i := 5) rfl))) (mvT hZ (hw _ (List.mem_of_getElem? (i := 6) rfl))) (mvT hZ (hw _ (List.mem_of_getElem? (i := 7) rfl))) (by decide) (backOf (W := 1) (rmctp l Z a0 hw [] b121 b114 (2 : Int32) (3 : Int32) (6 : Int32) (6 : Int32) 6 (f0_g544 i2 i4) 3 h121 n0 (Nat.le_trans (Nat.le_trans (Nat.le_trans (Nat.le_trans (Nat.le_trans (Nat.le_trans (Nat.le_trans (Nat.le_trans Z0 E114.1) (Keep.of_wr W115).1) (Keep.of_wr W116).1) (Keep.of_wr W117).1) (Keep.of_wr W118).1) (Keep.of_wr W119).1) (Keep.of_wr W120).1) E121.1) A121 g_b121 F121_12 F121_14 F121_16 F121_18 F121_20 F121_25 F121_27 F121_37 F121_52 f123 ne_b114_b121 (by decide) rfl (by decide) rfl (by decide) (by decide)) hZ (hw _ (List.mem_of_getElem? (i := 7) rfl)) (hw _ (List.mem_of_getElem? (i := 4) rfl)) (by decide) (by decide)) (g := (mkF m 566 #[vi i0, vi i1, vi i2, vi i3, vi i4, vi 0, vi 1, vi (f0_v33 i4), vi (f0_v38 i2), vi 0, vi 3, .val (.ref b114), vi 2, vi 3, vi 0, vi 6, vi 1, vi 1, vi 3] [(.int (6 : Int32)), (.int (6 : Int32)), (.int (3 : Int32)), (.int (2 : Int32)), (.ref b114), (.ref b121), (.ref b121)])) rfl (by rw [hml]; rfl) (Steps.refl _) (a := b121) (argsL := [(.ref b114), (.int (2 : Int32)), (.int (3 : Int32)), (.int (6 : Int32)), (.int (6 : Int32))]) (rest := [(.ref b121)]) (lenOf pd_0 rfl) rfl (by show 2 * 0 + _ ≤ _; exact Nat.le_of_eq rfl) (hb hby at_566) (fun _ _ => ⟨rfl, e121, (by decide : 2 + 0 ≤ _), (by decide : 16 + 0 ≤ _)⟩)
          dsimp only [Pt.U, Pt.locs, Pt.cells, Pt.slots] at X122 l122 y122 z122 st122 hQ122
          subst l122 y122 z122
          obtain ⟨rfl, N122q, K122, u122_0, u122_1, u122_2, u122_3, u122_4⟩ := hQ122
          have N122 := Fr.app N120 N122q
          obtain ⟨Lh122, X122, N122⟩ := hide X122 N122 (C := 2) (S := 16) (by decide) (by decide)
          refine Outs.to st122 ?_
          refine Outs.of (U' := T122.setTop (mkF m 573 #[vi i0, vi i1, vi i2, vi i3, vi i4, vi 0, vi 1, vi (f0_v33 i4), vi (f0_v38 i2), vi 0, vi 3, .val (.ref b114), vi 2, vi 3, vi 0, vi 6, .val (.ref b121), vi 1, vi 3] [(.ref b121)])) (fun t k => ?_) ?_
          · refine XS.astore X122.here hx rfl (hb hby at_569) rfl rfl (l' := #[vi i0, vi i1, vi i2, vi i3, vi i4, vi 0, vi 1, vi (f0_v33 i4), vi (f0_v38 i2), vi 0, vi 3, .val (.ref b114), vi 2, vi 3, vi 0, vi 6, .val (.ref b121), vi 1, vi 3]) rfl ?_
            refine XS.aload X122.here hx rfl (hb hby at_571) rfl rfl ?_
            exact k
          have f125 : AI Z T122.heap b114 .byte 6 (f0_g544 i2 i4) := (f123.keep K122 (ninS ne_b114_b121 nin0))
          obtain ⟨cq124, kq124, q124a, q124b, q124c⟩ := isOf hZ rfl u122_0
          obtain ⟨_, _, ⟨T124, L124, k124, n124⟩, -, X124, ⟨Lc124, hQ124, l124, y124, z124⟩, st124⟩ := X122.virtualBack hx (y := (⟨"com/example/brief_locator/brieflocator/interchange/CanonicalForm", "hasRootlessAuthority", "()Z"⟩ : MethodName)) (z := (⟨"com/example/brief_locator/brieflocator/interchange/CanonicalForm", "hasRootlessAuthority", "()Z"⟩ : MethodName)) hown (mvT hZ (hw _ (List.mem_of_getElem? (i := 53) rfl))) (mvT hZ (hw _ (List.mem_of_getElem? (i := 54) rfl))) (notFace_of_selects (args := #[]) (mvT hZ (hw _ (List.mem_of_getElem? (i := 56) rfl)))) (mvT hZ (hw _ (List.mem_of_getElem? (i := 56) rfl))) (mvT hZ (hw _ (List.mem_of_getElem? (i := 55) rfl))) (by decide) (backOf (W := 0) (rmhr l Z a0 hw [] b121 (ctp_out4 (2 : Int32) (3 : Int32) (6 : Int32) (6 : Int32) 6 (f0_g544 i2 i4) 3) (3 : Int32) (2 : Int32) b114 6 (f0_g544 i2 i4) 2 T122.heap n0 u122_0 u122_4 u122_3 u122_2 u122_1 f125 rfl (by decide)) hZ (hw _ (List.mem_of_getElem? (i := 57) rfl)) (hw _ (List.mem_of_getElem? (i := 4) rfl)) (by decide) (by decide)) q124a q124c (g := (mkF m 573 #[vi i0, vi i1, vi i2, vi i3, vi i4, vi 0, vi 1, vi (f0_v33 i4), vi (f0_v38 i2), vi 0, vi 3, .val (.ref b114), vi 2, vi 3, vi 0, vi 6, .val (.ref b121), vi 1, vi 3] [(.ref b121)])) rfl (by rw [hml]; rfl) (Steps.refl _) (argsL := []) (rest := []) (lenOf pd_7 rfl) rfl (by show 2 * 0 + _ ≤ _; exact Nat.le_of_eq rfl) (hb hby at_573) (fun _ _ => ⟨rfl, rfl, (by decide : 2 + 0 ≤ _), (by decide : 16 + 0 ≤ _)⟩)
          dsimp only [Pt.U, Pt.locs, Pt.cells, Pt.slots] at X124 l124 y124 z124 st124 hQ124
          subst l124 y124 z124
          obtain ⟨rfl, N124q, e124⟩ := hQ124
          have N124 := Fr.app N122 N124q
          obtain ⟨Lh124, X124, N124⟩ := hide X124 N124 (C := 2) (S := 16) (by decide) (by decide)
          refine Outs.to st124 ?_
          refine Outs.of (U' := T124.setTop (mkF m 586 #[vi i0, vi i1, vi i2, vi i3, vi i4, vi 0, vi 1, vi (f0_v33 i4), vi (f0_v38 i2), vi 0, vi 3, .val (.ref b114), vi 2, vi 3, vi 0, vi 6, .val (.ref b121), vi 1, vi 3] [(.int (1 : Int32))])) (fun t k => ?_) ?_
          · refine XS.iload X124.here hx rfl (hb hby at_576) rfl ?_
            refine XS.icmpNo X124.here hx rfl (hb hby at_578) rfl (teq (law_x12 i0 i1 i2 i3 i4 hc11 hc68)).2 ?_
            refine XS.iconst X124.here hx rfl (hb hby at_581) ?_
            refine XS.goto X124.here hx rfl (pc0 := 582) (pc' := 586) rfl (hb hby at_582) (by decide) (by decide) ?_
            exact k
          exact Outs.retN (t := .boolean) (z := (1 : Int32)) X124 hx hret (by simp) (hb hby at_586) hlk (by decide) (by decide) e124 ⟨rfl, N124⟩
        · refine Outs.of (U' := s₁.setTop (mkF m 71 #[vi i0, vi i1, vi i2, vi i3, vi i4, vi 0, vi 1, vi (f0_v33 i4), vi (f0_v38 i2), vi 0, vi 3, .unset, .unset, .unset, .unset, .unset, .unset, .unset, .unset] [])) (fun t k => ?_) ?_
          · refine XS.ifNo X0.here hx rfl (hb hby at_68) rfl ((if0 _ _).trans (feq hc68).1) ?_
            exact k
          refine Outs.of (U' := s₁.setTop (mkF m 152 #[vi i0, vi i1, vi i2, vi i3, vi i4, vi 0, vi 1, vi (f0_v33 i4), vi (f0_v38 i2), vi 0, vi 3, .unset, .unset, .unset, .unset, vi 1, vi 2, vi 1, vi 3] [(.int (7 : Int32))])) (fun t k => ?_) ?_
          · refine XS.iconst X0.here hx rfl (hb hby at_71) ?_
            refine XS.goto X0.here hx rfl (pc0 := 72) (pc' := 76) rfl (hb hby at_72) (by decide) (by decide) ?_
            refine XS.istore X0.here hx rfl (hb hby at_76) rfl (l' := #[vi i0, vi i1, vi i2, vi i3, vi i4, vi 0, vi 1, vi (f0_v33 i4), vi (f0_v38 i2), vi 0, vi 3, .unset, .unset, .unset, .unset, vi 1, .unset, .unset, .unset]) rfl ?_
            refine XS.iload X0.here hx rfl (hb hby at_78) rfl ?_
            refine XS.ifNo X0.here hx rfl (hb hby at_80) rfl ((if0 _ _).trans (feq (show ¬ ((1 : Int32) = (0 : Int32)) from (by decide))).1) ?_
            refine XS.iconst X0.here hx rfl (hb hby at_83) ?_
            refine XS.goto X0.here hx rfl (pc0 := 84) (pc' := 88) rfl (hb hby at_84) (by decide) (by decide) ?_
            refine XS.istore X0.here hx rfl (hb hby at_88) rfl (l' := #[vi i0, vi i1, vi i2, vi i3, vi i4, vi 0, vi 1, vi (f0_v33 i4), vi (f0_v38 i2), vi 0, vi 3, .unset, .unset, .unset, .unset, vi 1, vi 2, .unset, .unset]) rfl ?_
            refine XS.iload X0.here hx rfl (hb hby at_90) rfl ?_
            refine XS.iconst X0.here hx rfl (hb hby at_92) ?_
            refine XS.icmpYes X0.here hx rfl (pc0 := 93) (pc' := 100) rfl (hb hby at_93) rfl (feq (show ¬ ((0 : Int32) = (3 : Int32)) from (by decide))).2 (by decide) (by decide) ?_
            refine XS.iload X0.here hx rfl (hb hby at_100) rfl ?_
            refine XS.ifNo X0.here hx rfl (hb hby at_102) rfl ((if0 _ _).trans (teq (show (0 : Int32) = (0 : Int32) from (by decide))).2) ?_
            refine XS.iload X0.here hx rfl (hb hby at_105) rfl ?_
            refine XS.ifYes X0.here hx rfl (pc0 := 107) (pc' := 114) rfl (hb hby at_107) rfl ((if0 _ _).trans (feq (show ¬ ((1 : Int32) = (0 : Int32)) from (by decide))).2) (by decide) (by decide) ?_
            refine XS.iconst X0.here hx rfl (hb hby at_114) ?_
            refine XS.istore X0.here hx rfl (hb hby at_115) rfl (l' := #[vi i0, vi i1, vi i2, vi i3, vi i4, vi 0, vi 1, vi (f0_v33 i4), vi (f0_v38 i2), vi 0, vi 3, .unset, .unset, .unset, .unset, vi 1, vi 2, vi 1, .unset]) rfl ?_
            refine XS.iconst X0.here hx rfl (hb hby at_117) ?_
            refine XS.iload X0.here hx rfl (hb hby at_118) rfl ?_
            refine XS.ifNo X0.here hx rfl (hb hby at_120) rfl ((if0 _ _).trans (tlt (show (0 : Int32) < (1 : Int32) from (by decide))).2.2.2) ?_
            refine XS.iconst X0.here hx rfl (hb hby at_123) ?_
            refine XS.goto X0.here hx rfl (pc0 := 124) (pc' := 128) rfl (hb hby at_124) (by decide) (by decide) ?_
            refine XS.iadd X0.here hx rfl (hb hby at_128) rfl ?_
            refine XS.iload X0.here hx rfl (hb hby at_129) rfl ?_
            refine XS.ifNo X0.here hx rfl (hb hby at_131) rfl ((if0 _ _).trans (feq (show ¬ ((1 : Int32) = (0 : Int32)) from (by decide))).1) ?_
            refine XS.iconst X0.here hx rfl (hb hby at_134) ?_
            refine XS.goto X0.here hx rfl (pc0 := 135) (pc' := 139) rfl (hb hby at_135) (by decide) (by decide) ?_
            refine XS.iadd X0.here hx rfl (hb hby at_139) rfl ?_
            refine XS.istore X0.here hx rfl (hb hby at_140) rfl (l' := #[vi i0, vi i1, vi i2, vi i3, vi i4, vi 0, vi 1, vi (f0_v33 i4), vi (f0_v38 i2), vi 0, vi 3, .unset, .unset, .unset, .unset, vi 1, vi 2, vi 1, vi 3]) rfl ?_
            refine XS.iconst X0.here hx rfl (hb hby at_142) ?_
            refine XS.iload X0.here hx rfl (hb hby at_143) rfl ?_
            refine XS.iadd X0.here hx rfl (hb hby at_145) rfl ?_
            refine XS.iload X0.here hx rfl (hb hby at_146) rfl ?_
            refine XS.iadd X0.here hx rfl (hb hby at_148) rfl ?_
            refine XS.iload X0.here hx rfl (hb hby at_149) rfl ?_
            refine XS.iadd X0.here hx rfl (hb hby at_151) rfl ?_
            exact k
          obtain ⟨T126, h126, X126, e126, E126, A126, st126⟩ := newAF X0 hx hZ (aty := .byte) (hw _ (List.mem_of_getElem? (i := 1) rfl)) e0 (f := (mkF m 152 #[vi i0, vi i1, vi i2, vi i3, vi i4, vi 0, vi 1, vi (f0_v33 i4), vi (f0_v38 i2), vi 0, vi 3, .unset, .unset, .unset, .unset, vi 1, vi 2, vi 1, vi 3] [(.int (7 : Int32))])) rfl (hb hby at_152) rfl (k := 7) rfl (cap := 7) (by decide) (by decide) (by decide) (by decide)
          obtain ⟨b126, g126⟩ : ∃ z, z = h0.size := ⟨_, rfl⟩
          rw [← g126] at A126 st126
          have g_b126 : n0 ≤ b126 := Nat.le_trans Z0 (Nat.le_of_eq g126.symm)
          have V126 : AI Z h126 b126 .byte 7 (fun _ => (0 : Int32)) := A126
          refine Outs.of st126 ?_
          refine Outs.of (U' := T126.setTop (mkF m 166 #[vi i0, vi i1, vi i2, vi i3, vi i4, vi 0, vi 1, vi (f0_v33 i4), vi (f0_v38 i2), vi 0, vi 3, .val (.ref b126), .unset, .unset, .unset, vi 1, vi 2, vi 1, vi 3] [(.int ((131 : Int32).toInt8.toInt32)), (.int (0 : Int32)), (.ref b126)])) (fun t k => ?_) ?_
          · refine XS.astore X126.here hx rfl (hb hby at_154) rfl rfl (l' := #[vi i0, vi i1, vi i2, vi i3, vi i4, vi 0, vi 1, vi (f0_v33 i4), vi (f0_v38 i2), vi 0, vi 3, .val (.ref b126), .unset, .unset, .unset, vi 1, vi 2, vi 1, vi 3]) rfl ?_
            refine XS.aload X126.here hx rfl (hb hby at_156) rfl rfl ?_
            refine XS.iconst X126.here hx rfl (hb hby at_158) ?_
            refine XS.sipush X126.here hx rfl (hb hby at_159) ?_
            refine XS.iload X126.here hx rfl (hb hby at_162) rfl ?_
            refine XS.iadd X126.here hx rfl (hb hby at_164) rfl ?_
            refine XS.i2b X126.here hx rfl (hb hby at_165) rfl ?_
            exact k
          obtain ⟨T127, h127, X127, e127, W127, V127, st127⟩ := puB X126 hx hZ e126 V126 (j := (0 : Int32)) (x := ((131 : Int32).toInt8.toInt32)) (k := 0) rfl (by decide) (f := (mkF m 166 #[vi i0, vi i1, vi i2, vi i3, vi i4, vi 0, vi 1, vi (f0_v33 i4), vi (f0_v38 i2), vi 0, vi 3, .val (.ref b126), .unset, .unset, .unset, vi 1, vi 2, vi 1, vi 3] [(.int ((131 : Int32).toInt8.toInt32)), (.int (0 : Int32)), (.ref b126)])) rfl rfl (hb hby at_166)
          replace V127 : AI Z h127 b126 .byte 7 f0_g166b := V127
          have N127 := Fr.snoc X127 N0 g_b126
          obtain ⟨Lh127, X127, N127⟩ := hide X127 N127 (C := 1) (S := 7) (by decide) (by decide)
          refine Outs.of st127 ?_
          refine Outs.of (U' := T127.setTop (mkF m 177 #[vi i0, vi i1, vi i2, vi i3, vi i4, vi 0, vi 1, vi (f0_v33 i4), vi (f0_v38 i2), vi 0, vi 3, .val (.ref b126), .unset, .unset, .unset, vi 1, vi 2, vi 1, vi 3] [(.int (97 : Int32)), (.int (1 : Int32)), (.ref b126)])) (fun t k => ?_) ?_
          · refine XS.iload X127.here hx rfl (hb hby at_167) rfl ?_
            refine XS.ifNo X127.here hx rfl (hb hby at_169) rfl ((if0 _ _).trans (feq (show ¬ ((1 : Int32) = (0 : Int32)) from (by decide))).1) ?_
            refine XS.aload X127.here hx rfl (hb hby at_172) rfl rfl ?_
            refine XS.iconst X127.here hx rfl (hb hby at_174) ?_
            refine XS.bipush X127.here hx rfl (hb hby at_175) ?_
            exact k
          obtain ⟨T128, h128, X128, e128, W128, V128, st128⟩ := puB X127 hx hZ e127 V127 (j := (1 : Int32)) (x := (97 : Int32)) (k := 1) rfl (by decide) (f := (mkF m 177 #[vi i0, vi i1, vi i2, vi i3, vi i4, vi 0, vi 1, vi (f0_v33 i4), vi (f0_v38 i2), vi 0, vi 3, .val (.ref b126), .unset, .unset, .unset, vi 1, vi 2, vi 1, vi 3] [(.int (97 : Int32)), (.int (1 : Int32)), (.ref b126)])) rfl rfl (hb hby at_177)
          replace V128 : AI Z h128 b126 .byte 7 f0_g177b := V128
          have N128 := Fr.snoc X128 N127 g_b126
          obtain ⟨Lh128, X128, N128⟩ := hide X128 N128 (C := 1) (S := 7) (by decide) (by decide)
          refine Outs.of st128 ?_
          refine Outs.of (U' := T128.setTop (mkF m 190 #[vi i0, vi i1, vi i2, vi i3, vi i4, vi 0, vi 1, vi (f0_v33 i4), vi (f0_v38 i2), vi 0, vi 3, .val (.ref b126), .unset, .unset, .unset, vi 1, vi 2, vi 1, vi 3] [(.int (((97 : Int32) + ((f0_v38 i2) % (26 : Int32))).toInt8.toInt32)), (.int (2 : Int32)), (.ref b126)])) (fun t k => ?_) ?_
          · refine XS.aload X128.here hx rfl (hb hby at_178) rfl rfl ?_
            refine XS.iconst X128.here hx rfl (hb hby at_180) ?_
            refine XS.bipush X128.here hx rfl (hb hby at_181) ?_
            refine XS.iload X128.here hx rfl (hb hby at_183) rfl ?_
            refine XS.bipush X128.here hx rfl (hb hby at_185) ?_
            refine iremM X128 hx rfl (hb hby at_187) rfl (by decide) ?_
            refine XS.iadd X128.here hx rfl (hb hby at_188) rfl ?_
            refine XS.i2b X128.here hx rfl (hb hby at_189) rfl ?_
            exact k
          obtain ⟨T129, h129, X129, e129, W129, V129, st129⟩ := puB X128 hx hZ e128 V128 (j := (2 : Int32)) (x := (((97 : Int32) + ((f0_v38 i2) % (26 : Int32))).toInt8.toInt32)) (k := 2) rfl (by decide) (f := (mkF m 190 #[vi i0, vi i1, vi i2, vi i3, vi i4, vi 0, vi 1, vi (f0_v33 i4), vi (f0_v38 i2), vi 0, vi 3, .val (.ref b126), .unset, .unset, .unset, vi 1, vi 2, vi 1, vi 3] [(.int (((97 : Int32) + ((f0_v38 i2) % (26 : Int32))).toInt8.toInt32)), (.int (2 : Int32)), (.ref b126)])) rfl rfl (hb hby at_190)
          replace V129 : AI Z h129 b126 .byte 7 (f0_g190b i2) := V129
          have N129 := Fr.snoc X129 N128 g_b126
          obtain ⟨Lh129, X129, N129⟩ := hide X129 N129 (C := 1) (S := 7) (by decide) (by decide)
          refine Outs.of st129 ?_
          refine Outs.of (U' := T129.setTop (mkF m 229 #[vi i0, vi i1, vi i2, vi i3, vi i4, vi 0, vi 1, vi (f0_v33 i4), vi (f0_v38 i2), vi 0, vi 3, .val (.ref b126), vi 3, .unset, .unset, vi 1, vi 2, vi 1, vi 3] [(.int (-10 : Int32)), (.int (3 : Int32)), (.ref b126)])) (fun t k => ?_) ?_
          · refine XS.goto X129.here hx rfl (pc0 := 191) (pc' := 207) rfl (hb hby at_191) (by decide) (by decide) ?_
            refine XS.iconst X129.here hx rfl (hb hby at_207) ?_
            refine XS.iload X129.here hx rfl (hb hby at_208) rfl ?_
            refine XS.iadd X129.here hx rfl (hb hby at_210) rfl ?_
            refine XS.istore X129.here hx rfl (hb hby at_211) rfl (l' := #[vi i0, vi i1, vi i2, vi i3, vi i4, vi 0, vi 1, vi (f0_v33 i4), vi (f0_v38 i2), vi 0, vi 3, .val (.ref b126), vi 3, .unset, .unset, vi 1, vi 2, vi 1, vi 3]) rfl ?_
            refine XS.iload X129.here hx rfl (hb hby at_213) rfl ?_
            refine XS.ifNo X129.here hx rfl (hb hby at_215) rfl ((if0 _ _).trans (teq (show (0 : Int32) = (0 : Int32) from (by decide))).2) ?_
            refine XS.iload X129.here hx rfl (hb hby at_218) rfl ?_
            refine XS.ifNo X129.here hx rfl (hb hby at_220) rfl ((if0 _ _).trans (feq (show ¬ ((1 : Int32) = (0 : Int32)) from (by decide))).1) ?_
            refine XS.aload X129.here hx rfl (hb hby at_223) rfl rfl ?_
            refine XS.iload X129.here hx rfl (hb hby at_225) rfl ?_
            refine XS.bipush X129.here hx rfl (hb hby at_227) ?_
            exact k
          obtain ⟨T130, h130, X130, e130, W130, V130, st130⟩ := puB X129 hx hZ e129 V129 (j := (3 : Int32)) (x := (-10 : Int32)) (k := 3) rfl (by decide) (f := (mkF m 229 #[vi i0, vi i1, vi i2, vi i3, vi i4, vi 0, vi 1, vi (f0_v33 i4), vi (f0_v38 i2), vi 0, vi 3, .val (.ref b126), vi 3, .unset, .unset, vi 1, vi 2, vi 1, vi 3] [(.int (-10 : Int32)), (.int (3 : Int32)), (.ref b126)])) rfl rfl (hb hby at_229)
          replace V130 : AI Z h130 b126 .byte 7 (f0_g229a i2) := V130
          have N130 := Fr.snoc X130 N129 g_b126
          obtain ⟨Lh130, X130, N130⟩ := hide X130 N130 (C := 1) (S := 7) (by decide) (by decide)
          refine Outs.of st130 ?_
          refine Outs.of (U' := T130.setTop (mkF m 526 #[vi i0, vi i1, vi i2, vi i3, vi i4, vi 0, vi 1, vi (f0_v33 i4), vi (f0_v38 i2), vi 0, vi 3, .val (.ref b126), vi 3, vi 4, vi 0, vi 1, vi 2, vi 1, vi 3] [(.int (-127 : Int32)), (.int (4 : Int32)), (.ref b126)])) (fun t k => ?_) ?_
          · refine XS.goto X130.here hx rfl (pc0 := 230) (pc' := 296) rfl (hb hby at_230) (by decide) (by decide) ?_
            refine XS.iload X130.here hx rfl (hb hby at_296) rfl ?_
            refine XS.iload X130.here hx rfl (hb hby at_298) rfl ?_
            refine XS.iadd X130.here hx rfl (hb hby at_300) rfl ?_
            refine XS.istore X130.here hx rfl (hb hby at_301) rfl (l' := #[vi i0, vi i1, vi i2, vi i3, vi i4, vi 0, vi 1, vi (f0_v33 i4), vi (f0_v38 i2), vi 0, vi 3, .val (.ref b126), vi 3, vi 4, .unset, vi 1, vi 2, vi 1, vi 3]) rfl ?_
            refine XS.iload X130.here hx rfl (hb hby at_303) rfl ?_
            refine XS.iconst X130.here hx rfl (hb hby at_305) ?_
            refine XS.icmpYes X130.here hx rfl (pc0 := 306) (pc' := 313) rfl (hb hby at_306) rfl (feq (show ¬ ((0 : Int32) = (1 : Int32)) from (by decide))).2 (by decide) (by decide) ?_
            refine XS.iconst X130.here hx rfl (hb hby at_313) ?_
            refine XS.istore X130.here hx rfl (hb hby at_314) rfl (l' := #[vi i0, vi i1, vi i2, vi i3, vi i4, vi 0, vi 1, vi (f0_v33 i4), vi (f0_v38 i2), vi 0, vi 3, .val (.ref b126), vi 3, vi 4, vi 0, vi 1, vi 2, vi 1, vi 3]) rfl ?_
            refine XS.goto X130.here hx rfl (pc0 := 316) (pc' := 515) rfl (hb hby at_316) (by decide) (by decide) ?_
            refine XS.iload X130.here hx rfl (hb hby at_515) rfl ?_
            refine XS.ifNo X130.here hx rfl (hb hby at_517) rfl ((if0 _ _).trans (feq (show ¬ ((1 : Int32) = (0 : Int32)) from (by decide))).1) ?_
            refine XS.aload X130.here hx rfl (hb hby at_520) rfl rfl ?_
            refine XS.iload X130.here hx rfl (hb hby at_522) rfl ?_
            refine XS.bipush X130.here hx rfl (hb hby at_524) ?_
            exact k
          obtain ⟨T131, h131, X131, e131, W131, V131, st131⟩ := puB X130 hx hZ e130 V130 (j := (4 : Int32)) (x := (-127 : Int32)) (k := 4) rfl (by decide) (f := (mkF m 526 #[vi i0, vi i1, vi i2, vi i3, vi i4, vi 0, vi 1, vi (f0_v33 i4), vi (f0_v38 i2), vi 0, vi 3, .val (.ref b126), vi 3, vi 4, vi 0, vi 1, vi 2, vi 1, vi 3] [(.int (-127 : Int32)), (.int (4 : Int32)), (.ref b126)])) rfl rfl (hb hby at_526)
          replace V131 : AI Z h131 b126 .byte 7 (f0_g526a i2) := V131
          have N131 := Fr.snoc X131 N130 g_b126
          obtain ⟨Lh131, X131, N131⟩ := hide X131 N131 (C := 1) (S := 7) (by decide) (by decide)
          refine Outs.of st131 ?_
          refine Outs.of (U' := T131.setTop (mkF m 535 #[vi i0, vi i1, vi i2, vi i3, vi i4, vi 0, vi 1, vi (f0_v33 i4), vi (f0_v38 i2), vi 0, vi 3, .val (.ref b126), vi 3, vi 4, vi 0, vi 1, vi 2, vi 1, vi 3] [(.int (97 : Int32)), (.int (5 : Int32)), (.ref b126)])) (fun t k => ?_) ?_
          · refine XS.aload X131.here hx rfl (hb hby at_527) rfl rfl ?_
            refine XS.iload X131.here hx rfl (hb hby at_529) rfl ?_
            refine XS.iconst X131.here hx rfl (hb hby at_531) ?_
            refine XS.iadd X131.here hx rfl (hb hby at_532) rfl ?_
            refine XS.bipush X131.here hx rfl (hb hby at_533) ?_
            exact k
          obtain ⟨T132, h132, X132, e132, W132, V132, st132⟩ := puB X131 hx hZ e131 V131 (j := (5 : Int32)) (x := (97 : Int32)) (k := 5) rfl (by decide) (f := (mkF m 535 #[vi i0, vi i1, vi i2, vi i3, vi i4, vi 0, vi 1, vi (f0_v33 i4), vi (f0_v38 i2), vi 0, vi 3, .val (.ref b126), vi 3, vi 4, vi 0, vi 1, vi 2, vi 1, vi 3] [(.int (97 : Int32)), (.int (5 : Int32)), (.ref b126)])) rfl rfl (hb hby at_535)
          replace V132 : AI Z h132 b126 .byte 7 (f0_g535a i2) := V132
          have N132 := Fr.snoc X132 N131 g_b126
          obtain ⟨Lh132, X132, N132⟩ := hide X132 N132 (C := 1) (S := 7) (by decide) (by decide)
          refine Outs.of st132 ?_
          refine Outs.of (U' := T132.setTop (mkF m 544 #[vi i0, vi i1, vi i2, vi i3, vi i4, vi 0, vi 1, vi (f0_v33 i4), vi (f0_v38 i2), vi 0, vi 3, .val (.ref b126), vi 3, vi 4, vi 0, vi 1, vi 2, vi 1, vi 3] [(.int (f0_v33 i4)), (.int (6 : Int32)), (.ref b126)])) (fun t k => ?_) ?_
          · refine XS.aload X132.here hx rfl (hb hby at_536) rfl rfl ?_
            refine XS.iload X132.here hx rfl (hb hby at_538) rfl ?_
            refine XS.iconst X132.here hx rfl (hb hby at_540) ?_
            refine XS.iadd X132.here hx rfl (hb hby at_541) rfl ?_
            refine XS.iload X132.here hx rfl (hb hby at_542) rfl ?_
            exact k
          obtain ⟨T133, h133, X133, e133, W133, V133, st133⟩ := puB X132 hx hZ e132 V132 (j := (6 : Int32)) (x := (f0_v33 i4)) (k := 6) rfl (by decide) (f := (mkF m 544 #[vi i0, vi i1, vi i2, vi i3, vi i4, vi 0, vi 1, vi (f0_v33 i4), vi (f0_v38 i2), vi 0, vi 3, .val (.ref b126), vi 3, vi 4, vi 0, vi 1, vi 2, vi 1, vi 3] [(.int (f0_v33 i4)), (.int (6 : Int32)), (.ref b126)])) rfl rfl (hb hby at_544)
          replace V133 : AI Z h133 b126 .byte 7 (f0_g544a i2 i4) := V133
          have N133 := Fr.snoc X133 N132 g_b126
          obtain ⟨Lh133, X133, N133⟩ := hide X133 N133 (C := 1) (S := 7) (by decide) (by decide)
          refine Outs.of st133 ?_
          refine Outs.of (U' := T133.setTop (mkF m 552 #[vi i0, vi i1, vi i2, vi i3, vi i4, vi 0, vi 1, vi (f0_v33 i4), vi (f0_v38 i2), vi 0, vi 3, .val (.ref b126), vi 3, vi 4, vi 0, vi 7, vi 2, vi 1, vi 3] [])) (fun t k => ?_) ?_
          · refine XS.iload X133.here hx rfl (hb hby at_545) rfl ?_
            refine XS.iload X133.here hx rfl (hb hby at_547) rfl ?_
            refine XS.iadd X133.here hx rfl (hb hby at_549) rfl ?_
            refine XS.istore X133.here hx rfl (hb hby at_550) rfl (l' := #[vi i0, vi i1, vi i2, vi i3, vi i4, vi 0, vi 1, vi (f0_v33 i4), vi (f0_v38 i2), vi 0, vi 3, .val (.ref b126), vi 3, vi 4, vi 0, vi 7, vi 2, vi 1, vi 3]) rfl ?_
            exact k
          obtain ⟨T134, h134, X134, e134, E134, A134, D134, -, st134⟩ := newO X133 hx hZ hown (hw _ (List.mem_of_getElem? (i := 2) rfl)) (hw _ (List.mem_of_getElem? (i := 3) rfl)) (hw _ (List.mem_of_getElem? (i := 4) rfl)) e133 (g := (mkF m 552 #[vi i0, vi i1, vi i2, vi i3, vi i4, vi 0, vi 1, vi (f0_v33 i4), vi (f0_v38 i2), vi 0, vi 3, .val (.ref b126), vi 3, vi 4, vi 0, vi 7, vi 2, vi 1, vi 3] [])) rfl (hb hby at_552) (by decide) (by decide)
          obtain ⟨b134, g134⟩ : ∃ z, z = h133.size := ⟨_, rfl⟩
          rw [← g134] at A134 D134 st134
          have g_b134 : n0 ≤ b134 := Nat.le_trans (Nat.le_trans (Nat.le_trans (Nat.le_trans (Nat.le_trans (Nat.le_trans (Nat.le_trans (Nat.le_trans (Nat.le_trans Z0 E126.1) (Keep.of_wr W127).1) (Keep.of_wr W128).1) (Keep.of_wr W129).1) (Keep.of_wr W130).1) (Keep.of_wr W131).1) (Keep.of_wr W132).1) (Keep.of_wr W133).1) (Nat.le_of_eq g134.symm)
          have ne_b126_b134 : b126 ≠ b134 := Nat.ne_of_lt (Nat.lt_of_lt_of_eq V133.lt g134.symm)
          have F134_12 : Fld Z h134 b134 "com/example/brief_locator/brieflocator/interchange/CanonicalForm" "bytes" "[B" .null := D134 (Or.inr (hw _ (List.mem_of_getElem? (i := 12) rfl))) (ty := (.array .byte)) (by decide)
          have F134_14 : Fld Z h134 b134 "com/example/brief_locator/brieflocator/interchange/CanonicalForm" "firstEnd" "I" (.int (0 : Int32)) := D134 (Or.inr (hw _ (List.mem_of_getElem? (i := 14) rfl))) (ty := .int) (by decide)
          have F134_16 : Fld Z h134 b134 "com/example/brief_locator/brieflocator/interchange/CanonicalForm" "pathStart" "I" (.int (0 : Int32)) := D134 (Or.inr (hw _ (List.mem_of_getElem? (i := 16) rfl))) (ty := .int) (by decide)
          have F134_18 : Fld Z h134 b134 "com/example/brief_locator/brieflocator/interchange/CanonicalForm" "pathEnd" "I" (.int (0 : Int32)) := D134 (Or.inr (hw _ (List.mem_of_getElem? (i := 18) rfl))) (ty := .int) (by decide)
          have F134_20 : Fld Z h134 b134 "com/example/brief_locator/brieflocator/interchange/CanonicalForm" "queryEnd" "I" (.int (0 : Int32)) := D134 (Or.inr (hw _ (List.mem_of_getElem? (i := 20) rfl))) (ty := .int) (by decide)
          have F134_25 : Fld Z h134 b134 "com/example/brief_locator/brieflocator/interchange/CanonicalForm" "hasScheme" "Z" (.int (0 : Int32)) := D134 (Or.inr (hw _ (List.mem_of_getElem? (i := 25) rfl))) (ty := .boolean) (by decide)
          have F134_27 : Fld Z h134 b134 "com/example/brief_locator/brieflocator/interchange/CanonicalForm" "hasAuthority" "Z" (.int (0 : Int32)) := D134 (Or.inr (hw _ (List.mem_of_getElem? (i := 27) rfl))) (ty := .boolean) (by decide)
          have F134_37 : Fld Z h134 b134 "com/example/brief_locator/brieflocator/interchange/CanonicalForm" "pathSegments" "I" (.int (0 : Int32)) := D134 (Or.inr (hw _ (List.mem_of_getElem? (i := 37) rfl))) (ty := .int) (by decide)
          have F134_52 : Fld Z h134 b134 "com/example/brief_locator/brieflocator/interchange/CanonicalForm" "pathSegmentsStart" "I" (.int (0 : Int32)) := D134 (Or.inr (hw _ (List.mem_of_getElem? (i := 52) rfl))) (ty := .int) (by decide)
          refine Outs.of st134 ?_
          refine Outs.of (U' := T134.setTop (mkF m 566 #[vi i0, vi i1, vi i2, vi i3, vi i4, vi 0, vi 1, vi (f0_v33 i4), vi (f0_v38 i2), vi 0, vi 3, .val (.ref b126), vi 3, vi 4, vi 0, vi 7, vi 2, vi 1, vi 3] [(.int (7 : Int32)), (.int (7 : Int32)), (.int (4 : Int32)), (.int (3 : Int32)), (.ref b126), (.ref b134), (.ref b134)])) (fun t k => ?_) ?_
          · refine XS.dup X134.here hx rfl (hb hby at_555) rfl rfl ?_
            refine XS.aload X134.here hx rfl (hb hby at_556) rfl rfl ?_
            refine XS.iload X134.here hx rfl (hb hby at_558) rfl ?_
            refine XS.iload X134.here hx rfl (hb hby at_560) rfl ?_
            refine XS.iload X134.here hx rfl (hb hby at_562) rfl ?_
            refine XS.iload X134.here hx rfl (hb hby at_564) rfl ?_
            exact k
          have f136 : AI Z h134 b126 .byte 7 (f0_g544a i2 i4) := (V133.ext E134)
          obtain ⟨_, _, ⟨T135, L135, k135, n135⟩, -, X135, ⟨Lc135, hQ135, l135, y135, z135⟩, st135⟩ := X134.specialBack hx (y := (⟨"com/example/brief_locator/brieflocator/interchange/CanonicalForm", "<init>", "([BIIII)V"⟩ : MethodName)) rfl hown (mvT hZ (hw _ (List.mem_of_getElem? (i := 5) rfl))) (mvT hZ (hw _ (List.mem_of_getElem? (i := 6) rfl))) (mvT hZ (hw _ (List.mem_of_getElem? (i := 7) rfl))) (by decide) (backOf (W := 1) (rmctp l Z a0 hw [] b134 b126 (3 : Int32) (4 : Int32) (7 : Int32) (7 : Int32) 7 (f0_g544a i2 i4) 4 h134 n0 (Nat.le_trans (Nat.le_trans (Nat.le_trans (Nat.le_trans (Nat.le_trans (Nat.le_trans (Nat.le_trans (Nat.le_trans (Nat.le_trans Z0 E126.1) (Keep.of_wr W127).1) (Keep.of_wr W128).1) (Keep.of_wr W129).1) (Keep.of_wr W130).1) (Keep.of_wr W131).1) (Keep.of_wr W132).1) (Keep.of_wr W133).1) E134.1) A134 g_b134 F134_12 F134_14 F134_16 F134_18 F134_20 F134_25 F134_27 F134_37 F134_52 f136 ne_b126_b134 (by decide) rfl (by decide) rfl (by decide) (by decide)) hZ (hw _ (List.mem_of_getElem? (i := 7) rfl)) (hw _ (List.mem_of_getElem? (i := 4) rfl)) (by decide) (by decide)) (g := (mkF m 566 #[vi i0, vi i1, vi i2, vi i3, vi i4, vi 0, vi 1, vi (f0_v33 i4), vi (f0_v38 i2), vi 0, vi 3, .val (.ref b126), vi 3, vi 4, vi 0, vi 7, vi 2, vi 1, vi 3] [(.int (7 : Int32)), (.int (7 : Int32)), (.int (4 : Int32)), (.int (3 : Int32)), (.ref b126), (.ref b134), (.ref b134)])) rfl (by rw [hml]; rfl) (Steps.refl _) (a := b134) (argsL := [(.ref b126), (.int (3 : Int32)), (.int (4 : Int32)), (.int (7 : Int32)), (.int (7 : Int32))]) (rest := [(.ref b134)]) (lenOf pd_0 rfl) rfl (by show 2 * 0 + _ ≤ _; exact Nat.le_of_eq rfl) (hb hby at_566) (fun _ _ => ⟨rfl, e134, (by decide : 2 + 0 ≤ _), (by decide : 17 + 0 ≤ _)⟩)
          dsimp only [Pt.U, Pt.locs, Pt.cells, Pt.slots] at X135 l135 y135 z135 st135 hQ135
          subst l135 y135 z135
          obtain ⟨rfl, N135q, K135, u135_0, u135_1, u135_2, u135_3, u135_4⟩ := hQ135
          have N135 := Fr.app N133 N135q
          obtain ⟨Lh135, X135, N135⟩ := hide X135 N135 (C := 2) (S := 17) (by decide) (by decide)
          refine Outs.to st135 ?_
          refine Outs.of (U' := T135.setTop (mkF m 573 #[vi i0, vi i1, vi i2, vi i3, vi i4, vi 0, vi 1, vi (f0_v33 i4), vi (f0_v38 i2), vi 0, vi 3, .val (.ref b126), vi 3, vi 4, vi 0, vi 7, .val (.ref b134), vi 1, vi 3] [(.ref b134)])) (fun t k => ?_) ?_
          · refine XS.astore X135.here hx rfl (hb hby at_569) rfl rfl (l' := #[vi i0, vi i1, vi i2, vi i3, vi i4, vi 0, vi 1, vi (f0_v33 i4), vi (f0_v38 i2), vi 0, vi 3, .val (.ref b126), vi 3, vi 4, vi 0, vi 7, .val (.ref b134), vi 1, vi 3]) rfl ?_
            refine XS.aload X135.here hx rfl (hb hby at_571) rfl rfl ?_
            exact k
          have f138 : AI Z T135.heap b126 .byte 7 (f0_g544a i2 i4) := (f136.keep K135 (ninS ne_b126_b134 nin0))
          obtain ⟨cq137, kq137, q137a, q137b, q137c⟩ := isOf hZ rfl u135_0
          obtain ⟨_, _, ⟨T137, L137, k137, n137⟩, -, X137, ⟨Lc137, hQ137, l137, y137, z137⟩, st137⟩ := X135.virtualBack hx (y := (⟨"com/example/brief_locator/brieflocator/interchange/CanonicalForm", "hasRootlessAuthority", "()Z"⟩ : MethodName)) (z := (⟨"com/example/brief_locator/brieflocator/interchange/CanonicalForm", "hasRootlessAuthority", "()Z"⟩ : MethodName)) hown (mvT hZ (hw _ (List.mem_of_getElem? (i := 53) rfl))) (mvT hZ (hw _ (List.mem_of_getElem? (i := 54) rfl))) (notFace_of_selects (args := #[]) (mvT hZ (hw _ (List.mem_of_getElem? (i := 56) rfl)))) (mvT hZ (hw _ (List.mem_of_getElem? (i := 56) rfl))) (mvT hZ (hw _ (List.mem_of_getElem? (i := 55) rfl))) (by decide) (backOf (W := 0) (rmhr l Z a0 hw [] b134 (ctp_out4 (3 : Int32) (4 : Int32) (7 : Int32) (7 : Int32) 7 (f0_g544a i2 i4) 4) (4 : Int32) (3 : Int32) b126 7 (f0_g544a i2 i4) 3 T135.heap n0 u135_0 u135_4 u135_3 u135_2 u135_1 f138 rfl (by decide)) hZ (hw _ (List.mem_of_getElem? (i := 57) rfl)) (hw _ (List.mem_of_getElem? (i := 4) rfl)) (by decide) (by decide)) q137a q137c (g := (mkF m 573 #[vi i0, vi i1, vi i2, vi i3, vi i4, vi 0, vi 1, vi (f0_v33 i4), vi (f0_v38 i2), vi 0, vi 3, .val (.ref b126), vi 3, vi 4, vi 0, vi 7, .val (.ref b134), vi 1, vi 3] [(.ref b134)])) rfl (by rw [hml]; rfl) (Steps.refl _) (argsL := []) (rest := []) (lenOf pd_7 rfl) rfl (by show 2 * 0 + _ ≤ _; exact Nat.le_of_eq rfl) (hb hby at_573) (fun _ _ => ⟨rfl, rfl, (by decide : 2 + 0 ≤ _), (by decide : 17 + 0 ≤ _)⟩)
          dsimp only [Pt.U, Pt.locs, Pt.cells, Pt.slots] at X137 l137 y137 z137 st137 hQ137
          subst l137 y137 z137
          obtain ⟨rfl, N137q, e137⟩ := hQ137
          have N137 := Fr.app N135 N137q
          obtain ⟨Lh137, X137, N137⟩ := hide X137 N137 (C := 2) (S := 17) (by decide) (by decide)
          refine Outs.to st137 ?_
          refine Outs.of (U' := T137.setTop (mkF m 586 #[vi i0, vi i1, vi i2, vi i3, vi i4, vi 0, vi 1, vi (f0_v33 i4), vi (f0_v38 i2), vi 0, vi 3, .val (.ref b126), vi 3, vi 4, vi 0, vi 7, .val (.ref b134), vi 1, vi 3] [(.int (1 : Int32))])) (fun t k => ?_) ?_
          · refine XS.iload X137.here hx rfl (hb hby at_576) rfl ?_
            refine XS.icmpNo X137.here hx rfl (hb hby at_578) rfl (teq (law_x13 i0 i1 i2 i3 i4 hc11 hc68)).2 ?_
            refine XS.iconst X137.here hx rfl (hb hby at_581) ?_
            refine XS.goto X137.here hx rfl (pc0 := 582) (pc' := 586) rfl (hb hby at_582) (by decide) (by decide) ?_
            exact k
          exact Outs.retN (t := .boolean) (z := (1 : Int32)) X137 hx hret (by simp) (hb hby at_586) hlk (by decide) (by decide) e137 ⟨rfl, N137⟩
      · rw [q9]
        show Outs p e below s _ _ _ (s₁.setTop (mkF m 65 #[vi i0, vi i1, vi i2, vi i3, vi i4, vi 0, vi 1, vi (f0_v33 i4), vi (f0_v38 i2), vi 1, vi 3, .unset, .unset, .unset, .unset, .unset, .unset, .unset, .unset] []))
        refine Outs.of (U' := s₁.setTop (mkF m 68 #[vi i0, vi i1, vi i2, vi i3, vi i4, vi 0, vi 1, vi (f0_v33 i4), vi (f0_v38 i2), vi 1, vi 3, .unset, .unset, .unset, .unset, .unset, .unset, .unset, .unset] [(.int (i2 &&& (1 : Int32)))])) (fun t k => ?_) ?_
        · refine XS.iloadN X0.here hx rfl (hb hby at_65) rfl ?_
          refine XS.iconst X0.here hx rfl (hb hby at_66) ?_
          refine XS.iand X0.here hx rfl (hb hby at_67) rfl ?_
          exact k
        by_cases hc68 : (i2 &&& (1 : Int32)) = (0 : Int32)
        · refine Outs.of (U' := s₁.setTop (mkF m 75 #[vi i0, vi i1, vi i2, vi i3, vi i4, vi 0, vi 1, vi (f0_v33 i4), vi (f0_v38 i2), vi 1, vi 3, .unset, .unset, .unset, .unset, .unset, .unset, .unset, .unset] [])) (fun t k => ?_) ?_
          · refine XS.ifYes X0.here hx rfl (pc0 := 68) (pc' := 75) rfl (hb hby at_68) rfl ((if0 _ _).trans (teq hc68).1) (by decide) (by decide) ?_
            exact k
          refine Outs.of (U' := s₁.setTop (mkF m 152 #[vi i0, vi i1, vi i2, vi i3, vi i4, vi 0, vi 1, vi (f0_v33 i4), vi (f0_v38 i2), vi 1, vi 3, .unset, .unset, .unset, .unset, vi 0, vi 1, vi 1, vi 3] [(.int (6 : Int32))])) (fun t k => ?_) ?_
          · refine XS.iconst X0.here hx rfl (hb hby at_75) ?_
            refine XS.istore X0.here hx rfl (hb hby at_76) rfl (l' := #[vi i0, vi i1, vi i2, vi i3, vi i4, vi 0, vi 1, vi (f0_v33 i4), vi (f0_v38 i2), vi 1, vi 3, .unset, .unset, .unset, .unset, vi 0, .unset, .unset, .unset]) rfl ?_
            refine XS.iload X0.here hx rfl (hb hby at_78) rfl ?_
            refine XS.ifYes X0.here hx rfl (pc0 := 80) (pc' := 87) rfl (hb hby at_80) rfl ((if0 _ _).trans (teq (show (0 : Int32) = (0 : Int32) from (by decide))).1) (by decide) (by decide) ?_
            refine XS.iconst X0.here hx rfl (hb hby at_87) ?_
            refine XS.istore X0.here hx rfl (hb hby at_88) rfl (l' := #[vi i0, vi i1, vi i2, vi i3, vi i4, vi 0, vi 1, vi (f0_v33 i4), vi (f0_v38 i2), vi 1, vi 3, .unset, .unset, .unset, .unset, vi 0, vi 1, .unset, .unset]) rfl ?_
            refine XS.iload X0.here hx rfl (hb hby at_90) rfl ?_
            refine XS.iconst X0.here hx rfl (hb hby at_92) ?_
            refine XS.icmpYes X0.here hx rfl (pc0 := 93) (pc' := 100) rfl (hb hby at_93) rfl (feq (show ¬ ((1 : Int32) = (3 : Int32)) from (by decide))).2 (by decide) (by decide) ?_
            refine XS.iload X0.here hx rfl (hb hby at_100) rfl ?_
            refine XS.ifYes X0.here hx rfl (pc0 := 102) (pc' := 114) rfl (hb hby at_102) rfl ((if0 _ _).trans (feq (show ¬ ((1 : Int32) = (0 : Int32)) from (by decide))).2) (by decide) (by decide) ?_
            refine XS.iconst X0.here hx rfl (hb hby at_114) ?_
            refine XS.istore X0.here hx rfl (hb hby at_115) rfl (l' := #[vi i0, vi i1, vi i2, vi i3, vi i4, vi 0, vi 1, vi (f0_v33 i4), vi (f0_v38 i2), vi 1, vi 3, .unset, .unset, .unset, .unset, vi 0, vi 1, vi 1, .unset]) rfl ?_
            refine XS.iconst X0.here hx rfl (hb hby at_117) ?_
            refine XS.iload X0.here hx rfl (hb hby at_118) rfl ?_
            refine XS.ifNo X0.here hx rfl (hb hby at_120) rfl ((if0 _ _).trans (tlt (show (0 : Int32) < (1 : Int32) from (by decide))).2.2.2) ?_
            refine XS.iconst X0.here hx rfl (hb hby at_123) ?_
            refine XS.goto X0.here hx rfl (pc0 := 124) (pc' := 128) rfl (hb hby at_124) (by decide) (by decide) ?_
            refine XS.iadd X0.here hx rfl (hb hby at_128) rfl ?_
            refine XS.iload X0.here hx rfl (hb hby at_129) rfl ?_
            refine XS.ifNo X0.here hx rfl (hb hby at_131) rfl ((if0 _ _).trans (feq (show ¬ ((1 : Int32) = (0 : Int32)) from (by decide))).1) ?_
            refine XS.iconst X0.here hx rfl (hb hby at_134) ?_
            refine XS.goto X0.here hx rfl (pc0 := 135) (pc' := 139) rfl (hb hby at_135) (by decide) (by decide) ?_
            refine XS.iadd X0.here hx rfl (hb hby at_139) rfl ?_
            refine XS.istore X0.here hx rfl (hb hby at_140) rfl (l' := #[vi i0, vi i1, vi i2, vi i3, vi i4, vi 0, vi 1, vi (f0_v33 i4), vi (f0_v38 i2), vi 1, vi 3, .unset, .unset, .unset, .unset, vi 0, vi 1, vi 1, vi 3]) rfl ?_
            refine XS.iconst X0.here hx rfl (hb hby at_142) ?_
            refine XS.iload X0.here hx rfl (hb hby at_143) rfl ?_
            refine XS.iadd X0.here hx rfl (hb hby at_145) rfl ?_
            refine XS.iload X0.here hx rfl (hb hby at_146) rfl ?_
            refine XS.iadd X0.here hx rfl (hb hby at_148) rfl ?_
            refine XS.iload X0.here hx rfl (hb hby at_149) rfl ?_
            refine XS.iadd X0.here hx rfl (hb hby at_151) rfl ?_
            exact k
          obtain ⟨T139, h139, X139, e139, E139, A139, st139⟩ := newAF X0 hx hZ (aty := .byte) (hw _ (List.mem_of_getElem? (i := 1) rfl)) e0 (f := (mkF m 152 #[vi i0, vi i1, vi i2, vi i3, vi i4, vi 0, vi 1, vi (f0_v33 i4), vi (f0_v38 i2), vi 1, vi 3, .unset, .unset, .unset, .unset, vi 0, vi 1, vi 1, vi 3] [(.int (6 : Int32))])) rfl (hb hby at_152) rfl (k := 6) rfl (cap := 6) (by decide) (by decide) (by decide) (by decide)
          obtain ⟨b139, g139⟩ : ∃ z, z = h0.size := ⟨_, rfl⟩
          rw [← g139] at A139 st139
          have g_b139 : n0 ≤ b139 := Nat.le_trans Z0 (Nat.le_of_eq g139.symm)
          have V139 : AI Z h139 b139 .byte 6 (fun _ => (0 : Int32)) := A139
          refine Outs.of st139 ?_
          refine Outs.of (U' := T139.setTop (mkF m 166 #[vi i0, vi i1, vi i2, vi i3, vi i4, vi 0, vi 1, vi (f0_v33 i4), vi (f0_v38 i2), vi 1, vi 3, .val (.ref b139), .unset, .unset, .unset, vi 0, vi 1, vi 1, vi 3] [(.int ((131 : Int32).toInt8.toInt32)), (.int (0 : Int32)), (.ref b139)])) (fun t k => ?_) ?_
          · refine XS.astore X139.here hx rfl (hb hby at_154) rfl rfl (l' := #[vi i0, vi i1, vi i2, vi i3, vi i4, vi 0, vi 1, vi (f0_v33 i4), vi (f0_v38 i2), vi 1, vi 3, .val (.ref b139), .unset, .unset, .unset, vi 0, vi 1, vi 1, vi 3]) rfl ?_
            refine XS.aload X139.here hx rfl (hb hby at_156) rfl rfl ?_
            refine XS.iconst X139.here hx rfl (hb hby at_158) ?_
            refine XS.sipush X139.here hx rfl (hb hby at_159) ?_
            refine XS.iload X139.here hx rfl (hb hby at_162) rfl ?_
            refine XS.iadd X139.here hx rfl (hb hby at_164) rfl ?_
            refine XS.i2b X139.here hx rfl (hb hby at_165) rfl ?_
            exact k
          obtain ⟨T140, h140, X140, e140, W140, V140, st140⟩ := puB X139 hx hZ e139 V139 (j := (0 : Int32)) (x := ((131 : Int32).toInt8.toInt32)) (k := 0) rfl (by decide) (f := (mkF m 166 #[vi i0, vi i1, vi i2, vi i3, vi i4, vi 0, vi 1, vi (f0_v33 i4), vi (f0_v38 i2), vi 1, vi 3, .val (.ref b139), .unset, .unset, .unset, vi 0, vi 1, vi 1, vi 3] [(.int ((131 : Int32).toInt8.toInt32)), (.int (0 : Int32)), (.ref b139)])) rfl rfl (hb hby at_166)
          replace V140 : AI Z h140 b139 .byte 6 f0_g166b := V140
          have N140 := Fr.snoc X140 N0 g_b139
          obtain ⟨Lh140, X140, N140⟩ := hide X140 N140 (C := 1) (S := 6) (by decide) (by decide)
          refine Outs.of st140 ?_
          refine Outs.of (U' := T140.setTop (mkF m 206 #[vi i0, vi i1, vi i2, vi i3, vi i4, vi 0, vi 1, vi (f0_v33 i4), vi (f0_v38 i2), vi 1, vi 3, .val (.ref b139), .unset, .unset, .unset, vi 0, vi 1, vi 1, vi 3] [(.int (((32 : Int32) + ((f0_v38 i2) % (24 : Int32))).toInt8.toInt32)), (.int (1 : Int32)), (.ref b139)])) (fun t k => ?_) ?_
          · refine XS.iload X140.here hx rfl (hb hby at_167) rfl ?_
            refine XS.ifYes X140.here hx rfl (pc0 := 169) (pc' := 194) rfl (hb hby at_169) rfl ((if0 _ _).trans (teq (show (0 : Int32) = (0 : Int32) from (by decide))).1) (by decide) (by decide) ?_
            refine XS.aload X140.here hx rfl (hb hby at_194) rfl rfl ?_
            refine XS.iconst X140.here hx rfl (hb hby at_196) ?_
            refine XS.bipush X140.here hx rfl (hb hby at_197) ?_
            refine XS.iload X140.here hx rfl (hb hby at_199) rfl ?_
            refine XS.bipush X140.here hx rfl (hb hby at_201) ?_
            refine iremM X140 hx rfl (hb hby at_203) rfl (by decide) ?_
            refine XS.iadd X140.here hx rfl (hb hby at_204) rfl ?_
            refine XS.i2b X140.here hx rfl (hb hby at_205) rfl ?_
            exact k
          obtain ⟨T141, h141, X141, e141, W141, V141, st141⟩ := puB X140 hx hZ e140 V140 (j := (1 : Int32)) (x := (((32 : Int32) + ((f0_v38 i2) % (24 : Int32))).toInt8.toInt32)) (k := 1) rfl (by decide) (f := (mkF m 206 #[vi i0, vi i1, vi i2, vi i3, vi i4, vi 0, vi 1, vi (f0_v33 i4), vi (f0_v38 i2), vi 1, vi 3, .val (.ref b139), .unset, .unset, .unset, vi 0, vi 1, vi 1, vi 3] [(.int (((32 : Int32) + ((f0_v38 i2) % (24 : Int32))).toInt8.toInt32)), (.int (1 : Int32)), (.ref b139)])) rfl rfl (hb hby at_206)
          replace V141 : AI Z h141 b139 .byte 6 (f0_g206b i2) := V141
          have N141 := Fr.snoc X141 N140 g_b139
          obtain ⟨Lh141, X141, N141⟩ := hide X141 N141 (C := 1) (S := 6) (by decide) (by decide)
          refine Outs.of st141 ?_
          refine Outs.of (U' := T141.setTop (mkF m 245 #[vi i0, vi i1, vi i2, vi i3, vi i4, vi 0, vi 1, vi (f0_v33 i4), vi (f0_v38 i2), vi 1, vi 3, .val (.ref b139), vi 2, .unset, .unset, vi 0, vi 1, vi 1, vi 3] [(.int (-11 : Int32)), (.int (2 : Int32)), (.ref b139)])) (fun t k => ?_) ?_
          · refine XS.iconst X141.here hx rfl (hb hby at_207) ?_
            refine XS.iload X141.here hx rfl (hb hby at_208) rfl ?_
            refine XS.iadd X141.here hx rfl (hb hby at_210) rfl ?_
            refine XS.istore X141.here hx rfl (hb hby at_211) rfl (l' := #[vi i0, vi i1, vi i2, vi i3, vi i4, vi 0, vi 1, vi (f0_v33 i4), vi (f0_v38 i2), vi 1, vi 3, .val (.ref b139), vi 2, .unset, .unset, vi 0, vi 1, vi 1, vi 3]) rfl ?_
            refine XS.iload X141.here hx rfl (hb hby at_213) rfl ?_
            refine XS.ifYes X141.here hx rfl (pc0 := 215) (pc' := 233) rfl (hb hby at_215) rfl ((if0 _ _).trans (feq (show ¬ ((1 : Int32) = (0 : Int32)) from (by decide))).2) (by decide) (by decide) ?_
            refine XS.iload X141.here hx rfl (hb hby at_233) rfl ?_
            refine XS.iconst X141.here hx rfl (hb hby at_235) ?_
            refine XS.icmpNo X141.here hx rfl (hb hby at_236) rfl (teq (show (1 : Int32) = (1 : Int32) from (by decide))).2 ?_
            refine XS.aload X141.here hx rfl (hb hby at_239) rfl rfl ?_
            refine XS.iload X141.here hx rfl (hb hby at_241) rfl ?_
            refine XS.bipush X141.here hx rfl (hb hby at_243) ?_
            exact k
          obtain ⟨T142, h142, X142, e142, W142, V142, st142⟩ := puB X141 hx hZ e141 V141 (j := (2 : Int32)) (x := (-11 : Int32)) (k := 2) rfl (by decide) (f := (mkF m 245 #[vi i0, vi i1, vi i2, vi i3, vi i4, vi 0, vi 1, vi (f0_v33 i4), vi (f0_v38 i2), vi 1, vi 3, .val (.ref b139), vi 2, .unset, .unset, vi 0, vi 1, vi 1, vi 3] [(.int (-11 : Int32)), (.int (2 : Int32)), (.ref b139)])) rfl rfl (hb hby at_245)
          replace V142 : AI Z h142 b139 .byte 6 (f0_g245b i2) := V142
          have N142 := Fr.snoc X142 N141 g_b139
          obtain ⟨Lh142, X142, N142⟩ := hide X142 N142 (C := 1) (S := 6) (by decide) (by decide)
          refine Outs.of st142 ?_
          refine Outs.of (U' := T142.setTop (mkF m 526 #[vi i0, vi i1, vi i2, vi i3, vi i4, vi 0, vi 1, vi (f0_v33 i4), vi (f0_v38 i2), vi 1, vi 3, .val (.ref b139), vi 2, vi 3, vi 1, vi 0, vi 1, vi 1, vi 3] [(.int (-127 : Int32)), (.int (3 : Int32)), (.ref b139)])) (fun t k => ?_) ?_
          · refine XS.goto X142.here hx rfl (pc0 := 246) (pc' := 296) rfl (hb hby at_246) (by decide) (by decide) ?_
            refine XS.iload X142.here hx rfl (hb hby at_296) rfl ?_
            refine XS.iload X142.here hx rfl (hb hby at_298) rfl ?_
            refine XS.iadd X142.here hx rfl (hb hby at_300) rfl ?_
            refine XS.istore X142.here hx rfl (hb hby at_301) rfl (l' := #[vi i0, vi i1, vi i2, vi i3, vi i4, vi 0, vi 1, vi (f0_v33 i4), vi (f0_v38 i2), vi 1, vi 3, .val (.ref b139), vi 2, vi 3, .unset, vi 0, vi 1, vi 1, vi 3]) rfl ?_
            refine XS.iload X142.here hx rfl (hb hby at_303) rfl ?_
            refine XS.iconst X142.here hx rfl (hb hby at_305) ?_
            refine XS.icmpNo X142.here hx rfl (hb hby at_306) rfl (teq (show (1 : Int32) = (1 : Int32) from (by decide))).2 ?_
            refine XS.iconst X142.here hx rfl (hb hby at_309) ?_
            refine XS.goto X142.here hx rfl (pc0 := 310) (pc' := 314) rfl (hb hby at_310) (by decide) (by decide) ?_
            refine XS.istore X142.here hx rfl (hb hby at_314) rfl (l' := #[vi i0, vi i1, vi i2, vi i3, vi i4, vi 0, vi 1, vi (f0_v33 i4), vi (f0_v38 i2), vi 1, vi 3, .val (.ref b139), vi 2, vi 3, vi 1, vi 0, vi 1, vi 1, vi 3]) rfl ?_
            refine XS.goto X142.here hx rfl (pc0 := 316) (pc' := 515) rfl (hb hby at_316) (by decide) (by decide) ?_
            refine XS.iload X142.here hx rfl (hb hby at_515) rfl ?_
            refine XS.ifNo X142.here hx rfl (hb hby at_517) rfl ((if0 _ _).trans (feq (show ¬ ((1 : Int32) = (0 : Int32)) from (by decide))).1) ?_
            refine XS.aload X142.here hx rfl (hb hby at_520) rfl rfl ?_
            refine XS.iload X142.here hx rfl (hb hby at_522) rfl ?_
            refine XS.bipush X142.here hx rfl (hb hby at_524) ?_
            exact k
          obtain ⟨T143, h143, X143, e143, W143, V143, st143⟩ := puB X142 hx hZ e142 V142 (j := (3 : Int32)) (x := (-127 : Int32)) (k := 3) rfl (by decide) (f := (mkF m 526 #[vi i0, vi i1, vi i2, vi i3, vi i4, vi 0, vi 1, vi (f0_v33 i4), vi (f0_v38 i2), vi 1, vi 3, .val (.ref b139), vi 2, vi 3, vi 1, vi 0, vi 1, vi 1, vi 3] [(.int (-127 : Int32)), (.int (3 : Int32)), (.ref b139)])) rfl rfl (hb hby at_526)
          replace V143 : AI Z h143 b139 .byte 6 (f0_g526b i2) := V143
          have N143 := Fr.snoc X143 N142 g_b139
          obtain ⟨Lh143, X143, N143⟩ := hide X143 N143 (C := 1) (S := 6) (by decide) (by decide)
          refine Outs.of st143 ?_
          refine Outs.of (U' := T143.setTop (mkF m 535 #[vi i0, vi i1, vi i2, vi i3, vi i4, vi 0, vi 1, vi (f0_v33 i4), vi (f0_v38 i2), vi 1, vi 3, .val (.ref b139), vi 2, vi 3, vi 1, vi 0, vi 1, vi 1, vi 3] [(.int (97 : Int32)), (.int (4 : Int32)), (.ref b139)])) (fun t k => ?_) ?_
          · refine XS.aload X143.here hx rfl (hb hby at_527) rfl rfl ?_
            refine XS.iload X143.here hx rfl (hb hby at_529) rfl ?_
            refine XS.iconst X143.here hx rfl (hb hby at_531) ?_
            refine XS.iadd X143.here hx rfl (hb hby at_532) rfl ?_
            refine XS.bipush X143.here hx rfl (hb hby at_533) ?_
            exact k
          obtain ⟨T144, h144, X144, e144, W144, V144, st144⟩ := puB X143 hx hZ e143 V143 (j := (4 : Int32)) (x := (97 : Int32)) (k := 4) rfl (by decide) (f := (mkF m 535 #[vi i0, vi i1, vi i2, vi i3, vi i4, vi 0, vi 1, vi (f0_v33 i4), vi (f0_v38 i2), vi 1, vi 3, .val (.ref b139), vi 2, vi 3, vi 1, vi 0, vi 1, vi 1, vi 3] [(.int (97 : Int32)), (.int (4 : Int32)), (.ref b139)])) rfl rfl (hb hby at_535)
          replace V144 : AI Z h144 b139 .byte 6 (f0_g535b i2) := V144
          have N144 := Fr.snoc X144 N143 g_b139
          obtain ⟨Lh144, X144, N144⟩ := hide X144 N144 (C := 1) (S := 6) (by decide) (by decide)
          refine Outs.of st144 ?_
          refine Outs.of (U' := T144.setTop (mkF m 544 #[vi i0, vi i1, vi i2, vi i3, vi i4, vi 0, vi 1, vi (f0_v33 i4), vi (f0_v38 i2), vi 1, vi 3, .val (.ref b139), vi 2, vi 3, vi 1, vi 0, vi 1, vi 1, vi 3] [(.int (f0_v33 i4)), (.int (5 : Int32)), (.ref b139)])) (fun t k => ?_) ?_
          · refine XS.aload X144.here hx rfl (hb hby at_536) rfl rfl ?_
            refine XS.iload X144.here hx rfl (hb hby at_538) rfl ?_
            refine XS.iconst X144.here hx rfl (hb hby at_540) ?_
            refine XS.iadd X144.here hx rfl (hb hby at_541) rfl ?_
            refine XS.iload X144.here hx rfl (hb hby at_542) rfl ?_
            exact k
          obtain ⟨T145, h145, X145, e145, W145, V145, st145⟩ := puB X144 hx hZ e144 V144 (j := (5 : Int32)) (x := (f0_v33 i4)) (k := 5) rfl (by decide) (f := (mkF m 544 #[vi i0, vi i1, vi i2, vi i3, vi i4, vi 0, vi 1, vi (f0_v33 i4), vi (f0_v38 i2), vi 1, vi 3, .val (.ref b139), vi 2, vi 3, vi 1, vi 0, vi 1, vi 1, vi 3] [(.int (f0_v33 i4)), (.int (5 : Int32)), (.ref b139)])) rfl rfl (hb hby at_544)
          replace V145 : AI Z h145 b139 .byte 6 (f0_g544b i2 i4) := V145
          have N145 := Fr.snoc X145 N144 g_b139
          obtain ⟨Lh145, X145, N145⟩ := hide X145 N145 (C := 1) (S := 6) (by decide) (by decide)
          refine Outs.of st145 ?_
          refine Outs.of (U' := T145.setTop (mkF m 552 #[vi i0, vi i1, vi i2, vi i3, vi i4, vi 0, vi 1, vi (f0_v33 i4), vi (f0_v38 i2), vi 1, vi 3, .val (.ref b139), vi 2, vi 3, vi 1, vi 6, vi 1, vi 1, vi 3] [])) (fun t k => ?_) ?_
          · refine XS.iload X145.here hx rfl (hb hby at_545) rfl ?_
            refine XS.iload X145.here hx rfl (hb hby at_547) rfl ?_
            refine XS.iadd X145.here hx rfl (hb hby at_549) rfl ?_
            refine XS.istore X145.here hx rfl (hb hby at_550) rfl (l' := #[vi i0, vi i1, vi i2, vi i3, vi i4, vi 0, vi 1, vi (f0_v33 i4), vi (f0_v38 i2), vi 1, vi 3, .val (.ref b139), vi 2, vi 3, vi 1, vi 6, vi 1, vi 1, vi 3]) rfl ?_
            exact k
          obtain ⟨T146, h146, X146, e146, E146, A146, D146, -, st146⟩ := newO X145 hx hZ hown (hw _ (List.mem_of_getElem? (i := 2) rfl)) (hw _ (List.mem_of_getElem? (i := 3) rfl)) (hw _ (List.mem_of_getElem? (i := 4) rfl)) e145 (g := (mkF m 552 #[vi i0, vi i1, vi i2, vi i3, vi i4, vi 0, vi 1, vi (f0_v33 i4), vi (f0_v38 i2), vi 1, vi 3, .val (.ref b139), vi 2, vi 3, vi 1, vi 6, vi 1, vi 1, vi 3] [])) rfl (hb hby at_552) (by decide) (by decide)
          obtain ⟨b146, g146⟩ : ∃ z, z = h145.size := ⟨_, rfl⟩
          rw [← g146] at A146 D146 st146
          have g_b146 : n0 ≤ b146 := Nat.le_trans (Nat.le_trans (Nat.le_trans (Nat.le_trans (Nat.le_trans (Nat.le_trans (Nat.le_trans (Nat.le_trans Z0 E139.1) (Keep.of_wr W140).1) (Keep.of_wr W141).1) (Keep.of_wr W142).1) (Keep.of_wr W143).1) (Keep.of_wr W144).1) (Keep.of_wr W145).1) (Nat.le_of_eq g146.symm)
          have ne_b139_b146 : b139 ≠ b146 := Nat.ne_of_lt (Nat.lt_of_lt_of_eq V145.lt g146.symm)
          have F146_12 : Fld Z h146 b146 "com/example/brief_locator/brieflocator/interchange/CanonicalForm" "bytes" "[B" .null := D146 (Or.inr (hw _ (List.mem_of_getElem? (i := 12) rfl))) (ty := (.array .byte)) (by decide)
          have F146_14 : Fld Z h146 b146 "com/example/brief_locator/brieflocator/interchange/CanonicalForm" "firstEnd" "I" (.int (0 : Int32)) := D146 (Or.inr (hw _ (List.mem_of_getElem? (i := 14) rfl))) (ty := .int) (by decide)
          have F146_16 : Fld Z h146 b146 "com/example/brief_locator/brieflocator/interchange/CanonicalForm" "pathStart" "I" (.int (0 : Int32)) := D146 (Or.inr (hw _ (List.mem_of_getElem? (i := 16) rfl))) (ty := .int) (by decide)
          have F146_18 : Fld Z h146 b146 "com/example/brief_locator/brieflocator/interchange/CanonicalForm" "pathEnd" "I" (.int (0 : Int32)) := D146 (Or.inr (hw _ (List.mem_of_getElem? (i := 18) rfl))) (ty := .int) (by decide)
          have F146_20 : Fld Z h146 b146 "com/example/brief_locator/brieflocator/interchange/CanonicalForm" "queryEnd" "I" (.int (0 : Int32)) := D146 (Or.inr (hw _ (List.mem_of_getElem? (i := 20) rfl))) (ty := .int) (by decide)
          have F146_25 : Fld Z h146 b146 "com/example/brief_locator/brieflocator/interchange/CanonicalForm" "hasScheme" "Z" (.int (0 : Int32)) := D146 (Or.inr (hw _ (List.mem_of_getElem? (i := 25) rfl))) (ty := .boolean) (by decide)
          have F146_27 : Fld Z h146 b146 "com/example/brief_locator/brieflocator/interchange/CanonicalForm" "hasAuthority" "Z" (.int (0 : Int32)) := D146 (Or.inr (hw _ (List.mem_of_getElem? (i := 27) rfl))) (ty := .boolean) (by decide)
          have F146_37 : Fld Z h146 b146 "com/example/brief_locator/brieflocator/interchange/CanonicalForm" "pathSegments" "I" (.int (0 : Int32)) := D146 (Or.inr (hw _ (List.mem_of_getElem? (i := 37) rfl))) (ty := .int) (by decide)
          have F146_52 : Fld Z h146 b146 "com/example/brief_locator/brieflocator/interchange/CanonicalForm" "pathSegmentsStart" "I" (.int (0 : Int32)) := D146 (Or.inr (hw _ (List.mem_of_getElem? (i := 52) rfl))) (ty := .int) (by decide)
          refine Outs.of st146 ?_
          refine Outs.of (U' := T146.setTop (mkF m 566 #[vi i0, vi i1, vi i2, vi i3, vi i4, vi 0, vi 1, vi (f0_v33 i4), vi (f0_v38 i2), vi 1, vi 3, .val (.ref b139), vi 2, vi 3, vi 1, vi 6, vi 1, vi 1, vi 3] [(.int (6 : Int32)), (.int (6 : Int32)), (.int (3 : Int32)), (.int (2 : Int32)), (.ref b139), (.ref b146), (.ref b146)])) (fun t k => ?_) ?_
          · refine XS.dup X146.here hx rfl (hb hby at_555) rfl rfl ?_
            refine XS.aload X146.here hx rfl (hb hby at_556) rfl rfl ?_
            refine XS.iload X146.here hx rfl (hb hby at_558) rfl ?_
            refine XS.iload X146.here hx rfl (hb hby at_560) rfl ?_
            refine XS.iload X146.here hx rfl (hb hby at_562) rfl ?_
            refine XS.iload X146.here hx rfl (hb hby at_564) rfl ?_
            exact k
          have f148 : AI Z h146 b139 .byte 6 (f0_g544b i2 i4) := (V145.ext E146)
          obtain ⟨_, _, ⟨T147, L147, k147, n147⟩, -, X147, ⟨Lc147, hQ147, l147, y147, z147⟩, st147⟩ := X146.specialBack hx (y := (⟨"com/example/brief_locator/brieflocator/interchange/CanonicalForm", "<init>", "([BIIII)V"⟩ : MethodName)) rfl hown (mvT hZ (hw _ (List.mem_of_getElem? (i := 5) rfl))) (mvT hZ (hw _ (List.mem_of_getElem? (i := 6) rfl))) (mvT hZ (hw _ (List.mem_of_getElem? (i := 7) rfl))) (by decide) (backOf (W := 1) (rmctp l Z a0 hw [] b146 b139 (2 : Int32) (3 : Int32) (6 : Int32) (6 : Int32) 6 (f0_g544b i2 i4) 3 h146 n0 (Nat.le_trans (Nat.le_trans (Nat.le_trans (Nat.le_trans (Nat.le_trans (Nat.le_trans (Nat.le_trans (Nat.le_trans Z0 E139.1) (Keep.of_wr W140).1) (Keep.of_wr W141).1) (Keep.of_wr W142).1) (Keep.of_wr W143).1) (Keep.of_wr W144).1) (Keep.of_wr W145).1) E146.1) A146 g_b146 F146_12 F146_14 F146_16 F146_18 F146_20 F146_25 F146_27 F146_37 F146_52 f148 ne_b139_b146 (by decide) rfl (by decide) rfl (by decide) (by decide)) hZ (hw _ (List.mem_of_getElem? (i := 7) rfl)) (hw _ (List.mem_of_getElem? (i := 4) rfl)) (by decide) (by decide)) (g := (mkF m 566 #[vi i0, vi i1, vi i2, vi i3, vi i4, vi 0, vi 1, vi (f0_v33 i4), vi (f0_v38 i2), vi 1, vi 3, .val (.ref b139), vi 2, vi 3, vi 1, vi 6, vi 1, vi 1, vi 3] [(.int (6 : Int32)), (.int (6 : Int32)), (.int (3 : Int32)), (.int (2 : Int32)), (.ref b139), (.ref b146), (.ref b146)])) rfl (by rw [hml]; rfl) (Steps.refl _) (a := b146) (argsL := [(.ref b139), (.int (2 : Int32)), (.int (3 : Int32)), (.int (6 : Int32)), (.int (6 : Int32))]) (rest := [(.ref b146)]) (lenOf pd_0 rfl) rfl (by show 2 * 0 + _ ≤ _; exact Nat.le_of_eq rfl) (hb hby at_566) (fun _ _ => ⟨rfl, e146, (by decide : 2 + 0 ≤ _), (by decide : 16 + 0 ≤ _)⟩)
          dsimp only [Pt.U, Pt.locs, Pt.cells, Pt.slots] at X147 l147 y147 z147 st147 hQ147
          subst l147 y147 z147
          obtain ⟨rfl, N147q, K147, u147_0, u147_1, u147_2, u147_3, u147_4⟩ := hQ147
          have N147 := Fr.app N145 N147q
          obtain ⟨Lh147, X147, N147⟩ := hide X147 N147 (C := 2) (S := 16) (by decide) (by decide)
          refine Outs.to st147 ?_
          refine Outs.of (U' := T147.setTop (mkF m 573 #[vi i0, vi i1, vi i2, vi i3, vi i4, vi 0, vi 1, vi (f0_v33 i4), vi (f0_v38 i2), vi 1, vi 3, .val (.ref b139), vi 2, vi 3, vi 1, vi 6, .val (.ref b146), vi 1, vi 3] [(.ref b146)])) (fun t k => ?_) ?_
          · refine XS.astore X147.here hx rfl (hb hby at_569) rfl rfl (l' := #[vi i0, vi i1, vi i2, vi i3, vi i4, vi 0, vi 1, vi (f0_v33 i4), vi (f0_v38 i2), vi 1, vi 3, .val (.ref b139), vi 2, vi 3, vi 1, vi 6, .val (.ref b146), vi 1, vi 3]) rfl ?_
            refine XS.aload X147.here hx rfl (hb hby at_571) rfl rfl ?_
            exact k
          have f150 : AI Z T147.heap b139 .byte 6 (f0_g544b i2 i4) := (f148.keep K147 (ninS ne_b139_b146 nin0))
          obtain ⟨cq149, kq149, q149a, q149b, q149c⟩ := isOf hZ rfl u147_0
          obtain ⟨_, _, ⟨T149, L149, k149, n149⟩, -, X149, ⟨Lc149, hQ149, l149, y149, z149⟩, st149⟩ := X147.virtualBack hx (y := (⟨"com/example/brief_locator/brieflocator/interchange/CanonicalForm", "hasRootlessAuthority", "()Z"⟩ : MethodName)) (z := (⟨"com/example/brief_locator/brieflocator/interchange/CanonicalForm", "hasRootlessAuthority", "()Z"⟩ : MethodName)) hown (mvT hZ (hw _ (List.mem_of_getElem? (i := 53) rfl))) (mvT hZ (hw _ (List.mem_of_getElem? (i := 54) rfl))) (notFace_of_selects (args := #[]) (mvT hZ (hw _ (List.mem_of_getElem? (i := 56) rfl)))) (mvT hZ (hw _ (List.mem_of_getElem? (i := 56) rfl))) (mvT hZ (hw _ (List.mem_of_getElem? (i := 55) rfl))) (by decide) (backOf (W := 0) (rmhr l Z a0 hw [] b146 (ctp_out4 (2 : Int32) (3 : Int32) (6 : Int32) (6 : Int32) 6 (f0_g544b i2 i4) 3) (3 : Int32) (2 : Int32) b139 6 (f0_g544b i2 i4) 2 T147.heap n0 u147_0 u147_4 u147_3 u147_2 u147_1 f150 rfl (by decide)) hZ (hw _ (List.mem_of_getElem? (i := 57) rfl)) (hw _ (List.mem_of_getElem? (i := 4) rfl)) (by decide) (by decide)) q149a q149c (g := (mkF m 573 #[vi i0, vi i1, vi i2, vi i3, vi i4, vi 0, vi 1, vi (f0_v33 i4), vi (f0_v38 i2), vi 1, vi 3, .val (.ref b139), vi 2, vi 3, vi 1, vi 6, .val (.ref b146), vi 1, vi 3] [(.ref b146)])) rfl (by rw [hml]; rfl) (Steps.refl _) (argsL := []) (rest := []) (lenOf pd_7 rfl) rfl (by show 2 * 0 + _ ≤ _; exact Nat.le_of_eq rfl) (hb hby at_573) (fun _ _ => ⟨rfl, rfl, (by decide : 2 + 0 ≤ _), (by decide : 16 + 0 ≤ _)⟩)
          dsimp only [Pt.U, Pt.locs, Pt.cells, Pt.slots] at X149 l149 y149 z149 st149 hQ149
          subst l149 y149 z149
          obtain ⟨rfl, N149q, e149⟩ := hQ149
          have N149 := Fr.app N147 N149q
          obtain ⟨Lh149, X149, N149⟩ := hide X149 N149 (C := 2) (S := 16) (by decide) (by decide)
          refine Outs.to st149 ?_
          refine Outs.of (U' := T149.setTop (mkF m 586 #[vi i0, vi i1, vi i2, vi i3, vi i4, vi 0, vi 1, vi (f0_v33 i4), vi (f0_v38 i2), vi 1, vi 3, .val (.ref b139), vi 2, vi 3, vi 1, vi 6, .val (.ref b146), vi 1, vi 3] [(.int (1 : Int32))])) (fun t k => ?_) ?_
          · refine XS.iload X149.here hx rfl (hb hby at_576) rfl ?_
            refine XS.icmpNo X149.here hx rfl (hb hby at_578) rfl (teq (law_x14 i0 i1 i2 i3 i4 hc11 hc68)).2 ?_
            refine XS.iconst X149.here hx rfl (hb hby at_581) ?_
            refine XS.goto X149.here hx rfl (pc0 := 582) (pc' := 586) rfl (hb hby at_582) (by decide) (by decide) ?_
            exact k
          exact Outs.retN (t := .boolean) (z := (1 : Int32)) X149 hx hret (by simp) (hb hby at_586) hlk (by decide) (by decide) e149 ⟨rfl, N149⟩
        · refine Outs.of (U' := s₁.setTop (mkF m 71 #[vi i0, vi i1, vi i2, vi i3, vi i4, vi 0, vi 1, vi (f0_v33 i4), vi (f0_v38 i2), vi 1, vi 3, .unset, .unset, .unset, .unset, .unset, .unset, .unset, .unset] [])) (fun t k => ?_) ?_
          · refine XS.ifNo X0.here hx rfl (hb hby at_68) rfl ((if0 _ _).trans (feq hc68).1) ?_
            exact k
          refine Outs.of (U' := s₁.setTop (mkF m 152 #[vi i0, vi i1, vi i2, vi i3, vi i4, vi 0, vi 1, vi (f0_v33 i4), vi (f0_v38 i2), vi 1, vi 3, .unset, .unset, .unset, .unset, vi 1, vi 2, vi 1, vi 3] [(.int (7 : Int32))])) (fun t k => ?_) ?_
          · refine XS.iconst X0.here hx rfl (hb hby at_71) ?_
            refine XS.goto X0.here hx rfl (pc0 := 72) (pc' := 76) rfl (hb hby at_72) (by decide) (by decide) ?_
            refine XS.istore X0.here hx rfl (hb hby at_76) rfl (l' := #[vi i0, vi i1, vi i2, vi i3, vi i4, vi 0, vi 1, vi (f0_v33 i4), vi (f0_v38 i2), vi 1, vi 3, .unset, .unset, .unset, .unset, vi 1, .unset, .unset, .unset]) rfl ?_
            refine XS.iload X0.here hx rfl (hb hby at_78) rfl ?_
            refine XS.ifNo X0.here hx rfl (hb hby at_80) rfl ((if0 _ _).trans (feq (show ¬ ((1 : Int32) = (0 : Int32)) from (by decide))).1) ?_
            refine XS.iconst X0.here hx rfl (hb hby at_83) ?_
            refine XS.goto X0.here hx rfl (pc0 := 84) (pc' := 88) rfl (hb hby at_84) (by decide) (by decide) ?_
            refine XS.istore X0.here hx rfl (hb hby at_88) rfl (l' := #[vi i0, vi i1, vi i2, vi i3, vi i4, vi 0, vi 1, vi (f0_v33 i4), vi (f0_v38 i2), vi 1, vi 3, .unset, .unset, .unset, .unset, vi 1, vi 2, .unset, .unset]) rfl ?_
            refine XS.iload X0.here hx rfl (hb hby at_90) rfl ?_
            refine XS.iconst X0.here hx rfl (hb hby at_92) ?_
            refine XS.icmpYes X0.here hx rfl (pc0 := 93) (pc' := 100) rfl (hb hby at_93) rfl (feq (show ¬ ((1 : Int32) = (3 : Int32)) from (by decide))).2 (by decide) (by decide) ?_
            refine XS.iload X0.here hx rfl (hb hby at_100) rfl ?_
            refine XS.ifYes X0.here hx rfl (pc0 := 102) (pc' := 114) rfl (hb hby at_102) rfl ((if0 _ _).trans (feq (show ¬ ((1 : Int32) = (0 : Int32)) from (by decide))).2) (by decide) (by decide) ?_
            refine XS.iconst X0.here hx rfl (hb hby at_114) ?_
            refine XS.istore X0.here hx rfl (hb hby at_115) rfl (l' := #[vi i0, vi i1, vi i2, vi i3, vi i4, vi 0, vi 1, vi (f0_v33 i4), vi (f0_v38 i2), vi 1, vi 3, .unset, .unset, .unset, .unset, vi 1, vi 2, vi 1, .unset]) rfl ?_
            refine XS.iconst X0.here hx rfl (hb hby at_117) ?_
            refine XS.iload X0.here hx rfl (hb hby at_118) rfl ?_
            refine XS.ifNo X0.here hx rfl (hb hby at_120) rfl ((if0 _ _).trans (tlt (show (0 : Int32) < (1 : Int32) from (by decide))).2.2.2) ?_
            refine XS.iconst X0.here hx rfl (hb hby at_123) ?_
            refine XS.goto X0.here hx rfl (pc0 := 124) (pc' := 128) rfl (hb hby at_124) (by decide) (by decide) ?_
            refine XS.iadd X0.here hx rfl (hb hby at_128) rfl ?_
            refine XS.iload X0.here hx rfl (hb hby at_129) rfl ?_
            refine XS.ifNo X0.here hx rfl (hb hby at_131) rfl ((if0 _ _).trans (feq (show ¬ ((1 : Int32) = (0 : Int32)) from (by decide))).1) ?_
            refine XS.iconst X0.here hx rfl (hb hby at_134) ?_
            refine XS.goto X0.here hx rfl (pc0 := 135) (pc' := 139) rfl (hb hby at_135) (by decide) (by decide) ?_
            refine XS.iadd X0.here hx rfl (hb hby at_139) rfl ?_
            refine XS.istore X0.here hx rfl (hb hby at_140) rfl (l' := #[vi i0, vi i1, vi i2, vi i3, vi i4, vi 0, vi 1, vi (f0_v33 i4), vi (f0_v38 i2), vi 1, vi 3, .unset, .unset, .unset, .unset, vi 1, vi 2, vi 1, vi 3]) rfl ?_
            refine XS.iconst X0.here hx rfl (hb hby at_142) ?_
            refine XS.iload X0.here hx rfl (hb hby at_143) rfl ?_
            refine XS.iadd X0.here hx rfl (hb hby at_145) rfl ?_
            refine XS.iload X0.here hx rfl (hb hby at_146) rfl ?_
            refine XS.iadd X0.here hx rfl (hb hby at_148) rfl ?_
            refine XS.iload X0.here hx rfl (hb hby at_149) rfl ?_
            refine XS.iadd X0.here hx rfl (hb hby at_151) rfl ?_
            exact k
          obtain ⟨T151, h151, X151, e151, E151, A151, st151⟩ := newAF X0 hx hZ (aty := .byte) (hw _ (List.mem_of_getElem? (i := 1) rfl)) e0 (f := (mkF m 152 #[vi i0, vi i1, vi i2, vi i3, vi i4, vi 0, vi 1, vi (f0_v33 i4), vi (f0_v38 i2), vi 1, vi 3, .unset, .unset, .unset, .unset, vi 1, vi 2, vi 1, vi 3] [(.int (7 : Int32))])) rfl (hb hby at_152) rfl (k := 7) rfl (cap := 7) (by decide) (by decide) (by decide) (by decide)
          obtain ⟨b151, g151⟩ : ∃ z, z = h0.size := ⟨_, rfl⟩
          rw [← g151] at A151 st151
          have g_b151 : n0 ≤ b151 := Nat.le_trans Z0 (Nat.le_of_eq g151.symm)
          have V151 : AI Z h151 b151 .byte 7 (fun _ => (0 : Int32)) := A151
          refine Outs.of st151 ?_
          refine Outs.of (U' := T151.setTop (mkF m 166 #[vi i0, vi i1, vi i2, vi i3, vi i4, vi 0, vi 1, vi (f0_v33 i4), vi (f0_v38 i2), vi 1, vi 3, .val (.ref b151), .unset, .unset, .unset, vi 1, vi 2, vi 1, vi 3] [(.int ((131 : Int32).toInt8.toInt32)), (.int (0 : Int32)), (.ref b151)])) (fun t k => ?_) ?_
          · refine XS.astore X151.here hx rfl (hb hby at_154) rfl rfl (l' := #[vi i0, vi i1, vi i2, vi i3, vi i4, vi 0, vi 1, vi (f0_v33 i4), vi (f0_v38 i2), vi 1, vi 3, .val (.ref b151), .unset, .unset, .unset, vi 1, vi 2, vi 1, vi 3]) rfl ?_
            refine XS.aload X151.here hx rfl (hb hby at_156) rfl rfl ?_
            refine XS.iconst X151.here hx rfl (hb hby at_158) ?_
            refine XS.sipush X151.here hx rfl (hb hby at_159) ?_
            refine XS.iload X151.here hx rfl (hb hby at_162) rfl ?_
            refine XS.iadd X151.here hx rfl (hb hby at_164) rfl ?_
            refine XS.i2b X151.here hx rfl (hb hby at_165) rfl ?_
            exact k
          obtain ⟨T152, h152, X152, e152, W152, V152, st152⟩ := puB X151 hx hZ e151 V151 (j := (0 : Int32)) (x := ((131 : Int32).toInt8.toInt32)) (k := 0) rfl (by decide) (f := (mkF m 166 #[vi i0, vi i1, vi i2, vi i3, vi i4, vi 0, vi 1, vi (f0_v33 i4), vi (f0_v38 i2), vi 1, vi 3, .val (.ref b151), .unset, .unset, .unset, vi 1, vi 2, vi 1, vi 3] [(.int ((131 : Int32).toInt8.toInt32)), (.int (0 : Int32)), (.ref b151)])) rfl rfl (hb hby at_166)
          replace V152 : AI Z h152 b151 .byte 7 f0_g166b := V152
          have N152 := Fr.snoc X152 N0 g_b151
          obtain ⟨Lh152, X152, N152⟩ := hide X152 N152 (C := 1) (S := 7) (by decide) (by decide)
          refine Outs.of st152 ?_
          refine Outs.of (U' := T152.setTop (mkF m 177 #[vi i0, vi i1, vi i2, vi i3, vi i4, vi 0, vi 1, vi (f0_v33 i4), vi (f0_v38 i2), vi 1, vi 3, .val (.ref b151), .unset, .unset, .unset, vi 1, vi 2, vi 1, vi 3] [(.int (97 : Int32)), (.int (1 : Int32)), (.ref b151)])) (fun t k => ?_) ?_
          · refine XS.iload X152.here hx rfl (hb hby at_167) rfl ?_
            refine XS.ifNo X152.here hx rfl (hb hby at_169) rfl ((if0 _ _).trans (feq (show ¬ ((1 : Int32) = (0 : Int32)) from (by decide))).1) ?_
            refine XS.aload X152.here hx rfl (hb hby at_172) rfl rfl ?_
            refine XS.iconst X152.here hx rfl (hb hby at_174) ?_
            refine XS.bipush X152.here hx rfl (hb hby at_175) ?_
            exact k
          obtain ⟨T153, h153, X153, e153, W153, V153, st153⟩ := puB X152 hx hZ e152 V152 (j := (1 : Int32)) (x := (97 : Int32)) (k := 1) rfl (by decide) (f := (mkF m 177 #[vi i0, vi i1, vi i2, vi i3, vi i4, vi 0, vi 1, vi (f0_v33 i4), vi (f0_v38 i2), vi 1, vi 3, .val (.ref b151), .unset, .unset, .unset, vi 1, vi 2, vi 1, vi 3] [(.int (97 : Int32)), (.int (1 : Int32)), (.ref b151)])) rfl rfl (hb hby at_177)
          replace V153 : AI Z h153 b151 .byte 7 f0_g177b := V153
          have N153 := Fr.snoc X153 N152 g_b151
          obtain ⟨Lh153, X153, N153⟩ := hide X153 N153 (C := 1) (S := 7) (by decide) (by decide)
          refine Outs.of st153 ?_
          refine Outs.of (U' := T153.setTop (mkF m 190 #[vi i0, vi i1, vi i2, vi i3, vi i4, vi 0, vi 1, vi (f0_v33 i4), vi (f0_v38 i2), vi 1, vi 3, .val (.ref b151), .unset, .unset, .unset, vi 1, vi 2, vi 1, vi 3] [(.int (((97 : Int32) + ((f0_v38 i2) % (26 : Int32))).toInt8.toInt32)), (.int (2 : Int32)), (.ref b151)])) (fun t k => ?_) ?_
          · refine XS.aload X153.here hx rfl (hb hby at_178) rfl rfl ?_
            refine XS.iconst X153.here hx rfl (hb hby at_180) ?_
            refine XS.bipush X153.here hx rfl (hb hby at_181) ?_
            refine XS.iload X153.here hx rfl (hb hby at_183) rfl ?_
            refine XS.bipush X153.here hx rfl (hb hby at_185) ?_
            refine iremM X153 hx rfl (hb hby at_187) rfl (by decide) ?_
            refine XS.iadd X153.here hx rfl (hb hby at_188) rfl ?_
            refine XS.i2b X153.here hx rfl (hb hby at_189) rfl ?_
            exact k
          obtain ⟨T154, h154, X154, e154, W154, V154, st154⟩ := puB X153 hx hZ e153 V153 (j := (2 : Int32)) (x := (((97 : Int32) + ((f0_v38 i2) % (26 : Int32))).toInt8.toInt32)) (k := 2) rfl (by decide) (f := (mkF m 190 #[vi i0, vi i1, vi i2, vi i3, vi i4, vi 0, vi 1, vi (f0_v33 i4), vi (f0_v38 i2), vi 1, vi 3, .val (.ref b151), .unset, .unset, .unset, vi 1, vi 2, vi 1, vi 3] [(.int (((97 : Int32) + ((f0_v38 i2) % (26 : Int32))).toInt8.toInt32)), (.int (2 : Int32)), (.ref b151)])) rfl rfl (hb hby at_190)
          replace V154 : AI Z h154 b151 .byte 7 (f0_g190b i2) := V154
          have N154 := Fr.snoc X154 N153 g_b151
          obtain ⟨Lh154, X154, N154⟩ := hide X154 N154 (C := 1) (S := 7) (by decide) (by decide)
          refine Outs.of st154 ?_
          refine Outs.of (U' := T154.setTop (mkF m 245 #[vi i0, vi i1, vi i2, vi i3, vi i4, vi 0, vi 1, vi (f0_v33 i4), vi (f0_v38 i2), vi 1, vi 3, .val (.ref b151), vi 3, .unset, .unset, vi 1, vi 2, vi 1, vi 3] [(.int (-11 : Int32)), (.int (3 : Int32)), (.ref b151)])) (fun t k => ?_) ?_
          · refine XS.goto X154.here hx rfl (pc0 := 191) (pc' := 207) rfl (hb hby at_191) (by decide) (by decide) ?_
            refine XS.iconst X154.here hx rfl (hb hby at_207) ?_
            refine XS.iload X154.here hx rfl (hb hby at_208) rfl ?_
            refine XS.iadd X154.here hx rfl (hb hby at_210) rfl ?_
            refine XS.istore X154.here hx rfl (hb hby at_211) rfl (l' := #[vi i0, vi i1, vi i2, vi i3, vi i4, vi 0, vi 1, vi (f0_v33 i4), vi (f0_v38 i2), vi 1, vi 3, .val (.ref b151), vi 3, .unset, .unset, vi 1, vi 2, vi 1, vi 3]) rfl ?_
            refine XS.iload X154.here hx rfl (hb hby at_213) rfl ?_
            refine XS.ifYes X154.here hx rfl (pc0 := 215) (pc' := 233) rfl (hb hby at_215) rfl ((if0 _ _).trans (feq (show ¬ ((1 : Int32) = (0 : Int32)) from (by decide))).2) (by decide) (by decide) ?_
            refine XS.iload X154.here hx rfl (hb hby at_233) rfl ?_
            refine XS.iconst X154.here hx rfl (hb hby at_235) ?_
            refine XS.icmpNo X154.here hx rfl (hb hby at_236) rfl (teq (show (1 : Int32) = (1 : Int32) from (by decide))).2 ?_
            refine XS.aload X154.here hx rfl (hb hby at_239) rfl rfl ?_
            refine XS.iload X154.here hx rfl (hb hby at_241) rfl ?_
            refine XS.bipush X154.here hx rfl (hb hby at_243) ?_
            exact k
          obtain ⟨T155, h155, X155, e155, W155, V155, st155⟩ := puB X154 hx hZ e154 V154 (j := (3 : Int32)) (x := (-11 : Int32)) (k := 3) rfl (by decide) (f := (mkF m 245 #[vi i0, vi i1, vi i2, vi i3, vi i4, vi 0, vi 1, vi (f0_v33 i4), vi (f0_v38 i2), vi 1, vi 3, .val (.ref b151), vi 3, .unset, .unset, vi 1, vi 2, vi 1, vi 3] [(.int (-11 : Int32)), (.int (3 : Int32)), (.ref b151)])) rfl rfl (hb hby at_245)
          replace V155 : AI Z h155 b151 .byte 7 (f0_g245c i2) := V155
          have N155 := Fr.snoc X155 N154 g_b151
          obtain ⟨Lh155, X155, N155⟩ := hide X155 N155 (C := 1) (S := 7) (by decide) (by decide)
          refine Outs.of st155 ?_
          refine Outs.of (U' := T155.setTop (mkF m 526 #[vi i0, vi i1, vi i2, vi i3, vi i4, vi 0, vi 1, vi (f0_v33 i4), vi (f0_v38 i2), vi 1, vi 3, .val (.ref b151), vi 3, vi 4, vi 1, vi 1, vi 2, vi 1, vi 3] [(.int (-127 : Int32)), (.int (4 : Int32)), (.ref b151)])) (fun t k => ?_) ?_
          · refine XS.goto X155.here hx rfl (pc0 := 246) (pc' := 296) rfl (hb hby at_246) (by decide) (by decide) ?_
            refine XS.iload X155.here hx rfl (hb hby at_296) rfl ?_
            refine XS.iload X155.here hx rfl (hb hby at_298) rfl ?_
            refine XS.iadd X155.here hx rfl (hb hby at_300) rfl ?_
            refine XS.istore X155.here hx rfl (hb hby at_301) rfl (l' := #[vi i0, vi i1, vi i2, vi i3, vi i4, vi 0, vi 1, vi (f0_v33 i4), vi (f0_v38 i2), vi 1, vi 3, .val (.ref b151), vi 3, vi 4, .unset, vi 1, vi 2, vi 1, vi 3]) rfl ?_
            refine XS.iload X155.here hx rfl (hb hby at_303) rfl ?_
            refine XS.iconst X155.here hx rfl (hb hby at_305) ?_
            refine XS.icmpNo X155.here hx rfl (hb hby at_306) rfl (teq (show (1 : Int32) = (1 : Int32) from (by decide))).2 ?_
            refine XS.iconst X155.here hx rfl (hb hby at_309) ?_
            refine XS.goto X155.here hx rfl (pc0 := 310) (pc' := 314) rfl (hb hby at_310) (by decide) (by decide) ?_
            refine XS.istore X155.here hx rfl (hb hby at_314) rfl (l' := #[vi i0, vi i1, vi i2, vi i3, vi i4, vi 0, vi 1, vi (f0_v33 i4), vi (f0_v38 i2), vi 1, vi 3, .val (.ref b151), vi 3, vi 4, vi 1, vi 1, vi 2, vi 1, vi 3]) rfl ?_
            refine XS.goto X155.here hx rfl (pc0 := 316) (pc' := 515) rfl (hb hby at_316) (by decide) (by decide) ?_
            refine XS.iload X155.here hx rfl (hb hby at_515) rfl ?_
            refine XS.ifNo X155.here hx rfl (hb hby at_517) rfl ((if0 _ _).trans (feq (show ¬ ((1 : Int32) = (0 : Int32)) from (by decide))).1) ?_
            refine XS.aload X155.here hx rfl (hb hby at_520) rfl rfl ?_
            refine XS.iload X155.here hx rfl (hb hby at_522) rfl ?_
            refine XS.bipush X155.here hx rfl (hb hby at_524) ?_
            exact k
          obtain ⟨T156, h156, X156, e156, W156, V156, st156⟩ := puB X155 hx hZ e155 V155 (j := (4 : Int32)) (x := (-127 : Int32)) (k := 4) rfl (by decide) (f := (mkF m 526 #[vi i0, vi i1, vi i2, vi i3, vi i4, vi 0, vi 1, vi (f0_v33 i4), vi (f0_v38 i2), vi 1, vi 3, .val (.ref b151), vi 3, vi 4, vi 1, vi 1, vi 2, vi 1, vi 3] [(.int (-127 : Int32)), (.int (4 : Int32)), (.ref b151)])) rfl rfl (hb hby at_526)
          replace V156 : AI Z h156 b151 .byte 7 (f0_g526c i2) := V156
          have N156 := Fr.snoc X156 N155 g_b151
          obtain ⟨Lh156, X156, N156⟩ := hide X156 N156 (C := 1) (S := 7) (by decide) (by decide)
          refine Outs.of st156 ?_
          refine Outs.of (U' := T156.setTop (mkF m 535 #[vi i0, vi i1, vi i2, vi i3, vi i4, vi 0, vi 1, vi (f0_v33 i4), vi (f0_v38 i2), vi 1, vi 3, .val (.ref b151), vi 3, vi 4, vi 1, vi 1, vi 2, vi 1, vi 3] [(.int (97 : Int32)), (.int (5 : Int32)), (.ref b151)])) (fun t k => ?_) ?_
          · refine XS.aload X156.here hx rfl (hb hby at_527) rfl rfl ?_
            refine XS.iload X156.here hx rfl (hb hby at_529) rfl ?_
            refine XS.iconst X156.here hx rfl (hb hby at_531) ?_
            refine XS.iadd X156.here hx rfl (hb hby at_532) rfl ?_
            refine XS.bipush X156.here hx rfl (hb hby at_533) ?_
            exact k
          obtain ⟨T157, h157, X157, e157, W157, V157, st157⟩ := puB X156 hx hZ e156 V156 (j := (5 : Int32)) (x := (97 : Int32)) (k := 5) rfl (by decide) (f := (mkF m 535 #[vi i0, vi i1, vi i2, vi i3, vi i4, vi 0, vi 1, vi (f0_v33 i4), vi (f0_v38 i2), vi 1, vi 3, .val (.ref b151), vi 3, vi 4, vi 1, vi 1, vi 2, vi 1, vi 3] [(.int (97 : Int32)), (.int (5 : Int32)), (.ref b151)])) rfl rfl (hb hby at_535)
          replace V157 : AI Z h157 b151 .byte 7 (f0_g535c i2) := V157
          have N157 := Fr.snoc X157 N156 g_b151
          obtain ⟨Lh157, X157, N157⟩ := hide X157 N157 (C := 1) (S := 7) (by decide) (by decide)
          refine Outs.of st157 ?_
          refine Outs.of (U' := T157.setTop (mkF m 544 #[vi i0, vi i1, vi i2, vi i3, vi i4, vi 0, vi 1, vi (f0_v33 i4), vi (f0_v38 i2), vi 1, vi 3, .val (.ref b151), vi 3, vi 4, vi 1, vi 1, vi 2, vi 1, vi 3] [(.int (f0_v33 i4)), (.int (6 : Int32)), (.ref b151)])) (fun t k => ?_) ?_
          · refine XS.aload X157.here hx rfl (hb hby at_536) rfl rfl ?_
            refine XS.iload X157.here hx rfl (hb hby at_538) rfl ?_
            refine XS.iconst X157.here hx rfl (hb hby at_540) ?_
            refine XS.iadd X157.here hx rfl (hb hby at_541) rfl ?_
            refine XS.iload X157.here hx rfl (hb hby at_542) rfl ?_
            exact k
          obtain ⟨T158, h158, X158, e158, W158, V158, st158⟩ := puB X157 hx hZ e157 V157 (j := (6 : Int32)) (x := (f0_v33 i4)) (k := 6) rfl (by decide) (f := (mkF m 544 #[vi i0, vi i1, vi i2, vi i3, vi i4, vi 0, vi 1, vi (f0_v33 i4), vi (f0_v38 i2), vi 1, vi 3, .val (.ref b151), vi 3, vi 4, vi 1, vi 1, vi 2, vi 1, vi 3] [(.int (f0_v33 i4)), (.int (6 : Int32)), (.ref b151)])) rfl rfl (hb hby at_544)
          replace V158 : AI Z h158 b151 .byte 7 (f0_g544c i2 i4) := V158
          have N158 := Fr.snoc X158 N157 g_b151
          obtain ⟨Lh158, X158, N158⟩ := hide X158 N158 (C := 1) (S := 7) (by decide) (by decide)
          refine Outs.of st158 ?_
          refine Outs.of (U' := T158.setTop (mkF m 552 #[vi i0, vi i1, vi i2, vi i3, vi i4, vi 0, vi 1, vi (f0_v33 i4), vi (f0_v38 i2), vi 1, vi 3, .val (.ref b151), vi 3, vi 4, vi 1, vi 7, vi 2, vi 1, vi 3] [])) (fun t k => ?_) ?_
          · refine XS.iload X158.here hx rfl (hb hby at_545) rfl ?_
            refine XS.iload X158.here hx rfl (hb hby at_547) rfl ?_
            refine XS.iadd X158.here hx rfl (hb hby at_549) rfl ?_
            refine XS.istore X158.here hx rfl (hb hby at_550) rfl (l' := #[vi i0, vi i1, vi i2, vi i3, vi i4, vi 0, vi 1, vi (f0_v33 i4), vi (f0_v38 i2), vi 1, vi 3, .val (.ref b151), vi 3, vi 4, vi 1, vi 7, vi 2, vi 1, vi 3]) rfl ?_
            exact k
          obtain ⟨T159, h159, X159, e159, E159, A159, D159, -, st159⟩ := newO X158 hx hZ hown (hw _ (List.mem_of_getElem? (i := 2) rfl)) (hw _ (List.mem_of_getElem? (i := 3) rfl)) (hw _ (List.mem_of_getElem? (i := 4) rfl)) e158 (g := (mkF m 552 #[vi i0, vi i1, vi i2, vi i3, vi i4, vi 0, vi 1, vi (f0_v33 i4), vi (f0_v38 i2), vi 1, vi 3, .val (.ref b151), vi 3, vi 4, vi 1, vi 7, vi 2, vi 1, vi 3] [])) rfl (hb hby at_552) (by decide) (by decide)
          obtain ⟨b159, g159⟩ : ∃ z, z = h158.size := ⟨_, rfl⟩
          rw [← g159] at A159 D159 st159
          have g_b159 : n0 ≤ b159 := Nat.le_trans (Nat.le_trans (Nat.le_trans (Nat.le_trans (Nat.le_trans (Nat.le_trans (Nat.le_trans (Nat.le_trans (Nat.le_trans Z0 E151.1) (Keep.of_wr W152).1) (Keep.of_wr W153).1) (Keep.of_wr W154).1) (Keep.of_wr W155).1) (Keep.of_wr W156).1) (Keep.of_wr W157).1) (Keep.of_wr W158).1) (Nat.le_of_eq g159.symm)
          have ne_b151_b159 : b151 ≠ b159 := Nat.ne_of_lt (Nat.lt_of_lt_of_eq V158.lt g159.symm)
          have F159_12 : Fld Z h159 b159 "com/example/brief_locator/brieflocator/interchange/CanonicalForm" "bytes" "[B" .null := D159 (Or.inr (hw _ (List.mem_of_getElem? (i := 12) rfl))) (ty := (.array .byte)) (by decide)
          have F159_14 : Fld Z h159 b159 "com/example/brief_locator/brieflocator/interchange/CanonicalForm" "firstEnd" "I" (.int (0 : Int32)) := D159 (Or.inr (hw _ (List.mem_of_getElem? (i := 14) rfl))) (ty := .int) (by decide)
          have F159_16 : Fld Z h159 b159 "com/example/brief_locator/brieflocator/interchange/CanonicalForm" "pathStart" "I" (.int (0 : Int32)) := D159 (Or.inr (hw _ (List.mem_of_getElem? (i := 16) rfl))) (ty := .int) (by decide)
          have F159_18 : Fld Z h159 b159 "com/example/brief_locator/brieflocator/interchange/CanonicalForm" "pathEnd" "I" (.int (0 : Int32)) := D159 (Or.inr (hw _ (List.mem_of_getElem? (i := 18) rfl))) (ty := .int) (by decide)
          have F159_20 : Fld Z h159 b159 "com/example/brief_locator/brieflocator/interchange/CanonicalForm" "queryEnd" "I" (.int (0 : Int32)) := D159 (Or.inr (hw _ (List.mem_of_getElem? (i := 20) rfl))) (ty := .int) (by decide)
          have F159_25 : Fld Z h159 b159 "com/example/brief_locator/brieflocator/interchange/CanonicalForm" "hasScheme" "Z" (.int (0 : Int32)) := D159 (Or.inr (hw _ (List.mem_of_getElem? (i := 25) rfl))) (ty := .boolean) (by decide)
          have F159_27 : Fld Z h159 b159 "com/example/brief_locator/brieflocator/interchange/CanonicalForm" "hasAuthority" "Z" (.int (0 : Int32)) := D159 (Or.inr (hw _ (List.mem_of_getElem? (i := 27) rfl))) (ty := .boolean) (by decide)
          have F159_37 : Fld Z h159 b159 "com/example/brief_locator/brieflocator/interchange/CanonicalForm" "pathSegments" "I" (.int (0 : Int32)) := D159 (Or.inr (hw _ (List.mem_of_getElem? (i := 37) rfl))) (ty := .int) (by decide)
          have F159_52 : Fld Z h159 b159 "com/example/brief_locator/brieflocator/interchange/CanonicalForm" "pathSegmentsStart" "I" (.int (0 : Int32)) := D159 (Or.inr (hw _ (List.mem_of_getElem? (i := 52) rfl))) (ty := .int) (by decide)
          refine Outs.of st159 ?_
          refine Outs.of (U' := T159.setTop (mkF m 566 #[vi i0, vi i1, vi i2, vi i3, vi i4, vi 0, vi 1, vi (f0_v33 i4), vi (f0_v38 i2), vi 1, vi 3, .val (.ref b151), vi 3, vi 4, vi 1, vi 7, vi 2, vi 1, vi 3] [(.int (7 : Int32)), (.int (7 : Int32)), (.int (4 : Int32)), (.int (3 : Int32)), (.ref b151), (.ref b159), (.ref b159)])) (fun t k => ?_) ?_
          · refine XS.dup X159.here hx rfl (hb hby at_555) rfl rfl ?_
            refine XS.aload X159.here hx rfl (hb hby at_556) rfl rfl ?_
            refine XS.iload X159.here hx rfl (hb hby at_558) rfl ?_
            refine XS.iload X159.here hx rfl (hb hby at_560) rfl ?_
            refine XS.iload X159.here hx rfl (hb hby at_562) rfl ?_
            refine XS.iload X159.here hx rfl (hb hby at_564) rfl ?_
            exact k
          have f161 : AI Z h159 b151 .byte 7 (f0_g544c i2 i4) := (V158.ext E159)
          obtain ⟨_, _, ⟨T160, L160, k160, n160⟩, -, X160, ⟨Lc160, hQ160, l160, y160, z160⟩, st160⟩ := X159.specialBack hx (y := (⟨"com/example/brief_locator/brieflocator/interchange/CanonicalForm", "<init>", "([BIIII)V"⟩ : MethodName)) rfl hown (mvT hZ (hw _ (List.mem_of_getElem? (i := 5) rfl))) (mvT hZ (hw _ (List.mem_of_getElem? (i := 6) rfl))) (mvT hZ (hw _ (List.mem_of_getElem? (i := 7) rfl))) (by decide) (backOf (W := 1) (rmctp l Z a0 hw [] b159 b151 (3 : Int32) (4 : Int32) (7 : Int32) (7 : Int32) 7 (f0_g544c i2 i4) 4 h159 n0 (Nat.le_trans (Nat.le_trans (Nat.le_trans (Nat.le_trans (Nat.le_trans (Nat.le_trans (Nat.le_trans (Nat.le_trans (Nat.le_trans Z0 E151.1) (Keep.of_wr W152).1) (Keep.of_wr W153).1) (Keep.of_wr W154).1) (Keep.of_wr W155).1) (Keep.of_wr W156).1) (Keep.of_wr W157).1) (Keep.of_wr W158).1) E159.1) A159 g_b159 F159_12 F159_14 F159_16 F159_18 F159_20 F159_25 F159_27 F159_37 F159_52 f161 ne_b151_b159 (by decide) rfl (by decide) rfl (by decide) (by decide)) hZ (hw _ (List.mem_of_getElem? (i := 7) rfl)) (hw _ (List.mem_of_getElem? (i := 4) rfl)) (by decide) (by decide)) (g := (mkF m 566 #[vi i0, vi i1, vi i2, vi i3, vi i4, vi 0, vi 1, vi (f0_v33 i4), vi (f0_v38 i2), vi 1, vi 3, .val (.ref b151), vi 3, vi 4, vi 1, vi 7, vi 2, vi 1, vi 3] [(.int (7 : Int32)), (.int (7 : Int32)), (.int (4 : Int32)), (.int (3 : Int32)), (.ref b151), (.ref b159), (.ref b159)])) rfl (by rw [hml]; rfl) (Steps.refl _) (a := b159) (argsL := [(.ref b151), (.int (3 : Int32)), (.int (4 : Int32)), (.int (7 : Int32)), (.int (7 : Int32))]) (rest := [(.ref b159)]) (lenOf pd_0 rfl) rfl (by show 2 * 0 + _ ≤ _; exact Nat.le_of_eq rfl) (hb hby at_566) (fun _ _ => ⟨rfl, e159, (by decide : 2 + 0 ≤ _), (by decide : 17 + 0 ≤ _)⟩)
          dsimp only [Pt.U, Pt.locs, Pt.cells, Pt.slots] at X160 l160 y160 z160 st160 hQ160
          subst l160 y160 z160
          obtain ⟨rfl, N160q, K160, u160_0, u160_1, u160_2, u160_3, u160_4⟩ := hQ160
          have N160 := Fr.app N158 N160q
          obtain ⟨Lh160, X160, N160⟩ := hide X160 N160 (C := 2) (S := 17) (by decide) (by decide)
          refine Outs.to st160 ?_
          refine Outs.of (U' := T160.setTop (mkF m 573 #[vi i0, vi i1, vi i2, vi i3, vi i4, vi 0, vi 1, vi (f0_v33 i4), vi (f0_v38 i2), vi 1, vi 3, .val (.ref b151), vi 3, vi 4, vi 1, vi 7, .val (.ref b159), vi 1, vi 3] [(.ref b159)])) (fun t k => ?_) ?_
          · refine XS.astore X160.here hx rfl (hb hby at_569) rfl rfl (l' := #[vi i0, vi i1, vi i2, vi i3, vi i4, vi 0, vi 1, vi (f0_v33 i4), vi (f0_v38 i2), vi 1, vi 3, .val (.ref b151), vi 3, vi 4, vi 1, vi 7, .val (.ref b159), vi 1, vi 3]) rfl ?_
            refine XS.aload X160.here hx rfl (hb hby at_571) rfl rfl ?_
            exact k
          have f163 : AI Z T160.heap b151 .byte 7 (f0_g544c i2 i4) := (f161.keep K160 (ninS ne_b151_b159 nin0))
          obtain ⟨cq162, kq162, q162a, q162b, q162c⟩ := isOf hZ rfl u160_0
          obtain ⟨_, _, ⟨T162, L162, k162, n162⟩, -, X162, ⟨Lc162, hQ162, l162, y162, z162⟩, st162⟩ := X160.virtualBack hx (y := (⟨"com/example/brief_locator/brieflocator/interchange/CanonicalForm", "hasRootlessAuthority", "()Z"⟩ : MethodName)) (z := (⟨"com/example/brief_locator/brieflocator/interchange/CanonicalForm", "hasRootlessAuthority", "()Z"⟩ : MethodName)) hown (mvT hZ (hw _ (List.mem_of_getElem? (i := 53) rfl))) (mvT hZ (hw _ (List.mem_of_getElem? (i := 54) rfl))) (notFace_of_selects (args := #[]) (mvT hZ (hw _ (List.mem_of_getElem? (i := 56) rfl)))) (mvT hZ (hw _ (List.mem_of_getElem? (i := 56) rfl))) (mvT hZ (hw _ (List.mem_of_getElem? (i := 55) rfl))) (by decide) (backOf (W := 0) (rmhr l Z a0 hw [] b159 (ctp_out4 (3 : Int32) (4 : Int32) (7 : Int32) (7 : Int32) 7 (f0_g544c i2 i4) 4) (4 : Int32) (3 : Int32) b151 7 (f0_g544c i2 i4) 3 T160.heap n0 u160_0 u160_4 u160_3 u160_2 u160_1 f163 rfl (by decide)) hZ (hw _ (List.mem_of_getElem? (i := 57) rfl)) (hw _ (List.mem_of_getElem? (i := 4) rfl)) (by decide) (by decide)) q162a q162c (g := (mkF m 573 #[vi i0, vi i1, vi i2, vi i3, vi i4, vi 0, vi 1, vi (f0_v33 i4), vi (f0_v38 i2), vi 1, vi 3, .val (.ref b151), vi 3, vi 4, vi 1, vi 7, .val (.ref b159), vi 1, vi 3] [(.ref b159)])) rfl (by rw [hml]; rfl) (Steps.refl _) (argsL := []) (rest := []) (lenOf pd_7 rfl) rfl (by show 2 * 0 + _ ≤ _; exact Nat.le_of_eq rfl) (hb hby at_573) (fun _ _ => ⟨rfl, rfl, (by decide : 2 + 0 ≤ _), (by decide : 17 + 0 ≤ _)⟩)
          dsimp only [Pt.U, Pt.locs, Pt.cells, Pt.slots] at X162 l162 y162 z162 st162 hQ162
          subst l162 y162 z162
          obtain ⟨rfl, N162q, e162⟩ := hQ162
          have N162 := Fr.app N160 N162q
          obtain ⟨Lh162, X162, N162⟩ := hide X162 N162 (C := 2) (S := 17) (by decide) (by decide)
          refine Outs.to st162 ?_
          refine Outs.of (U' := T162.setTop (mkF m 586 #[vi i0, vi i1, vi i2, vi i3, vi i4, vi 0, vi 1, vi (f0_v33 i4), vi (f0_v38 i2), vi 1, vi 3, .val (.ref b151), vi 3, vi 4, vi 1, vi 7, .val (.ref b159), vi 1, vi 3] [(.int (1 : Int32))])) (fun t k => ?_) ?_
          · refine XS.iload X162.here hx rfl (hb hby at_576) rfl ?_
            refine XS.icmpNo X162.here hx rfl (hb hby at_578) rfl (teq (law_x15 i0 i1 i2 i3 i4 hc11 hc68)).2 ?_
            refine XS.iconst X162.here hx rfl (hb hby at_581) ?_
            refine XS.goto X162.here hx rfl (pc0 := 582) (pc' := 586) rfl (hb hby at_582) (by decide) (by decide) ?_
            exact k
          exact Outs.retN (t := .boolean) (z := (1 : Int32)) X162 hx hret (by simp) (hb hby at_586) hlk (by decide) (by decide) e162 ⟨rfl, N162⟩
      · rw [q9]
        show Outs p e below s _ _ _ (s₁.setTop (mkF m 65 #[vi i0, vi i1, vi i2, vi i3, vi i4, vi 0, vi 1, vi (f0_v33 i4), vi (f0_v38 i2), vi 2, vi 3, .unset, .unset, .unset, .unset, .unset, .unset, .unset, .unset] []))
        refine Outs.of (U' := s₁.setTop (mkF m 68 #[vi i0, vi i1, vi i2, vi i3, vi i4, vi 0, vi 1, vi (f0_v33 i4), vi (f0_v38 i2), vi 2, vi 3, .unset, .unset, .unset, .unset, .unset, .unset, .unset, .unset] [(.int (i2 &&& (1 : Int32)))])) (fun t k => ?_) ?_
        · refine XS.iloadN X0.here hx rfl (hb hby at_65) rfl ?_
          refine XS.iconst X0.here hx rfl (hb hby at_66) ?_
          refine XS.iand X0.here hx rfl (hb hby at_67) rfl ?_
          exact k
        by_cases hc68 : (i2 &&& (1 : Int32)) = (0 : Int32)
        · refine Outs.of (U' := s₁.setTop (mkF m 75 #[vi i0, vi i1, vi i2, vi i3, vi i4, vi 0, vi 1, vi (f0_v33 i4), vi (f0_v38 i2), vi 2, vi 3, .unset, .unset, .unset, .unset, .unset, .unset, .unset, .unset] [])) (fun t k => ?_) ?_
          · refine XS.ifYes X0.here hx rfl (pc0 := 68) (pc' := 75) rfl (hb hby at_68) rfl ((if0 _ _).trans (teq hc68).1) (by decide) (by decide) ?_
            exact k
          refine Outs.of (U' := s₁.setTop (mkF m 152 #[vi i0, vi i1, vi i2, vi i3, vi i4, vi 0, vi 1, vi (f0_v33 i4), vi (f0_v38 i2), vi 2, vi 3, .unset, .unset, .unset, .unset, vi 0, vi 1, vi 1, vi 3] [(.int (6 : Int32))])) (fun t k => ?_) ?_
          · refine XS.iconst X0.here hx rfl (hb hby at_75) ?_
            refine XS.istore X0.here hx rfl (hb hby at_76) rfl (l' := #[vi i0, vi i1, vi i2, vi i3, vi i4, vi 0, vi 1, vi (f0_v33 i4), vi (f0_v38 i2), vi 2, vi 3, .unset, .unset, .unset, .unset, vi 0, .unset, .unset, .unset]) rfl ?_
            refine XS.iload X0.here hx rfl (hb hby at_78) rfl ?_
            refine XS.ifYes X0.here hx rfl (pc0 := 80) (pc' := 87) rfl (hb hby at_80) rfl ((if0 _ _).trans (teq (show (0 : Int32) = (0 : Int32) from (by decide))).1) (by decide) (by decide) ?_
            refine XS.iconst X0.here hx rfl (hb hby at_87) ?_
            refine XS.istore X0.here hx rfl (hb hby at_88) rfl (l' := #[vi i0, vi i1, vi i2, vi i3, vi i4, vi 0, vi 1, vi (f0_v33 i4), vi (f0_v38 i2), vi 2, vi 3, .unset, .unset, .unset, .unset, vi 0, vi 1, .unset, .unset]) rfl ?_
            refine XS.iload X0.here hx rfl (hb hby at_90) rfl ?_
            refine XS.iconst X0.here hx rfl (hb hby at_92) ?_
            refine XS.icmpYes X0.here hx rfl (pc0 := 93) (pc' := 100) rfl (hb hby at_93) rfl (feq (show ¬ ((2 : Int32) = (3 : Int32)) from (by decide))).2 (by decide) (by decide) ?_
            refine XS.iload X0.here hx rfl (hb hby at_100) rfl ?_
            refine XS.ifYes X0.here hx rfl (pc0 := 102) (pc' := 114) rfl (hb hby at_102) rfl ((if0 _ _).trans (feq (show ¬ ((2 : Int32) = (0 : Int32)) from (by decide))).2) (by decide) (by decide) ?_
            refine XS.iconst X0.here hx rfl (hb hby at_114) ?_
            refine XS.istore X0.here hx rfl (hb hby at_115) rfl (l' := #[vi i0, vi i1, vi i2, vi i3, vi i4, vi 0, vi 1, vi (f0_v33 i4), vi (f0_v38 i2), vi 2, vi 3, .unset, .unset, .unset, .unset, vi 0, vi 1, vi 1, .unset]) rfl ?_
            refine XS.iconst X0.here hx rfl (hb hby at_117) ?_
            refine XS.iload X0.here hx rfl (hb hby at_118) rfl ?_
            refine XS.ifNo X0.here hx rfl (hb hby at_120) rfl ((if0 _ _).trans (tlt (show (0 : Int32) < (1 : Int32) from (by decide))).2.2.2) ?_
            refine XS.iconst X0.here hx rfl (hb hby at_123) ?_
            refine XS.goto X0.here hx rfl (pc0 := 124) (pc' := 128) rfl (hb hby at_124) (by decide) (by decide) ?_
            refine XS.iadd X0.here hx rfl (hb hby at_128) rfl ?_
            refine XS.iload X0.here hx rfl (hb hby at_129) rfl ?_
            refine XS.ifNo X0.here hx rfl (hb hby at_131) rfl ((if0 _ _).trans (feq (show ¬ ((1 : Int32) = (0 : Int32)) from (by decide))).1) ?_
            refine XS.iconst X0.here hx rfl (hb hby at_134) ?_
            refine XS.goto X0.here hx rfl (pc0 := 135) (pc' := 139) rfl (hb hby at_135) (by decide) (by decide) ?_
            refine XS.iadd X0.here hx rfl (hb hby at_139) rfl ?_
            refine XS.istore X0.here hx rfl (hb hby at_140) rfl (l' := #[vi i0, vi i1, vi i2, vi i3, vi i4, vi 0, vi 1, vi (f0_v33 i4), vi (f0_v38 i2), vi 2, vi 3, .unset, .unset, .unset, .unset, vi 0, vi 1, vi 1, vi 3]) rfl ?_
            refine XS.iconst X0.here hx rfl (hb hby at_142) ?_
            refine XS.iload X0.here hx rfl (hb hby at_143) rfl ?_
            refine XS.iadd X0.here hx rfl (hb hby at_145) rfl ?_
            refine XS.iload X0.here hx rfl (hb hby at_146) rfl ?_
            refine XS.iadd X0.here hx rfl (hb hby at_148) rfl ?_
            refine XS.iload X0.here hx rfl (hb hby at_149) rfl ?_
            refine XS.iadd X0.here hx rfl (hb hby at_151) rfl ?_
            exact k
          obtain ⟨T164, h164, X164, e164, E164, A164, st164⟩ := newAF X0 hx hZ (aty := .byte) (hw _ (List.mem_of_getElem? (i := 1) rfl)) e0 (f := (mkF m 152 #[vi i0, vi i1, vi i2, vi i3, vi i4, vi 0, vi 1, vi (f0_v33 i4), vi (f0_v38 i2), vi 2, vi 3, .unset, .unset, .unset, .unset, vi 0, vi 1, vi 1, vi 3] [(.int (6 : Int32))])) rfl (hb hby at_152) rfl (k := 6) rfl (cap := 6) (by decide) (by decide) (by decide) (by decide)
          obtain ⟨b164, g164⟩ : ∃ z, z = h0.size := ⟨_, rfl⟩
          rw [← g164] at A164 st164
          have g_b164 : n0 ≤ b164 := Nat.le_trans Z0 (Nat.le_of_eq g164.symm)
          have V164 : AI Z h164 b164 .byte 6 (fun _ => (0 : Int32)) := A164
          refine Outs.of st164 ?_
          refine Outs.of (U' := T164.setTop (mkF m 166 #[vi i0, vi i1, vi i2, vi i3, vi i4, vi 0, vi 1, vi (f0_v33 i4), vi (f0_v38 i2), vi 2, vi 3, .val (.ref b164), .unset, .unset, .unset, vi 0, vi 1, vi 1, vi 3] [(.int ((131 : Int32).toInt8.toInt32)), (.int (0 : Int32)), (.ref b164)])) (fun t k => ?_) ?_
          · refine XS.astore X164.here hx rfl (hb hby at_154) rfl rfl (l' := #[vi i0, vi i1, vi i2, vi i3, vi i4, vi 0, vi 1, vi (f0_v33 i4), vi (f0_v38 i2), vi 2, vi 3, .val (.ref b164), .unset, .unset, .unset, vi 0, vi 1, vi 1, vi 3]) rfl ?_
            refine XS.aload X164.here hx rfl (hb hby at_156) rfl rfl ?_
            refine XS.iconst X164.here hx rfl (hb hby at_158) ?_
            refine XS.sipush X164.here hx rfl (hb hby at_159) ?_
            refine XS.iload X164.here hx rfl (hb hby at_162) rfl ?_
            refine XS.iadd X164.here hx rfl (hb hby at_164) rfl ?_
            refine XS.i2b X164.here hx rfl (hb hby at_165) rfl ?_
            exact k
          obtain ⟨T165, h165, X165, e165, W165, V165, st165⟩ := puB X164 hx hZ e164 V164 (j := (0 : Int32)) (x := ((131 : Int32).toInt8.toInt32)) (k := 0) rfl (by decide) (f := (mkF m 166 #[vi i0, vi i1, vi i2, vi i3, vi i4, vi 0, vi 1, vi (f0_v33 i4), vi (f0_v38 i2), vi 2, vi 3, .val (.ref b164), .unset, .unset, .unset, vi 0, vi 1, vi 1, vi 3] [(.int ((131 : Int32).toInt8.toInt32)), (.int (0 : Int32)), (.ref b164)])) rfl rfl (hb hby at_166)
          replace V165 : AI Z h165 b164 .byte 6 f0_g166b := V165
          have N165 := Fr.snoc X165 N0 g_b164
          obtain ⟨Lh165, X165, N165⟩ := hide X165 N165 (C := 1) (S := 6) (by decide) (by decide)
          refine Outs.of st165 ?_
          refine Outs.of (U' := T165.setTop (mkF m 206 #[vi i0, vi i1, vi i2, vi i3, vi i4, vi 0, vi 1, vi (f0_v33 i4), vi (f0_v38 i2), vi 2, vi 3, .val (.ref b164), .unset, .unset, .unset, vi 0, vi 1, vi 1, vi 3] [(.int (((32 : Int32) + ((f0_v38 i2) % (24 : Int32))).toInt8.toInt32)), (.int (1 : Int32)), (.ref b164)])) (fun t k => ?_) ?_
          · refine XS.iload X165.here hx rfl (hb hby at_167) rfl ?_
            refine XS.ifYes X165.here hx rfl (pc0 := 169) (pc' := 194) rfl (hb hby at_169) rfl ((if0 _ _).trans (teq (show (0 : Int32) = (0 : Int32) from (by decide))).1) (by decide) (by decide) ?_
            refine XS.aload X165.here hx rfl (hb hby at_194) rfl rfl ?_
            refine XS.iconst X165.here hx rfl (hb hby at_196) ?_
            refine XS.bipush X165.here hx rfl (hb hby at_197) ?_
            refine XS.iload X165.here hx rfl (hb hby at_199) rfl ?_
            refine XS.bipush X165.here hx rfl (hb hby at_201) ?_
            refine iremM X165 hx rfl (hb hby at_203) rfl (by decide) ?_
            refine XS.iadd X165.here hx rfl (hb hby at_204) rfl ?_
            refine XS.i2b X165.here hx rfl (hb hby at_205) rfl ?_
            exact k
          obtain ⟨T166, h166, X166, e166, W166, V166, st166⟩ := puB X165 hx hZ e165 V165 (j := (1 : Int32)) (x := (((32 : Int32) + ((f0_v38 i2) % (24 : Int32))).toInt8.toInt32)) (k := 1) rfl (by decide) (f := (mkF m 206 #[vi i0, vi i1, vi i2, vi i3, vi i4, vi 0, vi 1, vi (f0_v33 i4), vi (f0_v38 i2), vi 2, vi 3, .val (.ref b164), .unset, .unset, .unset, vi 0, vi 1, vi 1, vi 3] [(.int (((32 : Int32) + ((f0_v38 i2) % (24 : Int32))).toInt8.toInt32)), (.int (1 : Int32)), (.ref b164)])) rfl rfl (hb hby at_206)
          replace V166 : AI Z h166 b164 .byte 6 (f0_g206b i2) := V166
          have N166 := Fr.snoc X166 N165 g_b164
          obtain ⟨Lh166, X166, N166⟩ := hide X166 N166 (C := 1) (S := 6) (by decide) (by decide)
          refine Outs.of st166 ?_
          refine Outs.of (U' := T166.setTop (mkF m 261 #[vi i0, vi i1, vi i2, vi i3, vi i4, vi 0, vi 1, vi (f0_v33 i4), vi (f0_v38 i2), vi 2, vi 3, .val (.ref b164), vi 2, .unset, .unset, vi 0, vi 1, vi 1, vi 3] [(.int (-128 : Int32)), (.int (2 : Int32)), (.ref b164)])) (fun t k => ?_) ?_
          · refine XS.iconst X166.here hx rfl (hb hby at_207) ?_
            refine XS.iload X166.here hx rfl (hb hby at_208) rfl ?_
            refine XS.iadd X166.here hx rfl (hb hby at_210) rfl ?_
            refine XS.istore X166.here hx rfl (hb hby at_211) rfl (l' := #[vi i0, vi i1, vi i2, vi i3, vi i4, vi 0, vi 1, vi (f0_v33 i4), vi (f0_v38 i2), vi 2, vi 3, .val (.ref b164), vi 2, .unset, .unset, vi 0, vi 1, vi 1, vi 3]) rfl ?_
            refine XS.iload X166.here hx rfl (hb hby at_213) rfl ?_
            refine XS.ifYes X166.here hx rfl (pc0 := 215) (pc' := 233) rfl (hb hby at_215) rfl ((if0 _ _).trans (feq (show ¬ ((2 : Int32) = (0 : Int32)) from (by decide))).2) (by decide) (by decide) ?_
            refine XS.iload X166.here hx rfl (hb hby at_233) rfl ?_
            refine XS.iconst X166.here hx rfl (hb hby at_235) ?_
            refine XS.icmpYes X166.here hx rfl (pc0 := 236) (pc' := 249) rfl (hb hby at_236) rfl (feq (show ¬ ((2 : Int32) = (1 : Int32)) from (by decide))).2 (by decide) (by decide) ?_
            refine XS.iload X166.here hx rfl (hb hby at_249) rfl ?_
            refine XS.iconst X166.here hx rfl (hb hby at_251) ?_
            refine XS.icmpNo X166.here hx rfl (hb hby at_252) rfl (teq (show (2 : Int32) = (2 : Int32) from (by decide))).2 ?_
            refine XS.aload X166.here hx rfl (hb hby at_255) rfl rfl ?_
            refine XS.iload X166.here hx rfl (hb hby at_257) rfl ?_
            refine XS.bipush X166.here hx rfl (hb hby at_259) ?_
            exact k
          obtain ⟨T167, h167, X167, e167, W167, V167, st167⟩ := puB X166 hx hZ e166 V166 (j := (2 : Int32)) (x := (-128 : Int32)) (k := 2) rfl (by decide) (f := (mkF m 261 #[vi i0, vi i1, vi i2, vi i3, vi i4, vi 0, vi 1, vi (f0_v33 i4), vi (f0_v38 i2), vi 2, vi 3, .val (.ref b164), vi 2, .unset, .unset, vi 0, vi 1, vi 1, vi 3] [(.int (-128 : Int32)), (.int (2 : Int32)), (.ref b164)])) rfl rfl (hb hby at_261)
          replace V167 : AI Z h167 b164 .byte 6 (f0_g261b i2) := V167
          have N167 := Fr.snoc X167 N166 g_b164
          obtain ⟨Lh167, X167, N167⟩ := hide X167 N167 (C := 1) (S := 6) (by decide) (by decide)
          refine Outs.of st167 ?_
          refine Outs.of (U' := T167.setTop (mkF m 526 #[vi i0, vi i1, vi i2, vi i3, vi i4, vi 0, vi 1, vi (f0_v33 i4), vi (f0_v38 i2), vi 2, vi 3, .val (.ref b164), vi 2, vi 3, vi 0, vi 0, vi 1, vi 1, vi 3] [(.int (-127 : Int32)), (.int (3 : Int32)), (.ref b164)])) (fun t k => ?_) ?_
          · refine XS.goto X167.here hx rfl (pc0 := 262) (pc' := 296) rfl (hb hby at_262) (by decide) (by decide) ?_
            refine XS.iload X167.here hx rfl (hb hby at_296) rfl ?_
            refine XS.iload X167.here hx rfl (hb hby at_298) rfl ?_
            refine XS.iadd X167.here hx rfl (hb hby at_300) rfl ?_
            refine XS.istore X167.here hx rfl (hb hby at_301) rfl (l' := #[vi i0, vi i1, vi i2, vi i3, vi i4, vi 0, vi 1, vi (f0_v33 i4), vi (f0_v38 i2), vi 2, vi 3, .val (.ref b164), vi 2, vi 3, .unset, vi 0, vi 1, vi 1, vi 3]) rfl ?_
            refine XS.iload X167.here hx rfl (hb hby at_303) rfl ?_
            refine XS.iconst X167.here hx rfl (hb hby at_305) ?_
            refine XS.icmpYes X167.here hx rfl (pc0 := 306) (pc' := 313) rfl (hb hby at_306) rfl (feq (show ¬ ((2 : Int32) = (1 : Int32)) from (by decide))).2 (by decide) (by decide) ?_
            refine XS.iconst X167.here hx rfl (hb hby at_313) ?_
            refine XS.istore X167.here hx rfl (hb hby at_314) rfl (l' := #[vi i0, vi i1, vi i2, vi i3, vi i4, vi 0, vi 1, vi (f0_v33 i4), vi (f0_v38 i2), vi 2, vi 3, .val (.ref b164), vi 2, vi 3, vi 0, vi 0, vi 1, vi 1, vi 3]) rfl ?_
            refine XS.goto X167.here hx rfl (pc0 := 316) (pc' := 515) rfl (hb hby at_316) (by decide) (by decide) ?_
            refine XS.iload X167.here hx rfl (hb hby at_515) rfl ?_
            refine XS.ifNo X167.here hx rfl (hb hby at_517) rfl ((if0 _ _).trans (feq (show ¬ ((1 : Int32) = (0 : Int32)) from (by decide))).1) ?_
            refine XS.aload X167.here hx rfl (hb hby at_520) rfl rfl ?_
            refine XS.iload X167.here hx rfl (hb hby at_522) rfl ?_
            refine XS.bipush X167.here hx rfl (hb hby at_524) ?_
            exact k
          obtain ⟨T168, h168, X168, e168, W168, V168, st168⟩ := puB X167 hx hZ e167 V167 (j := (3 : Int32)) (x := (-127 : Int32)) (k := 3) rfl (by decide) (f := (mkF m 526 #[vi i0, vi i1, vi i2, vi i3, vi i4, vi 0, vi 1, vi (f0_v33 i4), vi (f0_v38 i2), vi 2, vi 3, .val (.ref b164), vi 2, vi 3, vi 0, vi 0, vi 1, vi 1, vi 3] [(.int (-127 : Int32)), (.int (3 : Int32)), (.ref b164)])) rfl rfl (hb hby at_526)
          replace V168 : AI Z h168 b164 .byte 6 (f0_g526d i2) := V168
          have N168 := Fr.snoc X168 N167 g_b164
          obtain ⟨Lh168, X168, N168⟩ := hide X168 N168 (C := 1) (S := 6) (by decide) (by decide)
          refine Outs.of st168 ?_
          refine Outs.of (U' := T168.setTop (mkF m 535 #[vi i0, vi i1, vi i2, vi i3, vi i4, vi 0, vi 1, vi (f0_v33 i4), vi (f0_v38 i2), vi 2, vi 3, .val (.ref b164), vi 2, vi 3, vi 0, vi 0, vi 1, vi 1, vi 3] [(.int (97 : Int32)), (.int (4 : Int32)), (.ref b164)])) (fun t k => ?_) ?_
          · refine XS.aload X168.here hx rfl (hb hby at_527) rfl rfl ?_
            refine XS.iload X168.here hx rfl (hb hby at_529) rfl ?_
            refine XS.iconst X168.here hx rfl (hb hby at_531) ?_
            refine XS.iadd X168.here hx rfl (hb hby at_532) rfl ?_
            refine XS.bipush X168.here hx rfl (hb hby at_533) ?_
            exact k
          obtain ⟨T169, h169, X169, e169, W169, V169, st169⟩ := puB X168 hx hZ e168 V168 (j := (4 : Int32)) (x := (97 : Int32)) (k := 4) rfl (by decide) (f := (mkF m 535 #[vi i0, vi i1, vi i2, vi i3, vi i4, vi 0, vi 1, vi (f0_v33 i4), vi (f0_v38 i2), vi 2, vi 3, .val (.ref b164), vi 2, vi 3, vi 0, vi 0, vi 1, vi 1, vi 3] [(.int (97 : Int32)), (.int (4 : Int32)), (.ref b164)])) rfl rfl (hb hby at_535)
          replace V169 : AI Z h169 b164 .byte 6 (f0_g535d i2) := V169
          have N169 := Fr.snoc X169 N168 g_b164
          obtain ⟨Lh169, X169, N169⟩ := hide X169 N169 (C := 1) (S := 6) (by decide) (by decide)
          refine Outs.of st169 ?_
          refine Outs.of (U' := T169.setTop (mkF m 544 #[vi i0, vi i1, vi i2, vi i3, vi i4, vi 0, vi 1, vi (f0_v33 i4), vi (f0_v38 i2), vi 2, vi 3, .val (.ref b164), vi 2, vi 3, vi 0, vi 0, vi 1, vi 1, vi 3] [(.int (f0_v33 i4)), (.int (5 : Int32)), (.ref b164)])) (fun t k => ?_) ?_
          · refine XS.aload X169.here hx rfl (hb hby at_536) rfl rfl ?_
            refine XS.iload X169.here hx rfl (hb hby at_538) rfl ?_
            refine XS.iconst X169.here hx rfl (hb hby at_540) ?_
            refine XS.iadd X169.here hx rfl (hb hby at_541) rfl ?_
            refine XS.iload X169.here hx rfl (hb hby at_542) rfl ?_
            exact k
          obtain ⟨T170, h170, X170, e170, W170, V170, st170⟩ := puB X169 hx hZ e169 V169 (j := (5 : Int32)) (x := (f0_v33 i4)) (k := 5) rfl (by decide) (f := (mkF m 544 #[vi i0, vi i1, vi i2, vi i3, vi i4, vi 0, vi 1, vi (f0_v33 i4), vi (f0_v38 i2), vi 2, vi 3, .val (.ref b164), vi 2, vi 3, vi 0, vi 0, vi 1, vi 1, vi 3] [(.int (f0_v33 i4)), (.int (5 : Int32)), (.ref b164)])) rfl rfl (hb hby at_544)
          replace V170 : AI Z h170 b164 .byte 6 (f0_g544d i2 i4) := V170
          have N170 := Fr.snoc X170 N169 g_b164
          obtain ⟨Lh170, X170, N170⟩ := hide X170 N170 (C := 1) (S := 6) (by decide) (by decide)
          refine Outs.of st170 ?_
          refine Outs.of (U' := T170.setTop (mkF m 552 #[vi i0, vi i1, vi i2, vi i3, vi i4, vi 0, vi 1, vi (f0_v33 i4), vi (f0_v38 i2), vi 2, vi 3, .val (.ref b164), vi 2, vi 3, vi 0, vi 6, vi 1, vi 1, vi 3] [])) (fun t k => ?_) ?_
          · refine XS.iload X170.here hx rfl (hb hby at_545) rfl ?_
            refine XS.iload X170.here hx rfl (hb hby at_547) rfl ?_
            refine XS.iadd X170.here hx rfl (hb hby at_549) rfl ?_
            refine XS.istore X170.here hx rfl (hb hby at_550) rfl (l' := #[vi i0, vi i1, vi i2, vi i3, vi i4, vi 0, vi 1, vi (f0_v33 i4), vi (f0_v38 i2), vi 2, vi 3, .val (.ref b164), vi 2, vi 3, vi 0, vi 6, vi 1, vi 1, vi 3]) rfl ?_
            exact k
          obtain ⟨T171, h171, X171, e171, E171, A171, D171, -, st171⟩ := newO X170 hx hZ hown (hw _ (List.mem_of_getElem? (i := 2) rfl)) (hw _ (List.mem_of_getElem? (i := 3) rfl)) (hw _ (List.mem_of_getElem? (i := 4) rfl)) e170 (g := (mkF m 552 #[vi i0, vi i1, vi i2, vi i3, vi i4, vi 0, vi 1, vi (f0_v33 i4), vi (f0_v38 i2), vi 2, vi 3, .val (.ref b164), vi 2, vi 3, vi 0, vi 6, vi 1, vi 1, vi 3] [])) rfl (hb hby at_552) (by decide) (by decide)
          obtain ⟨b171, g171⟩ : ∃ z, z = h170.size := ⟨_, rfl⟩
          rw [← g171] at A171 D171 st171
          have g_b171 : n0 ≤ b171 := Nat.le_trans (Nat.le_trans (Nat.le_trans (Nat.le_trans (Nat.le_trans (Nat.le_trans (Nat.le_trans (Nat.le_trans Z0 E164.1) (Keep.of_wr W165).1) (Keep.of_wr W166).1) (Keep.of_wr W167).1) (Keep.of_wr W168).1) (Keep.of_wr W169).1) (Keep.of_wr W170).1) (Nat.le_of_eq g171.symm)
          have ne_b164_b171 : b164 ≠ b171 := Nat.ne_of_lt (Nat.lt_of_lt_of_eq V170.lt g171.symm)
          have F171_12 : Fld Z h171 b171 "com/example/brief_locator/brieflocator/interchange/CanonicalForm" "bytes" "[B" .null := D171 (Or.inr (hw _ (List.mem_of_getElem? (i := 12) rfl))) (ty := (.array .byte)) (by decide)
          have F171_14 : Fld Z h171 b171 "com/example/brief_locator/brieflocator/interchange/CanonicalForm" "firstEnd" "I" (.int (0 : Int32)) := D171 (Or.inr (hw _ (List.mem_of_getElem? (i := 14) rfl))) (ty := .int) (by decide)
          have F171_16 : Fld Z h171 b171 "com/example/brief_locator/brieflocator/interchange/CanonicalForm" "pathStart" "I" (.int (0 : Int32)) := D171 (Or.inr (hw _ (List.mem_of_getElem? (i := 16) rfl))) (ty := .int) (by decide)
          have F171_18 : Fld Z h171 b171 "com/example/brief_locator/brieflocator/interchange/CanonicalForm" "pathEnd" "I" (.int (0 : Int32)) := D171 (Or.inr (hw _ (List.mem_of_getElem? (i := 18) rfl))) (ty := .int) (by decide)
          have F171_20 : Fld Z h171 b171 "com/example/brief_locator/brieflocator/interchange/CanonicalForm" "queryEnd" "I" (.int (0 : Int32)) := D171 (Or.inr (hw _ (List.mem_of_getElem? (i := 20) rfl))) (ty := .int) (by decide)
          have F171_25 : Fld Z h171 b171 "com/example/brief_locator/brieflocator/interchange/CanonicalForm" "hasScheme" "Z" (.int (0 : Int32)) := D171 (Or.inr (hw _ (List.mem_of_getElem? (i := 25) rfl))) (ty := .boolean) (by decide)
          have F171_27 : Fld Z h171 b171 "com/example/brief_locator/brieflocator/interchange/CanonicalForm" "hasAuthority" "Z" (.int (0 : Int32)) := D171 (Or.inr (hw _ (List.mem_of_getElem? (i := 27) rfl))) (ty := .boolean) (by decide)
          have F171_37 : Fld Z h171 b171 "com/example/brief_locator/brieflocator/interchange/CanonicalForm" "pathSegments" "I" (.int (0 : Int32)) := D171 (Or.inr (hw _ (List.mem_of_getElem? (i := 37) rfl))) (ty := .int) (by decide)
          have F171_52 : Fld Z h171 b171 "com/example/brief_locator/brieflocator/interchange/CanonicalForm" "pathSegmentsStart" "I" (.int (0 : Int32)) := D171 (Or.inr (hw _ (List.mem_of_getElem? (i := 52) rfl))) (ty := .int) (by decide)
          refine Outs.of st171 ?_
          refine Outs.of (U' := T171.setTop (mkF m 566 #[vi i0, vi i1, vi i2, vi i3, vi i4, vi 0, vi 1, vi (f0_v33 i4), vi (f0_v38 i2), vi 2, vi 3, .val (.ref b164), vi 2, vi 3, vi 0, vi 6, vi 1, vi 1, vi 3] [(.int (6 : Int32)), (.int (6 : Int32)), (.int (3 : Int32)), (.int (2 : Int32)), (.ref b164), (.ref b171), (.ref b171)])) (fun t k => ?_) ?_
          · refine XS.dup X171.here hx rfl (hb hby at_555) rfl rfl ?_
            refine XS.aload X171.here hx rfl (hb hby at_556) rfl rfl ?_
            refine XS.iload X171.here hx rfl (hb hby at_558) rfl ?_
            refine XS.iload X171.here hx rfl (hb hby at_560) rfl ?_
            refine XS.iload X171.here hx rfl (hb hby at_562) rfl ?_
            refine XS.iload X171.here hx rfl (hb hby at_564) rfl ?_
            exact k
          have f173 : AI Z h171 b164 .byte 6 (f0_g544d i2 i4) := (V170.ext E171)
          obtain ⟨_, _, ⟨T172, L172, k172, n172⟩, -, X172, ⟨Lc172, hQ172, l172, y172, z172⟩, st172⟩ := X171.specialBack hx (y := (⟨"com/example/brief_locator/brieflocator/interchange/CanonicalForm", "<init>", "([BIIII)V"⟩ : MethodName)) rfl hown (mvT hZ (hw _ (List.mem_of_getElem? (i := 5) rfl))) (mvT hZ (hw _ (List.mem_of_getElem? (i := 6) rfl))) (mvT hZ (hw _ (List.mem_of_getElem? (i := 7) rfl))) (by decide) (backOf (W := 1) (rmctp l Z a0 hw [] b171 b164 (2 : Int32) (3 : Int32) (6 : Int32) (6 : Int32) 6 (f0_g544d i2 i4) 3 h171 n0 (Nat.le_trans (Nat.le_trans (Nat.le_trans (Nat.le_trans (Nat.le_trans (Nat.le_trans (Nat.le_trans (Nat.le_trans Z0 E164.1) (Keep.of_wr W165).1) (Keep.of_wr W166).1) (Keep.of_wr W167).1) (Keep.of_wr W168).1) (Keep.of_wr W169).1) (Keep.of_wr W170).1) E171.1) A171 g_b171 F171_12 F171_14 F171_16 F171_18 F171_20 F171_25 F171_27 F171_37 F171_52 f173 ne_b164_b171 (by decide) rfl (by decide) rfl (by decide) (by decide)) hZ (hw _ (List.mem_of_getElem? (i := 7) rfl)) (hw _ (List.mem_of_getElem? (i := 4) rfl)) (by decide) (by decide)) (g := (mkF m 566 #[vi i0, vi i1, vi i2, vi i3, vi i4, vi 0, vi 1, vi (f0_v33 i4), vi (f0_v38 i2), vi 2, vi 3, .val (.ref b164), vi 2, vi 3, vi 0, vi 6, vi 1, vi 1, vi 3] [(.int (6 : Int32)), (.int (6 : Int32)), (.int (3 : Int32)), (.int (2 : Int32)), (.ref b164), (.ref b171), (.ref b171)])) rfl (by rw [hml]; rfl) (Steps.refl _) (a := b171) (argsL := [(.ref b164), (.int (2 : Int32)), (.int (3 : Int32)), (.int (6 : Int32)), (.int (6 : Int32))]) (rest := [(.ref b171)]) (lenOf pd_0 rfl) rfl (by show 2 * 0 + _ ≤ _; exact Nat.le_of_eq rfl) (hb hby at_566) (fun _ _ => ⟨rfl, e171, (by decide : 2 + 0 ≤ _), (by decide : 16 + 0 ≤ _)⟩)
          dsimp only [Pt.U, Pt.locs, Pt.cells, Pt.slots] at X172 l172 y172 z172 st172 hQ172
          subst l172 y172 z172
          obtain ⟨rfl, N172q, K172, u172_0, u172_1, u172_2, u172_3, u172_4⟩ := hQ172
          have N172 := Fr.app N170 N172q
          obtain ⟨Lh172, X172, N172⟩ := hide X172 N172 (C := 2) (S := 16) (by decide) (by decide)
          refine Outs.to st172 ?_
          refine Outs.of (U' := T172.setTop (mkF m 573 #[vi i0, vi i1, vi i2, vi i3, vi i4, vi 0, vi 1, vi (f0_v33 i4), vi (f0_v38 i2), vi 2, vi 3, .val (.ref b164), vi 2, vi 3, vi 0, vi 6, .val (.ref b171), vi 1, vi 3] [(.ref b171)])) (fun t k => ?_) ?_
          · refine XS.astore X172.here hx rfl (hb hby at_569) rfl rfl (l' := #[vi i0, vi i1, vi i2, vi i3, vi i4, vi 0, vi 1, vi (f0_v33 i4), vi (f0_v38 i2), vi 2, vi 3, .val (.ref b164), vi 2, vi 3, vi 0, vi 6, .val (.ref b171), vi 1, vi 3]) rfl ?_
            refine XS.aload X172.here hx rfl (hb hby at_571) rfl rfl ?_
            exact k
          have f175 : AI Z T172.heap b164 .byte 6 (f0_g544d i2 i4) := (f173.keep K172 (ninS ne_b164_b171 nin0))
          obtain ⟨cq174, kq174, q174a, q174b, q174c⟩ := isOf hZ rfl u172_0
          obtain ⟨_, _, ⟨T174, L174, k174, n174⟩, -, X174, ⟨Lc174, hQ174, l174, y174, z174⟩, st174⟩ := X172.virtualBack hx (y := (⟨"com/example/brief_locator/brieflocator/interchange/CanonicalForm", "hasRootlessAuthority", "()Z"⟩ : MethodName)) (z := (⟨"com/example/brief_locator/brieflocator/interchange/CanonicalForm", "hasRootlessAuthority", "()Z"⟩ : MethodName)) hown (mvT hZ (hw _ (List.mem_of_getElem? (i := 53) rfl))) (mvT hZ (hw _ (List.mem_of_getElem? (i := 54) rfl))) (notFace_of_selects (args := #[]) (mvT hZ (hw _ (List.mem_of_getElem? (i := 56) rfl)))) (mvT hZ (hw _ (List.mem_of_getElem? (i := 56) rfl))) (mvT hZ (hw _ (List.mem_of_getElem? (i := 55) rfl))) (by decide) (backOf (W := 0) (rmhr l Z a0 hw [] b171 (ctp_out4 (2 : Int32) (3 : Int32) (6 : Int32) (6 : Int32) 6 (f0_g544d i2 i4) 3) (3 : Int32) (2 : Int32) b164 6 (f0_g544d i2 i4) 2 T172.heap n0 u172_0 u172_4 u172_3 u172_2 u172_1 f175 rfl (by decide)) hZ (hw _ (List.mem_of_getElem? (i := 57) rfl)) (hw _ (List.mem_of_getElem? (i := 4) rfl)) (by decide) (by decide)) q174a q174c (g := (mkF m 573 #[vi i0, vi i1, vi i2, vi i3, vi i4, vi 0, vi 1, vi (f0_v33 i4), vi (f0_v38 i2), vi 2, vi 3, .val (.ref b164), vi 2, vi 3, vi 0, vi 6, .val (.ref b171), vi 1, vi 3] [(.ref b171)])) rfl (by rw [hml]; rfl) (Steps.refl _) (argsL := []) (rest := []) (lenOf pd_7 rfl) rfl (by show 2 * 0 + _ ≤ _; exact Nat.le_of_eq rfl) (hb hby at_573) (fun _ _ => ⟨rfl, rfl, (by decide : 2 + 0 ≤ _), (by decide : 16 + 0 ≤ _)⟩)
          dsimp only [Pt.U, Pt.locs, Pt.cells, Pt.slots] at X174 l174 y174 z174 st174 hQ174
          subst l174 y174 z174
          obtain ⟨rfl, N174q, e174⟩ := hQ174
          have N174 := Fr.app N172 N174q
          obtain ⟨Lh174, X174, N174⟩ := hide X174 N174 (C := 2) (S := 16) (by decide) (by decide)
          refine Outs.to st174 ?_
          refine Outs.of (U' := T174.setTop (mkF m 586 #[vi i0, vi i1, vi i2, vi i3, vi i4, vi 0, vi 1, vi (f0_v33 i4), vi (f0_v38 i2), vi 2, vi 3, .val (.ref b164), vi 2, vi 3, vi 0, vi 6, .val (.ref b171), vi 1, vi 3] [(.int (1 : Int32))])) (fun t k => ?_) ?_
          · refine XS.iload X174.here hx rfl (hb hby at_576) rfl ?_
            refine XS.icmpNo X174.here hx rfl (hb hby at_578) rfl (teq (law_x16 i0 i1 i2 i3 i4 hc11 hc68)).2 ?_
            refine XS.iconst X174.here hx rfl (hb hby at_581) ?_
            refine XS.goto X174.here hx rfl (pc0 := 582) (pc' := 586) rfl (hb hby at_582) (by decide) (by decide) ?_
            exact k
          exact Outs.retN (t := .boolean) (z := (1 : Int32)) X174 hx hret (by simp) (hb hby at_586) hlk (by decide) (by decide) e174 ⟨rfl, N174⟩
        · refine Outs.of (U' := s₁.setTop (mkF m 71 #[vi i0, vi i1, vi i2, vi i3, vi i4, vi 0, vi 1, vi (f0_v33 i4), vi (f0_v38 i2), vi 2, vi 3, .unset, .unset, .unset, .unset, .unset, .unset, .unset, .unset] [])) (fun t k => ?_) ?_
          · refine XS.ifNo X0.here hx rfl (hb hby at_68) rfl ((if0 _ _).trans (feq hc68).1) ?_
            exact k
          refine Outs.of (U' := s₁.setTop (mkF m 152 #[vi i0, vi i1, vi i2, vi i3, vi i4, vi 0, vi 1, vi (f0_v33 i4), vi (f0_v38 i2), vi 2, vi 3, .unset, .unset, .unset, .unset, vi 1, vi 2, vi 1, vi 3] [(.int (7 : Int32))])) (fun t k => ?_) ?_
          · refine XS.iconst X0.here hx rfl (hb hby at_71) ?_
            refine XS.goto X0.here hx rfl (pc0 := 72) (pc' := 76) rfl (hb hby at_72) (by decide) (by decide) ?_
            refine XS.istore X0.here hx rfl (hb hby at_76) rfl (l' := #[vi i0, vi i1, vi i2, vi i3, vi i4, vi 0, vi 1, vi (f0_v33 i4), vi (f0_v38 i2), vi 2, vi 3, .unset, .unset, .unset, .unset, vi 1, .unset, .unset, .unset]) rfl ?_
            refine XS.iload X0.here hx rfl (hb hby at_78) rfl ?_
            refine XS.ifNo X0.here hx rfl (hb hby at_80) rfl ((if0 _ _).trans (feq (show ¬ ((1 : Int32) = (0 : Int32)) from (by decide))).1) ?_
            refine XS.iconst X0.here hx rfl (hb hby at_83) ?_
            refine XS.goto X0.here hx rfl (pc0 := 84) (pc' := 88) rfl (hb hby at_84) (by decide) (by decide) ?_
            refine XS.istore X0.here hx rfl (hb hby at_88) rfl (l' := #[vi i0, vi i1, vi i2, vi i3, vi i4, vi 0, vi 1, vi (f0_v33 i4), vi (f0_v38 i2), vi 2, vi 3, .unset, .unset, .unset, .unset, vi 1, vi 2, .unset, .unset]) rfl ?_
            refine XS.iload X0.here hx rfl (hb hby at_90) rfl ?_
            refine XS.iconst X0.here hx rfl (hb hby at_92) ?_
            refine XS.icmpYes X0.here hx rfl (pc0 := 93) (pc' := 100) rfl (hb hby at_93) rfl (feq (show ¬ ((2 : Int32) = (3 : Int32)) from (by decide))).2 (by decide) (by decide) ?_
            refine XS.iload X0.here hx rfl (hb hby at_100) rfl ?_
            refine XS.ifYes X0.here hx rfl (pc0 := 102) (pc' := 114) rfl (hb hby at_102) rfl ((if0 _ _).trans (feq (show ¬ ((2 : Int32) = (0 : Int32)) from (by decide))).2) (by decide) (by decide) ?_
            refine XS.iconst X0.here hx rfl (hb hby at_114) ?_
            refine XS.istore X0.here hx rfl (hb hby at_115) rfl (l' := #[vi i0, vi i1, vi i2, vi i3, vi i4, vi 0, vi 1, vi (f0_v33 i4), vi (f0_v38 i2), vi 2, vi 3, .unset, .unset, .unset, .unset, vi 1, vi 2, vi 1, .unset]) rfl ?_
            refine XS.iconst X0.here hx rfl (hb hby at_117) ?_
            refine XS.iload X0.here hx rfl (hb hby at_118) rfl ?_
            refine XS.ifNo X0.here hx rfl (hb hby at_120) rfl ((if0 _ _).trans (tlt (show (0 : Int32) < (1 : Int32) from (by decide))).2.2.2) ?_
            refine XS.iconst X0.here hx rfl (hb hby at_123) ?_
            refine XS.goto X0.here hx rfl (pc0 := 124) (pc' := 128) rfl (hb hby at_124) (by decide) (by decide) ?_
            refine XS.iadd X0.here hx rfl (hb hby at_128) rfl ?_
            refine XS.iload X0.here hx rfl (hb hby at_129) rfl ?_
            refine XS.ifNo X0.here hx rfl (hb hby at_131) rfl ((if0 _ _).trans (feq (show ¬ ((1 : Int32) = (0 : Int32)) from (by decide))).1) ?_
            refine XS.iconst X0.here hx rfl (hb hby at_134) ?_
            refine XS.goto X0.here hx rfl (pc0 := 135) (pc' := 139) rfl (hb hby at_135) (by decide) (by decide) ?_
            refine XS.iadd X0.here hx rfl (hb hby at_139) rfl ?_
            refine XS.istore X0.here hx rfl (hb hby at_140) rfl (l' := #[vi i0, vi i1, vi i2, vi i3, vi i4, vi 0, vi 1, vi (f0_v33 i4), vi (f0_v38 i2), vi 2, vi 3, .unset, .unset, .unset, .unset, vi 1, vi 2, vi 1, vi 3]) rfl ?_
            refine XS.iconst X0.here hx rfl (hb hby at_142) ?_
            refine XS.iload X0.here hx rfl (hb hby at_143) rfl ?_
            refine XS.iadd X0.here hx rfl (hb hby at_145) rfl ?_
            refine XS.iload X0.here hx rfl (hb hby at_146) rfl ?_
            refine XS.iadd X0.here hx rfl (hb hby at_148) rfl ?_
            refine XS.iload X0.here hx rfl (hb hby at_149) rfl ?_
            refine XS.iadd X0.here hx rfl (hb hby at_151) rfl ?_
            exact k
          obtain ⟨T176, h176, X176, e176, E176, A176, st176⟩ := newAF X0 hx hZ (aty := .byte) (hw _ (List.mem_of_getElem? (i := 1) rfl)) e0 (f := (mkF m 152 #[vi i0, vi i1, vi i2, vi i3, vi i4, vi 0, vi 1, vi (f0_v33 i4), vi (f0_v38 i2), vi 2, vi 3, .unset, .unset, .unset, .unset, vi 1, vi 2, vi 1, vi 3] [(.int (7 : Int32))])) rfl (hb hby at_152) rfl (k := 7) rfl (cap := 7) (by decide) (by decide) (by decide) (by decide)
          obtain ⟨b176, g176⟩ : ∃ z, z = h0.size := ⟨_, rfl⟩
          rw [← g176] at A176 st176
          have g_b176 : n0 ≤ b176 := Nat.le_trans Z0 (Nat.le_of_eq g176.symm)
          have V176 : AI Z h176 b176 .byte 7 (fun _ => (0 : Int32)) := A176
          refine Outs.of st176 ?_
          refine Outs.of (U' := T176.setTop (mkF m 166 #[vi i0, vi i1, vi i2, vi i3, vi i4, vi 0, vi 1, vi (f0_v33 i4), vi (f0_v38 i2), vi 2, vi 3, .val (.ref b176), .unset, .unset, .unset, vi 1, vi 2, vi 1, vi 3] [(.int ((131 : Int32).toInt8.toInt32)), (.int (0 : Int32)), (.ref b176)])) (fun t k => ?_) ?_
          · refine XS.astore X176.here hx rfl (hb hby at_154) rfl rfl (l' := #[vi i0, vi i1, vi i2, vi i3, vi i4, vi 0, vi 1, vi (f0_v33 i4), vi (f0_v38 i2), vi 2, vi 3, .val (.ref b176), .unset, .unset, .unset, vi 1, vi 2, vi 1, vi 3]) rfl ?_
            refine XS.aload X176.here hx rfl (hb hby at_156) rfl rfl ?_
            refine XS.iconst X176.here hx rfl (hb hby at_158) ?_
            refine XS.sipush X176.here hx rfl (hb hby at_159) ?_
            refine XS.iload X176.here hx rfl (hb hby at_162) rfl ?_
            refine XS.iadd X176.here hx rfl (hb hby at_164) rfl ?_
            refine XS.i2b X176.here hx rfl (hb hby at_165) rfl ?_
            exact k
          obtain ⟨T177, h177, X177, e177, W177, V177, st177⟩ := puB X176 hx hZ e176 V176 (j := (0 : Int32)) (x := ((131 : Int32).toInt8.toInt32)) (k := 0) rfl (by decide) (f := (mkF m 166 #[vi i0, vi i1, vi i2, vi i3, vi i4, vi 0, vi 1, vi (f0_v33 i4), vi (f0_v38 i2), vi 2, vi 3, .val (.ref b176), .unset, .unset, .unset, vi 1, vi 2, vi 1, vi 3] [(.int ((131 : Int32).toInt8.toInt32)), (.int (0 : Int32)), (.ref b176)])) rfl rfl (hb hby at_166)
          replace V177 : AI Z h177 b176 .byte 7 f0_g166b := V177
          have N177 := Fr.snoc X177 N0 g_b176
          obtain ⟨Lh177, X177, N177⟩ := hide X177 N177 (C := 1) (S := 7) (by decide) (by decide)
          refine Outs.of st177 ?_
          refine Outs.of (U' := T177.setTop (mkF m 177 #[vi i0, vi i1, vi i2, vi i3, vi i4, vi 0, vi 1, vi (f0_v33 i4), vi (f0_v38 i2), vi 2, vi 3, .val (.ref b176), .unset, .unset, .unset, vi 1, vi 2, vi 1, vi 3] [(.int (97 : Int32)), (.int (1 : Int32)), (.ref b176)])) (fun t k => ?_) ?_
          · refine XS.iload X177.here hx rfl (hb hby at_167) rfl ?_
            refine XS.ifNo X177.here hx rfl (hb hby at_169) rfl ((if0 _ _).trans (feq (show ¬ ((1 : Int32) = (0 : Int32)) from (by decide))).1) ?_
            refine XS.aload X177.here hx rfl (hb hby at_172) rfl rfl ?_
            refine XS.iconst X177.here hx rfl (hb hby at_174) ?_
            refine XS.bipush X177.here hx rfl (hb hby at_175) ?_
            exact k
          obtain ⟨T178, h178, X178, e178, W178, V178, st178⟩ := puB X177 hx hZ e177 V177 (j := (1 : Int32)) (x := (97 : Int32)) (k := 1) rfl (by decide) (f := (mkF m 177 #[vi i0, vi i1, vi i2, vi i3, vi i4, vi 0, vi 1, vi (f0_v33 i4), vi (f0_v38 i2), vi 2, vi 3, .val (.ref b176), .unset, .unset, .unset, vi 1, vi 2, vi 1, vi 3] [(.int (97 : Int32)), (.int (1 : Int32)), (.ref b176)])) rfl rfl (hb hby at_177)
          replace V178 : AI Z h178 b176 .byte 7 f0_g177b := V178
          have N178 := Fr.snoc X178 N177 g_b176
          obtain ⟨Lh178, X178, N178⟩ := hide X178 N178 (C := 1) (S := 7) (by decide) (by decide)
          refine Outs.of st178 ?_
          refine Outs.of (U' := T178.setTop (mkF m 190 #[vi i0, vi i1, vi i2, vi i3, vi i4, vi 0, vi 1, vi (f0_v33 i4), vi (f0_v38 i2), vi 2, vi 3, .val (.ref b176), .unset, .unset, .unset, vi 1, vi 2, vi 1, vi 3] [(.int (((97 : Int32) + ((f0_v38 i2) % (26 : Int32))).toInt8.toInt32)), (.int (2 : Int32)), (.ref b176)])) (fun t k => ?_) ?_
          · refine XS.aload X178.here hx rfl (hb hby at_178) rfl rfl ?_
            refine XS.iconst X178.here hx rfl (hb hby at_180) ?_
            refine XS.bipush X178.here hx rfl (hb hby at_181) ?_
            refine XS.iload X178.here hx rfl (hb hby at_183) rfl ?_
            refine XS.bipush X178.here hx rfl (hb hby at_185) ?_
            refine iremM X178 hx rfl (hb hby at_187) rfl (by decide) ?_
            refine XS.iadd X178.here hx rfl (hb hby at_188) rfl ?_
            refine XS.i2b X178.here hx rfl (hb hby at_189) rfl ?_
            exact k
          obtain ⟨T179, h179, X179, e179, W179, V179, st179⟩ := puB X178 hx hZ e178 V178 (j := (2 : Int32)) (x := (((97 : Int32) + ((f0_v38 i2) % (26 : Int32))).toInt8.toInt32)) (k := 2) rfl (by decide) (f := (mkF m 190 #[vi i0, vi i1, vi i2, vi i3, vi i4, vi 0, vi 1, vi (f0_v33 i4), vi (f0_v38 i2), vi 2, vi 3, .val (.ref b176), .unset, .unset, .unset, vi 1, vi 2, vi 1, vi 3] [(.int (((97 : Int32) + ((f0_v38 i2) % (26 : Int32))).toInt8.toInt32)), (.int (2 : Int32)), (.ref b176)])) rfl rfl (hb hby at_190)
          replace V179 : AI Z h179 b176 .byte 7 (f0_g190b i2) := V179
          have N179 := Fr.snoc X179 N178 g_b176
          obtain ⟨Lh179, X179, N179⟩ := hide X179 N179 (C := 1) (S := 7) (by decide) (by decide)
          refine Outs.of st179 ?_
          refine Outs.of (U' := T179.setTop (mkF m 261 #[vi i0, vi i1, vi i2, vi i3, vi i4, vi 0, vi 1, vi (f0_v33 i4), vi (f0_v38 i2), vi 2, vi 3, .val (.ref b176), vi 3, .unset, .unset, vi 1, vi 2, vi 1, vi 3] [(.int (-128 : Int32)), (.int (3 : Int32)), (.ref b176)])) (fun t k => ?_) ?_
          · refine XS.goto X179.here hx rfl (pc0 := 191) (pc' := 207) rfl (hb hby at_191) (by decide) (by decide) ?_
            refine XS.iconst X179.here hx rfl (hb hby at_207) ?_
            refine XS.iload X179.here hx rfl (hb hby at_208) rfl ?_
            refine XS.iadd X179.here hx rfl (hb hby at_210) rfl ?_
            refine XS.istore X179.here hx rfl (hb hby at_211) rfl (l' := #[vi i0, vi i1, vi i2, vi i3, vi i4, vi 0, vi 1, vi (f0_v33 i4), vi (f0_v38 i2), vi 2, vi 3, .val (.ref b176), vi 3, .unset, .unset, vi 1, vi 2, vi 1, vi 3]) rfl ?_
            refine XS.iload X179.here hx rfl (hb hby at_213) rfl ?_
            refine XS.ifYes X179.here hx rfl (pc0 := 215) (pc' := 233) rfl (hb hby at_215) rfl ((if0 _ _).trans (feq (show ¬ ((2 : Int32) = (0 : Int32)) from (by decide))).2) (by decide) (by decide) ?_
            refine XS.iload X179.here hx rfl (hb hby at_233) rfl ?_
            refine XS.iconst X179.here hx rfl (hb hby at_235) ?_
            refine XS.icmpYes X179.here hx rfl (pc0 := 236) (pc' := 249) rfl (hb hby at_236) rfl (feq (show ¬ ((2 : Int32) = (1 : Int32)) from (by decide))).2 (by decide) (by decide) ?_
            refine XS.iload X179.here hx rfl (hb hby at_249) rfl ?_
            refine XS.iconst X179.here hx rfl (hb hby at_251) ?_
            refine XS.icmpNo X179.here hx rfl (hb hby at_252) rfl (teq (show (2 : Int32) = (2 : Int32) from (by decide))).2 ?_
            refine XS.aload X179.here hx rfl (hb hby at_255) rfl rfl ?_
            refine XS.iload X179.here hx rfl (hb hby at_257) rfl ?_
            refine XS.bipush X179.here hx rfl (hb hby at_259) ?_
            exact k
          obtain ⟨T180, h180, X180, e180, W180, V180, st180⟩ := puB X179 hx hZ e179 V179 (j := (3 : Int32)) (x := (-128 : Int32)) (k := 3) rfl (by decide) (f := (mkF m 261 #[vi i0, vi i1, vi i2, vi i3, vi i4, vi 0, vi 1, vi (f0_v33 i4), vi (f0_v38 i2), vi 2, vi 3, .val (.ref b176), vi 3, .unset, .unset, vi 1, vi 2, vi 1, vi 3] [(.int (-128 : Int32)), (.int (3 : Int32)), (.ref b176)])) rfl rfl (hb hby at_261)
          replace V180 : AI Z h180 b176 .byte 7 (f0_g261c i2) := V180
          have N180 := Fr.snoc X180 N179 g_b176
          obtain ⟨Lh180, X180, N180⟩ := hide X180 N180 (C := 1) (S := 7) (by decide) (by decide)
          refine Outs.of st180 ?_
          refine Outs.of (U' := T180.setTop (mkF m 526 #[vi i0, vi i1, vi i2, vi i3, vi i4, vi 0, vi 1, vi (f0_v33 i4), vi (f0_v38 i2), vi 2, vi 3, .val (.ref b176), vi 3, vi 4, vi 0, vi 1, vi 2, vi 1, vi 3] [(.int (-127 : Int32)), (.int (4 : Int32)), (.ref b176)])) (fun t k => ?_) ?_
          · refine XS.goto X180.here hx rfl (pc0 := 262) (pc' := 296) rfl (hb hby at_262) (by decide) (by decide) ?_
            refine XS.iload X180.here hx rfl (hb hby at_296) rfl ?_
            refine XS.iload X180.here hx rfl (hb hby at_298) rfl ?_
            refine XS.iadd X180.here hx rfl (hb hby at_300) rfl ?_
            refine XS.istore X180.here hx rfl (hb hby at_301) rfl (l' := #[vi i0, vi i1, vi i2, vi i3, vi i4, vi 0, vi 1, vi (f0_v33 i4), vi (f0_v38 i2), vi 2, vi 3, .val (.ref b176), vi 3, vi 4, .unset, vi 1, vi 2, vi 1, vi 3]) rfl ?_
            refine XS.iload X180.here hx rfl (hb hby at_303) rfl ?_
            refine XS.iconst X180.here hx rfl (hb hby at_305) ?_
            refine XS.icmpYes X180.here hx rfl (pc0 := 306) (pc' := 313) rfl (hb hby at_306) rfl (feq (show ¬ ((2 : Int32) = (1 : Int32)) from (by decide))).2 (by decide) (by decide) ?_
            refine XS.iconst X180.here hx rfl (hb hby at_313) ?_
            refine XS.istore X180.here hx rfl (hb hby at_314) rfl (l' := #[vi i0, vi i1, vi i2, vi i3, vi i4, vi 0, vi 1, vi (f0_v33 i4), vi (f0_v38 i2), vi 2, vi 3, .val (.ref b176), vi 3, vi 4, vi 0, vi 1, vi 2, vi 1, vi 3]) rfl ?_
            refine XS.goto X180.here hx rfl (pc0 := 316) (pc' := 515) rfl (hb hby at_316) (by decide) (by decide) ?_
            refine XS.iload X180.here hx rfl (hb hby at_515) rfl ?_
            refine XS.ifNo X180.here hx rfl (hb hby at_517) rfl ((if0 _ _).trans (feq (show ¬ ((1 : Int32) = (0 : Int32)) from (by decide))).1) ?_
            refine XS.aload X180.here hx rfl (hb hby at_520) rfl rfl ?_
            refine XS.iload X180.here hx rfl (hb hby at_522) rfl ?_
            refine XS.bipush X180.here hx rfl (hb hby at_524) ?_
            exact k
          obtain ⟨T181, h181, X181, e181, W181, V181, st181⟩ := puB X180 hx hZ e180 V180 (j := (4 : Int32)) (x := (-127 : Int32)) (k := 4) rfl (by decide) (f := (mkF m 526 #[vi i0, vi i1, vi i2, vi i3, vi i4, vi 0, vi 1, vi (f0_v33 i4), vi (f0_v38 i2), vi 2, vi 3, .val (.ref b176), vi 3, vi 4, vi 0, vi 1, vi 2, vi 1, vi 3] [(.int (-127 : Int32)), (.int (4 : Int32)), (.ref b176)])) rfl rfl (hb hby at_526)
          replace V181 : AI Z h181 b176 .byte 7 (f0_g526e i2) := V181
          have N181 := Fr.snoc X181 N180 g_b176
          obtain ⟨Lh181, X181, N181⟩ := hide X181 N181 (C := 1) (S := 7) (by decide) (by decide)
          refine Outs.of st181 ?_
          refine Outs.of (U' := T181.setTop (mkF m 535 #[vi i0, vi i1, vi i2, vi i3, vi i4, vi 0, vi 1, vi (f0_v33 i4), vi (f0_v38 i2), vi 2, vi 3, .val (.ref b176), vi 3, vi 4, vi 0, vi 1, vi 2, vi 1, vi 3] [(.int (97 : Int32)), (.int (5 : Int32)), (.ref b176)])) (fun t k => ?_) ?_
          · refine XS.aload X181.here hx rfl (hb hby at_527) rfl rfl ?_
            refine XS.iload X181.here hx rfl (hb hby at_529) rfl ?_
            refine XS.iconst X181.here hx rfl (hb hby at_531) ?_
            refine XS.iadd X181.here hx rfl (hb hby at_532) rfl ?_
            refine XS.bipush X181.here hx rfl (hb hby at_533) ?_
            exact k
          obtain ⟨T182, h182, X182, e182, W182, V182, st182⟩ := puB X181 hx hZ e181 V181 (j := (5 : Int32)) (x := (97 : Int32)) (k := 5) rfl (by decide) (f := (mkF m 535 #[vi i0, vi i1, vi i2, vi i3, vi i4, vi 0, vi 1, vi (f0_v33 i4), vi (f0_v38 i2), vi 2, vi 3, .val (.ref b176), vi 3, vi 4, vi 0, vi 1, vi 2, vi 1, vi 3] [(.int (97 : Int32)), (.int (5 : Int32)), (.ref b176)])) rfl rfl (hb hby at_535)
          replace V182 : AI Z h182 b176 .byte 7 (f0_g535e i2) := V182
          have N182 := Fr.snoc X182 N181 g_b176
          obtain ⟨Lh182, X182, N182⟩ := hide X182 N182 (C := 1) (S := 7) (by decide) (by decide)
          refine Outs.of st182 ?_
          refine Outs.of (U' := T182.setTop (mkF m 544 #[vi i0, vi i1, vi i2, vi i3, vi i4, vi 0, vi 1, vi (f0_v33 i4), vi (f0_v38 i2), vi 2, vi 3, .val (.ref b176), vi 3, vi 4, vi 0, vi 1, vi 2, vi 1, vi 3] [(.int (f0_v33 i4)), (.int (6 : Int32)), (.ref b176)])) (fun t k => ?_) ?_
          · refine XS.aload X182.here hx rfl (hb hby at_536) rfl rfl ?_
            refine XS.iload X182.here hx rfl (hb hby at_538) rfl ?_
            refine XS.iconst X182.here hx rfl (hb hby at_540) ?_
            refine XS.iadd X182.here hx rfl (hb hby at_541) rfl ?_
            refine XS.iload X182.here hx rfl (hb hby at_542) rfl ?_
            exact k
          obtain ⟨T183, h183, X183, e183, W183, V183, st183⟩ := puB X182 hx hZ e182 V182 (j := (6 : Int32)) (x := (f0_v33 i4)) (k := 6) rfl (by decide) (f := (mkF m 544 #[vi i0, vi i1, vi i2, vi i3, vi i4, vi 0, vi 1, vi (f0_v33 i4), vi (f0_v38 i2), vi 2, vi 3, .val (.ref b176), vi 3, vi 4, vi 0, vi 1, vi 2, vi 1, vi 3] [(.int (f0_v33 i4)), (.int (6 : Int32)), (.ref b176)])) rfl rfl (hb hby at_544)
          replace V183 : AI Z h183 b176 .byte 7 (f0_g544e i2 i4) := V183
          have N183 := Fr.snoc X183 N182 g_b176
          obtain ⟨Lh183, X183, N183⟩ := hide X183 N183 (C := 1) (S := 7) (by decide) (by decide)
          refine Outs.of st183 ?_
          refine Outs.of (U' := T183.setTop (mkF m 552 #[vi i0, vi i1, vi i2, vi i3, vi i4, vi 0, vi 1, vi (f0_v33 i4), vi (f0_v38 i2), vi 2, vi 3, .val (.ref b176), vi 3, vi 4, vi 0, vi 7, vi 2, vi 1, vi 3] [])) (fun t k => ?_) ?_
          · refine XS.iload X183.here hx rfl (hb hby at_545) rfl ?_
            refine XS.iload X183.here hx rfl (hb hby at_547) rfl ?_
            refine XS.iadd X183.here hx rfl (hb hby at_549) rfl ?_
            refine XS.istore X183.here hx rfl (hb hby at_550) rfl (l' := #[vi i0, vi i1, vi i2, vi i3, vi i4, vi 0, vi 1, vi (f0_v33 i4), vi (f0_v38 i2), vi 2, vi 3, .val (.ref b176), vi 3, vi 4, vi 0, vi 7, vi 2, vi 1, vi 3]) rfl ?_
            exact k
          obtain ⟨T184, h184, X184, e184, E184, A184, D184, -, st184⟩ := newO X183 hx hZ hown (hw _ (List.mem_of_getElem? (i := 2) rfl)) (hw _ (List.mem_of_getElem? (i := 3) rfl)) (hw _ (List.mem_of_getElem? (i := 4) rfl)) e183 (g := (mkF m 552 #[vi i0, vi i1, vi i2, vi i3, vi i4, vi 0, vi 1, vi (f0_v33 i4), vi (f0_v38 i2), vi 2, vi 3, .val (.ref b176), vi 3, vi 4, vi 0, vi 7, vi 2, vi 1, vi 3] [])) rfl (hb hby at_552) (by decide) (by decide)
          obtain ⟨b184, g184⟩ : ∃ z, z = h183.size := ⟨_, rfl⟩
          rw [← g184] at A184 D184 st184
          have g_b184 : n0 ≤ b184 := Nat.le_trans (Nat.le_trans (Nat.le_trans (Nat.le_trans (Nat.le_trans (Nat.le_trans (Nat.le_trans (Nat.le_trans (Nat.le_trans Z0 E176.1) (Keep.of_wr W177).1) (Keep.of_wr W178).1) (Keep.of_wr W179).1) (Keep.of_wr W180).1) (Keep.of_wr W181).1) (Keep.of_wr W182).1) (Keep.of_wr W183).1) (Nat.le_of_eq g184.symm)
          have ne_b176_b184 : b176 ≠ b184 := Nat.ne_of_lt (Nat.lt_of_lt_of_eq V183.lt g184.symm)
          have F184_12 : Fld Z h184 b184 "com/example/brief_locator/brieflocator/interchange/CanonicalForm" "bytes" "[B" .null := D184 (Or.inr (hw _ (List.mem_of_getElem? (i := 12) rfl))) (ty := (.array .byte)) (by decide)
          have F184_14 : Fld Z h184 b184 "com/example/brief_locator/brieflocator/interchange/CanonicalForm" "firstEnd" "I" (.int (0 : Int32)) := D184 (Or.inr (hw _ (List.mem_of_getElem? (i := 14) rfl))) (ty := .int) (by decide)
          have F184_16 : Fld Z h184 b184 "com/example/brief_locator/brieflocator/interchange/CanonicalForm" "pathStart" "I" (.int (0 : Int32)) := D184 (Or.inr (hw _ (List.mem_of_getElem? (i := 16) rfl))) (ty := .int) (by decide)
          have F184_18 : Fld Z h184 b184 "com/example/brief_locator/brieflocator/interchange/CanonicalForm" "pathEnd" "I" (.int (0 : Int32)) := D184 (Or.inr (hw _ (List.mem_of_getElem? (i := 18) rfl))) (ty := .int) (by decide)
          have F184_20 : Fld Z h184 b184 "com/example/brief_locator/brieflocator/interchange/CanonicalForm" "queryEnd" "I" (.int (0 : Int32)) := D184 (Or.inr (hw _ (List.mem_of_getElem? (i := 20) rfl))) (ty := .int) (by decide)
          have F184_25 : Fld Z h184 b184 "com/example/brief_locator/brieflocator/interchange/CanonicalForm" "hasScheme" "Z" (.int (0 : Int32)) := D184 (Or.inr (hw _ (List.mem_of_getElem? (i := 25) rfl))) (ty := .boolean) (by decide)
          have F184_27 : Fld Z h184 b184 "com/example/brief_locator/brieflocator/interchange/CanonicalForm" "hasAuthority" "Z" (.int (0 : Int32)) := D184 (Or.inr (hw _ (List.mem_of_getElem? (i := 27) rfl))) (ty := .boolean) (by decide)
          have F184_37 : Fld Z h184 b184 "com/example/brief_locator/brieflocator/interchange/CanonicalForm" "pathSegments" "I" (.int (0 : Int32)) := D184 (Or.inr (hw _ (List.mem_of_getElem? (i := 37) rfl))) (ty := .int) (by decide)
          have F184_52 : Fld Z h184 b184 "com/example/brief_locator/brieflocator/interchange/CanonicalForm" "pathSegmentsStart" "I" (.int (0 : Int32)) := D184 (Or.inr (hw _ (List.mem_of_getElem? (i := 52) rfl))) (ty := .int) (by decide)
          refine Outs.of st184 ?_
          refine Outs.of (U' := T184.setTop (mkF m 566 #[vi i0, vi i1, vi i2, vi i3, vi i4, vi 0, vi 1, vi (f0_v33 i4), vi (f0_v38 i2), vi 2, vi 3, .val (.ref b176), vi 3, vi 4, vi 0, vi 7, vi 2, vi 1, vi 3] [(.int (7 : Int32)), (.int (7 : Int32)), (.int (4 : Int32)), (.int (3 : Int32)), (.ref b176), (.ref b184), (.ref b184)])) (fun t k => ?_) ?_
          · refine XS.dup X184.here hx rfl (hb hby at_555) rfl rfl ?_
            refine XS.aload X184.here hx rfl (hb hby at_556) rfl rfl ?_
            refine XS.iload X184.here hx rfl (hb hby at_558) rfl ?_
            refine XS.iload X184.here hx rfl (hb hby at_560) rfl ?_
            refine XS.iload X184.here hx rfl (hb hby at_562) rfl ?_
            refine XS.iload X184.here hx rfl (hb hby at_564) rfl ?_
            exact k
          have f186 : AI Z h184 b176 .byte 7 (f0_g544e i2 i4) := (V183.ext E184)
          obtain ⟨_, _, ⟨T185, L185, k185, n185⟩, -, X185, ⟨Lc185, hQ185, l185, y185, z185⟩, st185⟩ := X184.specialBack hx (y := (⟨"com/example/brief_locator/brieflocator/interchange/CanonicalForm", "<init>", "([BIIII)V"⟩ : MethodName)) rfl hown (mvT hZ (hw _ (List.mem_of_getElem? (i := 5) rfl))) (mvT hZ (hw _ (List.mem_of_getElem? (i := 6) rfl))) (mvT hZ (hw _ (List.mem_of_getElem? (i := 7) rfl))) (by decide) (backOf (W := 1) (rmctp l Z a0 hw [] b184 b176 (3 : Int32) (4 : Int32) (7 : Int32) (7 : Int32) 7 (f0_g544e i2 i4) 4 h184 n0 (Nat.le_trans (Nat.le_trans (Nat.le_trans (Nat.le_trans (Nat.le_trans (Nat.le_trans (Nat.le_trans (Nat.le_trans (Nat.le_trans Z0 E176.1) (Keep.of_wr W177).1) (Keep.of_wr W178).1) (Keep.of_wr W179).1) (Keep.of_wr W180).1) (Keep.of_wr W181).1) (Keep.of_wr W182).1) (Keep.of_wr W183).1) E184.1) A184 g_b184 F184_12 F184_14 F184_16 F184_18 F184_20 F184_25 F184_27 F184_37 F184_52 f186 ne_b176_b184 (by decide) rfl (by decide) rfl (by decide) (by decide)) hZ (hw _ (List.mem_of_getElem? (i := 7) rfl)) (hw _ (List.mem_of_getElem? (i := 4) rfl)) (by decide) (by decide)) (g := (mkF m 566 #[vi i0, vi i1, vi i2, vi i3, vi i4, vi 0, vi 1, vi (f0_v33 i4), vi (f0_v38 i2), vi 2, vi 3, .val (.ref b176), vi 3, vi 4, vi 0, vi 7, vi 2, vi 1, vi 3] [(.int (7 : Int32)), (.int (7 : Int32)), (.int (4 : Int32)), (.int (3 : Int32)), (.ref b176), (.ref b184), (.ref b184)])) rfl (by rw [hml]; rfl) (Steps.refl _) (a := b184) (argsL := [(.ref b176), (.int (3 : Int32)), (.int (4 : Int32)), (.int (7 : Int32)), (.int (7 : Int32))]) (rest := [(.ref b184)]) (lenOf pd_0 rfl) rfl (by show 2 * 0 + _ ≤ _; exact Nat.le_of_eq rfl) (hb hby at_566) (fun _ _ => ⟨rfl, e184, (by decide : 2 + 0 ≤ _), (by decide : 17 + 0 ≤ _)⟩)
          dsimp only [Pt.U, Pt.locs, Pt.cells, Pt.slots] at X185 l185 y185 z185 st185 hQ185
          subst l185 y185 z185
          obtain ⟨rfl, N185q, K185, u185_0, u185_1, u185_2, u185_3, u185_4⟩ := hQ185
          have N185 := Fr.app N183 N185q
          obtain ⟨Lh185, X185, N185⟩ := hide X185 N185 (C := 2) (S := 17) (by decide) (by decide)
          refine Outs.to st185 ?_
          refine Outs.of (U' := T185.setTop (mkF m 573 #[vi i0, vi i1, vi i2, vi i3, vi i4, vi 0, vi 1, vi (f0_v33 i4), vi (f0_v38 i2), vi 2, vi 3, .val (.ref b176), vi 3, vi 4, vi 0, vi 7, .val (.ref b184), vi 1, vi 3] [(.ref b184)])) (fun t k => ?_) ?_
          · refine XS.astore X185.here hx rfl (hb hby at_569) rfl rfl (l' := #[vi i0, vi i1, vi i2, vi i3, vi i4, vi 0, vi 1, vi (f0_v33 i4), vi (f0_v38 i2), vi 2, vi 3, .val (.ref b176), vi 3, vi 4, vi 0, vi 7, .val (.ref b184), vi 1, vi 3]) rfl ?_
            refine XS.aload X185.here hx rfl (hb hby at_571) rfl rfl ?_
            exact k
          have f188 : AI Z T185.heap b176 .byte 7 (f0_g544e i2 i4) := (f186.keep K185 (ninS ne_b176_b184 nin0))
          obtain ⟨cq187, kq187, q187a, q187b, q187c⟩ := isOf hZ rfl u185_0
          obtain ⟨_, _, ⟨T187, L187, k187, n187⟩, -, X187, ⟨Lc187, hQ187, l187, y187, z187⟩, st187⟩ := X185.virtualBack hx (y := (⟨"com/example/brief_locator/brieflocator/interchange/CanonicalForm", "hasRootlessAuthority", "()Z"⟩ : MethodName)) (z := (⟨"com/example/brief_locator/brieflocator/interchange/CanonicalForm", "hasRootlessAuthority", "()Z"⟩ : MethodName)) hown (mvT hZ (hw _ (List.mem_of_getElem? (i := 53) rfl))) (mvT hZ (hw _ (List.mem_of_getElem? (i := 54) rfl))) (notFace_of_selects (args := #[]) (mvT hZ (hw _ (List.mem_of_getElem? (i := 56) rfl)))) (mvT hZ (hw _ (List.mem_of_getElem? (i := 56) rfl))) (mvT hZ (hw _ (List.mem_of_getElem? (i := 55) rfl))) (by decide) (backOf (W := 0) (rmhr l Z a0 hw [] b184 (ctp_out4 (3 : Int32) (4 : Int32) (7 : Int32) (7 : Int32) 7 (f0_g544e i2 i4) 4) (4 : Int32) (3 : Int32) b176 7 (f0_g544e i2 i4) 3 T185.heap n0 u185_0 u185_4 u185_3 u185_2 u185_1 f188 rfl (by decide)) hZ (hw _ (List.mem_of_getElem? (i := 57) rfl)) (hw _ (List.mem_of_getElem? (i := 4) rfl)) (by decide) (by decide)) q187a q187c (g := (mkF m 573 #[vi i0, vi i1, vi i2, vi i3, vi i4, vi 0, vi 1, vi (f0_v33 i4), vi (f0_v38 i2), vi 2, vi 3, .val (.ref b176), vi 3, vi 4, vi 0, vi 7, .val (.ref b184), vi 1, vi 3] [(.ref b184)])) rfl (by rw [hml]; rfl) (Steps.refl _) (argsL := []) (rest := []) (lenOf pd_7 rfl) rfl (by show 2 * 0 + _ ≤ _; exact Nat.le_of_eq rfl) (hb hby at_573) (fun _ _ => ⟨rfl, rfl, (by decide : 2 + 0 ≤ _), (by decide : 17 + 0 ≤ _)⟩)
          dsimp only [Pt.U, Pt.locs, Pt.cells, Pt.slots] at X187 l187 y187 z187 st187 hQ187
          subst l187 y187 z187
          obtain ⟨rfl, N187q, e187⟩ := hQ187
          have N187 := Fr.app N185 N187q
          obtain ⟨Lh187, X187, N187⟩ := hide X187 N187 (C := 2) (S := 17) (by decide) (by decide)
          refine Outs.to st187 ?_
          refine Outs.of (U' := T187.setTop (mkF m 586 #[vi i0, vi i1, vi i2, vi i3, vi i4, vi 0, vi 1, vi (f0_v33 i4), vi (f0_v38 i2), vi 2, vi 3, .val (.ref b176), vi 3, vi 4, vi 0, vi 7, .val (.ref b184), vi 1, vi 3] [(.int (1 : Int32))])) (fun t k => ?_) ?_
          · refine XS.iload X187.here hx rfl (hb hby at_576) rfl ?_
            refine XS.icmpNo X187.here hx rfl (hb hby at_578) rfl (teq (law_x17 i0 i1 i2 i3 i4 hc11 hc68)).2 ?_
            refine XS.iconst X187.here hx rfl (hb hby at_581) ?_
            refine XS.goto X187.here hx rfl (pc0 := 582) (pc' := 586) rfl (hb hby at_582) (by decide) (by decide) ?_
            exact k
          exact Outs.retN (t := .boolean) (z := (1 : Int32)) X187 hx hret (by simp) (hb hby at_586) hlk (by decide) (by decide) e187 ⟨rfl, N187⟩
      · rw [q9]
        show Outs p e below s _ _ _ (s₁.setTop (mkF m 65 #[vi i0, vi i1, vi i2, vi i3, vi i4, vi 0, vi 1, vi (f0_v33 i4), vi (f0_v38 i2), vi 3, vi 3, .unset, .unset, .unset, .unset, .unset, .unset, .unset, .unset] []))
        refine Outs.of (U' := s₁.setTop (mkF m 68 #[vi i0, vi i1, vi i2, vi i3, vi i4, vi 0, vi 1, vi (f0_v33 i4), vi (f0_v38 i2), vi 3, vi 3, .unset, .unset, .unset, .unset, .unset, .unset, .unset, .unset] [(.int (i2 &&& (1 : Int32)))])) (fun t k => ?_) ?_
        · refine XS.iloadN X0.here hx rfl (hb hby at_65) rfl ?_
          refine XS.iconst X0.here hx rfl (hb hby at_66) ?_
          refine XS.iand X0.here hx rfl (hb hby at_67) rfl ?_
          exact k
        by_cases hc68 : (i2 &&& (1 : Int32)) = (0 : Int32)
        · refine Outs.of (U' := s₁.setTop (mkF m 75 #[vi i0, vi i1, vi i2, vi i3, vi i4, vi 0, vi 1, vi (f0_v33 i4), vi (f0_v38 i2), vi 3, vi 3, .unset, .unset, .unset, .unset, .unset, .unset, .unset, .unset] [])) (fun t k => ?_) ?_
          · refine XS.ifYes X0.here hx rfl (pc0 := 68) (pc' := 75) rfl (hb hby at_68) rfl ((if0 _ _).trans (teq hc68).1) (by decide) (by decide) ?_
            exact k
          refine Outs.of (U' := s₁.setTop (mkF m 152 #[vi i0, vi i1, vi i2, vi i3, vi i4, vi 0, vi 1, vi (f0_v33 i4), vi (f0_v38 i2), vi 3, vi 3, .unset, .unset, .unset, .unset, vi 0, vi 1, vi 3, vi 3] [(.int (8 : Int32))])) (fun t k => ?_) ?_
          · refine XS.iconst X0.here hx rfl (hb hby at_75) ?_
            refine XS.istore X0.here hx rfl (hb hby at_76) rfl (l' := #[vi i0, vi i1, vi i2, vi i3, vi i4, vi 0, vi 1, vi (f0_v33 i4), vi (f0_v38 i2), vi 3, vi 3, .unset, .unset, .unset, .unset, vi 0, .unset, .unset, .unset]) rfl ?_
            refine XS.iload X0.here hx rfl (hb hby at_78) rfl ?_
            refine XS.ifYes X0.here hx rfl (pc0 := 80) (pc' := 87) rfl (hb hby at_80) rfl ((if0 _ _).trans (teq (show (0 : Int32) = (0 : Int32) from (by decide))).1) (by decide) (by decide) ?_
            refine XS.iconst X0.here hx rfl (hb hby at_87) ?_
            refine XS.istore X0.here hx rfl (hb hby at_88) rfl (l' := #[vi i0, vi i1, vi i2, vi i3, vi i4, vi 0, vi 1, vi (f0_v33 i4), vi (f0_v38 i2), vi 3, vi 3, .unset, .unset, .unset, .unset, vi 0, vi 1, .unset, .unset]) rfl ?_
            refine XS.iload X0.here hx rfl (hb hby at_90) rfl ?_
            refine XS.iconst X0.here hx rfl (hb hby at_92) ?_
            refine XS.icmpNo X0.here hx rfl (hb hby at_93) rfl (teq (show (3 : Int32) = (3 : Int32) from (by decide))).2 ?_
            refine XS.iconst X0.here hx rfl (hb hby at_96) ?_
            refine XS.goto X0.here hx rfl (pc0 := 97) (pc' := 115) rfl (hb hby at_97) (by decide) (by decide) ?_
            refine XS.istore X0.here hx rfl (hb hby at_115) rfl (l' := #[vi i0, vi i1, vi i2, vi i3, vi i4, vi 0, vi 1, vi (f0_v33 i4), vi (f0_v38 i2), vi 3, vi 3, .unset, .unset, .unset, .unset, vi 0, vi 1, vi 3, .unset]) rfl ?_
            refine XS.iconst X0.here hx rfl (hb hby at_117) ?_
            refine XS.iload X0.here hx rfl (hb hby at_118) rfl ?_
            refine XS.ifNo X0.here hx rfl (hb hby at_120) rfl ((if0 _ _).trans (tlt (show (0 : Int32) < (3 : Int32) from (by decide))).2.2.2) ?_
            refine XS.iconst X0.here hx rfl (hb hby at_123) ?_
            refine XS.goto X0.here hx rfl (pc0 := 124) (pc' := 128) rfl (hb hby at_124) (by decide) (by decide) ?_
            refine XS.iadd X0.here hx rfl (hb hby at_128) rfl ?_
            refine XS.iload X0.here hx rfl (hb hby at_129) rfl ?_
            refine XS.ifNo X0.here hx rfl (hb hby at_131) rfl ((if0 _ _).trans (feq (show ¬ ((1 : Int32) = (0 : Int32)) from (by decide))).1) ?_
            refine XS.iconst X0.here hx rfl (hb hby at_134) ?_
            refine XS.goto X0.here hx rfl (pc0 := 135) (pc' := 139) rfl (hb hby at_135) (by decide) (by decide) ?_
            refine XS.iadd X0.here hx rfl (hb hby at_139) rfl ?_
            refine XS.istore X0.here hx rfl (hb hby at_140) rfl (l' := #[vi i0, vi i1, vi i2, vi i3, vi i4, vi 0, vi 1, vi (f0_v33 i4), vi (f0_v38 i2), vi 3, vi 3, .unset, .unset, .unset, .unset, vi 0, vi 1, vi 3, vi 3]) rfl ?_
            refine XS.iconst X0.here hx rfl (hb hby at_142) ?_
            refine XS.iload X0.here hx rfl (hb hby at_143) rfl ?_
            refine XS.iadd X0.here hx rfl (hb hby at_145) rfl ?_
            refine XS.iload X0.here hx rfl (hb hby at_146) rfl ?_
            refine XS.iadd X0.here hx rfl (hb hby at_148) rfl ?_
            refine XS.iload X0.here hx rfl (hb hby at_149) rfl ?_
            refine XS.iadd X0.here hx rfl (hb hby at_151) rfl ?_
            exact k
          obtain ⟨T189, h189, X189, e189, E189, A189, st189⟩ := newAF X0 hx hZ (aty := .byte) (hw _ (List.mem_of_getElem? (i := 1) rfl)) e0 (f := (mkF m 152 #[vi i0, vi i1, vi i2, vi i3, vi i4, vi 0, vi 1, vi (f0_v33 i4), vi (f0_v38 i2), vi 3, vi 3, .unset, .unset, .unset, .unset, vi 0, vi 1, vi 3, vi 3] [(.int (8 : Int32))])) rfl (hb hby at_152) rfl (k := 8) rfl (cap := 8) (by decide) (by decide) (by decide) (by decide)
          obtain ⟨b189, g189⟩ : ∃ z, z = h0.size := ⟨_, rfl⟩
          rw [← g189] at A189 st189
          have g_b189 : n0 ≤ b189 := Nat.le_trans Z0 (Nat.le_of_eq g189.symm)
          have V189 : AI Z h189 b189 .byte 8 (fun _ => (0 : Int32)) := A189
          refine Outs.of st189 ?_
          refine Outs.of (U' := T189.setTop (mkF m 166 #[vi i0, vi i1, vi i2, vi i3, vi i4, vi 0, vi 1, vi (f0_v33 i4), vi (f0_v38 i2), vi 3, vi 3, .val (.ref b189), .unset, .unset, .unset, vi 0, vi 1, vi 3, vi 3] [(.int ((131 : Int32).toInt8.toInt32)), (.int (0 : Int32)), (.ref b189)])) (fun t k => ?_) ?_
          · refine XS.astore X189.here hx rfl (hb hby at_154) rfl rfl (l' := #[vi i0, vi i1, vi i2, vi i3, vi i4, vi 0, vi 1, vi (f0_v33 i4), vi (f0_v38 i2), vi 3, vi 3, .val (.ref b189), .unset, .unset, .unset, vi 0, vi 1, vi 3, vi 3]) rfl ?_
            refine XS.aload X189.here hx rfl (hb hby at_156) rfl rfl ?_
            refine XS.iconst X189.here hx rfl (hb hby at_158) ?_
            refine XS.sipush X189.here hx rfl (hb hby at_159) ?_
            refine XS.iload X189.here hx rfl (hb hby at_162) rfl ?_
            refine XS.iadd X189.here hx rfl (hb hby at_164) rfl ?_
            refine XS.i2b X189.here hx rfl (hb hby at_165) rfl ?_
            exact k
          obtain ⟨T190, h190, X190, e190, W190, V190, st190⟩ := puB X189 hx hZ e189 V189 (j := (0 : Int32)) (x := ((131 : Int32).toInt8.toInt32)) (k := 0) rfl (by decide) (f := (mkF m 166 #[vi i0, vi i1, vi i2, vi i3, vi i4, vi 0, vi 1, vi (f0_v33 i4), vi (f0_v38 i2), vi 3, vi 3, .val (.ref b189), .unset, .unset, .unset, vi 0, vi 1, vi 3, vi 3] [(.int ((131 : Int32).toInt8.toInt32)), (.int (0 : Int32)), (.ref b189)])) rfl rfl (hb hby at_166)
          replace V190 : AI Z h190 b189 .byte 8 f0_g166b := V190
          have N190 := Fr.snoc X190 N0 g_b189
          obtain ⟨Lh190, X190, N190⟩ := hide X190 N190 (C := 1) (S := 8) (by decide) (by decide)
          refine Outs.of st190 ?_
          refine Outs.of (U' := T190.setTop (mkF m 206 #[vi i0, vi i1, vi i2, vi i3, vi i4, vi 0, vi 1, vi (f0_v33 i4), vi (f0_v38 i2), vi 3, vi 3, .val (.ref b189), .unset, .unset, .unset, vi 0, vi 1, vi 3, vi 3] [(.int (((32 : Int32) + ((f0_v38 i2) % (24 : Int32))).toInt8.toInt32)), (.int (1 : Int32)), (.ref b189)])) (fun t k => ?_) ?_
          · refine XS.iload X190.here hx rfl (hb hby at_167) rfl ?_
            refine XS.ifYes X190.here hx rfl (pc0 := 169) (pc' := 194) rfl (hb hby at_169) rfl ((if0 _ _).trans (teq (show (0 : Int32) = (0 : Int32) from (by decide))).1) (by decide) (by decide) ?_
            refine XS.aload X190.here hx rfl (hb hby at_194) rfl rfl ?_
            refine XS.iconst X190.here hx rfl (hb hby at_196) ?_
            refine XS.bipush X190.here hx rfl (hb hby at_197) ?_
            refine XS.iload X190.here hx rfl (hb hby at_199) rfl ?_
            refine XS.bipush X190.here hx rfl (hb hby at_201) ?_
            refine iremM X190 hx rfl (hb hby at_203) rfl (by decide) ?_
            refine XS.iadd X190.here hx rfl (hb hby at_204) rfl ?_
            refine XS.i2b X190.here hx rfl (hb hby at_205) rfl ?_
            exact k
          obtain ⟨T191, h191, X191, e191, W191, V191, st191⟩ := puB X190 hx hZ e190 V190 (j := (1 : Int32)) (x := (((32 : Int32) + ((f0_v38 i2) % (24 : Int32))).toInt8.toInt32)) (k := 1) rfl (by decide) (f := (mkF m 206 #[vi i0, vi i1, vi i2, vi i3, vi i4, vi 0, vi 1, vi (f0_v33 i4), vi (f0_v38 i2), vi 3, vi 3, .val (.ref b189), .unset, .unset, .unset, vi 0, vi 1, vi 3, vi 3] [(.int (((32 : Int32) + ((f0_v38 i2) % (24 : Int32))).toInt8.toInt32)), (.int (1 : Int32)), (.ref b189)])) rfl rfl (hb hby at_206)
          replace V191 : AI Z h191 b189 .byte 8 (f0_g206b i2) := V191
          have N191 := Fr.snoc X191 N190 g_b189
          obtain ⟨Lh191, X191, N191⟩ := hide X191 N191 (C := 1) (S := 8) (by decide) (by decide)
          refine Outs.of st191 ?_
          refine Outs.of (U' := T191.setTop (mkF m 277 #[vi i0, vi i1, vi i2, vi i3, vi i4, vi 0, vi 1, vi (f0_v33 i4), vi (f0_v38 i2), vi 3, vi 3, .val (.ref b189), vi 2, .unset, .unset, vi 0, vi 1, vi 3, vi 3] [(.int (-127 : Int32)), (.int (2 : Int32)), (.ref b189)])) (fun t k => ?_) ?_
          · refine XS.iconst X191.here hx rfl (hb hby at_207) ?_
            refine XS.iload X191.here hx rfl (hb hby at_208) rfl ?_
            refine XS.iadd X191.here hx rfl (hb hby at_210) rfl ?_
            refine XS.istore X191.here hx rfl (hb hby at_211) rfl (l' := #[vi i0, vi i1, vi i2, vi i3, vi i4, vi 0, vi 1, vi (f0_v33 i4), vi (f0_v38 i2), vi 3, vi 3, .val (.ref b189), vi 2, .unset, .unset, vi 0, vi 1, vi 3, vi 3]) rfl ?_
            refine XS.iload X191.here hx rfl (hb hby at_213) rfl ?_
            refine XS.ifYes X191.here hx rfl (pc0 := 215) (pc' := 233) rfl (hb hby at_215) rfl ((if0 _ _).trans (feq (show ¬ ((3 : Int32) = (0 : Int32)) from (by decide))).2) (by decide) (by decide) ?_
            refine XS.iload X191.here hx rfl (hb hby at_233) rfl ?_
            refine XS.iconst X191.here hx rfl (hb hby at_235) ?_
            refine XS.icmpYes X191.here hx rfl (pc0 := 236) (pc' := 249) rfl (hb hby at_236) rfl (feq (show ¬ ((3 : Int32) = (1 : Int32)) from (by decide))).2 (by decide) (by decide) ?_
            refine XS.iload X191.here hx rfl (hb hby at_249) rfl ?_
            refine XS.iconst X191.here hx rfl (hb hby at_251) ?_
            refine XS.icmpYes X191.here hx rfl (pc0 := 252) (pc' := 265) rfl (hb hby at_252) rfl (feq (show ¬ ((3 : Int32) = (2 : Int32)) from (by decide))).2 (by decide) (by decide) ?_
            refine XS.iload X191.here hx rfl (hb hby at_265) rfl ?_
            refine XS.iconst X191.here hx rfl (hb hby at_267) ?_
            refine XS.icmpNo X191.here hx rfl (hb hby at_268) rfl (teq (show (3 : Int32) = (3 : Int32) from (by decide))).2 ?_
            refine XS.aload X191.here hx rfl (hb hby at_271) rfl rfl ?_
            refine XS.iload X191.here hx rfl (hb hby at_273) rfl ?_
            refine XS.bipush X191.here hx rfl (hb hby at_275) ?_
            exact k
          obtain ⟨T192, h192, X192, e192, W192, V192, st192⟩ := puB X191 hx hZ e191 V191 (j := (2 : Int32)) (x := (-127 : Int32)) (k := 2) rfl (by decide) (f := (mkF m 277 #[vi i0, vi i1, vi i2, vi i3, vi i4, vi 0, vi 1, vi (f0_v33 i4), vi (f0_v38 i2), vi 3, vi 3, .val (.ref b189), vi 2, .unset, .unset, vi 0, vi 1, vi 3, vi 3] [(.int (-127 : Int32)), (.int (2 : Int32)), (.ref b189)])) rfl rfl (hb hby at_277)
          replace V192 : AI Z h192 b189 .byte 8 (f0_g277b i2) := V192
          have N192 := Fr.snoc X192 N191 g_b189
          obtain ⟨Lh192, X192, N192⟩ := hide X192 N192 (C := 1) (S := 8) (by decide) (by decide)
          refine Outs.of st192 ?_
          refine Outs.of (U' := T192.setTop (mkF m 286 #[vi i0, vi i1, vi i2, vi i3, vi i4, vi 0, vi 1, vi (f0_v33 i4), vi (f0_v38 i2), vi 3, vi 3, .val (.ref b189), vi 2, .unset, .unset, vi 0, vi 1, vi 3, vi 3] [(.int (97 : Int32)), (.int (3 : Int32)), (.ref b189)])) (fun t k => ?_) ?_
          · refine XS.aload X192.here hx rfl (hb hby at_278) rfl rfl ?_
            refine XS.iload X192.here hx rfl (hb hby at_280) rfl ?_
            refine XS.iconst X192.here hx rfl (hb hby at_282) ?_
            refine XS.iadd X192.here hx rfl (hb hby at_283) rfl ?_
            refine XS.bipush X192.here hx rfl (hb hby at_284) ?_
            exact k
          obtain ⟨T193, h193, X193, e193, W193, V193, st193⟩ := puB X192 hx hZ e192 V192 (j := (3 : Int32)) (x := (97 : Int32)) (k := 3) rfl (by decide) (f := (mkF m 286 #[vi i0, vi i1, vi i2, vi i3, vi i4, vi 0, vi 1, vi (f0_v33 i4), vi (f0_v38 i2), vi 3, vi 3, .val (.ref b189), vi 2, .unset, .unset, vi 0, vi 1, vi 3, vi 3] [(.int (97 : Int32)), (.int (3 : Int32)), (.ref b189)])) rfl rfl (hb hby at_286)
          replace V193 : AI Z h193 b189 .byte 8 (f0_g286b i2) := V193
          have N193 := Fr.snoc X193 N192 g_b189
          obtain ⟨Lh193, X193, N193⟩ := hide X193 N193 (C := 1) (S := 8) (by decide) (by decide)
          refine Outs.of st193 ?_
          refine Outs.of (U' := T193.setTop (mkF m 295 #[vi i0, vi i1, vi i2, vi i3, vi i4, vi 0, vi 1, vi (f0_v33 i4), vi (f0_v38 i2), vi 3, vi 3, .val (.ref b189), vi 2, .unset, .unset, vi 0, vi 1, vi 3, vi 3] [(.int (f0_v33 i4)), (.int (4 : Int32)), (.ref b189)])) (fun t k => ?_) ?_
          · refine XS.aload X193.here hx rfl (hb hby at_287) rfl rfl ?_
            refine XS.iload X193.here hx rfl (hb hby at_289) rfl ?_
            refine XS.iconst X193.here hx rfl (hb hby at_291) ?_
            refine XS.iadd X193.here hx rfl (hb hby at_292) rfl ?_
            refine XS.iload X193.here hx rfl (hb hby at_293) rfl ?_
            exact k
          obtain ⟨T194, h194, X194, e194, W194, V194, st194⟩ := puB X193 hx hZ e193 V193 (j := (4 : Int32)) (x := (f0_v33 i4)) (k := 4) rfl (by decide) (f := (mkF m 295 #[vi i0, vi i1, vi i2, vi i3, vi i4, vi 0, vi 1, vi (f0_v33 i4), vi (f0_v38 i2), vi 3, vi 3, .val (.ref b189), vi 2, .unset, .unset, vi 0, vi 1, vi 3, vi 3] [(.int (f0_v33 i4)), (.int (4 : Int32)), (.ref b189)])) rfl rfl (hb hby at_295)
          replace V194 : AI Z h194 b189 .byte 8 (f0_g295b i2 i4) := V194
          have N194 := Fr.snoc X194 N193 g_b189
          obtain ⟨Lh194, X194, N194⟩ := hide X194 N194 (C := 1) (S := 8) (by decide) (by decide)
          refine Outs.of st194 ?_
          refine Outs.of (U' := T194.setTop (mkF m 526 #[vi i0, vi i1, vi i2, vi i3, vi i4, vi 0, vi 1, vi (f0_v33 i4), vi (f0_v38 i2), vi 3, vi 3, .val (.ref b189), vi 2, vi 5, vi 0, vi 0, vi 1, vi 3, vi 3] [(.int (-127 : Int32)), (.int (5 : Int32)), (.ref b189)])) (fun t k => ?_) ?_
          · refine XS.iload X194.here hx rfl (hb hby at_296) rfl ?_
            refine XS.iload X194.here hx rfl (hb hby at_298) rfl ?_
            refine XS.iadd X194.here hx rfl (hb hby at_300) rfl ?_
            refine XS.istore X194.here hx rfl (hb hby at_301) rfl (l' := #[vi i0, vi i1, vi i2, vi i3, vi i4, vi 0, vi 1, vi (f0_v33 i4), vi (f0_v38 i2), vi 3, vi 3, .val (.ref b189), vi 2, vi 5, .unset, vi 0, vi 1, vi 3, vi 3]) rfl ?_
            refine XS.iload X194.here hx rfl (hb hby at_303) rfl ?_
            refine XS.iconst X194.here hx rfl (hb hby at_305) ?_
            refine XS.icmpYes X194.here hx rfl (pc0 := 306) (pc' := 313) rfl (hb hby at_306) rfl (feq (show ¬ ((3 : Int32) = (1 : Int32)) from (by decide))).2 (by decide) (by decide) ?_
            refine XS.iconst X194.here hx rfl (hb hby at_313) ?_
            refine XS.istore X194.here hx rfl (hb hby at_314) rfl (l' := #[vi i0, vi i1, vi i2, vi i3, vi i4, vi 0, vi 1, vi (f0_v33 i4), vi (f0_v38 i2), vi 3, vi 3, .val (.ref b189), vi 2, vi 5, vi 0, vi 0, vi 1, vi 3, vi 3]) rfl ?_
            refine XS.goto X194.here hx rfl (pc0 := 316) (pc' := 515) rfl (hb hby at_316) (by decide) (by decide) ?_
            refine XS.iload X194.here hx rfl (hb hby at_515) rfl ?_
            refine XS.ifNo X194.here hx rfl (hb hby at_517) rfl ((if0 _ _).trans (feq (show ¬ ((1 : Int32) = (0 : Int32)) from (by decide))).1) ?_
            refine XS.aload X194.here hx rfl (hb hby at_520) rfl rfl ?_
            refine XS.iload X194.here hx rfl (hb hby at_522) rfl ?_
            refine XS.bipush X194.here hx rfl (hb hby at_524) ?_
            exact k
          obtain ⟨T195, h195, X195, e195, W195, V195, st195⟩ := puB X194 hx hZ e194 V194 (j := (5 : Int32)) (x := (-127 : Int32)) (k := 5) rfl (by decide) (f := (mkF m 526 #[vi i0, vi i1, vi i2, vi i3, vi i4, vi 0, vi 1, vi (f0_v33 i4), vi (f0_v38 i2), vi 3, vi 3, .val (.ref b189), vi 2, vi 5, vi 0, vi 0, vi 1, vi 3, vi 3] [(.int (-127 : Int32)), (.int (5 : Int32)), (.ref b189)])) rfl rfl (hb hby at_526)
          replace V195 : AI Z h195 b189 .byte 8 (f0_g526f i2 i4) := V195
          have N195 := Fr.snoc X195 N194 g_b189
          obtain ⟨Lh195, X195, N195⟩ := hide X195 N195 (C := 1) (S := 8) (by decide) (by decide)
          refine Outs.of st195 ?_
          refine Outs.of (U' := T195.setTop (mkF m 535 #[vi i0, vi i1, vi i2, vi i3, vi i4, vi 0, vi 1, vi (f0_v33 i4), vi (f0_v38 i2), vi 3, vi 3, .val (.ref b189), vi 2, vi 5, vi 0, vi 0, vi 1, vi 3, vi 3] [(.int (97 : Int32)), (.int (6 : Int32)), (.ref b189)])) (fun t k => ?_) ?_
          · refine XS.aload X195.here hx rfl (hb hby at_527) rfl rfl ?_
            refine XS.iload X195.here hx rfl (hb hby at_529) rfl ?_
            refine XS.iconst X195.here hx rfl (hb hby at_531) ?_
            refine XS.iadd X195.here hx rfl (hb hby at_532) rfl ?_
            refine XS.bipush X195.here hx rfl (hb hby at_533) ?_
            exact k
          obtain ⟨T196, h196, X196, e196, W196, V196, st196⟩ := puB X195 hx hZ e195 V195 (j := (6 : Int32)) (x := (97 : Int32)) (k := 6) rfl (by decide) (f := (mkF m 535 #[vi i0, vi i1, vi i2, vi i3, vi i4, vi 0, vi 1, vi (f0_v33 i4), vi (f0_v38 i2), vi 3, vi 3, .val (.ref b189), vi 2, vi 5, vi 0, vi 0, vi 1, vi 3, vi 3] [(.int (97 : Int32)), (.int (6 : Int32)), (.ref b189)])) rfl rfl (hb hby at_535)
          replace V196 : AI Z h196 b189 .byte 8 (f0_g535f i2 i4) := V196
          have N196 := Fr.snoc X196 N195 g_b189
          obtain ⟨Lh196, X196, N196⟩ := hide X196 N196 (C := 1) (S := 8) (by decide) (by decide)
          refine Outs.of st196 ?_
          refine Outs.of (U' := T196.setTop (mkF m 544 #[vi i0, vi i1, vi i2, vi i3, vi i4, vi 0, vi 1, vi (f0_v33 i4), vi (f0_v38 i2), vi 3, vi 3, .val (.ref b189), vi 2, vi 5, vi 0, vi 0, vi 1, vi 3, vi 3] [(.int (f0_v33 i4)), (.int (7 : Int32)), (.ref b189)])) (fun t k => ?_) ?_
          · refine XS.aload X196.here hx rfl (hb hby at_536) rfl rfl ?_
            refine XS.iload X196.here hx rfl (hb hby at_538) rfl ?_
            refine XS.iconst X196.here hx rfl (hb hby at_540) ?_
            refine XS.iadd X196.here hx rfl (hb hby at_541) rfl ?_
            refine XS.iload X196.here hx rfl (hb hby at_542) rfl ?_
            exact k
          obtain ⟨T197, h197, X197, e197, W197, V197, st197⟩ := puB X196 hx hZ e196 V196 (j := (7 : Int32)) (x := (f0_v33 i4)) (k := 7) rfl (by decide) (f := (mkF m 544 #[vi i0, vi i1, vi i2, vi i3, vi i4, vi 0, vi 1, vi (f0_v33 i4), vi (f0_v38 i2), vi 3, vi 3, .val (.ref b189), vi 2, vi 5, vi 0, vi 0, vi 1, vi 3, vi 3] [(.int (f0_v33 i4)), (.int (7 : Int32)), (.ref b189)])) rfl rfl (hb hby at_544)
          replace V197 : AI Z h197 b189 .byte 8 (f0_g544f i2 i4) := V197
          have N197 := Fr.snoc X197 N196 g_b189
          obtain ⟨Lh197, X197, N197⟩ := hide X197 N197 (C := 1) (S := 8) (by decide) (by decide)
          refine Outs.of st197 ?_
          refine Outs.of (U' := T197.setTop (mkF m 552 #[vi i0, vi i1, vi i2, vi i3, vi i4, vi 0, vi 1, vi (f0_v33 i4), vi (f0_v38 i2), vi 3, vi 3, .val (.ref b189), vi 2, vi 5, vi 0, vi 8, vi 1, vi 3, vi 3] [])) (fun t k => ?_) ?_
          · refine XS.iload X197.here hx rfl (hb hby at_545) rfl ?_
            refine XS.iload X197.here hx rfl (hb hby at_547) rfl ?_
            refine XS.iadd X197.here hx rfl (hb hby at_549) rfl ?_
            refine XS.istore X197.here hx rfl (hb hby at_550) rfl (l' := #[vi i0, vi i1, vi i2, vi i3, vi i4, vi 0, vi 1, vi (f0_v33 i4), vi (f0_v38 i2), vi 3, vi 3, .val (.ref b189), vi 2, vi 5, vi 0, vi 8, vi 1, vi 3, vi 3]) rfl ?_
            exact k
          obtain ⟨T198, h198, X198, e198, E198, A198, D198, -, st198⟩ := newO X197 hx hZ hown (hw _ (List.mem_of_getElem? (i := 2) rfl)) (hw _ (List.mem_of_getElem? (i := 3) rfl)) (hw _ (List.mem_of_getElem? (i := 4) rfl)) e197 (g := (mkF m 552 #[vi i0, vi i1, vi i2, vi i3, vi i4, vi 0, vi 1, vi (f0_v33 i4), vi (f0_v38 i2), vi 3, vi 3, .val (.ref b189), vi 2, vi 5, vi 0, vi 8, vi 1, vi 3, vi 3] [])) rfl (hb hby at_552) (by decide) (by decide)
          obtain ⟨b198, g198⟩ : ∃ z, z = h197.size := ⟨_, rfl⟩
          rw [← g198] at A198 D198 st198
          have g_b198 : n0 ≤ b198 := Nat.le_trans (Nat.le_trans (Nat.le_trans (Nat.le_trans (Nat.le_trans (Nat.le_trans (Nat.le_trans (Nat.le_trans (Nat.le_trans (Nat.le_trans Z0 E189.1) (Keep.of_wr W190).1) (Keep.of_wr W191).1) (Keep.of_wr W192).1) (Keep.of_wr W193).1) (Keep.of_wr W194).1) (Keep.of_wr W195).1) (Keep.of_wr W196).1) (Keep.of_wr W197).1) (Nat.le_of_eq g198.symm)
          have ne_b189_b198 : b189 ≠ b198 := Nat.ne_of_lt (Nat.lt_of_lt_of_eq V197.lt g198.symm)
          have F198_12 : Fld Z h198 b198 "com/example/brief_locator/brieflocator/interchange/CanonicalForm" "bytes" "[B" .null := D198 (Or.inr (hw _ (List.mem_of_getElem? (i := 12) rfl))) (ty := (.array .byte)) (by decide)
          have F198_14 : Fld Z h198 b198 "com/example/brief_locator/brieflocator/interchange/CanonicalForm" "firstEnd" "I" (.int (0 : Int32)) := D198 (Or.inr (hw _ (List.mem_of_getElem? (i := 14) rfl))) (ty := .int) (by decide)
          have F198_16 : Fld Z h198 b198 "com/example/brief_locator/brieflocator/interchange/CanonicalForm" "pathStart" "I" (.int (0 : Int32)) := D198 (Or.inr (hw _ (List.mem_of_getElem? (i := 16) rfl))) (ty := .int) (by decide)
          have F198_18 : Fld Z h198 b198 "com/example/brief_locator/brieflocator/interchange/CanonicalForm" "pathEnd" "I" (.int (0 : Int32)) := D198 (Or.inr (hw _ (List.mem_of_getElem? (i := 18) rfl))) (ty := .int) (by decide)
          have F198_20 : Fld Z h198 b198 "com/example/brief_locator/brieflocator/interchange/CanonicalForm" "queryEnd" "I" (.int (0 : Int32)) := D198 (Or.inr (hw _ (List.mem_of_getElem? (i := 20) rfl))) (ty := .int) (by decide)
          have F198_25 : Fld Z h198 b198 "com/example/brief_locator/brieflocator/interchange/CanonicalForm" "hasScheme" "Z" (.int (0 : Int32)) := D198 (Or.inr (hw _ (List.mem_of_getElem? (i := 25) rfl))) (ty := .boolean) (by decide)
          have F198_27 : Fld Z h198 b198 "com/example/brief_locator/brieflocator/interchange/CanonicalForm" "hasAuthority" "Z" (.int (0 : Int32)) := D198 (Or.inr (hw _ (List.mem_of_getElem? (i := 27) rfl))) (ty := .boolean) (by decide)
          have F198_37 : Fld Z h198 b198 "com/example/brief_locator/brieflocator/interchange/CanonicalForm" "pathSegments" "I" (.int (0 : Int32)) := D198 (Or.inr (hw _ (List.mem_of_getElem? (i := 37) rfl))) (ty := .int) (by decide)
          have F198_52 : Fld Z h198 b198 "com/example/brief_locator/brieflocator/interchange/CanonicalForm" "pathSegmentsStart" "I" (.int (0 : Int32)) := D198 (Or.inr (hw _ (List.mem_of_getElem? (i := 52) rfl))) (ty := .int) (by decide)
          refine Outs.of st198 ?_
          refine Outs.of (U' := T198.setTop (mkF m 566 #[vi i0, vi i1, vi i2, vi i3, vi i4, vi 0, vi 1, vi (f0_v33 i4), vi (f0_v38 i2), vi 3, vi 3, .val (.ref b189), vi 2, vi 5, vi 0, vi 8, vi 1, vi 3, vi 3] [(.int (8 : Int32)), (.int (8 : Int32)), (.int (5 : Int32)), (.int (2 : Int32)), (.ref b189), (.ref b198), (.ref b198)])) (fun t k => ?_) ?_
          · refine XS.dup X198.here hx rfl (hb hby at_555) rfl rfl ?_
            refine XS.aload X198.here hx rfl (hb hby at_556) rfl rfl ?_
            refine XS.iload X198.here hx rfl (hb hby at_558) rfl ?_
            refine XS.iload X198.here hx rfl (hb hby at_560) rfl ?_
            refine XS.iload X198.here hx rfl (hb hby at_562) rfl ?_
            refine XS.iload X198.here hx rfl (hb hby at_564) rfl ?_
            exact k
          have f200 : AI Z h198 b189 .byte 8 (f0_g544f i2 i4) := (V197.ext E198)
          obtain ⟨_, _, ⟨T199, L199, k199, n199⟩, -, X199, ⟨Lc199, hQ199, l199, y199, z199⟩, st199⟩ := X198.specialBack hx (y := (⟨"com/example/brief_locator/brieflocator/interchange/CanonicalForm", "<init>", "([BIIII)V"⟩ : MethodName)) rfl hown (mvT hZ (hw _ (List.mem_of_getElem? (i := 5) rfl))) (mvT hZ (hw _ (List.mem_of_getElem? (i := 6) rfl))) (mvT hZ (hw _ (List.mem_of_getElem? (i := 7) rfl))) (by decide) (backOf (W := 1) (rmctp l Z a0 hw [] b198 b189 (2 : Int32) (5 : Int32) (8 : Int32) (8 : Int32) 8 (f0_g544f i2 i4) 5 h198 n0 (Nat.le_trans (Nat.le_trans (Nat.le_trans (Nat.le_trans (Nat.le_trans (Nat.le_trans (Nat.le_trans (Nat.le_trans (Nat.le_trans (Nat.le_trans Z0 E189.1) (Keep.of_wr W190).1) (Keep.of_wr W191).1) (Keep.of_wr W192).1) (Keep.of_wr W193).1) (Keep.of_wr W194).1) (Keep.of_wr W195).1) (Keep.of_wr W196).1) (Keep.of_wr W197).1) E198.1) A198 g_b198 F198_12 F198_14 F198_16 F198_18 F198_20 F198_25 F198_27 F198_37 F198_52 f200 ne_b189_b198 (by decide) rfl (by decide) rfl (by decide) (by decide)) hZ (hw _ (List.mem_of_getElem? (i := 7) rfl)) (hw _ (List.mem_of_getElem? (i := 4) rfl)) (by decide) (by decide)) (g := (mkF m 566 #[vi i0, vi i1, vi i2, vi i3, vi i4, vi 0, vi 1, vi (f0_v33 i4), vi (f0_v38 i2), vi 3, vi 3, .val (.ref b189), vi 2, vi 5, vi 0, vi 8, vi 1, vi 3, vi 3] [(.int (8 : Int32)), (.int (8 : Int32)), (.int (5 : Int32)), (.int (2 : Int32)), (.ref b189), (.ref b198), (.ref b198)])) rfl (by rw [hml]; rfl) (Steps.refl _) (a := b198) (argsL := [(.ref b189), (.int (2 : Int32)), (.int (5 : Int32)), (.int (8 : Int32)), (.int (8 : Int32))]) (rest := [(.ref b198)]) (lenOf pd_0 rfl) rfl (by show 2 * 0 + _ ≤ _; exact Nat.le_of_eq rfl) (hb hby at_566) (fun _ _ => ⟨rfl, e198, (by decide : 2 + 0 ≤ _), (by decide : 18 + 0 ≤ _)⟩)
          dsimp only [Pt.U, Pt.locs, Pt.cells, Pt.slots] at X199 l199 y199 z199 st199 hQ199
          subst l199 y199 z199
          obtain ⟨rfl, N199q, K199, u199_0, u199_1, u199_2, u199_3, u199_4⟩ := hQ199
          have N199 := Fr.app N197 N199q
          obtain ⟨Lh199, X199, N199⟩ := hide X199 N199 (C := 2) (S := 18) (by decide) (by decide)
          refine Outs.to st199 ?_
          refine Outs.of (U' := T199.setTop (mkF m 573 #[vi i0, vi i1, vi i2, vi i3, vi i4, vi 0, vi 1, vi (f0_v33 i4), vi (f0_v38 i2), vi 3, vi 3, .val (.ref b189), vi 2, vi 5, vi 0, vi 8, .val (.ref b198), vi 3, vi 3] [(.ref b198)])) (fun t k => ?_) ?_
          · refine XS.astore X199.here hx rfl (hb hby at_569) rfl rfl (l' := #[vi i0, vi i1, vi i2, vi i3, vi i4, vi 0, vi 1, vi (f0_v33 i4), vi (f0_v38 i2), vi 3, vi 3, .val (.ref b189), vi 2, vi 5, vi 0, vi 8, .val (.ref b198), vi 3, vi 3]) rfl ?_
            refine XS.aload X199.here hx rfl (hb hby at_571) rfl rfl ?_
            exact k
          have f202 : AI Z T199.heap b189 .byte 8 (f0_g544f i2 i4) := (f200.keep K199 (ninS ne_b189_b198 nin0))
          obtain ⟨cq201, kq201, q201a, q201b, q201c⟩ := isOf hZ rfl u199_0
          obtain ⟨_, _, ⟨T201, L201, k201, n201⟩, -, X201, ⟨Lc201, hQ201, l201, y201, z201⟩, st201⟩ := X199.virtualBack hx (y := (⟨"com/example/brief_locator/brieflocator/interchange/CanonicalForm", "hasRootlessAuthority", "()Z"⟩ : MethodName)) (z := (⟨"com/example/brief_locator/brieflocator/interchange/CanonicalForm", "hasRootlessAuthority", "()Z"⟩ : MethodName)) hown (mvT hZ (hw _ (List.mem_of_getElem? (i := 53) rfl))) (mvT hZ (hw _ (List.mem_of_getElem? (i := 54) rfl))) (notFace_of_selects (args := #[]) (mvT hZ (hw _ (List.mem_of_getElem? (i := 56) rfl)))) (mvT hZ (hw _ (List.mem_of_getElem? (i := 56) rfl))) (mvT hZ (hw _ (List.mem_of_getElem? (i := 55) rfl))) (by decide) (backOf (W := 0) (rmhr l Z a0 hw [] b198 (ctp_out4 (2 : Int32) (5 : Int32) (8 : Int32) (8 : Int32) 8 (f0_g544f i2 i4) 5) (5 : Int32) (2 : Int32) b189 8 (f0_g544f i2 i4) 2 T199.heap n0 u199_0 u199_4 u199_3 u199_2 u199_1 f202 rfl (by decide)) hZ (hw _ (List.mem_of_getElem? (i := 57) rfl)) (hw _ (List.mem_of_getElem? (i := 4) rfl)) (by decide) (by decide)) q201a q201c (g := (mkF m 573 #[vi i0, vi i1, vi i2, vi i3, vi i4, vi 0, vi 1, vi (f0_v33 i4), vi (f0_v38 i2), vi 3, vi 3, .val (.ref b189), vi 2, vi 5, vi 0, vi 8, .val (.ref b198), vi 3, vi 3] [(.ref b198)])) rfl (by rw [hml]; rfl) (Steps.refl _) (argsL := []) (rest := []) (lenOf pd_7 rfl) rfl (by show 2 * 0 + _ ≤ _; exact Nat.le_of_eq rfl) (hb hby at_573) (fun _ _ => ⟨rfl, rfl, (by decide : 2 + 0 ≤ _), (by decide : 18 + 0 ≤ _)⟩)
          dsimp only [Pt.U, Pt.locs, Pt.cells, Pt.slots] at X201 l201 y201 z201 st201 hQ201
          subst l201 y201 z201
          obtain ⟨rfl, N201q, e201⟩ := hQ201
          have N201 := Fr.app N199 N201q
          obtain ⟨Lh201, X201, N201⟩ := hide X201 N201 (C := 2) (S := 18) (by decide) (by decide)
          refine Outs.to st201 ?_
          refine Outs.of (U' := T201.setTop (mkF m 586 #[vi i0, vi i1, vi i2, vi i3, vi i4, vi 0, vi 1, vi (f0_v33 i4), vi (f0_v38 i2), vi 3, vi 3, .val (.ref b189), vi 2, vi 5, vi 0, vi 8, .val (.ref b198), vi 3, vi 3] [(.int (1 : Int32))])) (fun t k => ?_) ?_
          · refine XS.iload X201.here hx rfl (hb hby at_576) rfl ?_
            refine XS.icmpNo X201.here hx rfl (hb hby at_578) rfl (teq (law_x18 i0 i1 i2 i3 i4 hc11 hc68)).2 ?_
            refine XS.iconst X201.here hx rfl (hb hby at_581) ?_
            refine XS.goto X201.here hx rfl (pc0 := 582) (pc' := 586) rfl (hb hby at_582) (by decide) (by decide) ?_
            exact k
          exact Outs.retN (t := .boolean) (z := (1 : Int32)) X201 hx hret (by simp) (hb hby at_586) hlk (by decide) (by decide) e201 ⟨rfl, N201⟩
        · refine Outs.of (U' := s₁.setTop (mkF m 71 #[vi i0, vi i1, vi i2, vi i3, vi i4, vi 0, vi 1, vi (f0_v33 i4), vi (f0_v38 i2), vi 3, vi 3, .unset, .unset, .unset, .unset, .unset, .unset, .unset, .unset] [])) (fun t k => ?_) ?_
          · refine XS.ifNo X0.here hx rfl (hb hby at_68) rfl ((if0 _ _).trans (feq hc68).1) ?_
            exact k
          refine Outs.of (U' := s₁.setTop (mkF m 152 #[vi i0, vi i1, vi i2, vi i3, vi i4, vi 0, vi 1, vi (f0_v33 i4), vi (f0_v38 i2), vi 3, vi 3, .unset, .unset, .unset, .unset, vi 1, vi 2, vi 3, vi 3] [(.int (9 : Int32))])) (fun t k => ?_) ?_
          · refine XS.iconst X0.here hx rfl (hb hby at_71) ?_
            refine XS.goto X0.here hx rfl (pc0 := 72) (pc' := 76) rfl (hb hby at_72) (by decide) (by decide) ?_
            refine XS.istore X0.here hx rfl (hb hby at_76) rfl (l' := #[vi i0, vi i1, vi i2, vi i3, vi i4, vi 0, vi 1, vi (f0_v33 i4), vi (f0_v38 i2), vi 3, vi 3, .unset, .unset, .unset, .unset, vi 1, .unset, .unset, .unset]) rfl ?_
            refine XS.iload X0.here hx rfl (hb hby at_78) rfl ?_
            refine XS.ifNo X0.here hx rfl (hb hby at_80) rfl ((if0 _ _).trans (feq (show ¬ ((1 : Int32) = (0 : Int32)) from (by decide))).1) ?_
            refine XS.iconst X0.here hx rfl (hb hby at_83) ?_
            refine XS.goto X0.here hx rfl (pc0 := 84) (pc' := 88) rfl (hb hby at_84) (by decide) (by decide) ?_
            refine XS.istore X0.here hx rfl (hb hby at_88) rfl (l' := #[vi i0, vi i1, vi i2, vi i3, vi i4, vi 0, vi 1, vi (f0_v33 i4), vi (f0_v38 i2), vi 3, vi 3, .unset, .unset, .unset, .unset, vi 1, vi 2, .unset, .unset]) rfl ?_
            refine XS.iload X0.here hx rfl (hb hby at_90) rfl ?_
            refine XS.iconst X0.here hx rfl (hb hby at_92) ?_
            refine XS.icmpNo X0.here hx rfl (hb hby at_93) rfl (teq (show (3 : Int32) = (3 : Int32) from (by decide))).2 ?_
            refine XS.iconst X0.here hx rfl (hb hby at_96) ?_
            refine XS.goto X0.here hx rfl (pc0 := 97) (pc' := 115) rfl (hb hby at_97) (by decide) (by decide) ?_
            refine XS.istore X0.here hx rfl (hb hby at_115) rfl (l' := #[vi i0, vi i1, vi i2, vi i3, vi i4, vi 0, vi 1, vi (f0_v33 i4), vi (f0_v38 i2), vi 3, vi 3, .unset, .unset, .unset, .unset, vi 1, vi 2, vi 3, .unset]) rfl ?_
            refine XS.iconst X0.here hx rfl (hb hby at_117) ?_
            refine XS.iload X0.here hx rfl (hb hby at_118) rfl ?_
            refine XS.ifNo X0.here hx rfl (hb hby at_120) rfl ((if0 _ _).trans (tlt (show (0 : Int32) < (3 : Int32) from (by decide))).2.2.2) ?_
            refine XS.iconst X0.here hx rfl (hb hby at_123) ?_
            refine XS.goto X0.here hx rfl (pc0 := 124) (pc' := 128) rfl (hb hby at_124) (by decide) (by decide) ?_
            refine XS.iadd X0.here hx rfl (hb hby at_128) rfl ?_
            refine XS.iload X0.here hx rfl (hb hby at_129) rfl ?_
            refine XS.ifNo X0.here hx rfl (hb hby at_131) rfl ((if0 _ _).trans (feq (show ¬ ((1 : Int32) = (0 : Int32)) from (by decide))).1) ?_
            refine XS.iconst X0.here hx rfl (hb hby at_134) ?_
            refine XS.goto X0.here hx rfl (pc0 := 135) (pc' := 139) rfl (hb hby at_135) (by decide) (by decide) ?_
            refine XS.iadd X0.here hx rfl (hb hby at_139) rfl ?_
            refine XS.istore X0.here hx rfl (hb hby at_140) rfl (l' := #[vi i0, vi i1, vi i2, vi i3, vi i4, vi 0, vi 1, vi (f0_v33 i4), vi (f0_v38 i2), vi 3, vi 3, .unset, .unset, .unset, .unset, vi 1, vi 2, vi 3, vi 3]) rfl ?_
            refine XS.iconst X0.here hx rfl (hb hby at_142) ?_
            refine XS.iload X0.here hx rfl (hb hby at_143) rfl ?_
            refine XS.iadd X0.here hx rfl (hb hby at_145) rfl ?_
            refine XS.iload X0.here hx rfl (hb hby at_146) rfl ?_
            refine XS.iadd X0.here hx rfl (hb hby at_148) rfl ?_
            refine XS.iload X0.here hx rfl (hb hby at_149) rfl ?_
            refine XS.iadd X0.here hx rfl (hb hby at_151) rfl ?_
            exact k
          obtain ⟨T203, h203, X203, e203, E203, A203, st203⟩ := newAF X0 hx hZ (aty := .byte) (hw _ (List.mem_of_getElem? (i := 1) rfl)) e0 (f := (mkF m 152 #[vi i0, vi i1, vi i2, vi i3, vi i4, vi 0, vi 1, vi (f0_v33 i4), vi (f0_v38 i2), vi 3, vi 3, .unset, .unset, .unset, .unset, vi 1, vi 2, vi 3, vi 3] [(.int (9 : Int32))])) rfl (hb hby at_152) rfl (k := 9) rfl (cap := 9) (by decide) (by decide) (by decide) (by decide)
          obtain ⟨b203, g203⟩ : ∃ z, z = h0.size := ⟨_, rfl⟩
          rw [← g203] at A203 st203
          have g_b203 : n0 ≤ b203 := Nat.le_trans Z0 (Nat.le_of_eq g203.symm)
          have V203 : AI Z h203 b203 .byte 9 (fun _ => (0 : Int32)) := A203
          refine Outs.of st203 ?_
          refine Outs.of (U' := T203.setTop (mkF m 166 #[vi i0, vi i1, vi i2, vi i3, vi i4, vi 0, vi 1, vi (f0_v33 i4), vi (f0_v38 i2), vi 3, vi 3, .val (.ref b203), .unset, .unset, .unset, vi 1, vi 2, vi 3, vi 3] [(.int ((131 : Int32).toInt8.toInt32)), (.int (0 : Int32)), (.ref b203)])) (fun t k => ?_) ?_
          · refine XS.astore X203.here hx rfl (hb hby at_154) rfl rfl (l' := #[vi i0, vi i1, vi i2, vi i3, vi i4, vi 0, vi 1, vi (f0_v33 i4), vi (f0_v38 i2), vi 3, vi 3, .val (.ref b203), .unset, .unset, .unset, vi 1, vi 2, vi 3, vi 3]) rfl ?_
            refine XS.aload X203.here hx rfl (hb hby at_156) rfl rfl ?_
            refine XS.iconst X203.here hx rfl (hb hby at_158) ?_
            refine XS.sipush X203.here hx rfl (hb hby at_159) ?_
            refine XS.iload X203.here hx rfl (hb hby at_162) rfl ?_
            refine XS.iadd X203.here hx rfl (hb hby at_164) rfl ?_
            refine XS.i2b X203.here hx rfl (hb hby at_165) rfl ?_
            exact k
          obtain ⟨T204, h204, X204, e204, W204, V204, st204⟩ := puB X203 hx hZ e203 V203 (j := (0 : Int32)) (x := ((131 : Int32).toInt8.toInt32)) (k := 0) rfl (by decide) (f := (mkF m 166 #[vi i0, vi i1, vi i2, vi i3, vi i4, vi 0, vi 1, vi (f0_v33 i4), vi (f0_v38 i2), vi 3, vi 3, .val (.ref b203), .unset, .unset, .unset, vi 1, vi 2, vi 3, vi 3] [(.int ((131 : Int32).toInt8.toInt32)), (.int (0 : Int32)), (.ref b203)])) rfl rfl (hb hby at_166)
          replace V204 : AI Z h204 b203 .byte 9 f0_g166b := V204
          have N204 := Fr.snoc X204 N0 g_b203
          obtain ⟨Lh204, X204, N204⟩ := hide X204 N204 (C := 1) (S := 9) (by decide) (by decide)
          refine Outs.of st204 ?_
          refine Outs.of (U' := T204.setTop (mkF m 177 #[vi i0, vi i1, vi i2, vi i3, vi i4, vi 0, vi 1, vi (f0_v33 i4), vi (f0_v38 i2), vi 3, vi 3, .val (.ref b203), .unset, .unset, .unset, vi 1, vi 2, vi 3, vi 3] [(.int (97 : Int32)), (.int (1 : Int32)), (.ref b203)])) (fun t k => ?_) ?_
          · refine XS.iload X204.here hx rfl (hb hby at_167) rfl ?_
            refine XS.ifNo X204.here hx rfl (hb hby at_169) rfl ((if0 _ _).trans (feq (show ¬ ((1 : Int32) = (0 : Int32)) from (by decide))).1) ?_
            refine XS.aload X204.here hx rfl (hb hby at_172) rfl rfl ?_
            refine XS.iconst X204.here hx rfl (hb hby at_174) ?_
            refine XS.bipush X204.here hx rfl (hb hby at_175) ?_
            exact k
          obtain ⟨T205, h205, X205, e205, W205, V205, st205⟩ := puB X204 hx hZ e204 V204 (j := (1 : Int32)) (x := (97 : Int32)) (k := 1) rfl (by decide) (f := (mkF m 177 #[vi i0, vi i1, vi i2, vi i3, vi i4, vi 0, vi 1, vi (f0_v33 i4), vi (f0_v38 i2), vi 3, vi 3, .val (.ref b203), .unset, .unset, .unset, vi 1, vi 2, vi 3, vi 3] [(.int (97 : Int32)), (.int (1 : Int32)), (.ref b203)])) rfl rfl (hb hby at_177)
          replace V205 : AI Z h205 b203 .byte 9 f0_g177b := V205
          have N205 := Fr.snoc X205 N204 g_b203
          obtain ⟨Lh205, X205, N205⟩ := hide X205 N205 (C := 1) (S := 9) (by decide) (by decide)
          refine Outs.of st205 ?_
          refine Outs.of (U' := T205.setTop (mkF m 190 #[vi i0, vi i1, vi i2, vi i3, vi i4, vi 0, vi 1, vi (f0_v33 i4), vi (f0_v38 i2), vi 3, vi 3, .val (.ref b203), .unset, .unset, .unset, vi 1, vi 2, vi 3, vi 3] [(.int (((97 : Int32) + ((f0_v38 i2) % (26 : Int32))).toInt8.toInt32)), (.int (2 : Int32)), (.ref b203)])) (fun t k => ?_) ?_
          · refine XS.aload X205.here hx rfl (hb hby at_178) rfl rfl ?_
            refine XS.iconst X205.here hx rfl (hb hby at_180) ?_
            refine XS.bipush X205.here hx rfl (hb hby at_181) ?_
            refine XS.iload X205.here hx rfl (hb hby at_183) rfl ?_
            refine XS.bipush X205.here hx rfl (hb hby at_185) ?_
            refine iremM X205 hx rfl (hb hby at_187) rfl (by decide) ?_
            refine XS.iadd X205.here hx rfl (hb hby at_188) rfl ?_
            refine XS.i2b X205.here hx rfl (hb hby at_189) rfl ?_
            exact k
          obtain ⟨T206, h206, X206, e206, W206, V206, st206⟩ := puB X205 hx hZ e205 V205 (j := (2 : Int32)) (x := (((97 : Int32) + ((f0_v38 i2) % (26 : Int32))).toInt8.toInt32)) (k := 2) rfl (by decide) (f := (mkF m 190 #[vi i0, vi i1, vi i2, vi i3, vi i4, vi 0, vi 1, vi (f0_v33 i4), vi (f0_v38 i2), vi 3, vi 3, .val (.ref b203), .unset, .unset, .unset, vi 1, vi 2, vi 3, vi 3] [(.int (((97 : Int32) + ((f0_v38 i2) % (26 : Int32))).toInt8.toInt32)), (.int (2 : Int32)), (.ref b203)])) rfl rfl (hb hby at_190)
          replace V206 : AI Z h206 b203 .byte 9 (f0_g190b i2) := V206
          have N206 := Fr.snoc X206 N205 g_b203
          obtain ⟨Lh206, X206, N206⟩ := hide X206 N206 (C := 1) (S := 9) (by decide) (by decide)
          refine Outs.of st206 ?_
          refine Outs.of (U' := T206.setTop (mkF m 277 #[vi i0, vi i1, vi i2, vi i3, vi i4, vi 0, vi 1, vi (f0_v33 i4), vi (f0_v38 i2), vi 3, vi 3, .val (.ref b203), vi 3, .unset, .unset, vi 1, vi 2, vi 3, vi 3] [(.int (-127 : Int32)), (.int (3 : Int32)), (.ref b203)])) (fun t k => ?_) ?_
          · refine XS.goto X206.here hx rfl (pc0 := 191) (pc' := 207) rfl (hb hby at_191) (by decide) (by decide) ?_
            refine XS.iconst X206.here hx rfl (hb hby at_207) ?_
            refine XS.iload X206.here hx rfl (hb hby at_208) rfl ?_
            refine XS.iadd X206.here hx rfl (hb hby at_210) rfl ?_
            refine XS.istore X206.here hx rfl (hb hby at_211) rfl (l' := #[vi i0, vi i1, vi i2, vi i3, vi i4, vi 0, vi 1, vi (f0_v33 i4), vi (f0_v38 i2), vi 3, vi 3, .val (.ref b203), vi 3, .unset, .unset, vi 1, vi 2, vi 3, vi 3]) rfl ?_
            refine XS.iload X206.here hx rfl (hb hby at_213) rfl ?_
            refine XS.ifYes X206.here hx rfl (pc0 := 215) (pc' := 233) rfl (hb hby at_215) rfl ((if0 _ _).trans (feq (show ¬ ((3 : Int32) = (0 : Int32)) from (by decide))).2) (by decide) (by decide) ?_
            refine XS.iload X206.here hx rfl (hb hby at_233) rfl ?_
            refine XS.iconst X206.here hx rfl (hb hby at_235) ?_
            refine XS.icmpYes X206.here hx rfl (pc0 := 236) (pc' := 249) rfl (hb hby at_236) rfl (feq (show ¬ ((3 : Int32) = (1 : Int32)) from (by decide))).2 (by decide) (by decide) ?_
            refine XS.iload X206.here hx rfl (hb hby at_249) rfl ?_
            refine XS.iconst X206.here hx rfl (hb hby at_251) ?_
            refine XS.icmpYes X206.here hx rfl (pc0 := 252) (pc' := 265) rfl (hb hby at_252) rfl (feq (show ¬ ((3 : Int32) = (2 : Int32)) from (by decide))).2 (by decide) (by decide) ?_
            refine XS.iload X206.here hx rfl (hb hby at_265) rfl ?_
            refine XS.iconst X206.here hx rfl (hb hby at_267) ?_
            refine XS.icmpNo X206.here hx rfl (hb hby at_268) rfl (teq (show (3 : Int32) = (3 : Int32) from (by decide))).2 ?_
            refine XS.aload X206.here hx rfl (hb hby at_271) rfl rfl ?_
            refine XS.iload X206.here hx rfl (hb hby at_273) rfl ?_
            refine XS.bipush X206.here hx rfl (hb hby at_275) ?_
            exact k
          obtain ⟨T207, h207, X207, e207, W207, V207, st207⟩ := puB X206 hx hZ e206 V206 (j := (3 : Int32)) (x := (-127 : Int32)) (k := 3) rfl (by decide) (f := (mkF m 277 #[vi i0, vi i1, vi i2, vi i3, vi i4, vi 0, vi 1, vi (f0_v33 i4), vi (f0_v38 i2), vi 3, vi 3, .val (.ref b203), vi 3, .unset, .unset, vi 1, vi 2, vi 3, vi 3] [(.int (-127 : Int32)), (.int (3 : Int32)), (.ref b203)])) rfl rfl (hb hby at_277)
          replace V207 : AI Z h207 b203 .byte 9 (f0_g277c i2) := V207
          have N207 := Fr.snoc X207 N206 g_b203
          obtain ⟨Lh207, X207, N207⟩ := hide X207 N207 (C := 1) (S := 9) (by decide) (by decide)
          refine Outs.of st207 ?_
          refine Outs.of (U' := T207.setTop (mkF m 286 #[vi i0, vi i1, vi i2, vi i3, vi i4, vi 0, vi 1, vi (f0_v33 i4), vi (f0_v38 i2), vi 3, vi 3, .val (.ref b203), vi 3, .unset, .unset, vi 1, vi 2, vi 3, vi 3] [(.int (97 : Int32)), (.int (4 : Int32)), (.ref b203)])) (fun t k => ?_) ?_
          · refine XS.aload X207.here hx rfl (hb hby at_278) rfl rfl ?_
            refine XS.iload X207.here hx rfl (hb hby at_280) rfl ?_
            refine XS.iconst X207.here hx rfl (hb hby at_282) ?_
            refine XS.iadd X207.here hx rfl (hb hby at_283) rfl ?_
            refine XS.bipush X207.here hx rfl (hb hby at_284) ?_
            exact k
          obtain ⟨T208, h208, X208, e208, W208, V208, st208⟩ := puB X207 hx hZ e207 V207 (j := (4 : Int32)) (x := (97 : Int32)) (k := 4) rfl (by decide) (f := (mkF m 286 #[vi i0, vi i1, vi i2, vi i3, vi i4, vi 0, vi 1, vi (f0_v33 i4), vi (f0_v38 i2), vi 3, vi 3, .val (.ref b203), vi 3, .unset, .unset, vi 1, vi 2, vi 3, vi 3] [(.int (97 : Int32)), (.int (4 : Int32)), (.ref b203)])) rfl rfl (hb hby at_286)
          replace V208 : AI Z h208 b203 .byte 9 (f0_g286c i2) := V208
          have N208 := Fr.snoc X208 N207 g_b203
          obtain ⟨Lh208, X208, N208⟩ := hide X208 N208 (C := 1) (S := 9) (by decide) (by decide)
          refine Outs.of st208 ?_
          refine Outs.of (U' := T208.setTop (mkF m 295 #[vi i0, vi i1, vi i2, vi i3, vi i4, vi 0, vi 1, vi (f0_v33 i4), vi (f0_v38 i2), vi 3, vi 3, .val (.ref b203), vi 3, .unset, .unset, vi 1, vi 2, vi 3, vi 3] [(.int (f0_v33 i4)), (.int (5 : Int32)), (.ref b203)])) (fun t k => ?_) ?_
          · refine XS.aload X208.here hx rfl (hb hby at_287) rfl rfl ?_
            refine XS.iload X208.here hx rfl (hb hby at_289) rfl ?_
            refine XS.iconst X208.here hx rfl (hb hby at_291) ?_
            refine XS.iadd X208.here hx rfl (hb hby at_292) rfl ?_
            refine XS.iload X208.here hx rfl (hb hby at_293) rfl ?_
            exact k
          obtain ⟨T209, h209, X209, e209, W209, V209, st209⟩ := puB X208 hx hZ e208 V208 (j := (5 : Int32)) (x := (f0_v33 i4)) (k := 5) rfl (by decide) (f := (mkF m 295 #[vi i0, vi i1, vi i2, vi i3, vi i4, vi 0, vi 1, vi (f0_v33 i4), vi (f0_v38 i2), vi 3, vi 3, .val (.ref b203), vi 3, .unset, .unset, vi 1, vi 2, vi 3, vi 3] [(.int (f0_v33 i4)), (.int (5 : Int32)), (.ref b203)])) rfl rfl (hb hby at_295)
          replace V209 : AI Z h209 b203 .byte 9 (f0_g295c i2 i4) := V209
          have N209 := Fr.snoc X209 N208 g_b203
          obtain ⟨Lh209, X209, N209⟩ := hide X209 N209 (C := 1) (S := 9) (by decide) (by decide)
          refine Outs.of st209 ?_
          refine Outs.of (U' := T209.setTop (mkF m 526 #[vi i0, vi i1, vi i2, vi i3, vi i4, vi 0, vi 1, vi (f0_v33 i4), vi (f0_v38 i2), vi 3, vi 3, .val (.ref b203), vi 3, vi 6, vi 0, vi 1, vi 2, vi 3, vi 3] [(.int (-127 : Int32)), (.int (6 : Int32)), (.ref b203)])) (fun t k => ?_) ?_
          · refine XS.iload X209.here hx rfl (hb hby at_296) rfl ?_
            refine XS.iload X209.here hx rfl (hb hby at_298) rfl ?_
            refine XS.iadd X209.here hx rfl (hb hby at_300) rfl ?_
            refine XS.istore X209.here hx rfl (hb hby at_301) rfl (l' := #[vi i0, vi i1, vi i2, vi i3, vi i4, vi 0, vi 1, vi (f0_v33 i4), vi (f0_v38 i2), vi 3, vi 3, .val (.ref b203), vi 3, vi 6, .unset, vi 1, vi 2, vi 3, vi 3]) rfl ?_
            refine XS.iload X209.here hx rfl (hb hby at_303) rfl ?_
            refine XS.iconst X209.here hx rfl (hb hby at_305) ?_
            refine XS.icmpYes X209.here hx rfl (pc0 := 306) (pc' := 313) rfl (hb hby at_306) rfl (feq (show ¬ ((3 : Int32) = (1 : Int32)) from (by decide))).2 (by decide) (by decide) ?_
            refine XS.iconst X209.here hx rfl (hb hby at_313) ?_
            refine XS.istore X209.here hx rfl (hb hby at_314) rfl (l' := #[vi i0, vi i1, vi i2, vi i3, vi i4, vi 0, vi 1, vi (f0_v33 i4), vi (f0_v38 i2), vi 3, vi 3, .val (.ref b203), vi 3, vi 6, vi 0, vi 1, vi 2, vi 3, vi 3]) rfl ?_
            refine XS.goto X209.here hx rfl (pc0 := 316) (pc' := 515) rfl (hb hby at_316) (by decide) (by decide) ?_
            refine XS.iload X209.here hx rfl (hb hby at_515) rfl ?_
            refine XS.ifNo X209.here hx rfl (hb hby at_517) rfl ((if0 _ _).trans (feq (show ¬ ((1 : Int32) = (0 : Int32)) from (by decide))).1) ?_
            refine XS.aload X209.here hx rfl (hb hby at_520) rfl rfl ?_
            refine XS.iload X209.here hx rfl (hb hby at_522) rfl ?_
            refine XS.bipush X209.here hx rfl (hb hby at_524) ?_
            exact k
          obtain ⟨T210, h210, X210, e210, W210, V210, st210⟩ := puB X209 hx hZ e209 V209 (j := (6 : Int32)) (x := (-127 : Int32)) (k := 6) rfl (by decide) (f := (mkF m 526 #[vi i0, vi i1, vi i2, vi i3, vi i4, vi 0, vi 1, vi (f0_v33 i4), vi (f0_v38 i2), vi 3, vi 3, .val (.ref b203), vi 3, vi 6, vi 0, vi 1, vi 2, vi 3, vi 3] [(.int (-127 : Int32)), (.int (6 : Int32)), (.ref b203)])) rfl rfl (hb hby at_526)
          replace V210 : AI Z h210 b203 .byte 9 (f0_g526g i2 i4) := V210
          have N210 := Fr.snoc X210 N209 g_b203
          obtain ⟨Lh210, X210, N210⟩ := hide X210 N210 (C := 1) (S := 9) (by decide) (by decide)
          refine Outs.of st210 ?_
          refine Outs.of (U' := T210.setTop (mkF m 535 #[vi i0, vi i1, vi i2, vi i3, vi i4, vi 0, vi 1, vi (f0_v33 i4), vi (f0_v38 i2), vi 3, vi 3, .val (.ref b203), vi 3, vi 6, vi 0, vi 1, vi 2, vi 3, vi 3] [(.int (97 : Int32)), (.int (7 : Int32)), (.ref b203)])) (fun t k => ?_) ?_
          · refine XS.aload X210.here hx rfl (hb hby at_527) rfl rfl ?_
            refine XS.iload X210.here hx rfl (hb hby at_529) rfl ?_
            refine XS.iconst X210.here hx rfl (hb hby at_531) ?_
            refine XS.iadd X210.here hx rfl (hb hby at_532) rfl ?_
            refine XS.bipush X210.here hx rfl (hb hby at_533) ?_
            exact k
          obtain ⟨T211, h211, X211, e211, W211, V211, st211⟩ := puB X210 hx hZ e210 V210 (j := (7 : Int32)) (x := (97 : Int32)) (k := 7) rfl (by decide) (f := (mkF m 535 #[vi i0, vi i1, vi i2, vi i3, vi i4, vi 0, vi 1, vi (f0_v33 i4), vi (f0_v38 i2), vi 3, vi 3, .val (.ref b203), vi 3, vi 6, vi 0, vi 1, vi 2, vi 3, vi 3] [(.int (97 : Int32)), (.int (7 : Int32)), (.ref b203)])) rfl rfl (hb hby at_535)
          replace V211 : AI Z h211 b203 .byte 9 (f0_g535g i2 i4) := V211
          have N211 := Fr.snoc X211 N210 g_b203
          obtain ⟨Lh211, X211, N211⟩ := hide X211 N211 (C := 1) (S := 9) (by decide) (by decide)
          refine Outs.of st211 ?_
          refine Outs.of (U' := T211.setTop (mkF m 544 #[vi i0, vi i1, vi i2, vi i3, vi i4, vi 0, vi 1, vi (f0_v33 i4), vi (f0_v38 i2), vi 3, vi 3, .val (.ref b203), vi 3, vi 6, vi 0, vi 1, vi 2, vi 3, vi 3] [(.int (f0_v33 i4)), (.int (8 : Int32)), (.ref b203)])) (fun t k => ?_) ?_
          · refine XS.aload X211.here hx rfl (hb hby at_536) rfl rfl ?_
            refine XS.iload X211.here hx rfl (hb hby at_538) rfl ?_
            refine XS.iconst X211.here hx rfl (hb hby at_540) ?_
            refine XS.iadd X211.here hx rfl (hb hby at_541) rfl ?_
            refine XS.iload X211.here hx rfl (hb hby at_542) rfl ?_
            exact k
          obtain ⟨T212, h212, X212, e212, W212, V212, st212⟩ := puB X211 hx hZ e211 V211 (j := (8 : Int32)) (x := (f0_v33 i4)) (k := 8) rfl (by decide) (f := (mkF m 544 #[vi i0, vi i1, vi i2, vi i3, vi i4, vi 0, vi 1, vi (f0_v33 i4), vi (f0_v38 i2), vi 3, vi 3, .val (.ref b203), vi 3, vi 6, vi 0, vi 1, vi 2, vi 3, vi 3] [(.int (f0_v33 i4)), (.int (8 : Int32)), (.ref b203)])) rfl rfl (hb hby at_544)
          replace V212 : AI Z h212 b203 .byte 9 (f0_g544g i2 i4) := V212
          have N212 := Fr.snoc X212 N211 g_b203
          obtain ⟨Lh212, X212, N212⟩ := hide X212 N212 (C := 1) (S := 9) (by decide) (by decide)
          refine Outs.of st212 ?_
          refine Outs.of (U' := T212.setTop (mkF m 552 #[vi i0, vi i1, vi i2, vi i3, vi i4, vi 0, vi 1, vi (f0_v33 i4), vi (f0_v38 i2), vi 3, vi 3, .val (.ref b203), vi 3, vi 6, vi 0, vi 9, vi 2, vi 3, vi 3] [])) (fun t k => ?_) ?_
          · refine XS.iload X212.here hx rfl (hb hby at_545) rfl ?_
            refine XS.iload X212.here hx rfl (hb hby at_547) rfl ?_
            refine XS.iadd X212.here hx rfl (hb hby at_549) rfl ?_
            refine XS.istore X212.here hx rfl (hb hby at_550) rfl (l' := #[vi i0, vi i1, vi i2, vi i3, vi i4, vi 0, vi 1, vi (f0_v33 i4), vi (f0_v38 i2), vi 3, vi 3, .val (.ref b203), vi 3, vi 6, vi 0, vi 9, vi 2, vi 3, vi 3]) rfl ?_
            exact k
          obtain ⟨T213, h213, X213, e213, E213, A213, D213, -, st213⟩ := newO X212 hx hZ hown (hw _ (List.mem_of_getElem? (i := 2) rfl)) (hw _ (List.mem_of_getElem? (i := 3) rfl)) (hw _ (List.mem_of_getElem? (i := 4) rfl)) e212 (g := (mkF m 552 #[vi i0, vi i1, vi i2, vi i3, vi i4, vi 0, vi 1, vi (f0_v33 i4), vi (f0_v38 i2), vi 3, vi 3, .val (.ref b203), vi 3, vi 6, vi 0, vi 9, vi 2, vi 3, vi 3] [])) rfl (hb hby at_552) (by decide) (by decide)
          obtain ⟨b213, g213⟩ : ∃ z, z = h212.size := ⟨_, rfl⟩
          rw [← g213] at A213 D213 st213
          have g_b213 : n0 ≤ b213 := Nat.le_trans (Nat.le_trans (Nat.le_trans (Nat.le_trans (Nat.le_trans (Nat.le_trans (Nat.le_trans (Nat.le_trans (Nat.le_trans (Nat.le_trans (Nat.le_trans Z0 E203.1) (Keep.of_wr W204).1) (Keep.of_wr W205).1) (Keep.of_wr W206).1) (Keep.of_wr W207).1) (Keep.of_wr W208).1) (Keep.of_wr W209).1) (Keep.of_wr W210).1) (Keep.of_wr W211).1) (Keep.of_wr W212).1) (Nat.le_of_eq g213.symm)
          have ne_b203_b213 : b203 ≠ b213 := Nat.ne_of_lt (Nat.lt_of_lt_of_eq V212.lt g213.symm)
          have F213_12 : Fld Z h213 b213 "com/example/brief_locator/brieflocator/interchange/CanonicalForm" "bytes" "[B" .null := D213 (Or.inr (hw _ (List.mem_of_getElem? (i := 12) rfl))) (ty := (.array .byte)) (by decide)
          have F213_14 : Fld Z h213 b213 "com/example/brief_locator/brieflocator/interchange/CanonicalForm" "firstEnd" "I" (.int (0 : Int32)) := D213 (Or.inr (hw _ (List.mem_of_getElem? (i := 14) rfl))) (ty := .int) (by decide)
          have F213_16 : Fld Z h213 b213 "com/example/brief_locator/brieflocator/interchange/CanonicalForm" "pathStart" "I" (.int (0 : Int32)) := D213 (Or.inr (hw _ (List.mem_of_getElem? (i := 16) rfl))) (ty := .int) (by decide)
          have F213_18 : Fld Z h213 b213 "com/example/brief_locator/brieflocator/interchange/CanonicalForm" "pathEnd" "I" (.int (0 : Int32)) := D213 (Or.inr (hw _ (List.mem_of_getElem? (i := 18) rfl))) (ty := .int) (by decide)
          have F213_20 : Fld Z h213 b213 "com/example/brief_locator/brieflocator/interchange/CanonicalForm" "queryEnd" "I" (.int (0 : Int32)) := D213 (Or.inr (hw _ (List.mem_of_getElem? (i := 20) rfl))) (ty := .int) (by decide)
          have F213_25 : Fld Z h213 b213 "com/example/brief_locator/brieflocator/interchange/CanonicalForm" "hasScheme" "Z" (.int (0 : Int32)) := D213 (Or.inr (hw _ (List.mem_of_getElem? (i := 25) rfl))) (ty := .boolean) (by decide)
          have F213_27 : Fld Z h213 b213 "com/example/brief_locator/brieflocator/interchange/CanonicalForm" "hasAuthority" "Z" (.int (0 : Int32)) := D213 (Or.inr (hw _ (List.mem_of_getElem? (i := 27) rfl))) (ty := .boolean) (by decide)
          have F213_37 : Fld Z h213 b213 "com/example/brief_locator/brieflocator/interchange/CanonicalForm" "pathSegments" "I" (.int (0 : Int32)) := D213 (Or.inr (hw _ (List.mem_of_getElem? (i := 37) rfl))) (ty := .int) (by decide)
          have F213_52 : Fld Z h213 b213 "com/example/brief_locator/brieflocator/interchange/CanonicalForm" "pathSegmentsStart" "I" (.int (0 : Int32)) := D213 (Or.inr (hw _ (List.mem_of_getElem? (i := 52) rfl))) (ty := .int) (by decide)
          refine Outs.of st213 ?_
          refine Outs.of (U' := T213.setTop (mkF m 566 #[vi i0, vi i1, vi i2, vi i3, vi i4, vi 0, vi 1, vi (f0_v33 i4), vi (f0_v38 i2), vi 3, vi 3, .val (.ref b203), vi 3, vi 6, vi 0, vi 9, vi 2, vi 3, vi 3] [(.int (9 : Int32)), (.int (9 : Int32)), (.int (6 : Int32)), (.int (3 : Int32)), (.ref b203), (.ref b213), (.ref b213)])) (fun t k => ?_) ?_
          · refine XS.dup X213.here hx rfl (hb hby at_555) rfl rfl ?_
            refine XS.aload X213.here hx rfl (hb hby at_556) rfl rfl ?_
            refine XS.iload X213.here hx rfl (hb hby at_558) rfl ?_
            refine XS.iload X213.here hx rfl (hb hby at_560) rfl ?_
            refine XS.iload X213.here hx rfl (hb hby at_562) rfl ?_
            refine XS.iload X213.here hx rfl (hb hby at_564) rfl ?_
            exact k
          have f215 : AI Z h213 b203 .byte 9 (f0_g544g i2 i4) := (V212.ext E213)
          obtain ⟨_, _, ⟨T214, L214, k214, n214⟩, -, X214, ⟨Lc214, hQ214, l214, y214, z214⟩, st214⟩ := X213.specialBack hx (y := (⟨"com/example/brief_locator/brieflocator/interchange/CanonicalForm", "<init>", "([BIIII)V"⟩ : MethodName)) rfl hown (mvT hZ (hw _ (List.mem_of_getElem? (i := 5) rfl))) (mvT hZ (hw _ (List.mem_of_getElem? (i := 6) rfl))) (mvT hZ (hw _ (List.mem_of_getElem? (i := 7) rfl))) (by decide) (backOf (W := 1) (rmctp l Z a0 hw [] b213 b203 (3 : Int32) (6 : Int32) (9 : Int32) (9 : Int32) 9 (f0_g544g i2 i4) 6 h213 n0 (Nat.le_trans (Nat.le_trans (Nat.le_trans (Nat.le_trans (Nat.le_trans (Nat.le_trans (Nat.le_trans (Nat.le_trans (Nat.le_trans (Nat.le_trans (Nat.le_trans Z0 E203.1) (Keep.of_wr W204).1) (Keep.of_wr W205).1) (Keep.of_wr W206).1) (Keep.of_wr W207).1) (Keep.of_wr W208).1) (Keep.of_wr W209).1) (Keep.of_wr W210).1) (Keep.of_wr W211).1) (Keep.of_wr W212).1) E213.1) A213 g_b213 F213_12 F213_14 F213_16 F213_18 F213_20 F213_25 F213_27 F213_37 F213_52 f215 ne_b203_b213 (by decide) rfl (by decide) rfl (by decide) (by decide)) hZ (hw _ (List.mem_of_getElem? (i := 7) rfl)) (hw _ (List.mem_of_getElem? (i := 4) rfl)) (by decide) (by decide)) (g := (mkF m 566 #[vi i0, vi i1, vi i2, vi i3, vi i4, vi 0, vi 1, vi (f0_v33 i4), vi (f0_v38 i2), vi 3, vi 3, .val (.ref b203), vi 3, vi 6, vi 0, vi 9, vi 2, vi 3, vi 3] [(.int (9 : Int32)), (.int (9 : Int32)), (.int (6 : Int32)), (.int (3 : Int32)), (.ref b203), (.ref b213), (.ref b213)])) rfl (by rw [hml]; rfl) (Steps.refl _) (a := b213) (argsL := [(.ref b203), (.int (3 : Int32)), (.int (6 : Int32)), (.int (9 : Int32)), (.int (9 : Int32))]) (rest := [(.ref b213)]) (lenOf pd_0 rfl) rfl (by show 2 * 0 + _ ≤ _; exact Nat.le_of_eq rfl) (hb hby at_566) (fun _ _ => ⟨rfl, e213, (by decide : 2 + 0 ≤ _), (by decide : 19 + 0 ≤ _)⟩)
          dsimp only [Pt.U, Pt.locs, Pt.cells, Pt.slots] at X214 l214 y214 z214 st214 hQ214
          subst l214 y214 z214
          obtain ⟨rfl, N214q, K214, u214_0, u214_1, u214_2, u214_3, u214_4⟩ := hQ214
          have N214 := Fr.app N212 N214q
          obtain ⟨Lh214, X214, N214⟩ := hide X214 N214 (C := 2) (S := 19) (by decide) (by decide)
          refine Outs.to st214 ?_
          refine Outs.of (U' := T214.setTop (mkF m 573 #[vi i0, vi i1, vi i2, vi i3, vi i4, vi 0, vi 1, vi (f0_v33 i4), vi (f0_v38 i2), vi 3, vi 3, .val (.ref b203), vi 3, vi 6, vi 0, vi 9, .val (.ref b213), vi 3, vi 3] [(.ref b213)])) (fun t k => ?_) ?_
          · refine XS.astore X214.here hx rfl (hb hby at_569) rfl rfl (l' := #[vi i0, vi i1, vi i2, vi i3, vi i4, vi 0, vi 1, vi (f0_v33 i4), vi (f0_v38 i2), vi 3, vi 3, .val (.ref b203), vi 3, vi 6, vi 0, vi 9, .val (.ref b213), vi 3, vi 3]) rfl ?_
            refine XS.aload X214.here hx rfl (hb hby at_571) rfl rfl ?_
            exact k
          have f217 : AI Z T214.heap b203 .byte 9 (f0_g544g i2 i4) := (f215.keep K214 (ninS ne_b203_b213 nin0))
          obtain ⟨cq216, kq216, q216a, q216b, q216c⟩ := isOf hZ rfl u214_0
          obtain ⟨_, _, ⟨T216, L216, k216, n216⟩, -, X216, ⟨Lc216, hQ216, l216, y216, z216⟩, st216⟩ := X214.virtualBack hx (y := (⟨"com/example/brief_locator/brieflocator/interchange/CanonicalForm", "hasRootlessAuthority", "()Z"⟩ : MethodName)) (z := (⟨"com/example/brief_locator/brieflocator/interchange/CanonicalForm", "hasRootlessAuthority", "()Z"⟩ : MethodName)) hown (mvT hZ (hw _ (List.mem_of_getElem? (i := 53) rfl))) (mvT hZ (hw _ (List.mem_of_getElem? (i := 54) rfl))) (notFace_of_selects (args := #[]) (mvT hZ (hw _ (List.mem_of_getElem? (i := 56) rfl)))) (mvT hZ (hw _ (List.mem_of_getElem? (i := 56) rfl))) (mvT hZ (hw _ (List.mem_of_getElem? (i := 55) rfl))) (by decide) (backOf (W := 0) (rmhr l Z a0 hw [] b213 (ctp_out4 (3 : Int32) (6 : Int32) (9 : Int32) (9 : Int32) 9 (f0_g544g i2 i4) 6) (6 : Int32) (3 : Int32) b203 9 (f0_g544g i2 i4) 3 T214.heap n0 u214_0 u214_4 u214_3 u214_2 u214_1 f217 rfl (by decide)) hZ (hw _ (List.mem_of_getElem? (i := 57) rfl)) (hw _ (List.mem_of_getElem? (i := 4) rfl)) (by decide) (by decide)) q216a q216c (g := (mkF m 573 #[vi i0, vi i1, vi i2, vi i3, vi i4, vi 0, vi 1, vi (f0_v33 i4), vi (f0_v38 i2), vi 3, vi 3, .val (.ref b203), vi 3, vi 6, vi 0, vi 9, .val (.ref b213), vi 3, vi 3] [(.ref b213)])) rfl (by rw [hml]; rfl) (Steps.refl _) (argsL := []) (rest := []) (lenOf pd_7 rfl) rfl (by show 2 * 0 + _ ≤ _; exact Nat.le_of_eq rfl) (hb hby at_573) (fun _ _ => ⟨rfl, rfl, (by decide : 2 + 0 ≤ _), (by decide : 19 + 0 ≤ _)⟩)
          dsimp only [Pt.U, Pt.locs, Pt.cells, Pt.slots] at X216 l216 y216 z216 st216 hQ216
          subst l216 y216 z216
          obtain ⟨rfl, N216q, e216⟩ := hQ216
          have N216 := Fr.app N214 N216q
          obtain ⟨Lh216, X216, N216⟩ := hide X216 N216 (C := 2) (S := 19) (by decide) (by decide)
          refine Outs.to st216 ?_
          refine Outs.of (U' := T216.setTop (mkF m 586 #[vi i0, vi i1, vi i2, vi i3, vi i4, vi 0, vi 1, vi (f0_v33 i4), vi (f0_v38 i2), vi 3, vi 3, .val (.ref b203), vi 3, vi 6, vi 0, vi 9, .val (.ref b213), vi 3, vi 3] [(.int (1 : Int32))])) (fun t k => ?_) ?_
          · refine XS.iload X216.here hx rfl (hb hby at_576) rfl ?_
            refine XS.icmpNo X216.here hx rfl (hb hby at_578) rfl (teq (law_x19 i0 i1 i2 i3 i4 hc11 hc68)).2 ?_
            refine XS.iconst X216.here hx rfl (hb hby at_581) ?_
            refine XS.goto X216.here hx rfl (pc0 := 582) (pc' := 586) rfl (hb hby at_582) (by decide) (by decide) ?_
            exact k
          exact Outs.retN (t := .boolean) (z := (1 : Int32)) X216 hx hret (by simp) (hb hby at_586) hlk (by decide) (by decide) e216 ⟨rfl, N216⟩
    · rw [q5]
      show Outs p e below s _ _ _ (s₁.setTop (mkF m 60 #[vi i0, vi i1, vi i2, vi i3, vi i4, vi 1, vi 1, vi (f0_v33 i4), vi (f0_v38 i2), vi (f0_v46 i1), vi 3, .unset, .unset, .unset, .unset, .unset, .unset, .unset, .unset] []))
      refine Outs.of (U' := s₁.setTop (mkF m 329 #[vi i0, vi i1, vi i2, vi i3, vi i4, vi 1, vi 1, vi (f0_v33 i4), vi (f0_v38 i2), vi (f0_v46 i1), vi 3, .unset, .unset, .unset, .unset, .unset, .unset, .unset, .unset] [(.int ((f0_v46 i1) &&& (1 : Int32)))])) (fun t k => ?_) ?_
      · refine XS.iload X0.here hx rfl (hb hby at_60) rfl ?_
        refine XS.ifYes X0.here hx rfl (pc0 := 62) (pc' := 319) rfl (hb hby at_62) rfl ((if0 _ _).trans (feq (show ¬ ((1 : Int32) = (0 : Int32)) from (by decide))).2) (by decide) (by decide) ?_
        refine XS.iload X0.here hx rfl (hb hby at_319) rfl ?_
        refine XS.iconst X0.here hx rfl (hb hby at_321) ?_
        refine XS.icmpNo X0.here hx rfl (hb hby at_322) rfl (teq (show (1 : Int32) = (1 : Int32) from (by decide))).2 ?_
        refine XS.iload X0.here hx rfl (hb hby at_325) rfl ?_
        refine XS.iconst X0.here hx rfl (hb hby at_327) ?_
        refine XS.iand X0.here hx rfl (hb hby at_328) rfl ?_
        exact k
      by_cases hc329 : ((f0_v46 i1) &&& (1 : Int32)) = (0 : Int32)
      · refine Outs.of (U' := s₁.setTop (mkF m 332 #[vi i0, vi i1, vi i2, vi i3, vi i4, vi 1, vi 1, vi (f0_v33 i4), vi (f0_v38 i2), vi (f0_v46 i1), vi 3, .unset, .unset, .unset, .unset, .unset, .unset, .unset, .unset] [])) (fun t k => ?_) ?_
        · refine XS.ifNo X0.here hx rfl (hb hby at_329) rfl ((if0 _ _).trans (teq hc329).2) ?_
          exact k
        refine Outs.of (U' := s₁.setTop (mkF m 346 #[vi i0, vi i1, vi i2, vi i3, vi i4, vi 1, vi 1, vi (f0_v33 i4), vi (f0_v38 i2), vi (f0_v46 i1), vi 3, .unset, .unset, .unset, .unset, vi 1, .unset, .unset, .unset] [(.int (6 : Int32))])) (fun t k => ?_) ?_
        · refine XS.iconst X0.here hx rfl (hb hby at_332) ?_
          refine XS.goto X0.here hx rfl (pc0 := 333) (pc' := 337) rfl (hb hby at_333) (by decide) (by decide) ?_
          refine XS.istore X0.here hx rfl (hb hby at_337) rfl (l' := #[vi i0, vi i1, vi i2, vi i3, vi i4, vi 1, vi 1, vi (f0_v33 i4), vi (f0_v38 i2), vi (f0_v46 i1), vi 3, .unset, .unset, .unset, .unset, vi 1, .unset, .unset, .unset]) rfl ?_
          refine XS.iconst X0.here hx rfl (hb hby at_339) ?_
          refine XS.iload X0.here hx rfl (hb hby at_340) rfl ?_
          refine XS.iadd X0.here hx rfl (hb hby at_342) rfl ?_
          refine XS.iload X0.here hx rfl (hb hby at_343) rfl ?_
          refine XS.iadd X0.here hx rfl (hb hby at_345) rfl ?_
          exact k
        obtain ⟨T218, h218, X218, e218, E218, A218, st218⟩ := newAF X0 hx hZ (aty := .byte) (hw _ (List.mem_of_getElem? (i := 1) rfl)) e0 (f := (mkF m 346 #[vi i0, vi i1, vi i2, vi i3, vi i4, vi 1, vi 1, vi (f0_v33 i4), vi (f0_v38 i2), vi (f0_v46 i1), vi 3, .unset, .unset, .unset, .unset, vi 1, .unset, .unset, .unset] [(.int (6 : Int32))])) rfl (hb hby at_346) rfl (k := 6) rfl (cap := 6) (by decide) (by decide) (by decide) (by decide)
        obtain ⟨b218, g218⟩ : ∃ z, z = h0.size := ⟨_, rfl⟩
        rw [← g218] at A218 st218
        have g_b218 : n0 ≤ b218 := Nat.le_trans Z0 (Nat.le_of_eq g218.symm)
        have V218 : AI Z h218 b218 .byte 6 (fun _ => (0 : Int32)) := A218
        refine Outs.of st218 ?_
        refine Outs.of (U' := T218.setTop (mkF m 368 #[vi i0, vi i1, vi i2, vi i3, vi i4, vi 1, vi 1, vi (f0_v33 i4), vi (f0_v38 i2), vi (f0_v46 i1), vi 3, .val (.ref b218), .unset, .unset, .unset, vi 1, .unset, .unset, .unset] [(.int ((131 : Int32).toInt8.toInt32)), (.int (0 : Int32)), (.ref b218)])) (fun t k => ?_) ?_
        · refine XS.astore X218.here hx rfl (hb hby at_348) rfl rfl (l' := #[vi i0, vi i1, vi i2, vi i3, vi i4, vi 1, vi 1, vi (f0_v33 i4), vi (f0_v38 i2), vi (f0_v46 i1), vi 3, .val (.ref b218), .unset, .unset, .unset, vi 1, .unset, .unset, .unset]) rfl ?_
          refine XS.aload X218.here hx rfl (hb hby at_350) rfl rfl ?_
          refine XS.iconst X218.here hx rfl (hb hby at_352) ?_
          refine XS.sipush X218.here hx rfl (hb hby at_353) ?_
          refine XS.iload X218.here hx rfl (hb hby at_356) rfl ?_
          refine XS.ifNo X218.here hx rfl (hb hby at_358) rfl ((if0 _ _).trans (feq (show ¬ ((1 : Int32) = (0 : Int32)) from (by decide))).1) ?_
          refine XS.iconst X218.here hx rfl (hb hby at_361) ?_
          refine XS.goto X218.here hx rfl (pc0 := 362) (pc' := 366) rfl (hb hby at_362) (by decide) (by decide) ?_
          refine XS.iadd X218.here hx rfl (hb hby at_366) rfl ?_
          refine XS.i2b X218.here hx rfl (hb hby at_367) rfl ?_
          exact k
        obtain ⟨T219, h219, X219, e219, W219, V219, st219⟩ := puB X218 hx hZ e218 V218 (j := (0 : Int32)) (x := ((131 : Int32).toInt8.toInt32)) (k := 0) rfl (by decide) (f := (mkF m 368 #[vi i0, vi i1, vi i2, vi i3, vi i4, vi 1, vi 1, vi (f0_v33 i4), vi (f0_v38 i2), vi (f0_v46 i1), vi 3, .val (.ref b218), .unset, .unset, .unset, vi 1, .unset, .unset, .unset] [(.int ((131 : Int32).toInt8.toInt32)), (.int (0 : Int32)), (.ref b218)])) rfl rfl (hb hby at_368)
        replace V219 : AI Z h219 b218 .byte 6 f0_g368a := V219
        have N219 := Fr.snoc X219 N0 g_b218
        obtain ⟨Lh219, X219, N219⟩ := hide X219 N219 (C := 1) (S := 6) (by decide) (by decide)
        refine Outs.of st219 ?_
        refine Outs.of (U' := T219.setTop (mkF m 374 #[vi i0, vi i1, vi i2, vi i3, vi i4, vi 1, vi 1, vi (f0_v33 i4), vi (f0_v38 i2), vi (f0_v46 i1), vi 3, .val (.ref b218), .unset, .unset, .unset, vi 1, .unset, .unset, .unset] [(.int (-10 : Int32)), (.int (1 : Int32)), (.ref b218)])) (fun t k => ?_) ?_
        · refine XS.aload X219.here hx rfl (hb hby at_369) rfl rfl ?_
          refine XS.iconst X219.here hx rfl (hb hby at_371) ?_
          refine XS.bipush X219.here hx rfl (hb hby at_372) ?_
          exact k
        obtain ⟨T220, h220, X220, e220, W220, V220, st220⟩ := puB X219 hx hZ e219 V219 (j := (1 : Int32)) (x := (-10 : Int32)) (k := 1) rfl (by decide) (f := (mkF m 374 #[vi i0, vi i1, vi i2, vi i3, vi i4, vi 1, vi 1, vi (f0_v33 i4), vi (f0_v38 i2), vi (f0_v46 i1), vi 3, .val (.ref b218), .unset, .unset, .unset, vi 1, .unset, .unset, .unset] [(.int (-10 : Int32)), (.int (1 : Int32)), (.ref b218)])) rfl rfl (hb hby at_374)
        replace V220 : AI Z h220 b218 .byte 6 f0_g374a := V220
        have N220 := Fr.snoc X220 N219 g_b218
        obtain ⟨Lh220, X220, N220⟩ := hide X220 N220 (C := 1) (S := 6) (by decide) (by decide)
        refine Outs.of st220 ?_
        refine Outs.of (U' := T220.setTop (mkF m 386 #[vi i0, vi i1, vi i2, vi i3, vi i4, vi 1, vi 1, vi (f0_v33 i4), vi (f0_v38 i2), vi (f0_v46 i1), vi 3, .val (.ref b218), .unset, .unset, .unset, vi 1, .unset, .unset, .unset] [(.int (-128 : Int32)), (.int (2 : Int32)), (.ref b218)])) (fun t k => ?_) ?_
        · refine XS.iload X220.here hx rfl (hb hby at_375) rfl ?_
          refine XS.iconst X220.here hx rfl (hb hby at_377) ?_
          refine XS.icmpNo X220.here hx rfl (hb hby at_378) rfl (teq (show (1 : Int32) = (1 : Int32) from (by decide))).2 ?_
          refine XS.aload X220.here hx rfl (hb hby at_381) rfl rfl ?_
          refine XS.iconst X220.here hx rfl (hb hby at_383) ?_
          refine XS.bipush X220.here hx rfl (hb hby at_384) ?_
          exact k
        obtain ⟨T221, h221, X221, e221, W221, V221, st221⟩ := puB X220 hx hZ e220 V220 (j := (2 : Int32)) (x := (-128 : Int32)) (k := 2) rfl (by decide) (f := (mkF m 386 #[vi i0, vi i1, vi i2, vi i3, vi i4, vi 1, vi 1, vi (f0_v33 i4), vi (f0_v38 i2), vi (f0_v46 i1), vi 3, .val (.ref b218), .unset, .unset, .unset, vi 1, .unset, .unset, .unset] [(.int (-128 : Int32)), (.int (2 : Int32)), (.ref b218)])) rfl rfl (hb hby at_386)
        replace V221 : AI Z h221 b218 .byte 6 f0_g386a := V221
        have N221 := Fr.snoc X221 N220 g_b218
        obtain ⟨Lh221, X221, N221⟩ := hide X221 N221 (C := 1) (S := 6) (by decide) (by decide)
        refine Outs.of st221 ?_
        refine Outs.of (U' := T221.setTop (mkF m 526 #[vi i0, vi i1, vi i2, vi i3, vi i4, vi 1, vi 1, vi (f0_v33 i4), vi (f0_v38 i2), vi (f0_v46 i1), vi 3, .val (.ref b218), vi 2, vi 3, vi 0, vi 1, .unset, .unset, .unset] [(.int (-127 : Int32)), (.int (3 : Int32)), (.ref b218)])) (fun t k => ?_) ?_
        · refine XS.goto X221.here hx rfl (pc0 := 387) (pc' := 408) rfl (hb hby at_387) (by decide) (by decide) ?_
          refine XS.iconst X221.here hx rfl (hb hby at_408) ?_
          refine XS.istore X221.here hx rfl (hb hby at_409) rfl (l' := #[vi i0, vi i1, vi i2, vi i3, vi i4, vi 1, vi 1, vi (f0_v33 i4), vi (f0_v38 i2), vi (f0_v46 i1), vi 3, .val (.ref b218), vi 2, .unset, .unset, vi 1, .unset, .unset, .unset]) rfl ?_
          refine XS.iconst X221.here hx rfl (hb hby at_411) ?_
          refine XS.iload X221.here hx rfl (hb hby at_412) rfl ?_
          refine XS.iadd X221.here hx rfl (hb hby at_414) rfl ?_
          refine XS.istore X221.here hx rfl (hb hby at_415) rfl (l' := #[vi i0, vi i1, vi i2, vi i3, vi i4, vi 1, vi 1, vi (f0_v33 i4), vi (f0_v38 i2), vi (f0_v46 i1), vi 3, .val (.ref b218), vi 2, vi 3, .unset, vi 1, .unset, .unset, .unset]) rfl ?_
          refine XS.iconst X221.here hx rfl (hb hby at_417) ?_
          refine XS.istore X221.here hx rfl (hb hby at_418) rfl (l' := #[vi i0, vi i1, vi i2, vi i3, vi i4, vi 1, vi 1, vi (f0_v33 i4), vi (f0_v38 i2), vi (f0_v46 i1), vi 3, .val (.ref b218), vi 2, vi 3, vi 0, vi 1, .unset, .unset, .unset]) rfl ?_
          refine XS.goto X221.here hx rfl (pc0 := 420) (pc' := 515) rfl (hb hby at_420) (by decide) (by decide) ?_
          refine XS.iload X221.here hx rfl (hb hby at_515) rfl ?_
          refine XS.ifNo X221.here hx rfl (hb hby at_517) rfl ((if0 _ _).trans (feq (show ¬ ((1 : Int32) = (0 : Int32)) from (by decide))).1) ?_
          refine XS.aload X221.here hx rfl (hb hby at_520) rfl rfl ?_
          refine XS.iload X221.here hx rfl (hb hby at_522) rfl ?_
          refine XS.bipush X221.here hx rfl (hb hby at_524) ?_
          exact k
        obtain ⟨T222, h222, X222, e222, W222, V222, st222⟩ := puB X221 hx hZ e221 V221 (j := (3 : Int32)) (x := (-127 : Int32)) (k := 3) rfl (by decide) (f := (mkF m 526 #[vi i0, vi i1, vi i2, vi i3, vi i4, vi 1, vi 1, vi (f0_v33 i4), vi (f0_v38 i2), vi (f0_v46 i1), vi 3, .val (.ref b218), vi 2, vi 3, vi 0, vi 1, .unset, .unset, .unset] [(.int (-127 : Int32)), (.int (3 : Int32)), (.ref b218)])) rfl rfl (hb hby at_526)
        replace V222 : AI Z h222 b218 .byte 6 f0_g526h := V222
        have N222 := Fr.snoc X222 N221 g_b218
        obtain ⟨Lh222, X222, N222⟩ := hide X222 N222 (C := 1) (S := 6) (by decide) (by decide)
        refine Outs.of st222 ?_
        refine Outs.of (U' := T222.setTop (mkF m 535 #[vi i0, vi i1, vi i2, vi i3, vi i4, vi 1, vi 1, vi (f0_v33 i4), vi (f0_v38 i2), vi (f0_v46 i1), vi 3, .val (.ref b218), vi 2, vi 3, vi 0, vi 1, .unset, .unset, .unset] [(.int (97 : Int32)), (.int (4 : Int32)), (.ref b218)])) (fun t k => ?_) ?_
        · refine XS.aload X222.here hx rfl (hb hby at_527) rfl rfl ?_
          refine XS.iload X222.here hx rfl (hb hby at_529) rfl ?_
          refine XS.iconst X222.here hx rfl (hb hby at_531) ?_
          refine XS.iadd X222.here hx rfl (hb hby at_532) rfl ?_
          refine XS.bipush X222.here hx rfl (hb hby at_533) ?_
          exact k
        obtain ⟨T223, h223, X223, e223, W223, V223, st223⟩ := puB X222 hx hZ e222 V222 (j := (4 : Int32)) (x := (97 : Int32)) (k := 4) rfl (by decide) (f := (mkF m 535 #[vi i0, vi i1, vi i2, vi i3, vi i4, vi 1, vi 1, vi (f0_v33 i4), vi (f0_v38 i2), vi (f0_v46 i1), vi 3, .val (.ref b218), vi 2, vi 3, vi 0, vi 1, .unset, .unset, .unset] [(.int (97 : Int32)), (.int (4 : Int32)), (.ref b218)])) rfl rfl (hb hby at_535)
        replace V223 : AI Z h223 b218 .byte 6 f0_g535h := V223
        have N223 := Fr.snoc X223 N222 g_b218
        obtain ⟨Lh223, X223, N223⟩ := hide X223 N223 (C := 1) (S := 6) (by decide) (by decide)
        refine Outs.of st223 ?_
        refine Outs.of (U' := T223.setTop (mkF m 544 #[vi i0, vi i1, vi i2, vi i3, vi i4, vi 1, vi 1, vi (f0_v33 i4), vi (f0_v38 i2), vi (f0_v46 i1), vi 3, .val (.ref b218), vi 2, vi 3, vi 0, vi 1, .unset, .unset, .unset] [(.int (f0_v33 i4)), (.int (5 : Int32)), (.ref b218)])) (fun t k => ?_) ?_
        · refine XS.aload X223.here hx rfl (hb hby at_536) rfl rfl ?_
          refine XS.iload X223.here hx rfl (hb hby at_538) rfl ?_
          refine XS.iconst X223.here hx rfl (hb hby at_540) ?_
          refine XS.iadd X223.here hx rfl (hb hby at_541) rfl ?_
          refine XS.iload X223.here hx rfl (hb hby at_542) rfl ?_
          exact k
        obtain ⟨T224, h224, X224, e224, W224, V224, st224⟩ := puB X223 hx hZ e223 V223 (j := (5 : Int32)) (x := (f0_v33 i4)) (k := 5) rfl (by decide) (f := (mkF m 544 #[vi i0, vi i1, vi i2, vi i3, vi i4, vi 1, vi 1, vi (f0_v33 i4), vi (f0_v38 i2), vi (f0_v46 i1), vi 3, .val (.ref b218), vi 2, vi 3, vi 0, vi 1, .unset, .unset, .unset] [(.int (f0_v33 i4)), (.int (5 : Int32)), (.ref b218)])) rfl rfl (hb hby at_544)
        replace V224 : AI Z h224 b218 .byte 6 (f0_g544h i4) := V224
        have N224 := Fr.snoc X224 N223 g_b218
        obtain ⟨Lh224, X224, N224⟩ := hide X224 N224 (C := 1) (S := 6) (by decide) (by decide)
        refine Outs.of st224 ?_
        refine Outs.of (U' := T224.setTop (mkF m 552 #[vi i0, vi i1, vi i2, vi i3, vi i4, vi 1, vi 1, vi (f0_v33 i4), vi (f0_v38 i2), vi (f0_v46 i1), vi 3, .val (.ref b218), vi 2, vi 3, vi 0, vi 6, .unset, .unset, .unset] [])) (fun t k => ?_) ?_
        · refine XS.iload X224.here hx rfl (hb hby at_545) rfl ?_
          refine XS.iload X224.here hx rfl (hb hby at_547) rfl ?_
          refine XS.iadd X224.here hx rfl (hb hby at_549) rfl ?_
          refine XS.istore X224.here hx rfl (hb hby at_550) rfl (l' := #[vi i0, vi i1, vi i2, vi i3, vi i4, vi 1, vi 1, vi (f0_v33 i4), vi (f0_v38 i2), vi (f0_v46 i1), vi 3, .val (.ref b218), vi 2, vi 3, vi 0, vi 6, .unset, .unset, .unset]) rfl ?_
          exact k
        obtain ⟨T225, h225, X225, e225, E225, A225, D225, -, st225⟩ := newO X224 hx hZ hown (hw _ (List.mem_of_getElem? (i := 2) rfl)) (hw _ (List.mem_of_getElem? (i := 3) rfl)) (hw _ (List.mem_of_getElem? (i := 4) rfl)) e224 (g := (mkF m 552 #[vi i0, vi i1, vi i2, vi i3, vi i4, vi 1, vi 1, vi (f0_v33 i4), vi (f0_v38 i2), vi (f0_v46 i1), vi 3, .val (.ref b218), vi 2, vi 3, vi 0, vi 6, .unset, .unset, .unset] [])) rfl (hb hby at_552) (by decide) (by decide)
        obtain ⟨b225, g225⟩ : ∃ z, z = h224.size := ⟨_, rfl⟩
        rw [← g225] at A225 D225 st225
        have g_b225 : n0 ≤ b225 := Nat.le_trans (Nat.le_trans (Nat.le_trans (Nat.le_trans (Nat.le_trans (Nat.le_trans (Nat.le_trans (Nat.le_trans Z0 E218.1) (Keep.of_wr W219).1) (Keep.of_wr W220).1) (Keep.of_wr W221).1) (Keep.of_wr W222).1) (Keep.of_wr W223).1) (Keep.of_wr W224).1) (Nat.le_of_eq g225.symm)
        have ne_b218_b225 : b218 ≠ b225 := Nat.ne_of_lt (Nat.lt_of_lt_of_eq V224.lt g225.symm)
        have F225_12 : Fld Z h225 b225 "com/example/brief_locator/brieflocator/interchange/CanonicalForm" "bytes" "[B" .null := D225 (Or.inr (hw _ (List.mem_of_getElem? (i := 12) rfl))) (ty := (.array .byte)) (by decide)
        have F225_14 : Fld Z h225 b225 "com/example/brief_locator/brieflocator/interchange/CanonicalForm" "firstEnd" "I" (.int (0 : Int32)) := D225 (Or.inr (hw _ (List.mem_of_getElem? (i := 14) rfl))) (ty := .int) (by decide)
        have F225_16 : Fld Z h225 b225 "com/example/brief_locator/brieflocator/interchange/CanonicalForm" "pathStart" "I" (.int (0 : Int32)) := D225 (Or.inr (hw _ (List.mem_of_getElem? (i := 16) rfl))) (ty := .int) (by decide)
        have F225_18 : Fld Z h225 b225 "com/example/brief_locator/brieflocator/interchange/CanonicalForm" "pathEnd" "I" (.int (0 : Int32)) := D225 (Or.inr (hw _ (List.mem_of_getElem? (i := 18) rfl))) (ty := .int) (by decide)
        have F225_20 : Fld Z h225 b225 "com/example/brief_locator/brieflocator/interchange/CanonicalForm" "queryEnd" "I" (.int (0 : Int32)) := D225 (Or.inr (hw _ (List.mem_of_getElem? (i := 20) rfl))) (ty := .int) (by decide)
        have F225_25 : Fld Z h225 b225 "com/example/brief_locator/brieflocator/interchange/CanonicalForm" "hasScheme" "Z" (.int (0 : Int32)) := D225 (Or.inr (hw _ (List.mem_of_getElem? (i := 25) rfl))) (ty := .boolean) (by decide)
        have F225_27 : Fld Z h225 b225 "com/example/brief_locator/brieflocator/interchange/CanonicalForm" "hasAuthority" "Z" (.int (0 : Int32)) := D225 (Or.inr (hw _ (List.mem_of_getElem? (i := 27) rfl))) (ty := .boolean) (by decide)
        have F225_37 : Fld Z h225 b225 "com/example/brief_locator/brieflocator/interchange/CanonicalForm" "pathSegments" "I" (.int (0 : Int32)) := D225 (Or.inr (hw _ (List.mem_of_getElem? (i := 37) rfl))) (ty := .int) (by decide)
        have F225_52 : Fld Z h225 b225 "com/example/brief_locator/brieflocator/interchange/CanonicalForm" "pathSegmentsStart" "I" (.int (0 : Int32)) := D225 (Or.inr (hw _ (List.mem_of_getElem? (i := 52) rfl))) (ty := .int) (by decide)
        refine Outs.of st225 ?_
        refine Outs.of (U' := T225.setTop (mkF m 566 #[vi i0, vi i1, vi i2, vi i3, vi i4, vi 1, vi 1, vi (f0_v33 i4), vi (f0_v38 i2), vi (f0_v46 i1), vi 3, .val (.ref b218), vi 2, vi 3, vi 0, vi 6, .unset, .unset, .unset] [(.int (6 : Int32)), (.int (6 : Int32)), (.int (3 : Int32)), (.int (2 : Int32)), (.ref b218), (.ref b225), (.ref b225)])) (fun t k => ?_) ?_
        · refine XS.dup X225.here hx rfl (hb hby at_555) rfl rfl ?_
          refine XS.aload X225.here hx rfl (hb hby at_556) rfl rfl ?_
          refine XS.iload X225.here hx rfl (hb hby at_558) rfl ?_
          refine XS.iload X225.here hx rfl (hb hby at_560) rfl ?_
          refine XS.iload X225.here hx rfl (hb hby at_562) rfl ?_
          refine XS.iload X225.here hx rfl (hb hby at_564) rfl ?_
          exact k
        have f227 : AI Z h225 b218 .byte 6 (f0_g544h i4) := (V224.ext E225)
        obtain ⟨_, _, ⟨T226, L226, k226, n226⟩, -, X226, ⟨Lc226, hQ226, l226, y226, z226⟩, st226⟩ := X225.specialBack hx (y := (⟨"com/example/brief_locator/brieflocator/interchange/CanonicalForm", "<init>", "([BIIII)V"⟩ : MethodName)) rfl hown (mvT hZ (hw _ (List.mem_of_getElem? (i := 5) rfl))) (mvT hZ (hw _ (List.mem_of_getElem? (i := 6) rfl))) (mvT hZ (hw _ (List.mem_of_getElem? (i := 7) rfl))) (by decide) (backOf (W := 1) (rmctp l Z a0 hw [] b225 b218 (2 : Int32) (3 : Int32) (6 : Int32) (6 : Int32) 6 (f0_g544h i4) 3 h225 n0 (Nat.le_trans (Nat.le_trans (Nat.le_trans (Nat.le_trans (Nat.le_trans (Nat.le_trans (Nat.le_trans (Nat.le_trans Z0 E218.1) (Keep.of_wr W219).1) (Keep.of_wr W220).1) (Keep.of_wr W221).1) (Keep.of_wr W222).1) (Keep.of_wr W223).1) (Keep.of_wr W224).1) E225.1) A225 g_b225 F225_12 F225_14 F225_16 F225_18 F225_20 F225_25 F225_27 F225_37 F225_52 f227 ne_b218_b225 (by decide) rfl (by decide) rfl (by decide) (by decide)) hZ (hw _ (List.mem_of_getElem? (i := 7) rfl)) (hw _ (List.mem_of_getElem? (i := 4) rfl)) (by decide) (by decide)) (g := (mkF m 566 #[vi i0, vi i1, vi i2, vi i3, vi i4, vi 1, vi 1, vi (f0_v33 i4), vi (f0_v38 i2), vi (f0_v46 i1), vi 3, .val (.ref b218), vi 2, vi 3, vi 0, vi 6, .unset, .unset, .unset] [(.int (6 : Int32)), (.int (6 : Int32)), (.int (3 : Int32)), (.int (2 : Int32)), (.ref b218), (.ref b225), (.ref b225)])) rfl (by rw [hml]; rfl) (Steps.refl _) (a := b225) (argsL := [(.ref b218), (.int (2 : Int32)), (.int (3 : Int32)), (.int (6 : Int32)), (.int (6 : Int32))]) (rest := [(.ref b225)]) (lenOf pd_0 rfl) rfl (by show 2 * 0 + _ ≤ _; exact Nat.le_of_eq rfl) (hb hby at_566) (fun _ _ => ⟨rfl, e225, (by decide : 2 + 0 ≤ _), (by decide : 16 + 0 ≤ _)⟩)
        dsimp only [Pt.U, Pt.locs, Pt.cells, Pt.slots] at X226 l226 y226 z226 st226 hQ226
        subst l226 y226 z226
        obtain ⟨rfl, N226q, K226, u226_0, u226_1, u226_2, u226_3, u226_4⟩ := hQ226
        have N226 := Fr.app N224 N226q
        obtain ⟨Lh226, X226, N226⟩ := hide X226 N226 (C := 2) (S := 16) (by decide) (by decide)
        refine Outs.to st226 ?_
        refine Outs.of (U' := T226.setTop (mkF m 573 #[vi i0, vi i1, vi i2, vi i3, vi i4, vi 1, vi 1, vi (f0_v33 i4), vi (f0_v38 i2), vi (f0_v46 i1), vi 3, .val (.ref b218), vi 2, vi 3, vi 0, vi 6, .val (.ref b225), .unset, .unset] [(.ref b225)])) (fun t k => ?_) ?_
        · refine XS.astore X226.here hx rfl (hb hby at_569) rfl rfl (l' := #[vi i0, vi i1, vi i2, vi i3, vi i4, vi 1, vi 1, vi (f0_v33 i4), vi (f0_v38 i2), vi (f0_v46 i1), vi 3, .val (.ref b218), vi 2, vi 3, vi 0, vi 6, .val (.ref b225), .unset, .unset]) rfl ?_
          refine XS.aload X226.here hx rfl (hb hby at_571) rfl rfl ?_
          exact k
        have f229 : AI Z T226.heap b218 .byte 6 (f0_g544h i4) := (f227.keep K226 (ninS ne_b218_b225 nin0))
        obtain ⟨cq228, kq228, q228a, q228b, q228c⟩ := isOf hZ rfl u226_0
        obtain ⟨_, _, ⟨T228, L228, k228, n228⟩, -, X228, ⟨Lc228, hQ228, l228, y228, z228⟩, st228⟩ := X226.virtualBack hx (y := (⟨"com/example/brief_locator/brieflocator/interchange/CanonicalForm", "hasRootlessAuthority", "()Z"⟩ : MethodName)) (z := (⟨"com/example/brief_locator/brieflocator/interchange/CanonicalForm", "hasRootlessAuthority", "()Z"⟩ : MethodName)) hown (mvT hZ (hw _ (List.mem_of_getElem? (i := 53) rfl))) (mvT hZ (hw _ (List.mem_of_getElem? (i := 54) rfl))) (notFace_of_selects (args := #[]) (mvT hZ (hw _ (List.mem_of_getElem? (i := 56) rfl)))) (mvT hZ (hw _ (List.mem_of_getElem? (i := 56) rfl))) (mvT hZ (hw _ (List.mem_of_getElem? (i := 55) rfl))) (by decide) (backOf (W := 0) (rmhr l Z a0 hw [] b225 (ctp_out4 (2 : Int32) (3 : Int32) (6 : Int32) (6 : Int32) 6 (f0_g544h i4) 3) (3 : Int32) (2 : Int32) b218 6 (f0_g544h i4) 2 T226.heap n0 u226_0 u226_4 u226_3 u226_2 u226_1 f229 rfl (by decide)) hZ (hw _ (List.mem_of_getElem? (i := 57) rfl)) (hw _ (List.mem_of_getElem? (i := 4) rfl)) (by decide) (by decide)) q228a q228c (g := (mkF m 573 #[vi i0, vi i1, vi i2, vi i3, vi i4, vi 1, vi 1, vi (f0_v33 i4), vi (f0_v38 i2), vi (f0_v46 i1), vi 3, .val (.ref b218), vi 2, vi 3, vi 0, vi 6, .val (.ref b225), .unset, .unset] [(.ref b225)])) rfl (by rw [hml]; rfl) (Steps.refl _) (argsL := []) (rest := []) (lenOf pd_7 rfl) rfl (by show 2 * 0 + _ ≤ _; exact Nat.le_of_eq rfl) (hb hby at_573) (fun _ _ => ⟨rfl, rfl, (by decide : 2 + 0 ≤ _), (by decide : 16 + 0 ≤ _)⟩)
        dsimp only [Pt.U, Pt.locs, Pt.cells, Pt.slots] at X228 l228 y228 z228 st228 hQ228
        subst l228 y228 z228
        obtain ⟨rfl, N228q, e228⟩ := hQ228
        have N228 := Fr.app N226 N228q
        obtain ⟨Lh228, X228, N228⟩ := hide X228 N228 (C := 2) (S := 16) (by decide) (by decide)
        refine Outs.to st228 ?_
        refine Outs.of (U' := T228.setTop (mkF m 586 #[vi i0, vi i1, vi i2, vi i3, vi i4, vi 1, vi 1, vi (f0_v33 i4), vi (f0_v38 i2), vi (f0_v46 i1), vi 3, .val (.ref b218), vi 2, vi 3, vi 0, vi 6, .val (.ref b225), .unset, .unset] [(.int (1 : Int32))])) (fun t k => ?_) ?_
        · refine XS.iload X228.here hx rfl (hb hby at_576) rfl ?_
          refine XS.icmpNo X228.here hx rfl (hb hby at_578) rfl (teq (law_x20 i0 i1 i2 i3 i4 hc11 hc329)).2 ?_
          refine XS.iconst X228.here hx rfl (hb hby at_581) ?_
          refine XS.goto X228.here hx rfl (pc0 := 582) (pc' := 586) rfl (hb hby at_582) (by decide) (by decide) ?_
          exact k
        exact Outs.retN (t := .boolean) (z := (1 : Int32)) X228 hx hret (by simp) (hb hby at_586) hlk (by decide) (by decide) e228 ⟨rfl, N228⟩
      · refine Outs.of (U' := s₁.setTop (mkF m 336 #[vi i0, vi i1, vi i2, vi i3, vi i4, vi 1, vi 1, vi (f0_v33 i4), vi (f0_v38 i2), vi (f0_v46 i1), vi 3, .unset, .unset, .unset, .unset, .unset, .unset, .unset, .unset] [])) (fun t k => ?_) ?_
        · refine XS.ifYes X0.here hx rfl (pc0 := 329) (pc' := 336) rfl (hb hby at_329) rfl ((if0 _ _).trans (feq hc329).2) (by decide) (by decide) ?_
          exact k
        refine Outs.of (U' := s₁.setTop (mkF m 346 #[vi i0, vi i1, vi i2, vi i3, vi i4, vi 1, vi 1, vi (f0_v33 i4), vi (f0_v38 i2), vi (f0_v46 i1), vi 3, .unset, .unset, .unset, .unset, vi 3, .unset, .unset, .unset] [(.int (8 : Int32))])) (fun t k => ?_) ?_
        · refine XS.iconst X0.here hx rfl (hb hby at_336) ?_
          refine XS.istore X0.here hx rfl (hb hby at_337) rfl (l' := #[vi i0, vi i1, vi i2, vi i3, vi i4, vi 1, vi 1, vi (f0_v33 i4), vi (f0_v38 i2), vi (f0_v46 i1), vi 3, .unset, .unset, .unset, .unset, vi 3, .unset, .unset, .unset]) rfl ?_
          refine XS.iconst X0.here hx rfl (hb hby at_339) ?_
          refine XS.iload X0.here hx rfl (hb hby at_340) rfl ?_
          refine XS.iadd X0.here hx rfl (hb hby at_342) rfl ?_
          refine XS.iload X0.here hx rfl (hb hby at_343) rfl ?_
          refine XS.iadd X0.here hx rfl (hb hby at_345) rfl ?_
          exact k
        obtain ⟨T230, h230, X230, e230, E230, A230, st230⟩ := newAF X0 hx hZ (aty := .byte) (hw _ (List.mem_of_getElem? (i := 1) rfl)) e0 (f := (mkF m 346 #[vi i0, vi i1, vi i2, vi i3, vi i4, vi 1, vi 1, vi (f0_v33 i4), vi (f0_v38 i2), vi (f0_v46 i1), vi 3, .unset, .unset, .unset, .unset, vi 3, .unset, .unset, .unset] [(.int (8 : Int32))])) rfl (hb hby at_346) rfl (k := 8) rfl (cap := 8) (by decide) (by decide) (by decide) (by decide)
        obtain ⟨b230, g230⟩ : ∃ z, z = h0.size := ⟨_, rfl⟩
        rw [← g230] at A230 st230
        have g_b230 : n0 ≤ b230 := Nat.le_trans Z0 (Nat.le_of_eq g230.symm)
        have V230 : AI Z h230 b230 .byte 8 (fun _ => (0 : Int32)) := A230
        refine Outs.of st230 ?_
        refine Outs.of (U' := T230.setTop (mkF m 368 #[vi i0, vi i1, vi i2, vi i3, vi i4, vi 1, vi 1, vi (f0_v33 i4), vi (f0_v38 i2), vi (f0_v46 i1), vi 3, .val (.ref b230), .unset, .unset, .unset, vi 3, .unset, .unset, .unset] [(.int ((131 : Int32).toInt8.toInt32)), (.int (0 : Int32)), (.ref b230)])) (fun t k => ?_) ?_
        · refine XS.astore X230.here hx rfl (hb hby at_348) rfl rfl (l' := #[vi i0, vi i1, vi i2, vi i3, vi i4, vi 1, vi 1, vi (f0_v33 i4), vi (f0_v38 i2), vi (f0_v46 i1), vi 3, .val (.ref b230), .unset, .unset, .unset, vi 3, .unset, .unset, .unset]) rfl ?_
          refine XS.aload X230.here hx rfl (hb hby at_350) rfl rfl ?_
          refine XS.iconst X230.here hx rfl (hb hby at_352) ?_
          refine XS.sipush X230.here hx rfl (hb hby at_353) ?_
          refine XS.iload X230.here hx rfl (hb hby at_356) rfl ?_
          refine XS.ifNo X230.here hx rfl (hb hby at_358) rfl ((if0 _ _).trans (feq (show ¬ ((1 : Int32) = (0 : Int32)) from (by decide))).1) ?_
          refine XS.iconst X230.here hx rfl (hb hby at_361) ?_
          refine XS.goto X230.here hx rfl (pc0 := 362) (pc' := 366) rfl (hb hby at_362) (by decide) (by decide) ?_
          refine XS.iadd X230.here hx rfl (hb hby at_366) rfl ?_
          refine XS.i2b X230.here hx rfl (hb hby at_367) rfl ?_
          exact k
        obtain ⟨T231, h231, X231, e231, W231, V231, st231⟩ := puB X230 hx hZ e230 V230 (j := (0 : Int32)) (x := ((131 : Int32).toInt8.toInt32)) (k := 0) rfl (by decide) (f := (mkF m 368 #[vi i0, vi i1, vi i2, vi i3, vi i4, vi 1, vi 1, vi (f0_v33 i4), vi (f0_v38 i2), vi (f0_v46 i1), vi 3, .val (.ref b230), .unset, .unset, .unset, vi 3, .unset, .unset, .unset] [(.int ((131 : Int32).toInt8.toInt32)), (.int (0 : Int32)), (.ref b230)])) rfl rfl (hb hby at_368)
        replace V231 : AI Z h231 b230 .byte 8 f0_g368a := V231
        have N231 := Fr.snoc X231 N0 g_b230
        obtain ⟨Lh231, X231, N231⟩ := hide X231 N231 (C := 1) (S := 8) (by decide) (by decide)
        refine Outs.of st231 ?_
        refine Outs.of (U' := T231.setTop (mkF m 374 #[vi i0, vi i1, vi i2, vi i3, vi i4, vi 1, vi 1, vi (f0_v33 i4), vi (f0_v38 i2), vi (f0_v46 i1), vi 3, .val (.ref b230), .unset, .unset, .unset, vi 3, .unset, .unset, .unset] [(.int (-10 : Int32)), (.int (1 : Int32)), (.ref b230)])) (fun t k => ?_) ?_
        · refine XS.aload X231.here hx rfl (hb hby at_369) rfl rfl ?_
          refine XS.iconst X231.here hx rfl (hb hby at_371) ?_
          refine XS.bipush X231.here hx rfl (hb hby at_372) ?_
          exact k
        obtain ⟨T232, h232, X232, e232, W232, V232, st232⟩ := puB X231 hx hZ e231 V231 (j := (1 : Int32)) (x := (-10 : Int32)) (k := 1) rfl (by decide) (f := (mkF m 374 #[vi i0, vi i1, vi i2, vi i3, vi i4, vi 1, vi 1, vi (f0_v33 i4), vi (f0_v38 i2), vi (f0_v46 i1), vi 3, .val (.ref b230), .unset, .unset, .unset, vi 3, .unset, .unset, .unset] [(.int (-10 : Int32)), (.int (1 : Int32)), (.ref b230)])) rfl rfl (hb hby at_374)
        replace V232 : AI Z h232 b230 .byte 8 f0_g374a := V232
        have N232 := Fr.snoc X232 N231 g_b230
        obtain ⟨Lh232, X232, N232⟩ := hide X232 N232 (C := 1) (S := 8) (by decide) (by decide)
        refine Outs.of st232 ?_
        refine Outs.of (U' := T232.setTop (mkF m 395 #[vi i0, vi i1, vi i2, vi i3, vi i4, vi 1, vi 1, vi (f0_v33 i4), vi (f0_v38 i2), vi (f0_v46 i1), vi 3, .val (.ref b230), .unset, .unset, .unset, vi 3, .unset, .unset, .unset] [(.int (-127 : Int32)), (.int (2 : Int32)), (.ref b230)])) (fun t k => ?_) ?_
        · refine XS.iload X232.here hx rfl (hb hby at_375) rfl ?_
          refine XS.iconst X232.here hx rfl (hb hby at_377) ?_
          refine XS.icmpYes X232.here hx rfl (pc0 := 378) (pc' := 390) rfl (hb hby at_378) rfl (feq (show ¬ ((3 : Int32) = (1 : Int32)) from (by decide))).2 (by decide) (by decide) ?_
          refine XS.aload X232.here hx rfl (hb hby at_390) rfl rfl ?_
          refine XS.iconst X232.here hx rfl (hb hby at_392) ?_
          refine XS.bipush X232.here hx rfl (hb hby at_393) ?_
          exact k
        obtain ⟨T233, h233, X233, e233, W233, V233, st233⟩ := puB X232 hx hZ e232 V232 (j := (2 : Int32)) (x := (-127 : Int32)) (k := 2) rfl (by decide) (f := (mkF m 395 #[vi i0, vi i1, vi i2, vi i3, vi i4, vi 1, vi 1, vi (f0_v33 i4), vi (f0_v38 i2), vi (f0_v46 i1), vi 3, .val (.ref b230), .unset, .unset, .unset, vi 3, .unset, .unset, .unset] [(.int (-127 : Int32)), (.int (2 : Int32)), (.ref b230)])) rfl rfl (hb hby at_395)
        replace V233 : AI Z h233 b230 .byte 8 f0_g395a := V233
        have N233 := Fr.snoc X233 N232 g_b230
        obtain ⟨Lh233, X233, N233⟩ := hide X233 N233 (C := 1) (S := 8) (by decide) (by decide)
        refine Outs.of st233 ?_
        refine Outs.of (U' := T233.setTop (mkF m 401 #[vi i0, vi i1, vi i2, vi i3, vi i4, vi 1, vi 1, vi (f0_v33 i4), vi (f0_v38 i2), vi (f0_v46 i1), vi 3, .val (.ref b230), .unset, .unset, .unset, vi 3, .unset, .unset, .unset] [(.int (97 : Int32)), (.int (3 : Int32)), (.ref b230)])) (fun t k => ?_) ?_
        · refine XS.aload X233.here hx rfl (hb hby at_396) rfl rfl ?_
          refine XS.iconst X233.here hx rfl (hb hby at_398) ?_
          refine XS.bipush X233.here hx rfl (hb hby at_399) ?_
          exact k
        obtain ⟨T234, h234, X234, e234, W234, V234, st234⟩ := puB X233 hx hZ e233 V233 (j := (3 : Int32)) (x := (97 : Int32)) (k := 3) rfl (by decide) (f := (mkF m 401 #[vi i0, vi i1, vi i2, vi i3, vi i4, vi 1, vi 1, vi (f0_v33 i4), vi (f0_v38 i2), vi (f0_v46 i1), vi 3, .val (.ref b230), .unset, .unset, .unset, vi 3, .unset, .unset, .unset] [(.int (97 : Int32)), (.int (3 : Int32)), (.ref b230)])) rfl rfl (hb hby at_401)
        replace V234 : AI Z h234 b230 .byte 8 f0_g401a := V234
        have N234 := Fr.snoc X234 N233 g_b230
        obtain ⟨Lh234, X234, N234⟩ := hide X234 N234 (C := 1) (S := 8) (by decide) (by decide)
        refine Outs.of st234 ?_
        refine Outs.of (U' := T234.setTop (mkF m 407 #[vi i0, vi i1, vi i2, vi i3, vi i4, vi 1, vi 1, vi (f0_v33 i4), vi (f0_v38 i2), vi (f0_v46 i1), vi 3, .val (.ref b230), .unset, .unset, .unset, vi 3, .unset, .unset, .unset] [(.int (f0_v33 i4)), (.int (4 : Int32)), (.ref b230)])) (fun t k => ?_) ?_
        · refine XS.aload X234.here hx rfl (hb hby at_402) rfl rfl ?_
          refine XS.iconst X234.here hx rfl (hb hby at_404) ?_
          refine XS.iload X234.here hx rfl (hb hby at_405) rfl ?_
          exact k
        obtain ⟨T235, h235, X235, e235, W235, V235, st235⟩ := puB X234 hx hZ e234 V234 (j := (4 : Int32)) (x := (f0_v33 i4)) (k := 4) rfl (by decide) (f := (mkF m 407 #[vi i0, vi i1, vi i2, vi i3, vi i4, vi 1, vi 1, vi (f0_v33 i4), vi (f0_v38 i2), vi (f0_v46 i1), vi 3, .val (.ref b230), .unset, .unset, .unset, vi 3, .unset, .unset, .unset] [(.int (f0_v33 i4)), (.int (4 : Int32)), (.ref b230)])) rfl rfl (hb hby at_407)
        replace V235 : AI Z h235 b230 .byte 8 (f0_g407a i4) := V235
        have N235 := Fr.snoc X235 N234 g_b230
        obtain ⟨Lh235, X235, N235⟩ := hide X235 N235 (C := 1) (S := 8) (by decide) (by decide)
        refine Outs.of st235 ?_
        refine Outs.of (U' := T235.setTop (mkF m 526 #[vi i0, vi i1, vi i2, vi i3, vi i4, vi 1, vi 1, vi (f0_v33 i4), vi (f0_v38 i2), vi (f0_v46 i1), vi 3, .val (.ref b230), vi 2, vi 5, vi 0, vi 3, .unset, .unset, .unset] [(.int (-127 : Int32)), (.int (5 : Int32)), (.ref b230)])) (fun t k => ?_) ?_
        · refine XS.iconst X235.here hx rfl (hb hby at_408) ?_
          refine XS.istore X235.here hx rfl (hb hby at_409) rfl (l' := #[vi i0, vi i1, vi i2, vi i3, vi i4, vi 1, vi 1, vi (f0_v33 i4), vi (f0_v38 i2), vi (f0_v46 i1), vi 3, .val (.ref b230), vi 2, .unset, .unset, vi 3, .unset, .unset, .unset]) rfl ?_
          refine XS.iconst X235.here hx rfl (hb hby at_411) ?_
          refine XS.iload X235.here hx rfl (hb hby at_412) rfl ?_
          refine XS.iadd X235.here hx rfl (hb hby at_414) rfl ?_
          refine XS.istore X235.here hx rfl (hb hby at_415) rfl (l' := #[vi i0, vi i1, vi i2, vi i3, vi i4, vi 1, vi 1, vi (f0_v33 i4), vi (f0_v38 i2), vi (f0_v46 i1), vi 3, .val (.ref b230), vi 2, vi 5, .unset, vi 3, .unset, .unset, .unset]) rfl ?_
          refine XS.iconst X235.here hx rfl (hb hby at_417) ?_
          refine XS.istore X235.here hx rfl (hb hby at_418) rfl (l' := #[vi i0, vi i1, vi i2, vi i3, vi i4, vi 1, vi 1, vi (f0_v33 i4), vi (f0_v38 i2), vi (f0_v46 i1), vi 3, .val (.ref b230), vi 2, vi 5, vi 0, vi 3, .unset, .unset, .unset]) rfl ?_
          refine XS.goto X235.here hx rfl (pc0 := 420) (pc' := 515) rfl (hb hby at_420) (by decide) (by decide) ?_
          refine XS.iload X235.here hx rfl (hb hby at_515) rfl ?_
          refine XS.ifNo X235.here hx rfl (hb hby at_517) rfl ((if0 _ _).trans (feq (show ¬ ((1 : Int32) = (0 : Int32)) from (by decide))).1) ?_
          refine XS.aload X235.here hx rfl (hb hby at_520) rfl rfl ?_
          refine XS.iload X235.here hx rfl (hb hby at_522) rfl ?_
          refine XS.bipush X235.here hx rfl (hb hby at_524) ?_
          exact k
        obtain ⟨T236, h236, X236, e236, W236, V236, st236⟩ := puB X235 hx hZ e235 V235 (j := (5 : Int32)) (x := (-127 : Int32)) (k := 5) rfl (by decide) (f := (mkF m 526 #[vi i0, vi i1, vi i2, vi i3, vi i4, vi 1, vi 1, vi (f0_v33 i4), vi (f0_v38 i2), vi (f0_v46 i1), vi 3, .val (.ref b230), vi 2, vi 5, vi 0, vi 3, .unset, .unset, .unset] [(.int (-127 : Int32)), (.int (5 : Int32)), (.ref b230)])) rfl rfl (hb hby at_526)
        replace V236 : AI Z h236 b230 .byte 8 (f0_g526i i4) := V236
        have N236 := Fr.snoc X236 N235 g_b230
        obtain ⟨Lh236, X236, N236⟩ := hide X236 N236 (C := 1) (S := 8) (by decide) (by decide)
        refine Outs.of st236 ?_
        refine Outs.of (U' := T236.setTop (mkF m 535 #[vi i0, vi i1, vi i2, vi i3, vi i4, vi 1, vi 1, vi (f0_v33 i4), vi (f0_v38 i2), vi (f0_v46 i1), vi 3, .val (.ref b230), vi 2, vi 5, vi 0, vi 3, .unset, .unset, .unset] [(.int (97 : Int32)), (.int (6 : Int32)), (.ref b230)])) (fun t k => ?_) ?_
        · refine XS.aload X236.here hx rfl (hb hby at_527) rfl rfl ?_
          refine XS.iload X236.here hx rfl (hb hby at_529) rfl ?_
          refine XS.iconst X236.here hx rfl (hb hby at_531) ?_
          refine XS.iadd X236.here hx rfl (hb hby at_532) rfl ?_
          refine XS.bipush X236.here hx rfl (hb hby at_533) ?_
          exact k
        obtain ⟨T237, h237, X237, e237, W237, V237, st237⟩ := puB X236 hx hZ e236 V236 (j := (6 : Int32)) (x := (97 : Int32)) (k := 6) rfl (by decide) (f := (mkF m 535 #[vi i0, vi i1, vi i2, vi i3, vi i4, vi 1, vi 1, vi (f0_v33 i4), vi (f0_v38 i2), vi (f0_v46 i1), vi 3, .val (.ref b230), vi 2, vi 5, vi 0, vi 3, .unset, .unset, .unset] [(.int (97 : Int32)), (.int (6 : Int32)), (.ref b230)])) rfl rfl (hb hby at_535)
        replace V237 : AI Z h237 b230 .byte 8 (f0_g535i i4) := V237
        have N237 := Fr.snoc X237 N236 g_b230
        obtain ⟨Lh237, X237, N237⟩ := hide X237 N237 (C := 1) (S := 8) (by decide) (by decide)
        refine Outs.of st237 ?_
        refine Outs.of (U' := T237.setTop (mkF m 544 #[vi i0, vi i1, vi i2, vi i3, vi i4, vi 1, vi 1, vi (f0_v33 i4), vi (f0_v38 i2), vi (f0_v46 i1), vi 3, .val (.ref b230), vi 2, vi 5, vi 0, vi 3, .unset, .unset, .unset] [(.int (f0_v33 i4)), (.int (7 : Int32)), (.ref b230)])) (fun t k => ?_) ?_
        · refine XS.aload X237.here hx rfl (hb hby at_536) rfl rfl ?_
          refine XS.iload X237.here hx rfl (hb hby at_538) rfl ?_
          refine XS.iconst X237.here hx rfl (hb hby at_540) ?_
          refine XS.iadd X237.here hx rfl (hb hby at_541) rfl ?_
          refine XS.iload X237.here hx rfl (hb hby at_542) rfl ?_
          exact k
        obtain ⟨T238, h238, X238, e238, W238, V238, st238⟩ := puB X237 hx hZ e237 V237 (j := (7 : Int32)) (x := (f0_v33 i4)) (k := 7) rfl (by decide) (f := (mkF m 544 #[vi i0, vi i1, vi i2, vi i3, vi i4, vi 1, vi 1, vi (f0_v33 i4), vi (f0_v38 i2), vi (f0_v46 i1), vi 3, .val (.ref b230), vi 2, vi 5, vi 0, vi 3, .unset, .unset, .unset] [(.int (f0_v33 i4)), (.int (7 : Int32)), (.ref b230)])) rfl rfl (hb hby at_544)
        replace V238 : AI Z h238 b230 .byte 8 (f0_g544i i4) := V238
        have N238 := Fr.snoc X238 N237 g_b230
        obtain ⟨Lh238, X238, N238⟩ := hide X238 N238 (C := 1) (S := 8) (by decide) (by decide)
        refine Outs.of st238 ?_
        refine Outs.of (U' := T238.setTop (mkF m 552 #[vi i0, vi i1, vi i2, vi i3, vi i4, vi 1, vi 1, vi (f0_v33 i4), vi (f0_v38 i2), vi (f0_v46 i1), vi 3, .val (.ref b230), vi 2, vi 5, vi 0, vi 8, .unset, .unset, .unset] [])) (fun t k => ?_) ?_
        · refine XS.iload X238.here hx rfl (hb hby at_545) rfl ?_
          refine XS.iload X238.here hx rfl (hb hby at_547) rfl ?_
          refine XS.iadd X238.here hx rfl (hb hby at_549) rfl ?_
          refine XS.istore X238.here hx rfl (hb hby at_550) rfl (l' := #[vi i0, vi i1, vi i2, vi i3, vi i4, vi 1, vi 1, vi (f0_v33 i4), vi (f0_v38 i2), vi (f0_v46 i1), vi 3, .val (.ref b230), vi 2, vi 5, vi 0, vi 8, .unset, .unset, .unset]) rfl ?_
          exact k
        obtain ⟨T239, h239, X239, e239, E239, A239, D239, -, st239⟩ := newO X238 hx hZ hown (hw _ (List.mem_of_getElem? (i := 2) rfl)) (hw _ (List.mem_of_getElem? (i := 3) rfl)) (hw _ (List.mem_of_getElem? (i := 4) rfl)) e238 (g := (mkF m 552 #[vi i0, vi i1, vi i2, vi i3, vi i4, vi 1, vi 1, vi (f0_v33 i4), vi (f0_v38 i2), vi (f0_v46 i1), vi 3, .val (.ref b230), vi 2, vi 5, vi 0, vi 8, .unset, .unset, .unset] [])) rfl (hb hby at_552) (by decide) (by decide)
        obtain ⟨b239, g239⟩ : ∃ z, z = h238.size := ⟨_, rfl⟩
        rw [← g239] at A239 D239 st239
        have g_b239 : n0 ≤ b239 := Nat.le_trans (Nat.le_trans (Nat.le_trans (Nat.le_trans (Nat.le_trans (Nat.le_trans (Nat.le_trans (Nat.le_trans (Nat.le_trans (Nat.le_trans Z0 E230.1) (Keep.of_wr W231).1) (Keep.of_wr W232).1) (Keep.of_wr W233).1) (Keep.of_wr W234).1) (Keep.of_wr W235).1) (Keep.of_wr W236).1) (Keep.of_wr W237).1) (Keep.of_wr W238).1) (Nat.le_of_eq g239.symm)
        have ne_b230_b239 : b230 ≠ b239 := Nat.ne_of_lt (Nat.lt_of_lt_of_eq V238.lt g239.symm)
        have F239_12 : Fld Z h239 b239 "com/example/brief_locator/brieflocator/interchange/CanonicalForm" "bytes" "[B" .null := D239 (Or.inr (hw _ (List.mem_of_getElem? (i := 12) rfl))) (ty := (.array .byte)) (by decide)
        have F239_14 : Fld Z h239 b239 "com/example/brief_locator/brieflocator/interchange/CanonicalForm" "firstEnd" "I" (.int (0 : Int32)) := D239 (Or.inr (hw _ (List.mem_of_getElem? (i := 14) rfl))) (ty := .int) (by decide)
        have F239_16 : Fld Z h239 b239 "com/example/brief_locator/brieflocator/interchange/CanonicalForm" "pathStart" "I" (.int (0 : Int32)) := D239 (Or.inr (hw _ (List.mem_of_getElem? (i := 16) rfl))) (ty := .int) (by decide)
        have F239_18 : Fld Z h239 b239 "com/example/brief_locator/brieflocator/interchange/CanonicalForm" "pathEnd" "I" (.int (0 : Int32)) := D239 (Or.inr (hw _ (List.mem_of_getElem? (i := 18) rfl))) (ty := .int) (by decide)
        have F239_20 : Fld Z h239 b239 "com/example/brief_locator/brieflocator/interchange/CanonicalForm" "queryEnd" "I" (.int (0 : Int32)) := D239 (Or.inr (hw _ (List.mem_of_getElem? (i := 20) rfl))) (ty := .int) (by decide)
        have F239_25 : Fld Z h239 b239 "com/example/brief_locator/brieflocator/interchange/CanonicalForm" "hasScheme" "Z" (.int (0 : Int32)) := D239 (Or.inr (hw _ (List.mem_of_getElem? (i := 25) rfl))) (ty := .boolean) (by decide)
        have F239_27 : Fld Z h239 b239 "com/example/brief_locator/brieflocator/interchange/CanonicalForm" "hasAuthority" "Z" (.int (0 : Int32)) := D239 (Or.inr (hw _ (List.mem_of_getElem? (i := 27) rfl))) (ty := .boolean) (by decide)
        have F239_37 : Fld Z h239 b239 "com/example/brief_locator/brieflocator/interchange/CanonicalForm" "pathSegments" "I" (.int (0 : Int32)) := D239 (Or.inr (hw _ (List.mem_of_getElem? (i := 37) rfl))) (ty := .int) (by decide)
        have F239_52 : Fld Z h239 b239 "com/example/brief_locator/brieflocator/interchange/CanonicalForm" "pathSegmentsStart" "I" (.int (0 : Int32)) := D239 (Or.inr (hw _ (List.mem_of_getElem? (i := 52) rfl))) (ty := .int) (by decide)
        refine Outs.of st239 ?_
        refine Outs.of (U' := T239.setTop (mkF m 566 #[vi i0, vi i1, vi i2, vi i3, vi i4, vi 1, vi 1, vi (f0_v33 i4), vi (f0_v38 i2), vi (f0_v46 i1), vi 3, .val (.ref b230), vi 2, vi 5, vi 0, vi 8, .unset, .unset, .unset] [(.int (8 : Int32)), (.int (8 : Int32)), (.int (5 : Int32)), (.int (2 : Int32)), (.ref b230), (.ref b239), (.ref b239)])) (fun t k => ?_) ?_
        · refine XS.dup X239.here hx rfl (hb hby at_555) rfl rfl ?_
          refine XS.aload X239.here hx rfl (hb hby at_556) rfl rfl ?_
          refine XS.iload X239.here hx rfl (hb hby at_558) rfl ?_
          refine XS.iload X239.here hx rfl (hb hby at_560) rfl ?_
          refine XS.iload X239.here hx rfl (hb hby at_562) rfl ?_
          refine XS.iload X239.here hx rfl (hb hby at_564) rfl ?_
          exact k
        have f241 : AI Z h239 b230 .byte 8 (f0_g544i i4) := (V238.ext E239)
        obtain ⟨_, _, ⟨T240, L240, k240, n240⟩, -, X240, ⟨Lc240, hQ240, l240, y240, z240⟩, st240⟩ := X239.specialBack hx (y := (⟨"com/example/brief_locator/brieflocator/interchange/CanonicalForm", "<init>", "([BIIII)V"⟩ : MethodName)) rfl hown (mvT hZ (hw _ (List.mem_of_getElem? (i := 5) rfl))) (mvT hZ (hw _ (List.mem_of_getElem? (i := 6) rfl))) (mvT hZ (hw _ (List.mem_of_getElem? (i := 7) rfl))) (by decide) (backOf (W := 1) (rmctp l Z a0 hw [] b239 b230 (2 : Int32) (5 : Int32) (8 : Int32) (8 : Int32) 8 (f0_g544i i4) 5 h239 n0 (Nat.le_trans (Nat.le_trans (Nat.le_trans (Nat.le_trans (Nat.le_trans (Nat.le_trans (Nat.le_trans (Nat.le_trans (Nat.le_trans (Nat.le_trans Z0 E230.1) (Keep.of_wr W231).1) (Keep.of_wr W232).1) (Keep.of_wr W233).1) (Keep.of_wr W234).1) (Keep.of_wr W235).1) (Keep.of_wr W236).1) (Keep.of_wr W237).1) (Keep.of_wr W238).1) E239.1) A239 g_b239 F239_12 F239_14 F239_16 F239_18 F239_20 F239_25 F239_27 F239_37 F239_52 f241 ne_b230_b239 (by decide) rfl (by decide) rfl (by decide) (by decide)) hZ (hw _ (List.mem_of_getElem? (i := 7) rfl)) (hw _ (List.mem_of_getElem? (i := 4) rfl)) (by decide) (by decide)) (g := (mkF m 566 #[vi i0, vi i1, vi i2, vi i3, vi i4, vi 1, vi 1, vi (f0_v33 i4), vi (f0_v38 i2), vi (f0_v46 i1), vi 3, .val (.ref b230), vi 2, vi 5, vi 0, vi 8, .unset, .unset, .unset] [(.int (8 : Int32)), (.int (8 : Int32)), (.int (5 : Int32)), (.int (2 : Int32)), (.ref b230), (.ref b239), (.ref b239)])) rfl (by rw [hml]; rfl) (Steps.refl _) (a := b239) (argsL := [(.ref b230), (.int (2 : Int32)), (.int (5 : Int32)), (.int (8 : Int32)), (.int (8 : Int32))]) (rest := [(.ref b239)]) (lenOf pd_0 rfl) rfl (by show 2 * 0 + _ ≤ _; exact Nat.le_of_eq rfl) (hb hby at_566) (fun _ _ => ⟨rfl, e239, (by decide : 2 + 0 ≤ _), (by decide : 18 + 0 ≤ _)⟩)
        dsimp only [Pt.U, Pt.locs, Pt.cells, Pt.slots] at X240 l240 y240 z240 st240 hQ240
        subst l240 y240 z240
        obtain ⟨rfl, N240q, K240, u240_0, u240_1, u240_2, u240_3, u240_4⟩ := hQ240
        have N240 := Fr.app N238 N240q
        obtain ⟨Lh240, X240, N240⟩ := hide X240 N240 (C := 2) (S := 18) (by decide) (by decide)
        refine Outs.to st240 ?_
        refine Outs.of (U' := T240.setTop (mkF m 573 #[vi i0, vi i1, vi i2, vi i3, vi i4, vi 1, vi 1, vi (f0_v33 i4), vi (f0_v38 i2), vi (f0_v46 i1), vi 3, .val (.ref b230), vi 2, vi 5, vi 0, vi 8, .val (.ref b239), .unset, .unset] [(.ref b239)])) (fun t k => ?_) ?_
        · refine XS.astore X240.here hx rfl (hb hby at_569) rfl rfl (l' := #[vi i0, vi i1, vi i2, vi i3, vi i4, vi 1, vi 1, vi (f0_v33 i4), vi (f0_v38 i2), vi (f0_v46 i1), vi 3, .val (.ref b230), vi 2, vi 5, vi 0, vi 8, .val (.ref b239), .unset, .unset]) rfl ?_
          refine XS.aload X240.here hx rfl (hb hby at_571) rfl rfl ?_
          exact k
        have f243 : AI Z T240.heap b230 .byte 8 (f0_g544i i4) := (f241.keep K240 (ninS ne_b230_b239 nin0))
        obtain ⟨cq242, kq242, q242a, q242b, q242c⟩ := isOf hZ rfl u240_0
        obtain ⟨_, _, ⟨T242, L242, k242, n242⟩, -, X242, ⟨Lc242, hQ242, l242, y242, z242⟩, st242⟩ := X240.virtualBack hx (y := (⟨"com/example/brief_locator/brieflocator/interchange/CanonicalForm", "hasRootlessAuthority", "()Z"⟩ : MethodName)) (z := (⟨"com/example/brief_locator/brieflocator/interchange/CanonicalForm", "hasRootlessAuthority", "()Z"⟩ : MethodName)) hown (mvT hZ (hw _ (List.mem_of_getElem? (i := 53) rfl))) (mvT hZ (hw _ (List.mem_of_getElem? (i := 54) rfl))) (notFace_of_selects (args := #[]) (mvT hZ (hw _ (List.mem_of_getElem? (i := 56) rfl)))) (mvT hZ (hw _ (List.mem_of_getElem? (i := 56) rfl))) (mvT hZ (hw _ (List.mem_of_getElem? (i := 55) rfl))) (by decide) (backOf (W := 0) (rmhr l Z a0 hw [] b239 (ctp_out4 (2 : Int32) (5 : Int32) (8 : Int32) (8 : Int32) 8 (f0_g544i i4) 5) (5 : Int32) (2 : Int32) b230 8 (f0_g544i i4) 2 T240.heap n0 u240_0 u240_4 u240_3 u240_2 u240_1 f243 rfl (by decide)) hZ (hw _ (List.mem_of_getElem? (i := 57) rfl)) (hw _ (List.mem_of_getElem? (i := 4) rfl)) (by decide) (by decide)) q242a q242c (g := (mkF m 573 #[vi i0, vi i1, vi i2, vi i3, vi i4, vi 1, vi 1, vi (f0_v33 i4), vi (f0_v38 i2), vi (f0_v46 i1), vi 3, .val (.ref b230), vi 2, vi 5, vi 0, vi 8, .val (.ref b239), .unset, .unset] [(.ref b239)])) rfl (by rw [hml]; rfl) (Steps.refl _) (argsL := []) (rest := []) (lenOf pd_7 rfl) rfl (by show 2 * 0 + _ ≤ _; exact Nat.le_of_eq rfl) (hb hby at_573) (fun _ _ => ⟨rfl, rfl, (by decide : 2 + 0 ≤ _), (by decide : 18 + 0 ≤ _)⟩)
        dsimp only [Pt.U, Pt.locs, Pt.cells, Pt.slots] at X242 l242 y242 z242 st242 hQ242
        subst l242 y242 z242
        obtain ⟨rfl, N242q, e242⟩ := hQ242
        have N242 := Fr.app N240 N242q
        obtain ⟨Lh242, X242, N242⟩ := hide X242 N242 (C := 2) (S := 18) (by decide) (by decide)
        refine Outs.to st242 ?_
        refine Outs.of (U' := T242.setTop (mkF m 586 #[vi i0, vi i1, vi i2, vi i3, vi i4, vi 1, vi 1, vi (f0_v33 i4), vi (f0_v38 i2), vi (f0_v46 i1), vi 3, .val (.ref b230), vi 2, vi 5, vi 0, vi 8, .val (.ref b239), .unset, .unset] [(.int (1 : Int32))])) (fun t k => ?_) ?_
        · refine XS.iload X242.here hx rfl (hb hby at_576) rfl ?_
          refine XS.icmpNo X242.here hx rfl (hb hby at_578) rfl (teq (law_x21 i0 i1 i2 i3 i4 hc11 hc329)).2 ?_
          refine XS.iconst X242.here hx rfl (hb hby at_581) ?_
          refine XS.goto X242.here hx rfl (pc0 := 582) (pc' := 586) rfl (hb hby at_582) (by decide) (by decide) ?_
          exact k
        exact Outs.retN (t := .boolean) (z := (1 : Int32)) X242 hx hret (by simp) (hb hby at_586) hlk (by decide) (by decide) e242 ⟨rfl, N242⟩
    · rw [q5]
      show Outs p e below s _ _ _ (s₁.setTop (mkF m 60 #[vi i0, vi i1, vi i2, vi i3, vi i4, vi 2, vi 1, vi (f0_v33 i4), vi (f0_v38 i2), vi (f0_v46 i1), vi 3, .unset, .unset, .unset, .unset, .unset, .unset, .unset, .unset] []))
      refine Outs.of (U' := s₁.setTop (mkF m 432 #[vi i0, vi i1, vi i2, vi i3, vi i4, vi 2, vi 1, vi (f0_v33 i4), vi (f0_v38 i2), vi (f0_v46 i1), vi 3, .unset, .unset, .unset, .unset, vi ((f0_v38 i2) % (25 : Int32)), .unset, .unset, .unset] [(.int ((f0_v38 i2) % (25 : Int32)))])) (fun t k => ?_) ?_
      · refine XS.iload X0.here hx rfl (hb hby at_60) rfl ?_
        refine XS.ifYes X0.here hx rfl (pc0 := 62) (pc' := 319) rfl (hb hby at_62) rfl ((if0 _ _).trans (feq (show ¬ ((2 : Int32) = (0 : Int32)) from (by decide))).2) (by decide) (by decide) ?_
        refine XS.iload X0.here hx rfl (hb hby at_319) rfl ?_
        refine XS.iconst X0.here hx rfl (hb hby at_321) ?_
        refine XS.icmpYes X0.here hx rfl (pc0 := 322) (pc' := 423) rfl (hb hby at_322) rfl (feq (show ¬ ((2 : Int32) = (1 : Int32)) from (by decide))).2 (by decide) (by decide) ?_
        refine XS.iload X0.here hx rfl (hb hby at_423) rfl ?_
        refine XS.bipush X0.here hx rfl (hb hby at_425) ?_
        refine iremM X0 hx rfl (hb hby at_427) rfl (by decide) ?_
        refine XS.istore X0.here hx rfl (hb hby at_428) rfl (l' := #[vi i0, vi i1, vi i2, vi i3, vi i4, vi 2, vi 1, vi (f0_v33 i4), vi (f0_v38 i2), vi (f0_v46 i1), vi 3, .unset, .unset, .unset, .unset, vi ((f0_v38 i2) % (25 : Int32)), .unset, .unset, .unset]) rfl ?_
        refine XS.iload X0.here hx rfl (hb hby at_430) rfl ?_
        exact k
      by_cases hc432 : ((f0_v38 i2) % (25 : Int32)) = (0 : Int32)
      · refine Outs.of (U' := s₁.setTop (mkF m 435 #[vi i0, vi i1, vi i2, vi i3, vi i4, vi 2, vi 1, vi (f0_v33 i4), vi (f0_v38 i2), vi (f0_v46 i1), vi 3, .unset, .unset, .unset, .unset, vi ((f0_v38 i2) % (25 : Int32)), .unset, .unset, .unset] [])) (fun t k => ?_) ?_
        · refine XS.ifNo X0.here hx rfl (hb hby at_432) rfl ((if0 _ _).trans (teq hc432).2) ?_
          exact k
        refine Outs.of (U' := s₁.setTop (mkF m 464 #[vi i0, vi i1, vi i2, vi i3, vi i4, vi 2, vi 1, vi (f0_v33 i4), vi (f0_v38 i2), vi (f0_v46 i1), vi 3, .unset, .unset, .unset, .unset, vi ((f0_v38 i2) % (25 : Int32)), .unset, .unset, .unset] [(.int (5 : Int32))])) (fun t k => ?_) ?_
        · refine XS.iload X0.here hx rfl (hb hby at_435) rfl ?_
          refine XS.ifYes X0.here hx rfl (pc0 := 437) (pc' := 460) rfl (hb hby at_437) rfl ((if0 _ _).trans (feq (show ¬ ((1 : Int32) = (0 : Int32)) from (by decide))).2) (by decide) (by decide) ?_
          refine XS.iconst X0.here hx rfl (hb hby at_460) ?_
          refine XS.iload X0.here hx rfl (hb hby at_461) rfl ?_
          refine XS.iadd X0.here hx rfl (hb hby at_463) rfl ?_
          exact k
        obtain ⟨T244, h244, X244, e244, E244, A244, st244⟩ := newAF X0 hx hZ (aty := .byte) (hw _ (List.mem_of_getElem? (i := 1) rfl)) e0 (f := (mkF m 464 #[vi i0, vi i1, vi i2, vi i3, vi i4, vi 2, vi 1, vi (f0_v33 i4), vi (f0_v38 i2), vi (f0_v46 i1), vi 3, .unset, .unset, .unset, .unset, vi ((f0_v38 i2) % (25 : Int32)), .unset, .unset, .unset] [(.int (5 : Int32))])) rfl (hb hby at_464) rfl (k := 5) rfl (cap := 5) (by decide) (by decide) (by decide) (by decide)
        obtain ⟨b244, g244⟩ : ∃ z, z = h0.size := ⟨_, rfl⟩
        rw [← g244] at A244 st244
        have g_b244 : n0 ≤ b244 := Nat.le_trans Z0 (Nat.le_of_eq g244.symm)
        have V244 : AI Z h244 b244 .byte 5 (fun _ => (0 : Int32)) := A244
        refine Outs.of st244 ?_
        refine Outs.of (U' := T244.setTop (mkF m 486 #[vi i0, vi i1, vi i2, vi i3, vi i4, vi 2, vi 1, vi (f0_v33 i4), vi (f0_v38 i2), vi (f0_v46 i1), vi 3, .val (.ref b244), .unset, .unset, .unset, vi ((f0_v38 i2) % (25 : Int32)), .unset, .unset, .unset] [(.int ((130 : Int32).toInt8.toInt32)), (.int (0 : Int32)), (.ref b244)])) (fun t k => ?_) ?_
        · refine XS.astore X244.here hx rfl (hb hby at_466) rfl rfl (l' := #[vi i0, vi i1, vi i2, vi i3, vi i4, vi 2, vi 1, vi (f0_v33 i4), vi (f0_v38 i2), vi (f0_v46 i1), vi 3, .val (.ref b244), .unset, .unset, .unset, vi ((f0_v38 i2) % (25 : Int32)), .unset, .unset, .unset]) rfl ?_
          refine XS.aload X244.here hx rfl (hb hby at_468) rfl rfl ?_
          refine XS.iconst X244.here hx rfl (hb hby at_470) ?_
          refine XS.sipush X244.here hx rfl (hb hby at_471) ?_
          refine XS.iload X244.here hx rfl (hb hby at_474) rfl ?_
          refine XS.ifNo X244.here hx rfl (hb hby at_476) rfl ((if0 _ _).trans (feq (show ¬ ((1 : Int32) = (0 : Int32)) from (by decide))).1) ?_
          refine XS.iconst X244.here hx rfl (hb hby at_479) ?_
          refine XS.goto X244.here hx rfl (pc0 := 480) (pc' := 484) rfl (hb hby at_480) (by decide) (by decide) ?_
          refine XS.iadd X244.here hx rfl (hb hby at_484) rfl ?_
          refine XS.i2b X244.here hx rfl (hb hby at_485) rfl ?_
          exact k
        obtain ⟨T245, h245, X245, e245, W245, V245, st245⟩ := puB X244 hx hZ e244 V244 (j := (0 : Int32)) (x := ((130 : Int32).toInt8.toInt32)) (k := 0) rfl (by decide) (f := (mkF m 486 #[vi i0, vi i1, vi i2, vi i3, vi i4, vi 2, vi 1, vi (f0_v33 i4), vi (f0_v38 i2), vi (f0_v46 i1), vi 3, .val (.ref b244), .unset, .unset, .unset, vi ((f0_v38 i2) % (25 : Int32)), .unset, .unset, .unset] [(.int ((130 : Int32).toInt8.toInt32)), (.int (0 : Int32)), (.ref b244)])) rfl rfl (hb hby at_486)
        replace V245 : AI Z h245 b244 .byte 5 f0_g486a := V245
        have N245 := Fr.snoc X245 N0 g_b244
        obtain ⟨Lh245, X245, N245⟩ := hide X245 N245 (C := 1) (S := 5) (by decide) (by decide)
        refine Outs.of st245 ?_
        refine Outs.of (U' := T245.setTop (mkF m 505 #[vi i0, vi i1, vi i2, vi i3, vi i4, vi 2, vi 1, vi (f0_v33 i4), vi (f0_v38 i2), vi (f0_v46 i1), vi 3, .val (.ref b244), .unset, .unset, .unset, vi ((f0_v38 i2) % (25 : Int32)), .unset, .unset, .unset] [(.int (f0_494_s0 i2)), (.int (1 : Int32)), (.ref b244)])) (fun t k => ?_) ?_
        · refine XS.aload X245.here hx rfl (hb hby at_487) rfl rfl ?_
          refine XS.iconst X245.here hx rfl (hb hby at_489) ?_
          refine XS.iload X245.here hx rfl (hb hby at_490) rfl ?_
          refine XS.bipush X245.here hx rfl (hb hby at_492) ?_
          by_cases hc494 : ((f0_v38 i2) % (25 : Int32)) = (24 : Int32)
          · refine XS.icmpNo X245.here hx rfl (hb hby at_494) rfl (teq hc494).2 ?_
            refine XS.bipush X245.here hx rfl (hb hby at_497) ?_
            refine XS.goto X245.here hx rfl (pc0 := 499) (pc' := 505) rfl (hb hby at_499) (by decide) (by decide) ?_
            rw [show (f0_494_s0 i2) = (-11 : Int32) from (if_pos hc494)] at k
            exact k
          · refine XS.icmpYes X245.here hx rfl (pc0 := 494) (pc' := 502) rfl (hb hby at_494) rfl (feq hc494).2 (by decide) (by decide) ?_
            refine XS.iload X245.here hx rfl (hb hby at_502) rfl ?_
            refine XS.i2b X245.here hx rfl (hb hby at_504) rfl ?_
            rw [show (f0_494_s0 i2) = (((f0_v38 i2) % (25 : Int32)).toInt8.toInt32) from (if_neg hc494)] at k
            exact k
        obtain ⟨T246, h246, X246, e246, W246, V246, st246⟩ := puB X245 hx hZ e245 V245 (j := (1 : Int32)) (x := (f0_494_s0 i2)) (k := 1) rfl (by decide) (f := (mkF m 505 #[vi i0, vi i1, vi i2, vi i3, vi i4, vi 2, vi 1, vi (f0_v33 i4), vi (f0_v38 i2), vi (f0_v46 i1), vi 3, .val (.ref b244), .unset, .unset, .unset, vi ((f0_v38 i2) % (25 : Int32)), .unset, .unset, .unset] [(.int (f0_494_s0 i2)), (.int (1 : Int32)), (.ref b244)])) rfl rfl (hb hby at_505)
        replace V246 : AI Z h246 b244 .byte 5 (f0_g505a i2) := V246
        have N246 := Fr.snoc X246 N245 g_b244
        obtain ⟨Lh246, X246, N246⟩ := hide X246 N246 (C := 1) (S := 5) (by decide) (by decide)
        refine Outs.of st246 ?_
        refine Outs.of (U' := T246.setTop (mkF m 526 #[vi i0, vi i1, vi i2, vi i3, vi i4, vi 2, vi 1, vi (f0_v33 i4), vi (f0_v38 i2), vi (f0_v46 i1), vi 3, .val (.ref b244), vi 2, vi 2, vi 0, vi ((f0_v38 i2) % (25 : Int32)), .unset, .unset, .unset] [(.int (-127 : Int32)), (.int (2 : Int32)), (.ref b244)])) (fun t k => ?_) ?_
        · refine XS.iconst X246.here hx rfl (hb hby at_506) ?_
          refine XS.istore X246.here hx rfl (hb hby at_507) rfl (l' := #[vi i0, vi i1, vi i2, vi i3, vi i4, vi 2, vi 1, vi (f0_v33 i4), vi (f0_v38 i2), vi (f0_v46 i1), vi 3, .val (.ref b244), vi 2, .unset, .unset, vi ((f0_v38 i2) % (25 : Int32)), .unset, .unset, .unset]) rfl ?_
          refine XS.iconst X246.here hx rfl (hb hby at_509) ?_
          refine XS.istore X246.here hx rfl (hb hby at_510) rfl (l' := #[vi i0, vi i1, vi i2, vi i3, vi i4, vi 2, vi 1, vi (f0_v33 i4), vi (f0_v38 i2), vi (f0_v46 i1), vi 3, .val (.ref b244), vi 2, vi 2, .unset, vi ((f0_v38 i2) % (25 : Int32)), .unset, .unset, .unset]) rfl ?_
          refine XS.iconst X246.here hx rfl (hb hby at_512) ?_
          refine XS.istore X246.here hx rfl (hb hby at_513) rfl (l' := #[vi i0, vi i1, vi i2, vi i3, vi i4, vi 2, vi 1, vi (f0_v33 i4), vi (f0_v38 i2), vi (f0_v46 i1), vi 3, .val (.ref b244), vi 2, vi 2, vi 0, vi ((f0_v38 i2) % (25 : Int32)), .unset, .unset, .unset]) rfl ?_
          refine XS.iload X246.here hx rfl (hb hby at_515) rfl ?_
          refine XS.ifNo X246.here hx rfl (hb hby at_517) rfl ((if0 _ _).trans (feq (show ¬ ((1 : Int32) = (0 : Int32)) from (by decide))).1) ?_
          refine XS.aload X246.here hx rfl (hb hby at_520) rfl rfl ?_
          refine XS.iload X246.here hx rfl (hb hby at_522) rfl ?_
          refine XS.bipush X246.here hx rfl (hb hby at_524) ?_
          exact k
        obtain ⟨T247, h247, X247, e247, W247, V247, st247⟩ := puB X246 hx hZ e246 V246 (j := (2 : Int32)) (x := (-127 : Int32)) (k := 2) rfl (by decide) (f := (mkF m 526 #[vi i0, vi i1, vi i2, vi i3, vi i4, vi 2, vi 1, vi (f0_v33 i4), vi (f0_v38 i2), vi (f0_v46 i1), vi 3, .val (.ref b244), vi 2, vi 2, vi 0, vi ((f0_v38 i2) % (25 : Int32)), .unset, .unset, .unset] [(.int (-127 : Int32)), (.int (2 : Int32)), (.ref b244)])) rfl rfl (hb hby at_526)
        replace V247 : AI Z h247 b244 .byte 5 (f0_g526j i2) := V247
        have N247 := Fr.snoc X247 N246 g_b244
        obtain ⟨Lh247, X247, N247⟩ := hide X247 N247 (C := 1) (S := 5) (by decide) (by decide)
        refine Outs.of st247 ?_
        refine Outs.of (U' := T247.setTop (mkF m 535 #[vi i0, vi i1, vi i2, vi i3, vi i4, vi 2, vi 1, vi (f0_v33 i4), vi (f0_v38 i2), vi (f0_v46 i1), vi 3, .val (.ref b244), vi 2, vi 2, vi 0, vi ((f0_v38 i2) % (25 : Int32)), .unset, .unset, .unset] [(.int (97 : Int32)), (.int (3 : Int32)), (.ref b244)])) (fun t k => ?_) ?_
        · refine XS.aload X247.here hx rfl (hb hby at_527) rfl rfl ?_
          refine XS.iload X247.here hx rfl (hb hby at_529) rfl ?_
          refine XS.iconst X247.here hx rfl (hb hby at_531) ?_
          refine XS.iadd X247.here hx rfl (hb hby at_532) rfl ?_
          refine XS.bipush X247.here hx rfl (hb hby at_533) ?_
          exact k
        obtain ⟨T248, h248, X248, e248, W248, V248, st248⟩ := puB X247 hx hZ e247 V247 (j := (3 : Int32)) (x := (97 : Int32)) (k := 3) rfl (by decide) (f := (mkF m 535 #[vi i0, vi i1, vi i2, vi i3, vi i4, vi 2, vi 1, vi (f0_v33 i4), vi (f0_v38 i2), vi (f0_v46 i1), vi 3, .val (.ref b244), vi 2, vi 2, vi 0, vi ((f0_v38 i2) % (25 : Int32)), .unset, .unset, .unset] [(.int (97 : Int32)), (.int (3 : Int32)), (.ref b244)])) rfl rfl (hb hby at_535)
        replace V248 : AI Z h248 b244 .byte 5 (f0_g535j i2) := V248
        have N248 := Fr.snoc X248 N247 g_b244
        obtain ⟨Lh248, X248, N248⟩ := hide X248 N248 (C := 1) (S := 5) (by decide) (by decide)
        refine Outs.of st248 ?_
        refine Outs.of (U' := T248.setTop (mkF m 544 #[vi i0, vi i1, vi i2, vi i3, vi i4, vi 2, vi 1, vi (f0_v33 i4), vi (f0_v38 i2), vi (f0_v46 i1), vi 3, .val (.ref b244), vi 2, vi 2, vi 0, vi ((f0_v38 i2) % (25 : Int32)), .unset, .unset, .unset] [(.int (f0_v33 i4)), (.int (4 : Int32)), (.ref b244)])) (fun t k => ?_) ?_
        · refine XS.aload X248.here hx rfl (hb hby at_536) rfl rfl ?_
          refine XS.iload X248.here hx rfl (hb hby at_538) rfl ?_
          refine XS.iconst X248.here hx rfl (hb hby at_540) ?_
          refine XS.iadd X248.here hx rfl (hb hby at_541) rfl ?_
          refine XS.iload X248.here hx rfl (hb hby at_542) rfl ?_
          exact k
        obtain ⟨T249, h249, X249, e249, W249, V249, st249⟩ := puB X248 hx hZ e248 V248 (j := (4 : Int32)) (x := (f0_v33 i4)) (k := 4) rfl (by decide) (f := (mkF m 544 #[vi i0, vi i1, vi i2, vi i3, vi i4, vi 2, vi 1, vi (f0_v33 i4), vi (f0_v38 i2), vi (f0_v46 i1), vi 3, .val (.ref b244), vi 2, vi 2, vi 0, vi ((f0_v38 i2) % (25 : Int32)), .unset, .unset, .unset] [(.int (f0_v33 i4)), (.int (4 : Int32)), (.ref b244)])) rfl rfl (hb hby at_544)
        replace V249 : AI Z h249 b244 .byte 5 (f0_g544j i2 i4) := V249
        have N249 := Fr.snoc X249 N248 g_b244
        obtain ⟨Lh249, X249, N249⟩ := hide X249 N249 (C := 1) (S := 5) (by decide) (by decide)
        refine Outs.of st249 ?_
        refine Outs.of (U' := T249.setTop (mkF m 552 #[vi i0, vi i1, vi i2, vi i3, vi i4, vi 2, vi 1, vi (f0_v33 i4), vi (f0_v38 i2), vi (f0_v46 i1), vi 3, .val (.ref b244), vi 2, vi 2, vi 0, vi 5, .unset, .unset, .unset] [])) (fun t k => ?_) ?_
        · refine XS.iload X249.here hx rfl (hb hby at_545) rfl ?_
          refine XS.iload X249.here hx rfl (hb hby at_547) rfl ?_
          refine XS.iadd X249.here hx rfl (hb hby at_549) rfl ?_
          refine XS.istore X249.here hx rfl (hb hby at_550) rfl (l' := #[vi i0, vi i1, vi i2, vi i3, vi i4, vi 2, vi 1, vi (f0_v33 i4), vi (f0_v38 i2), vi (f0_v46 i1), vi 3, .val (.ref b244), vi 2, vi 2, vi 0, vi 5, .unset, .unset, .unset]) rfl ?_
          exact k
        obtain ⟨T250, h250, X250, e250, E250, A250, D250, -, st250⟩ := newO X249 hx hZ hown (hw _ (List.mem_of_getElem? (i := 2) rfl)) (hw _ (List.mem_of_getElem? (i := 3) rfl)) (hw _ (List.mem_of_getElem? (i := 4) rfl)) e249 (g := (mkF m 552 #[vi i0, vi i1, vi i2, vi i3, vi i4, vi 2, vi 1, vi (f0_v33 i4), vi (f0_v38 i2), vi (f0_v46 i1), vi 3, .val (.ref b244), vi 2, vi 2, vi 0, vi 5, .unset, .unset, .unset] [])) rfl (hb hby at_552) (by decide) (by decide)
        obtain ⟨b250, g250⟩ : ∃ z, z = h249.size := ⟨_, rfl⟩
        rw [← g250] at A250 D250 st250
        have g_b250 : n0 ≤ b250 := Nat.le_trans (Nat.le_trans (Nat.le_trans (Nat.le_trans (Nat.le_trans (Nat.le_trans (Nat.le_trans Z0 E244.1) (Keep.of_wr W245).1) (Keep.of_wr W246).1) (Keep.of_wr W247).1) (Keep.of_wr W248).1) (Keep.of_wr W249).1) (Nat.le_of_eq g250.symm)
        have ne_b244_b250 : b244 ≠ b250 := Nat.ne_of_lt (Nat.lt_of_lt_of_eq V249.lt g250.symm)
        have F250_12 : Fld Z h250 b250 "com/example/brief_locator/brieflocator/interchange/CanonicalForm" "bytes" "[B" .null := D250 (Or.inr (hw _ (List.mem_of_getElem? (i := 12) rfl))) (ty := (.array .byte)) (by decide)
        have F250_14 : Fld Z h250 b250 "com/example/brief_locator/brieflocator/interchange/CanonicalForm" "firstEnd" "I" (.int (0 : Int32)) := D250 (Or.inr (hw _ (List.mem_of_getElem? (i := 14) rfl))) (ty := .int) (by decide)
        have F250_16 : Fld Z h250 b250 "com/example/brief_locator/brieflocator/interchange/CanonicalForm" "pathStart" "I" (.int (0 : Int32)) := D250 (Or.inr (hw _ (List.mem_of_getElem? (i := 16) rfl))) (ty := .int) (by decide)
        have F250_18 : Fld Z h250 b250 "com/example/brief_locator/brieflocator/interchange/CanonicalForm" "pathEnd" "I" (.int (0 : Int32)) := D250 (Or.inr (hw _ (List.mem_of_getElem? (i := 18) rfl))) (ty := .int) (by decide)
        have F250_20 : Fld Z h250 b250 "com/example/brief_locator/brieflocator/interchange/CanonicalForm" "queryEnd" "I" (.int (0 : Int32)) := D250 (Or.inr (hw _ (List.mem_of_getElem? (i := 20) rfl))) (ty := .int) (by decide)
        have F250_25 : Fld Z h250 b250 "com/example/brief_locator/brieflocator/interchange/CanonicalForm" "hasScheme" "Z" (.int (0 : Int32)) := D250 (Or.inr (hw _ (List.mem_of_getElem? (i := 25) rfl))) (ty := .boolean) (by decide)
        have F250_27 : Fld Z h250 b250 "com/example/brief_locator/brieflocator/interchange/CanonicalForm" "hasAuthority" "Z" (.int (0 : Int32)) := D250 (Or.inr (hw _ (List.mem_of_getElem? (i := 27) rfl))) (ty := .boolean) (by decide)
        have F250_37 : Fld Z h250 b250 "com/example/brief_locator/brieflocator/interchange/CanonicalForm" "pathSegments" "I" (.int (0 : Int32)) := D250 (Or.inr (hw _ (List.mem_of_getElem? (i := 37) rfl))) (ty := .int) (by decide)
        have F250_52 : Fld Z h250 b250 "com/example/brief_locator/brieflocator/interchange/CanonicalForm" "pathSegmentsStart" "I" (.int (0 : Int32)) := D250 (Or.inr (hw _ (List.mem_of_getElem? (i := 52) rfl))) (ty := .int) (by decide)
        refine Outs.of st250 ?_
        refine Outs.of (U' := T250.setTop (mkF m 566 #[vi i0, vi i1, vi i2, vi i3, vi i4, vi 2, vi 1, vi (f0_v33 i4), vi (f0_v38 i2), vi (f0_v46 i1), vi 3, .val (.ref b244), vi 2, vi 2, vi 0, vi 5, .unset, .unset, .unset] [(.int (5 : Int32)), (.int (5 : Int32)), (.int (2 : Int32)), (.int (2 : Int32)), (.ref b244), (.ref b250), (.ref b250)])) (fun t k => ?_) ?_
        · refine XS.dup X250.here hx rfl (hb hby at_555) rfl rfl ?_
          refine XS.aload X250.here hx rfl (hb hby at_556) rfl rfl ?_
          refine XS.iload X250.here hx rfl (hb hby at_558) rfl ?_
          refine XS.iload X250.here hx rfl (hb hby at_560) rfl ?_
          refine XS.iload X250.here hx rfl (hb hby at_562) rfl ?_
          refine XS.iload X250.here hx rfl (hb hby at_564) rfl ?_
          exact k
        have f252 : AI Z h250 b244 .byte 5 (f0_g544j i2 i4) := (V249.ext E250)
        obtain ⟨_, _, ⟨T251, L251, k251, n251⟩, -, X251, ⟨Lc251, hQ251, l251, y251, z251⟩, st251⟩ := X250.specialBack hx (y := (⟨"com/example/brief_locator/brieflocator/interchange/CanonicalForm", "<init>", "([BIIII)V"⟩ : MethodName)) rfl hown (mvT hZ (hw _ (List.mem_of_getElem? (i := 5) rfl))) (mvT hZ (hw _ (List.mem_of_getElem? (i := 6) rfl))) (mvT hZ (hw _ (List.mem_of_getElem? (i := 7) rfl))) (by decide) (backOf (W := 1) (rmctp l Z a0 hw [] b250 b244 (2 : Int32) (2 : Int32) (5 : Int32) (5 : Int32) 5 (f0_g544j i2 i4) 2 h250 n0 (Nat.le_trans (Nat.le_trans (Nat.le_trans (Nat.le_trans (Nat.le_trans (Nat.le_trans (Nat.le_trans Z0 E244.1) (Keep.of_wr W245).1) (Keep.of_wr W246).1) (Keep.of_wr W247).1) (Keep.of_wr W248).1) (Keep.of_wr W249).1) E250.1) A250 g_b250 F250_12 F250_14 F250_16 F250_18 F250_20 F250_25 F250_27 F250_37 F250_52 f252 ne_b244_b250 (by decide) rfl (by decide) rfl (by decide) (by decide)) hZ (hw _ (List.mem_of_getElem? (i := 7) rfl)) (hw _ (List.mem_of_getElem? (i := 4) rfl)) (by decide) (by decide)) (g := (mkF m 566 #[vi i0, vi i1, vi i2, vi i3, vi i4, vi 2, vi 1, vi (f0_v33 i4), vi (f0_v38 i2), vi (f0_v46 i1), vi 3, .val (.ref b244), vi 2, vi 2, vi 0, vi 5, .unset, .unset, .unset] [(.int (5 : Int32)), (.int (5 : Int32)), (.int (2 : Int32)), (.int (2 : Int32)), (.ref b244), (.ref b250), (.ref b250)])) rfl (by rw [hml]; rfl) (Steps.refl _) (a := b250) (argsL := [(.ref b244), (.int (2 : Int32)), (.int (2 : Int32)), (.int (5 : Int32)), (.int (5 : Int32))]) (rest := [(.ref b250)]) (lenOf pd_0 rfl) rfl (by show 2 * 0 + _ ≤ _; exact Nat.le_of_eq rfl) (hb hby at_566) (fun _ _ => ⟨rfl, e250, (by decide : 2 + 0 ≤ _), (by decide : 15 + 0 ≤ _)⟩)
        dsimp only [Pt.U, Pt.locs, Pt.cells, Pt.slots] at X251 l251 y251 z251 st251 hQ251
        subst l251 y251 z251
        obtain ⟨rfl, N251q, K251, u251_0, u251_1, u251_2, u251_3, u251_4⟩ := hQ251
        have N251 := Fr.app N249 N251q
        obtain ⟨Lh251, X251, N251⟩ := hide X251 N251 (C := 2) (S := 15) (by decide) (by decide)
        refine Outs.to st251 ?_
        refine Outs.of (U' := T251.setTop (mkF m 573 #[vi i0, vi i1, vi i2, vi i3, vi i4, vi 2, vi 1, vi (f0_v33 i4), vi (f0_v38 i2), vi (f0_v46 i1), vi 3, .val (.ref b244), vi 2, vi 2, vi 0, vi 5, .val (.ref b250), .unset, .unset] [(.ref b250)])) (fun t k => ?_) ?_
        · refine XS.astore X251.here hx rfl (hb hby at_569) rfl rfl (l' := #[vi i0, vi i1, vi i2, vi i3, vi i4, vi 2, vi 1, vi (f0_v33 i4), vi (f0_v38 i2), vi (f0_v46 i1), vi 3, .val (.ref b244), vi 2, vi 2, vi 0, vi 5, .val (.ref b250), .unset, .unset]) rfl ?_
          refine XS.aload X251.here hx rfl (hb hby at_571) rfl rfl ?_
          exact k
        have f254 : AI Z T251.heap b244 .byte 5 (f0_g544j i2 i4) := (f252.keep K251 (ninS ne_b244_b250 nin0))
        obtain ⟨cq253, kq253, q253a, q253b, q253c⟩ := isOf hZ rfl u251_0
        obtain ⟨_, _, ⟨T253, L253, k253, n253⟩, -, X253, ⟨Lc253, hQ253, l253, y253, z253⟩, st253⟩ := X251.virtualBack hx (y := (⟨"com/example/brief_locator/brieflocator/interchange/CanonicalForm", "hasRootlessAuthority", "()Z"⟩ : MethodName)) (z := (⟨"com/example/brief_locator/brieflocator/interchange/CanonicalForm", "hasRootlessAuthority", "()Z"⟩ : MethodName)) hown (mvT hZ (hw _ (List.mem_of_getElem? (i := 53) rfl))) (mvT hZ (hw _ (List.mem_of_getElem? (i := 54) rfl))) (notFace_of_selects (args := #[]) (mvT hZ (hw _ (List.mem_of_getElem? (i := 56) rfl)))) (mvT hZ (hw _ (List.mem_of_getElem? (i := 56) rfl))) (mvT hZ (hw _ (List.mem_of_getElem? (i := 55) rfl))) (by decide) (backOf (W := 0) (rmhr l Z a0 hw [] b250 (ctp_out4 (2 : Int32) (2 : Int32) (5 : Int32) (5 : Int32) 5 (f0_g544j i2 i4) 2) (2 : Int32) (2 : Int32) b244 5 (f0_g544j i2 i4) 2 T251.heap n0 u251_0 u251_4 u251_3 u251_2 u251_1 f254 rfl (by decide)) hZ (hw _ (List.mem_of_getElem? (i := 57) rfl)) (hw _ (List.mem_of_getElem? (i := 4) rfl)) (by decide) (by decide)) q253a q253c (g := (mkF m 573 #[vi i0, vi i1, vi i2, vi i3, vi i4, vi 2, vi 1, vi (f0_v33 i4), vi (f0_v38 i2), vi (f0_v46 i1), vi 3, .val (.ref b244), vi 2, vi 2, vi 0, vi 5, .val (.ref b250), .unset, .unset] [(.ref b250)])) rfl (by rw [hml]; rfl) (Steps.refl _) (argsL := []) (rest := []) (lenOf pd_7 rfl) rfl (by show 2 * 0 + _ ≤ _; exact Nat.le_of_eq rfl) (hb hby at_573) (fun _ _ => ⟨rfl, rfl, (by decide : 2 + 0 ≤ _), (by decide : 15 + 0 ≤ _)⟩)
        dsimp only [Pt.U, Pt.locs, Pt.cells, Pt.slots] at X253 l253 y253 z253 st253 hQ253
        subst l253 y253 z253
        obtain ⟨rfl, N253q, e253⟩ := hQ253
        have N253 := Fr.app N251 N253q
        obtain ⟨Lh253, X253, N253⟩ := hide X253 N253 (C := 2) (S := 15) (by decide) (by decide)
        refine Outs.to st253 ?_
        refine Outs.of (U' := T253.setTop (mkF m 586 #[vi i0, vi i1, vi i2, vi i3, vi i4, vi 2, vi 1, vi (f0_v33 i4), vi (f0_v38 i2), vi (f0_v46 i1), vi 3, .val (.ref b244), vi 2, vi 2, vi 0, vi 5, .val (.ref b250), .unset, .unset] [(.int (1 : Int32))])) (fun t k => ?_) ?_
        · refine XS.iload X253.here hx rfl (hb hby at_576) rfl ?_
          refine XS.icmpNo X253.here hx rfl (hb hby at_578) rfl (teq (law_x22 i0 i1 i2 i3 i4 hc11 hc432)).2 ?_
          refine XS.iconst X253.here hx rfl (hb hby at_581) ?_
          refine XS.goto X253.here hx rfl (pc0 := 582) (pc' := 586) rfl (hb hby at_582) (by decide) (by decide) ?_
          exact k
        exact Outs.retN (t := .boolean) (z := (1 : Int32)) X253 hx hret (by simp) (hb hby at_586) hlk (by decide) (by decide) e253 ⟨rfl, N253⟩
      · refine Outs.of (U' := s₁.setTop (mkF m 460 #[vi i0, vi i1, vi i2, vi i3, vi i4, vi 2, vi 1, vi (f0_v33 i4), vi (f0_v38 i2), vi (f0_v46 i1), vi 3, .unset, .unset, .unset, .unset, vi ((f0_v38 i2) % (25 : Int32)), .unset, .unset, .unset] [])) (fun t k => ?_) ?_
        · refine XS.ifYes X0.here hx rfl (pc0 := 432) (pc' := 460) rfl (hb hby at_432) rfl ((if0 _ _).trans (feq hc432).2) (by decide) (by decide) ?_
          exact k
        refine Outs.of (U' := s₁.setTop (mkF m 464 #[vi i0, vi i1, vi i2, vi i3, vi i4, vi 2, vi 1, vi (f0_v33 i4), vi (f0_v38 i2), vi (f0_v46 i1), vi 3, .unset, .unset, .unset, .unset, vi ((f0_v38 i2) % (25 : Int32)), .unset, .unset, .unset] [(.int (5 : Int32))])) (fun t k => ?_) ?_
        · refine XS.iconst X0.here hx rfl (hb hby at_460) ?_
          refine XS.iload X0.here hx rfl (hb hby at_461) rfl ?_
          refine XS.iadd X0.here hx rfl (hb hby at_463) rfl ?_
          exact k
        obtain ⟨T255, h255, X255, e255, E255, A255, st255⟩ := newAF X0 hx hZ (aty := .byte) (hw _ (List.mem_of_getElem? (i := 1) rfl)) e0 (f := (mkF m 464 #[vi i0, vi i1, vi i2, vi i3, vi i4, vi 2, vi 1, vi (f0_v33 i4), vi (f0_v38 i2), vi (f0_v46 i1), vi 3, .unset, .unset, .unset, .unset, vi ((f0_v38 i2) % (25 : Int32)), .unset, .unset, .unset] [(.int (5 : Int32))])) rfl (hb hby at_464) rfl (k := 5) rfl (cap := 5) (by decide) (by decide) (by decide) (by decide)
        obtain ⟨b255, g255⟩ : ∃ z, z = h0.size := ⟨_, rfl⟩
        rw [← g255] at A255 st255
        have g_b255 : n0 ≤ b255 := Nat.le_trans Z0 (Nat.le_of_eq g255.symm)
        have V255 : AI Z h255 b255 .byte 5 (fun _ => (0 : Int32)) := A255
        refine Outs.of st255 ?_
        refine Outs.of (U' := T255.setTop (mkF m 486 #[vi i0, vi i1, vi i2, vi i3, vi i4, vi 2, vi 1, vi (f0_v33 i4), vi (f0_v38 i2), vi (f0_v46 i1), vi 3, .val (.ref b255), .unset, .unset, .unset, vi ((f0_v38 i2) % (25 : Int32)), .unset, .unset, .unset] [(.int ((130 : Int32).toInt8.toInt32)), (.int (0 : Int32)), (.ref b255)])) (fun t k => ?_) ?_
        · refine XS.astore X255.here hx rfl (hb hby at_466) rfl rfl (l' := #[vi i0, vi i1, vi i2, vi i3, vi i4, vi 2, vi 1, vi (f0_v33 i4), vi (f0_v38 i2), vi (f0_v46 i1), vi 3, .val (.ref b255), .unset, .unset, .unset, vi ((f0_v38 i2) % (25 : Int32)), .unset, .unset, .unset]) rfl ?_
          refine XS.aload X255.here hx rfl (hb hby at_468) rfl rfl ?_
          refine XS.iconst X255.here hx rfl (hb hby at_470) ?_
          refine XS.sipush X255.here hx rfl (hb hby at_471) ?_
          refine XS.iload X255.here hx rfl (hb hby at_474) rfl ?_
          refine XS.ifNo X255.here hx rfl (hb hby at_476) rfl ((if0 _ _).trans (feq (show ¬ ((1 : Int32) = (0 : Int32)) from (by decide))).1) ?_
          refine XS.iconst X255.here hx rfl (hb hby at_479) ?_
          refine XS.goto X255.here hx rfl (pc0 := 480) (pc' := 484) rfl (hb hby at_480) (by decide) (by decide) ?_
          refine XS.iadd X255.here hx rfl (hb hby at_484) rfl ?_
          refine XS.i2b X255.here hx rfl (hb hby at_485) rfl ?_
          exact k
        obtain ⟨T256, h256, X256, e256, W256, V256, st256⟩ := puB X255 hx hZ e255 V255 (j := (0 : Int32)) (x := ((130 : Int32).toInt8.toInt32)) (k := 0) rfl (by decide) (f := (mkF m 486 #[vi i0, vi i1, vi i2, vi i3, vi i4, vi 2, vi 1, vi (f0_v33 i4), vi (f0_v38 i2), vi (f0_v46 i1), vi 3, .val (.ref b255), .unset, .unset, .unset, vi ((f0_v38 i2) % (25 : Int32)), .unset, .unset, .unset] [(.int ((130 : Int32).toInt8.toInt32)), (.int (0 : Int32)), (.ref b255)])) rfl rfl (hb hby at_486)
        replace V256 : AI Z h256 b255 .byte 5 f0_g486a := V256
        have N256 := Fr.snoc X256 N0 g_b255
        obtain ⟨Lh256, X256, N256⟩ := hide X256 N256 (C := 1) (S := 5) (by decide) (by decide)
        refine Outs.of st256 ?_
        refine Outs.of (U' := T256.setTop (mkF m 505 #[vi i0, vi i1, vi i2, vi i3, vi i4, vi 2, vi 1, vi (f0_v33 i4), vi (f0_v38 i2), vi (f0_v46 i1), vi 3, .val (.ref b255), .unset, .unset, .unset, vi ((f0_v38 i2) % (25 : Int32)), .unset, .unset, .unset] [(.int (f0_494_s0 i2)), (.int (1 : Int32)), (.ref b255)])) (fun t k => ?_) ?_
        · refine XS.aload X256.here hx rfl (hb hby at_487) rfl rfl ?_
          refine XS.iconst X256.here hx rfl (hb hby at_489) ?_
          refine XS.iload X256.here hx rfl (hb hby at_490) rfl ?_
          refine XS.bipush X256.here hx rfl (hb hby at_492) ?_
          by_cases hc494 : ((f0_v38 i2) % (25 : Int32)) = (24 : Int32)
          · refine XS.icmpNo X256.here hx rfl (hb hby at_494) rfl (teq hc494).2 ?_
            refine XS.bipush X256.here hx rfl (hb hby at_497) ?_
            refine XS.goto X256.here hx rfl (pc0 := 499) (pc' := 505) rfl (hb hby at_499) (by decide) (by decide) ?_
            rw [show (f0_494_s0 i2) = (-11 : Int32) from (if_pos hc494)] at k
            exact k
          · refine XS.icmpYes X256.here hx rfl (pc0 := 494) (pc' := 502) rfl (hb hby at_494) rfl (feq hc494).2 (by decide) (by decide) ?_
            refine XS.iload X256.here hx rfl (hb hby at_502) rfl ?_
            refine XS.i2b X256.here hx rfl (hb hby at_504) rfl ?_
            rw [show (f0_494_s0 i2) = (((f0_v38 i2) % (25 : Int32)).toInt8.toInt32) from (if_neg hc494)] at k
            exact k
        obtain ⟨T257, h257, X257, e257, W257, V257, st257⟩ := puB X256 hx hZ e256 V256 (j := (1 : Int32)) (x := (f0_494_s0 i2)) (k := 1) rfl (by decide) (f := (mkF m 505 #[vi i0, vi i1, vi i2, vi i3, vi i4, vi 2, vi 1, vi (f0_v33 i4), vi (f0_v38 i2), vi (f0_v46 i1), vi 3, .val (.ref b255), .unset, .unset, .unset, vi ((f0_v38 i2) % (25 : Int32)), .unset, .unset, .unset] [(.int (f0_494_s0 i2)), (.int (1 : Int32)), (.ref b255)])) rfl rfl (hb hby at_505)
        replace V257 : AI Z h257 b255 .byte 5 (f0_g505a i2) := V257
        have N257 := Fr.snoc X257 N256 g_b255
        obtain ⟨Lh257, X257, N257⟩ := hide X257 N257 (C := 1) (S := 5) (by decide) (by decide)
        refine Outs.of st257 ?_
        refine Outs.of (U' := T257.setTop (mkF m 526 #[vi i0, vi i1, vi i2, vi i3, vi i4, vi 2, vi 1, vi (f0_v33 i4), vi (f0_v38 i2), vi (f0_v46 i1), vi 3, .val (.ref b255), vi 2, vi 2, vi 0, vi ((f0_v38 i2) % (25 : Int32)), .unset, .unset, .unset] [(.int (-127 : Int32)), (.int (2 : Int32)), (.ref b255)])) (fun t k => ?_) ?_
        · refine XS.iconst X257.here hx rfl (hb hby at_506) ?_
          refine XS.istore X257.here hx rfl (hb hby at_507) rfl (l' := #[vi i0, vi i1, vi i2, vi i3, vi i4, vi 2, vi 1, vi (f0_v33 i4), vi (f0_v38 i2), vi (f0_v46 i1), vi 3, .val (.ref b255), vi 2, .unset, .unset, vi ((f0_v38 i2) % (25 : Int32)), .unset, .unset, .unset]) rfl ?_
          refine XS.iconst X257.here hx rfl (hb hby at_509) ?_
          refine XS.istore X257.here hx rfl (hb hby at_510) rfl (l' := #[vi i0, vi i1, vi i2, vi i3, vi i4, vi 2, vi 1, vi (f0_v33 i4), vi (f0_v38 i2), vi (f0_v46 i1), vi 3, .val (.ref b255), vi 2, vi 2, .unset, vi ((f0_v38 i2) % (25 : Int32)), .unset, .unset, .unset]) rfl ?_
          refine XS.iconst X257.here hx rfl (hb hby at_512) ?_
          refine XS.istore X257.here hx rfl (hb hby at_513) rfl (l' := #[vi i0, vi i1, vi i2, vi i3, vi i4, vi 2, vi 1, vi (f0_v33 i4), vi (f0_v38 i2), vi (f0_v46 i1), vi 3, .val (.ref b255), vi 2, vi 2, vi 0, vi ((f0_v38 i2) % (25 : Int32)), .unset, .unset, .unset]) rfl ?_
          refine XS.iload X257.here hx rfl (hb hby at_515) rfl ?_
          refine XS.ifNo X257.here hx rfl (hb hby at_517) rfl ((if0 _ _).trans (feq (show ¬ ((1 : Int32) = (0 : Int32)) from (by decide))).1) ?_
          refine XS.aload X257.here hx rfl (hb hby at_520) rfl rfl ?_
          refine XS.iload X257.here hx rfl (hb hby at_522) rfl ?_
          refine XS.bipush X257.here hx rfl (hb hby at_524) ?_
          exact k
        obtain ⟨T258, h258, X258, e258, W258, V258, st258⟩ := puB X257 hx hZ e257 V257 (j := (2 : Int32)) (x := (-127 : Int32)) (k := 2) rfl (by decide) (f := (mkF m 526 #[vi i0, vi i1, vi i2, vi i3, vi i4, vi 2, vi 1, vi (f0_v33 i4), vi (f0_v38 i2), vi (f0_v46 i1), vi 3, .val (.ref b255), vi 2, vi 2, vi 0, vi ((f0_v38 i2) % (25 : Int32)), .unset, .unset, .unset] [(.int (-127 : Int32)), (.int (2 : Int32)), (.ref b255)])) rfl rfl (hb hby at_526)
        replace V258 : AI Z h258 b255 .byte 5 (f0_g526j i2) := V258
        have N258 := Fr.snoc X258 N257 g_b255
        obtain ⟨Lh258, X258, N258⟩ := hide X258 N258 (C := 1) (S := 5) (by decide) (by decide)
        refine Outs.of st258 ?_
        refine Outs.of (U' := T258.setTop (mkF m 535 #[vi i0, vi i1, vi i2, vi i3, vi i4, vi 2, vi 1, vi (f0_v33 i4), vi (f0_v38 i2), vi (f0_v46 i1), vi 3, .val (.ref b255), vi 2, vi 2, vi 0, vi ((f0_v38 i2) % (25 : Int32)), .unset, .unset, .unset] [(.int (97 : Int32)), (.int (3 : Int32)), (.ref b255)])) (fun t k => ?_) ?_
        · refine XS.aload X258.here hx rfl (hb hby at_527) rfl rfl ?_
          refine XS.iload X258.here hx rfl (hb hby at_529) rfl ?_
          refine XS.iconst X258.here hx rfl (hb hby at_531) ?_
          refine XS.iadd X258.here hx rfl (hb hby at_532) rfl ?_
          refine XS.bipush X258.here hx rfl (hb hby at_533) ?_
          exact k
        obtain ⟨T259, h259, X259, e259, W259, V259, st259⟩ := puB X258 hx hZ e258 V258 (j := (3 : Int32)) (x := (97 : Int32)) (k := 3) rfl (by decide) (f := (mkF m 535 #[vi i0, vi i1, vi i2, vi i3, vi i4, vi 2, vi 1, vi (f0_v33 i4), vi (f0_v38 i2), vi (f0_v46 i1), vi 3, .val (.ref b255), vi 2, vi 2, vi 0, vi ((f0_v38 i2) % (25 : Int32)), .unset, .unset, .unset] [(.int (97 : Int32)), (.int (3 : Int32)), (.ref b255)])) rfl rfl (hb hby at_535)
        replace V259 : AI Z h259 b255 .byte 5 (f0_g535j i2) := V259
        have N259 := Fr.snoc X259 N258 g_b255
        obtain ⟨Lh259, X259, N259⟩ := hide X259 N259 (C := 1) (S := 5) (by decide) (by decide)
        refine Outs.of st259 ?_
        refine Outs.of (U' := T259.setTop (mkF m 544 #[vi i0, vi i1, vi i2, vi i3, vi i4, vi 2, vi 1, vi (f0_v33 i4), vi (f0_v38 i2), vi (f0_v46 i1), vi 3, .val (.ref b255), vi 2, vi 2, vi 0, vi ((f0_v38 i2) % (25 : Int32)), .unset, .unset, .unset] [(.int (f0_v33 i4)), (.int (4 : Int32)), (.ref b255)])) (fun t k => ?_) ?_
        · refine XS.aload X259.here hx rfl (hb hby at_536) rfl rfl ?_
          refine XS.iload X259.here hx rfl (hb hby at_538) rfl ?_
          refine XS.iconst X259.here hx rfl (hb hby at_540) ?_
          refine XS.iadd X259.here hx rfl (hb hby at_541) rfl ?_
          refine XS.iload X259.here hx rfl (hb hby at_542) rfl ?_
          exact k
        obtain ⟨T260, h260, X260, e260, W260, V260, st260⟩ := puB X259 hx hZ e259 V259 (j := (4 : Int32)) (x := (f0_v33 i4)) (k := 4) rfl (by decide) (f := (mkF m 544 #[vi i0, vi i1, vi i2, vi i3, vi i4, vi 2, vi 1, vi (f0_v33 i4), vi (f0_v38 i2), vi (f0_v46 i1), vi 3, .val (.ref b255), vi 2, vi 2, vi 0, vi ((f0_v38 i2) % (25 : Int32)), .unset, .unset, .unset] [(.int (f0_v33 i4)), (.int (4 : Int32)), (.ref b255)])) rfl rfl (hb hby at_544)
        replace V260 : AI Z h260 b255 .byte 5 (f0_g544j i2 i4) := V260
        have N260 := Fr.snoc X260 N259 g_b255
        obtain ⟨Lh260, X260, N260⟩ := hide X260 N260 (C := 1) (S := 5) (by decide) (by decide)
        refine Outs.of st260 ?_
        refine Outs.of (U' := T260.setTop (mkF m 552 #[vi i0, vi i1, vi i2, vi i3, vi i4, vi 2, vi 1, vi (f0_v33 i4), vi (f0_v38 i2), vi (f0_v46 i1), vi 3, .val (.ref b255), vi 2, vi 2, vi 0, vi 5, .unset, .unset, .unset] [])) (fun t k => ?_) ?_
        · refine XS.iload X260.here hx rfl (hb hby at_545) rfl ?_
          refine XS.iload X260.here hx rfl (hb hby at_547) rfl ?_
          refine XS.iadd X260.here hx rfl (hb hby at_549) rfl ?_
          refine XS.istore X260.here hx rfl (hb hby at_550) rfl (l' := #[vi i0, vi i1, vi i2, vi i3, vi i4, vi 2, vi 1, vi (f0_v33 i4), vi (f0_v38 i2), vi (f0_v46 i1), vi 3, .val (.ref b255), vi 2, vi 2, vi 0, vi 5, .unset, .unset, .unset]) rfl ?_
          exact k
        obtain ⟨T261, h261, X261, e261, E261, A261, D261, -, st261⟩ := newO X260 hx hZ hown (hw _ (List.mem_of_getElem? (i := 2) rfl)) (hw _ (List.mem_of_getElem? (i := 3) rfl)) (hw _ (List.mem_of_getElem? (i := 4) rfl)) e260 (g := (mkF m 552 #[vi i0, vi i1, vi i2, vi i3, vi i4, vi 2, vi 1, vi (f0_v33 i4), vi (f0_v38 i2), vi (f0_v46 i1), vi 3, .val (.ref b255), vi 2, vi 2, vi 0, vi 5, .unset, .unset, .unset] [])) rfl (hb hby at_552) (by decide) (by decide)
        obtain ⟨b261, g261⟩ : ∃ z, z = h260.size := ⟨_, rfl⟩
        rw [← g261] at A261 D261 st261
        have g_b261 : n0 ≤ b261 := Nat.le_trans (Nat.le_trans (Nat.le_trans (Nat.le_trans (Nat.le_trans (Nat.le_trans (Nat.le_trans Z0 E255.1) (Keep.of_wr W256).1) (Keep.of_wr W257).1) (Keep.of_wr W258).1) (Keep.of_wr W259).1) (Keep.of_wr W260).1) (Nat.le_of_eq g261.symm)
        have ne_b255_b261 : b255 ≠ b261 := Nat.ne_of_lt (Nat.lt_of_lt_of_eq V260.lt g261.symm)
        have F261_12 : Fld Z h261 b261 "com/example/brief_locator/brieflocator/interchange/CanonicalForm" "bytes" "[B" .null := D261 (Or.inr (hw _ (List.mem_of_getElem? (i := 12) rfl))) (ty := (.array .byte)) (by decide)
        have F261_14 : Fld Z h261 b261 "com/example/brief_locator/brieflocator/interchange/CanonicalForm" "firstEnd" "I" (.int (0 : Int32)) := D261 (Or.inr (hw _ (List.mem_of_getElem? (i := 14) rfl))) (ty := .int) (by decide)
        have F261_16 : Fld Z h261 b261 "com/example/brief_locator/brieflocator/interchange/CanonicalForm" "pathStart" "I" (.int (0 : Int32)) := D261 (Or.inr (hw _ (List.mem_of_getElem? (i := 16) rfl))) (ty := .int) (by decide)
        have F261_18 : Fld Z h261 b261 "com/example/brief_locator/brieflocator/interchange/CanonicalForm" "pathEnd" "I" (.int (0 : Int32)) := D261 (Or.inr (hw _ (List.mem_of_getElem? (i := 18) rfl))) (ty := .int) (by decide)
        have F261_20 : Fld Z h261 b261 "com/example/brief_locator/brieflocator/interchange/CanonicalForm" "queryEnd" "I" (.int (0 : Int32)) := D261 (Or.inr (hw _ (List.mem_of_getElem? (i := 20) rfl))) (ty := .int) (by decide)
        have F261_25 : Fld Z h261 b261 "com/example/brief_locator/brieflocator/interchange/CanonicalForm" "hasScheme" "Z" (.int (0 : Int32)) := D261 (Or.inr (hw _ (List.mem_of_getElem? (i := 25) rfl))) (ty := .boolean) (by decide)
        have F261_27 : Fld Z h261 b261 "com/example/brief_locator/brieflocator/interchange/CanonicalForm" "hasAuthority" "Z" (.int (0 : Int32)) := D261 (Or.inr (hw _ (List.mem_of_getElem? (i := 27) rfl))) (ty := .boolean) (by decide)
        have F261_37 : Fld Z h261 b261 "com/example/brief_locator/brieflocator/interchange/CanonicalForm" "pathSegments" "I" (.int (0 : Int32)) := D261 (Or.inr (hw _ (List.mem_of_getElem? (i := 37) rfl))) (ty := .int) (by decide)
        have F261_52 : Fld Z h261 b261 "com/example/brief_locator/brieflocator/interchange/CanonicalForm" "pathSegmentsStart" "I" (.int (0 : Int32)) := D261 (Or.inr (hw _ (List.mem_of_getElem? (i := 52) rfl))) (ty := .int) (by decide)
        refine Outs.of st261 ?_
        refine Outs.of (U' := T261.setTop (mkF m 566 #[vi i0, vi i1, vi i2, vi i3, vi i4, vi 2, vi 1, vi (f0_v33 i4), vi (f0_v38 i2), vi (f0_v46 i1), vi 3, .val (.ref b255), vi 2, vi 2, vi 0, vi 5, .unset, .unset, .unset] [(.int (5 : Int32)), (.int (5 : Int32)), (.int (2 : Int32)), (.int (2 : Int32)), (.ref b255), (.ref b261), (.ref b261)])) (fun t k => ?_) ?_
        · refine XS.dup X261.here hx rfl (hb hby at_555) rfl rfl ?_
          refine XS.aload X261.here hx rfl (hb hby at_556) rfl rfl ?_
          refine XS.iload X261.here hx rfl (hb hby at_558) rfl ?_
          refine XS.iload X261.here hx rfl (hb hby at_560) rfl ?_
          refine XS.iload X261.here hx rfl (hb hby at_562) rfl ?_
          refine XS.iload X261.here hx rfl (hb hby at_564) rfl ?_
          exact k
        have f263 : AI Z h261 b255 .byte 5 (f0_g544j i2 i4) := (V260.ext E261)
        obtain ⟨_, _, ⟨T262, L262, k262, n262⟩, -, X262, ⟨Lc262, hQ262, l262, y262, z262⟩, st262⟩ := X261.specialBack hx (y := (⟨"com/example/brief_locator/brieflocator/interchange/CanonicalForm", "<init>", "([BIIII)V"⟩ : MethodName)) rfl hown (mvT hZ (hw _ (List.mem_of_getElem? (i := 5) rfl))) (mvT hZ (hw _ (List.mem_of_getElem? (i := 6) rfl))) (mvT hZ (hw _ (List.mem_of_getElem? (i := 7) rfl))) (by decide) (backOf (W := 1) (rmctp l Z a0 hw [] b261 b255 (2 : Int32) (2 : Int32) (5 : Int32) (5 : Int32) 5 (f0_g544j i2 i4) 2 h261 n0 (Nat.le_trans (Nat.le_trans (Nat.le_trans (Nat.le_trans (Nat.le_trans (Nat.le_trans (Nat.le_trans Z0 E255.1) (Keep.of_wr W256).1) (Keep.of_wr W257).1) (Keep.of_wr W258).1) (Keep.of_wr W259).1) (Keep.of_wr W260).1) E261.1) A261 g_b261 F261_12 F261_14 F261_16 F261_18 F261_20 F261_25 F261_27 F261_37 F261_52 f263 ne_b255_b261 (by decide) rfl (by decide) rfl (by decide) (by decide)) hZ (hw _ (List.mem_of_getElem? (i := 7) rfl)) (hw _ (List.mem_of_getElem? (i := 4) rfl)) (by decide) (by decide)) (g := (mkF m 566 #[vi i0, vi i1, vi i2, vi i3, vi i4, vi 2, vi 1, vi (f0_v33 i4), vi (f0_v38 i2), vi (f0_v46 i1), vi 3, .val (.ref b255), vi 2, vi 2, vi 0, vi 5, .unset, .unset, .unset] [(.int (5 : Int32)), (.int (5 : Int32)), (.int (2 : Int32)), (.int (2 : Int32)), (.ref b255), (.ref b261), (.ref b261)])) rfl (by rw [hml]; rfl) (Steps.refl _) (a := b261) (argsL := [(.ref b255), (.int (2 : Int32)), (.int (2 : Int32)), (.int (5 : Int32)), (.int (5 : Int32))]) (rest := [(.ref b261)]) (lenOf pd_0 rfl) rfl (by show 2 * 0 + _ ≤ _; exact Nat.le_of_eq rfl) (hb hby at_566) (fun _ _ => ⟨rfl, e261, (by decide : 2 + 0 ≤ _), (by decide : 15 + 0 ≤ _)⟩)
        dsimp only [Pt.U, Pt.locs, Pt.cells, Pt.slots] at X262 l262 y262 z262 st262 hQ262
        subst l262 y262 z262
        obtain ⟨rfl, N262q, K262, u262_0, u262_1, u262_2, u262_3, u262_4⟩ := hQ262
        have N262 := Fr.app N260 N262q
        obtain ⟨Lh262, X262, N262⟩ := hide X262 N262 (C := 2) (S := 15) (by decide) (by decide)
        refine Outs.to st262 ?_
        refine Outs.of (U' := T262.setTop (mkF m 573 #[vi i0, vi i1, vi i2, vi i3, vi i4, vi 2, vi 1, vi (f0_v33 i4), vi (f0_v38 i2), vi (f0_v46 i1), vi 3, .val (.ref b255), vi 2, vi 2, vi 0, vi 5, .val (.ref b261), .unset, .unset] [(.ref b261)])) (fun t k => ?_) ?_
        · refine XS.astore X262.here hx rfl (hb hby at_569) rfl rfl (l' := #[vi i0, vi i1, vi i2, vi i3, vi i4, vi 2, vi 1, vi (f0_v33 i4), vi (f0_v38 i2), vi (f0_v46 i1), vi 3, .val (.ref b255), vi 2, vi 2, vi 0, vi 5, .val (.ref b261), .unset, .unset]) rfl ?_
          refine XS.aload X262.here hx rfl (hb hby at_571) rfl rfl ?_
          exact k
        have f265 : AI Z T262.heap b255 .byte 5 (f0_g544j i2 i4) := (f263.keep K262 (ninS ne_b255_b261 nin0))
        obtain ⟨cq264, kq264, q264a, q264b, q264c⟩ := isOf hZ rfl u262_0
        obtain ⟨_, _, ⟨T264, L264, k264, n264⟩, -, X264, ⟨Lc264, hQ264, l264, y264, z264⟩, st264⟩ := X262.virtualBack hx (y := (⟨"com/example/brief_locator/brieflocator/interchange/CanonicalForm", "hasRootlessAuthority", "()Z"⟩ : MethodName)) (z := (⟨"com/example/brief_locator/brieflocator/interchange/CanonicalForm", "hasRootlessAuthority", "()Z"⟩ : MethodName)) hown (mvT hZ (hw _ (List.mem_of_getElem? (i := 53) rfl))) (mvT hZ (hw _ (List.mem_of_getElem? (i := 54) rfl))) (notFace_of_selects (args := #[]) (mvT hZ (hw _ (List.mem_of_getElem? (i := 56) rfl)))) (mvT hZ (hw _ (List.mem_of_getElem? (i := 56) rfl))) (mvT hZ (hw _ (List.mem_of_getElem? (i := 55) rfl))) (by decide) (backOf (W := 0) (rmhr l Z a0 hw [] b261 (ctp_out4 (2 : Int32) (2 : Int32) (5 : Int32) (5 : Int32) 5 (f0_g544j i2 i4) 2) (2 : Int32) (2 : Int32) b255 5 (f0_g544j i2 i4) 2 T262.heap n0 u262_0 u262_4 u262_3 u262_2 u262_1 f265 rfl (by decide)) hZ (hw _ (List.mem_of_getElem? (i := 57) rfl)) (hw _ (List.mem_of_getElem? (i := 4) rfl)) (by decide) (by decide)) q264a q264c (g := (mkF m 573 #[vi i0, vi i1, vi i2, vi i3, vi i4, vi 2, vi 1, vi (f0_v33 i4), vi (f0_v38 i2), vi (f0_v46 i1), vi 3, .val (.ref b255), vi 2, vi 2, vi 0, vi 5, .val (.ref b261), .unset, .unset] [(.ref b261)])) rfl (by rw [hml]; rfl) (Steps.refl _) (argsL := []) (rest := []) (lenOf pd_7 rfl) rfl (by show 2 * 0 + _ ≤ _; exact Nat.le_of_eq rfl) (hb hby at_573) (fun _ _ => ⟨rfl, rfl, (by decide : 2 + 0 ≤ _), (by decide : 15 + 0 ≤ _)⟩)
        dsimp only [Pt.U, Pt.locs, Pt.cells, Pt.slots] at X264 l264 y264 z264 st264 hQ264
        subst l264 y264 z264
        obtain ⟨rfl, N264q, e264⟩ := hQ264
        have N264 := Fr.app N262 N264q
        obtain ⟨Lh264, X264, N264⟩ := hide X264 N264 (C := 2) (S := 15) (by decide) (by decide)
        refine Outs.to st264 ?_
        refine Outs.of (U' := T264.setTop (mkF m 586 #[vi i0, vi i1, vi i2, vi i3, vi i4, vi 2, vi 1, vi (f0_v33 i4), vi (f0_v38 i2), vi (f0_v46 i1), vi 3, .val (.ref b255), vi 2, vi 2, vi 0, vi 5, .val (.ref b261), .unset, .unset] [(.int (1 : Int32))])) (fun t k => ?_) ?_
        · refine XS.iload X264.here hx rfl (hb hby at_576) rfl ?_
          refine XS.icmpNo X264.here hx rfl (hb hby at_578) rfl (teq (law_x23 i0 i1 i2 i3 i4 hc11 hc432)).2 ?_
          refine XS.iconst X264.here hx rfl (hb hby at_581) ?_
          refine XS.goto X264.here hx rfl (pc0 := 582) (pc' := 586) rfl (hb hby at_582) (by decide) (by decide) ?_
          exact k
        exact Outs.retN (t := .boolean) (z := (1 : Int32)) X264 hx hret (by simp) (hb hby at_586) hlk (by decide) (by decide) e264 ⟨rfl, N264⟩
set_option maxRecDepth 65536 in
set_option maxHeartbeats 40000000 in
theorem comes_1 {Post : Tables → Env → Array Value → State → Outcome → State → Prop} (hpost : ∀ tb e args s v u, (limb_1_1.after args s (.returned v) u = true ∧ limb_1_2.after args s (.returned v) u = true ∧ True) → FrameEnd s (.returned v) u (Jvm.fieldLocs frame_1_writes args s ++ Jvm.arrayLocs frame_1_arrays args s ++ Jvm.staticLocs frame_1_statics s) 16 128 → Post tb e args s (.returned v) u) :
    ArmFor flags0 classFile x code maxLocals ret World_1 tables_1 room_1 Calls_1 rest_1 Pre_1 Post := by
  intro l hfl _ _ p e ha hc hk s m args below hf hA hF happ hP
  obtain ⟨hcalls, hrest, hpre⟩ := hP
  obtain ⟨-, -, -, hnamed, -, -, -, hat⟩ := (Spec.applies_iff hf).mp happ
  obtain ⟨hg, hn⟩ := and_e (Cond.before_iff.mp (show (Jvm.Cond.and given_1 narrow_1).before args s = true from hpre))
  obtain ⟨g1, g2⟩ := and_e hg
  obtain ⟨g3, g4⟩ := and_e g2
  obtain ⟨g5, g6⟩ := and_e g4
  obtain ⟨g7, g8⟩ := and_e g6
  obtain ⟨g9, g10⟩ := and_e g8
  obtain ⟨w0, w1, w2, w3, w4, rfl⟩ : ∃ w0 w1 w2 w3 w4 : Value, args = #[w0, w1, w2, w3, w4] := by
    have hs : args.size = 5 := by simpa [Cond.value, given_1] using g1
    obtain ⟨L⟩ := args
    match L, hs with
    | [w0, w1, w2, w3, w4], _ => exact ⟨w0, w1, w2, w3, w4, rfl⟩
  have hw := fun d (hd : d ∈ tables_1) => atoms_spec (ws := Jvm.Cond.code x code maxLocals ret :: tables_1) hat d (List.mem_cons_of_mem _ hd)
  obtain ⟨i0, ei0⟩ := is_v g3
  obtain rfl : w0 = (.int i0) := Option.some.inj ei0
  obtain ⟨i1, ei1⟩ := is_v g5
  obtain rfl : w1 = (.int i1) := Option.some.inj ei1
  obtain ⟨i2, ei2⟩ := is_v g7
  obtain rfl : w2 = (.int i2) := Option.some.inj ei2
  obtain ⟨i3, ei3⟩ := is_v g9
  obtain rfl : w3 = (.int i3) := Option.some.inj ei3
  obtain ⟨i4, ei4⟩ := is_v g10
  obtain rfl : w4 = (.int i4) := Option.some.inj ei4
  obtain ⟨n, o, h1, h2, h3, v, L, rfl, hQ0, hq⟩ := rm0 l s _ hw tables_1 i0 i1 i2 i3 i4 s.heap s.heap.size (Nat.le_refl _) p e ha hc hk s m _ below hf ((Spec.applies_iff_loose hf).mp happ).1 ⟨rfl, State.Warmed39.refl s, rfl⟩ trivial
  obtain ⟨rfl, N⟩ : v = some (.int 1) ∧ Fr s.heap.size L := hQ0
  refine ⟨n, _, h1, h2, h3, hpost _ _ _ _ _ _ ⟨Cond.after_iff.mpr rfl, Cond.after_iff.mpr (eq_i res_at (Term.int_eval (1)) rfl), trivial⟩ ⟨hq.1, hq.2.1, (hq.2.2.sift fun y hy => Or.inr (N y hy)).mono (by decide) (by decide)⟩⟩
theorem main_1_1 : Claimed_1_1 := comes_1 fun _ _ _ _ _ _ h hF => ⟨h.1, hF⟩
theorem main_1_2 : Claimed_1_2 := comes_1 fun _ _ _ _ _ _ h hF => ⟨h.2.1, hF⟩
end Jvm.Pilot.@@N@@
namespace Jvm.Pilot.@@N@@
open Jvm Jvm.ClassFile Sem Op Lib Jvm.Free Jvm.Stand Jvm.Pilot.@@N@@.Jvm.D
/-! MADE BY PROGRAM (witnessworld.py) out of the Statement's table words and the real class files: 16 classes; the members and pool entries that the words name. The judged class is class 1, her method 1. -/
namespace start1
open Jvm.ClassFile
def u (s : String) : CpInfo := .utf8 (stringToUtf16 s)
/-- a pool by its gaps: so many unusable entries, then the entry; so many at the end -/
def gap : Nat → List CpInfo → List CpInfo
  | 0, r => r
  | n + 1, r => .unusable :: gap n r
def poolList (es : List (Nat × CpInfo)) (last : Nat) : List CpInfo := es.foldr (fun e r => gap e.1 (e.2 :: r)) (gap last [])
def pool (es : List (Nat × CpInfo)) (last : Nat) : Array CpInfo := ⟨poolList es last⟩
def fileOf (pool : Array CpInfo) (this : Nat) (attrs : Array Attribute := #[]) (ms : Array MethodInfo := #[]) (fl : Nat := 33) (sup : Nat := 0) (ifs : Array Nat := #[]) (fds : Array FieldInfo := #[]) : ClassFile where
  minorVersion := 0
  majorVersion := 65
  constantPool := pool
  accessFlags := fl
  thisClass := this
  superClass := sup
  interfaces := ifs
  fields := fds
  methods := ms
  attributes := attrs
def plain (name : String) (sup : Option ClassId) : Class where
  name := name
  kind := .ordinary
  loader := none
  accessFlags := 33
  super := sup
  interfaces := #[]
  cf := none
  fields := #[]
  methods := #[]
  instanceTypes := #[]
  staticTypes := #[]
  resolved := #[]
  callSites := []
  init := .initialized
  statics := none
  mirror := none

def pool0 : Array CpInfo := pool [(5, u "<init>"), (0, u "()V"), (1, .class_ 10), (1, u "java/lang/Object")] 113

def k0c0 : Code := { maxStack := 0, maxLocals := 1, code := object_method_1_code, exceptionTable := #[], attributes := #[] }
def k0m0 : Method := { name := "<init>", desc := "()V", sig := { parameters := [], returnType := none }, accessFlags := 1, code := some k0c0 }
/-- java/lang/Object -/
def k0 : Class := { plain "java/lang/Object" none with
  accessFlags := 33
  interfaces := #[]
  cf := some (fileOf pool0 8 #[] #[{ accessFlags := 1, nameIndex := 5, descriptorIndex := 6, attributes := #[] }] 33 0 #[] #[])
  fields := #[]
  methods := #[k0m0]
  instanceTypes := #[]
  staticTypes := #[]
  resolved := Array.replicate 124 none
  statics := none }

def pool1 : Array CpInfo := pool [(2, .class_ 4), (1, u "java/lang/Object"), (0, u "<init>"), (0, u "()V"), (0, .integer 2147483647), (0, .class_ 9), (0, u "com/example/brief_locator/brieflocator/interchange/CanonicalForm"), (0, .methodref 8 11), (0, .nameAndType 5 12), (0, u "([BIIII)V"), (0, .methodref 8 14), (0, .nameAndType 15 16), (0, u "hasRootlessAuthority"), (0, u "()Z"), (0, .class_ 18), (0, u "com/example/brief_locator/brieflocator/interchange/CanonicalFormHasRootlessAuthorityPinLaw"), (2, u "law"), (0, u "(IIIII)Z")] 5

def k1m0 : Method := { name := "<init>", desc := "()V", sig := { parameters := [], returnType := none }, accessFlags := 1, code := none }
def k1c1 : Code := { maxStack := 7, maxLocals := 19, code := code, exceptionTable := #[], attributes := #[] }
def k1m1 : Method := { name := "law", desc := "(IIIII)Z", sig := { parameters := [.int, .int, .int, .int, .int], returnType := some .boolean }, accessFlags := 9, code := some k1c1 }
/-- com/example/brief_locator/brieflocator/interchange/CanonicalFormHasRootlessAuthorityPinLaw -/
def k1 : Class := { plain "com/example/brief_locator/brieflocator/interchange/CanonicalFormHasRootlessAuthorityPinLaw" (some 0) with
  accessFlags := 49
  interfaces := #[]
  cf := some (fileOf pool1 17 #[] #[{ accessFlags := 1, nameIndex := 5, descriptorIndex := 6, attributes := #[] }, { accessFlags := 9, nameIndex := 21, descriptorIndex := 22, attributes := #[] }] 49 2 #[] #[])
  fields := #[]
  methods := #[k1m0, k1m1]
  instanceTypes := #[]
  staticTypes := #[]
  resolved := Array.replicate 28 none
  statics := none }

def pool2 : Array CpInfo := pool [(1, .methodref 2 3), (0, .class_ 4), (0, .nameAndType 5 6), (0, u "java/lang/Object"), (0, u "<init>"), (0, u "()V"), (0, .fieldref 8 9), (0, .class_ 10), (0, .nameAndType 11 12), (0, u "com/example/brief_locator/brieflocator/interchange/CanonicalForm"), (0, u "bytes"), (0, u "[B"), (0, .fieldref 8 14), (0, .nameAndType 15 16), (0, u "firstEnd"), (0, u "I"), (0, .fieldref 8 18), (0, .nameAndType 19 16), (0, u "pathStart"), (0, .fieldref 8 21), (0, .nameAndType 22 16), (0, u "pathEnd"), (0, .fieldref 8 24), (0, .nameAndType 25 16), (0, u "queryEnd"), (0, .methodref 8 27), (0, .nameAndType 28 29), (0, u "isScheme"), (0, u "(B)Z"), (0, .fieldref 8 31), (0, .nameAndType 32 33), (0, u "hasScheme"), (0, u "Z"), (0, .fieldref 8 35), (0, .nameAndType 36 33), (0, u "hasAuthority"), (0, .methodref 8 38), (0, .nameAndType 39 40), (0, u "isSet"), (0, u "(II)Z"), (0, .methodref 42 43), (0, .class_ 44), (0, .nameAndType 45 46), (0, u "com/example/brief_locator/brieflocator/cbor/CborReader"), (0, u "argumentAt"), (0, u "([BI)J"), (0, .fieldref 8 48), (0, .nameAndType 49 16), (0, u "pathSegments"), (0, .methodref 51 52), (0, .class_ 53), (0, .nameAndType 54 55), (0, u "com/example/brief_locator/brieflocator/cbor/CborWriter"), (0, u "headLength"), (0, u "(J)I"), (0, .fieldref 8 57), (0, .nameAndType 58 16), (0, u "pathSegmentsStart"), (25, u "segmentEnds"), (0, u "Lcom/example/brief_locator/brieflocator/interchange/CanonicalForm$SegmentEnds;"), (0, .class_ 87), (0, u "com/example/brief_locator/brieflocator/interchange/CanonicalForm$SegmentEnds"), (7, u "NULL"), (0, u "B"), (2, u "TRUE"), (1, u "EMPTY_ARRAY"), (1, u "FIRST_ELEMENT"), (1, u "([BIIII)V"), (7, u "()Z"), (5, u "hasRootlessAuthority")] 10

def k2c0 : Code := { maxStack := 4, maxLocals := 7, code := prog_13_method_1_code, exceptionTable := #[], attributes := #[] }
def k2m0 : Method := { name := "<init>", desc := "([BIIII)V", sig := { parameters := [(.array .byte), .int, .int, .int, .int], returnType := none }, accessFlags := 0, code := some k2c0 }
def k2c1 : Code := { maxStack := 2, maxLocals := 1, code := prog_13_method_11_code, exceptionTable := #[], attributes := #[] }
def k2m1 : Method := { name := "hasRootlessAuthority", desc := "()Z", sig := { parameters := [], returnType := some .boolean }, accessFlags := 1, code := some k2c1 }
def k2c2 : Code := { maxStack := 2, maxLocals := 2, code := prog_13_method_14_code, exceptionTable := #[], attributes := #[] }
def k2m2 : Method := { name := "isScheme", desc := "(B)Z", sig := { parameters := [.byte], returnType := some .boolean }, accessFlags := 8, code := some k2c2 }
def k2c3 : Code := { maxStack := 2, maxLocals := 3, code := prog_13_method_24_code, exceptionTable := #[], attributes := #[] }
def k2m3 : Method := { name := "isSet", desc := "(II)Z", sig := { parameters := [.int, .int], returnType := some .boolean }, accessFlags := 2, code := some k2c3 }
/-- com/example/brief_locator/brieflocator/interchange/CanonicalForm -/
def k2 : Class := { plain "com/example/brief_locator/brieflocator/interchange/CanonicalForm" (some 0) with
  accessFlags := 49
  interfaces := #[]
  cf := some (fileOf pool2 8 #[.nestMembers #[86]] #[{ accessFlags := 0, nameIndex := 5, descriptorIndex := 105, attributes := #[] }, { accessFlags := 1, nameIndex := 119, descriptorIndex := 113, attributes := #[] }, { accessFlags := 8, nameIndex := 28, descriptorIndex := 29, attributes := #[] }, { accessFlags := 2, nameIndex := 39, descriptorIndex := 40, attributes := #[] }] 49 2 #[] #[{ accessFlags := 24, nameIndex := 95, descriptorIndex := 96, attributes := #[] }, { accessFlags := 24, nameIndex := 99, descriptorIndex := 96, attributes := #[] }, { accessFlags := 24, nameIndex := 101, descriptorIndex := 96, attributes := #[] }, { accessFlags := 24, nameIndex := 103, descriptorIndex := 16, attributes := #[] }, { accessFlags := 18, nameIndex := 11, descriptorIndex := 12, attributes := #[] }, { accessFlags := 18, nameIndex := 15, descriptorIndex := 16, attributes := #[] }, { accessFlags := 18, nameIndex := 19, descriptorIndex := 16, attributes := #[] }, { accessFlags := 18, nameIndex := 22, descriptorIndex := 16, attributes := #[] }, { accessFlags := 18, nameIndex := 25, descriptorIndex := 16, attributes := #[] }, { accessFlags := 18, nameIndex := 32, descriptorIndex := 33, attributes := #[] }, { accessFlags := 18, nameIndex := 36, descriptorIndex := 33, attributes := #[] }, { accessFlags := 18, nameIndex := 49, descriptorIndex := 16, attributes := #[] }, { accessFlags := 18, nameIndex := 58, descriptorIndex := 16, attributes := #[] }, { accessFlags := 2, nameIndex := 84, descriptorIndex := 85, attributes := #[] }])
  fields := #[{ name := "NULL", type := .byte, accessFlags := 24, slot := 0, constantValue := 0 }, { name := "TRUE", type := .byte, accessFlags := 24, slot := 1, constantValue := 0 }, { name := "EMPTY_ARRAY", type := .byte, accessFlags := 24, slot := 2, constantValue := 0 }, { name := "FIRST_ELEMENT", type := .int, accessFlags := 24, slot := 3, constantValue := 0 }, { name := "bytes", type := (.array .byte), accessFlags := 18, slot := 0, constantValue := 0 }, { name := "firstEnd", type := .int, accessFlags := 18, slot := 1, constantValue := 0 }, { name := "pathStart", type := .int, accessFlags := 18, slot := 2, constantValue := 0 }, { name := "pathEnd", type := .int, accessFlags := 18, slot := 3, constantValue := 0 }, { name := "queryEnd", type := .int, accessFlags := 18, slot := 4, constantValue := 0 }, { name := "hasScheme", type := .boolean, accessFlags := 18, slot := 5, constantValue := 0 }, { name := "hasAuthority", type := .boolean, accessFlags := 18, slot := 6, constantValue := 0 }, { name := "pathSegments", type := .int, accessFlags := 18, slot := 7, constantValue := 0 }, { name := "pathSegmentsStart", type := .int, accessFlags := 18, slot := 8, constantValue := 0 }, { name := "segmentEnds", type := (.object "com/example/brief_locator/brieflocator/interchange/CanonicalForm$SegmentEnds"), accessFlags := 2, slot := 9, constantValue := 0 }]
  methods := #[k2m0, k2m1, k2m2, k2m3]
  instanceTypes := #[(.array .byte), .int, .int, .int, .int, .boolean, .boolean, .int, .int, (.object "com/example/brief_locator/brieflocator/interchange/CanonicalForm$SegmentEnds")]
  staticTypes := #[.byte, .byte, .byte, .int]
  resolved := Array.replicate 130 none
  statics := none }

def pool3 : Array CpInfo := pool [(2, u "input"), (7, u "[B"), (1, .class_ 14), (1, u "com/example/brief_locator/brieflocator/cbor/CborReader"), (3, .class_ 20), (1, u "java/lang/Object"), (9, u "end"), (0, u "I"), (2, u "position"), (6, u "argument"), (0, u "J"), (2, u "indefinite"), (0, u "Z"), (83, u "utf8"), (37, u "argumentAt"), (0, u "([BI)J"), (93, u "Ljava/nio/charset/CharsetDecoder;"), (33, u "INDEFINITE")] 59

def k3c0 : Code := { maxStack := 5, maxLocals := 3, code := prog_6_method_21_code, exceptionTable := #[], attributes := #[] }
def k3m0 : Method := { name := "argumentAt", desc := "([BI)J", sig := { parameters := [(.array .byte), .int], returnType := some .long }, accessFlags := 9, code := some k3c0 }
/-- com/example/brief_locator/brieflocator/cbor/CborReader -/
def k3 : Class := { plain "com/example/brief_locator/brieflocator/cbor/CborReader" (some 0) with
  accessFlags := 49
  interfaces := #[]
  cf := some (fileOf pool3 12 #[] #[{ accessFlags := 9, nameIndex := 168, descriptorIndex := 169, attributes := #[] }] 49 18 #[] #[{ accessFlags := 26, nameIndex := 297, descriptorIndex := 31, attributes := #[] }, { accessFlags := 18, nameIndex := 2, descriptorIndex := 10, attributes := #[] }, { accessFlags := 18, nameIndex := 30, descriptorIndex := 31, attributes := #[] }, { accessFlags := 2, nameIndex := 130, descriptorIndex := 263, attributes := #[] }, { accessFlags := 2, nameIndex := 34, descriptorIndex := 31, attributes := #[] }, { accessFlags := 2, nameIndex := 41, descriptorIndex := 42, attributes := #[] }, { accessFlags := 2, nameIndex := 45, descriptorIndex := 46, attributes := #[] }])
  fields := #[{ name := "INDEFINITE", type := .int, accessFlags := 26, slot := 0, constantValue := 0 }, { name := "input", type := (.array .byte), accessFlags := 18, slot := 0, constantValue := 0 }, { name := "end", type := .int, accessFlags := 18, slot := 1, constantValue := 0 }, { name := "utf8", type := (.object "java/nio/charset/CharsetDecoder"), accessFlags := 2, slot := 2, constantValue := 0 }, { name := "position", type := .int, accessFlags := 2, slot := 3, constantValue := 0 }, { name := "argument", type := .long, accessFlags := 2, slot := 4, constantValue := 0 }, { name := "indefinite", type := .boolean, accessFlags := 2, slot := 5, constantValue := 0 }]
  methods := #[k3m0]
  instanceTypes := #[(.array .byte), .int, (.object "java/nio/charset/CharsetDecoder"), .int, .long, .boolean]
  staticTypes := #[.int]
  resolved := Array.replicate 357 none
  statics := none }

def pool4 : Array CpInfo := pool [(2, .class_ 4), (1, u "java/lang/Object"), (0, u "<init>"), (0, u "()V"), (0, .class_ 8), (0, u "com/example/brief_locator/brieflocator/cbor/CborWriter"), (2, u "output"), (0, u "[B"), (22, u "length"), (0, u "I"), (43, .long 23), (1, .methodref 83 84), (0, .class_ 85), (0, .nameAndType 86 87), (0, u "java/lang/Long"), (0, u "compareUnsigned"), (0, u "(JJ)I"), (0, .long 255), (1, .long 65535), (1, .long 4294967295), (6, u "headLength"), (0, u "(J)I"), (21, u "INITIAL_CAPACITY"), (2, u "INFORMATION_MAX")] 19

def k4m0 : Method := { name := "<init>", desc := "()V", sig := { parameters := [], returnType := none }, accessFlags := 1, code := none }
def k4c1 : Code := { maxStack := 4, maxLocals := 3, code := prog_7_method_10_code, exceptionTable := #[], attributes := #[] }
def k4m1 : Method := { name := "headLength", desc := "(J)I", sig := { parameters := [.long], returnType := some .int }, accessFlags := 9, code := some k4c1 }
/-- com/example/brief_locator/brieflocator/cbor/CborWriter -/
def k4 : Class := { plain "com/example/brief_locator/brieflocator/cbor/CborWriter" (some 0) with
  accessFlags := 49
  interfaces := #[]
  cf := some (fileOf pool4 7 #[] #[{ accessFlags := 1, nameIndex := 5, descriptorIndex := 6, attributes := #[] }, { accessFlags := 9, nameIndex := 99, descriptorIndex := 100, attributes := #[] }] 49 2 #[] #[{ accessFlags := 26, nameIndex := 122, descriptorIndex := 36, attributes := #[] }, { accessFlags := 26, nameIndex := 125, descriptorIndex := 36, attributes := #[] }, { accessFlags := 2, nameIndex := 11, descriptorIndex := 12, attributes := #[] }, { accessFlags := 2, nameIndex := 35, descriptorIndex := 36, attributes := #[] }])
  fields := #[{ name := "INITIAL_CAPACITY", type := .int, accessFlags := 26, slot := 0, constantValue := 0 }, { name := "INFORMATION_MAX", type := .int, accessFlags := 26, slot := 1, constantValue := 0 }, { name := "output", type := (.array .byte), accessFlags := 2, slot := 0, constantValue := 0 }, { name := "length", type := .int, accessFlags := 2, slot := 1, constantValue := 0 }]
  methods := #[k4m0, k4m1]
  instanceTypes := #[(.array .byte), .int]
  staticTypes := #[.int, .int]
  resolved := Array.replicate 145 none
  statics := none }

def pool5 : Array CpInfo := pool [(1, .class_ 2), (0, u "java/io/Serializable"), (0, .class_ 4), (0, u "java/lang/Object")] 2

/-- java/io/Serializable -/
def k5 : Class := { plain "java/io/Serializable" (some 0) with
  accessFlags := 1537
  interfaces := #[]
  cf := some (fileOf pool5 1 #[] #[] 1537 3 #[] #[])
  fields := #[]
  methods := #[]
  instanceTypes := #[]
  staticTypes := #[]
  resolved := Array.replicate 7 none
  statics := none }

def pool6 : Array CpInfo := pool [(2, .class_ 4), (1, u "java/lang/Object"), (0, u "<init>"), (0, u "()V"), (1, .class_ 10), (1, u "java/lang/Number"), (2, .class_ 14), (0, u "java/io/Serializable"), (0, u "serialVersionUID"), (0, u "J")] 20

def k6m0 : Method := { name := "<init>", desc := "()V", sig := { parameters := [], returnType := none }, accessFlags := 1, code := none }
/-- java/lang/Number -/
def k6 : Class := { plain "java/lang/Number" (some 0) with
  accessFlags := 1057
  interfaces := #[5]
  cf := some (fileOf pool6 8 #[] #[{ accessFlags := 1, nameIndex := 5, descriptorIndex := 6, attributes := #[] }] 1057 2 #[13] #[{ accessFlags := 26, nameIndex := 15, descriptorIndex := 16, attributes := #[] }])
  fields := #[{ name := "serialVersionUID", type := .long, accessFlags := 26, slot := 0, constantValue := 0 }]
  methods := #[k6m0]
  instanceTypes := #[]
  staticTypes := #[.long]
  resolved := Array.replicate 37 none
  statics := none }

def pool7 : Array CpInfo := pool [(1, .class_ 2), (0, u "java/lang/Comparable"), (0, .class_ 4), (0, u "java/lang/Object")] 7

/-- java/lang/Comparable -/
def k7 : Class := { plain "java/lang/Comparable" (some 0) with
  accessFlags := 1537
  interfaces := #[]
  cf := some (fileOf pool7 1 #[] #[] 1537 3 #[] #[])
  fields := #[]
  methods := #[]
  instanceTypes := #[]
  staticTypes := #[]
  resolved := Array.replicate 12 none
  statics := none }

def pool8 : Array CpInfo := pool [(1, .class_ 2), (0, u "java/lang/constant/Constable"), (0, .class_ 4), (0, u "java/lang/Object")] 6

/-- java/lang/constant/Constable -/
def k8 : Class := { plain "java/lang/constant/Constable" (some 0) with
  accessFlags := 1537
  interfaces := #[]
  cf := some (fileOf pool8 1 #[] #[] 1537 3 #[] #[])
  fields := #[]
  methods := #[]
  instanceTypes := #[]
  staticTypes := #[]
  resolved := Array.replicate 11 none
  statics := none }

def pool9 : Array CpInfo := pool [(1, .class_ 2), (0, u "java/lang/constant/ConstantDesc"), (0, .class_ 4), (0, u "java/lang/Object")] 32

/-- java/lang/constant/ConstantDesc -/
def k9 : Class := { plain "java/lang/constant/ConstantDesc" (some 0) with
  accessFlags := 1537
  interfaces := #[]
  cf := some (fileOf pool9 1 #[] #[] 1537 3 #[] #[])
  fields := #[]
  methods := #[]
  instanceTypes := #[]
  staticTypes := #[]
  resolved := Array.replicate 37 none
  statics := none }

def pool10 : Array CpInfo := pool [(1, .class_ 2), (0, u "java/lang/Long"), (165, .long 9223372036854775808), (66, .class_ 237), (1, u "java/lang/Long$LongCache"), (33, .class_ 272), (0, u "java/lang/Number"), (2, u "value"), (0, u "J"), (25, .methodref 1 303), (0, .nameAndType 304 305), (0, u "compare"), (0, u "(JJ)I"), (55, u "TYPE"), (0, u "Ljava/lang/Class;"), (0, .class_ 364), (0, u "java/lang/Comparable"), (0, .class_ 366), (0, u "java/lang/constant/Constable"), (0, .class_ 368), (0, u "java/lang/constant/ConstantDesc"), (0, u "MIN_VALUE"), (1, u "MAX_VALUE"), (4, u "SIZE"), (0, u "I"), (1, u "BYTES"), (1, u "serialVersionUID"), (87, u "compareUnsigned")] 54

def k10c0 : Code := { maxStack := 4, maxLocals := 4, code := jdk_35_method_42_code, exceptionTable := #[], attributes := #[] }
def k10m0 : Method := { name := "compare", desc := "(JJ)I", sig := { parameters := [.long, .long], returnType := some .int }, accessFlags := 9, code := some k10c0 }
def k10c1 : Code := { maxStack := 6, maxLocals := 4, code := jdk_35_method_43_code, exceptionTable := #[], attributes := #[] }
def k10m1 : Method := { name := "compareUnsigned", desc := "(JJ)I", sig := { parameters := [.long, .long], returnType := some .int }, accessFlags := 9, code := some k10c1 }
/-- java/lang/Long -/
def k10 : Class := { plain "java/lang/Long" (some 6) with
  accessFlags := 49
  interfaces := #[7, 8, 9]
  cf := some (fileOf pool10 1 #[.nestMembers #[235]] #[{ accessFlags := 9, nameIndex := 304, descriptorIndex := 305, attributes := #[] }, { accessFlags := 9, nameIndex := 469, descriptorIndex := 305, attributes := #[] }] 49 271 #[363, 365, 367] #[{ accessFlags := 25, nameIndex := 369, descriptorIndex := 276, attributes := #[] }, { accessFlags := 25, nameIndex := 371, descriptorIndex := 276, attributes := #[] }, { accessFlags := 25, nameIndex := 361, descriptorIndex := 362, attributes := #[] }, { accessFlags := 18, nameIndex := 275, descriptorIndex := 276, attributes := #[] }, { accessFlags := 25, nameIndex := 376, descriptorIndex := 377, attributes := #[] }, { accessFlags := 25, nameIndex := 379, descriptorIndex := 377, attributes := #[] }, { accessFlags := 26, nameIndex := 381, descriptorIndex := 276, attributes := #[] }])
  fields := #[{ name := "MIN_VALUE", type := .long, accessFlags := 25, slot := 0, constantValue := 0 }, { name := "MAX_VALUE", type := .long, accessFlags := 25, slot := 1, constantValue := 0 }, { name := "TYPE", type := (.object "java/lang/Class"), accessFlags := 25, slot := 2, constantValue := 0 }, { name := "value", type := .long, accessFlags := 18, slot := 0, constantValue := 0 }, { name := "SIZE", type := .int, accessFlags := 25, slot := 3, constantValue := 0 }, { name := "BYTES", type := .int, accessFlags := 25, slot := 4, constantValue := 0 }, { name := "serialVersionUID", type := .long, accessFlags := 26, slot := 5, constantValue := 0 }]
  methods := #[k10m0, k10m1]
  instanceTypes := #[.long]
  staticTypes := #[.long, .long, (.object "java/lang/Class"), .int, .int, .long]
  resolved := Array.replicate 524 none
  statics := none }

def pool11 : Array CpInfo := pool [(1, u "java/lang/Cloneable"), (0, .class_ 1), (0, u "java/lang/Object"), (0, .class_ 3)] 3

/-- java/lang/Cloneable -/
def k11 : Class := { plain "java/lang/Cloneable" (some 0) with
  accessFlags := 1537
  interfaces := #[]
  cf := some (fileOf pool11 2 #[] #[] 1537 4 #[] #[])
  fields := #[]
  methods := #[]
  instanceTypes := #[]
  staticTypes := #[]
  resolved := Array.replicate 8 none
  statics := none }

/-- the primitive byte -/
def k12 : Class := { plain "byte" none with kind := .primitive 'B', accessFlags := 0x411 }
/-- [B -/
def k13 : Class := { plain "[B" (some 0) with kind := .array 12 .byte, interfaces := #[11, 5], accessFlags := 1041 }

/-- the primitive int -/
def k14 : Class := { plain "int" none with kind := .primitive 'I', accessFlags := 0x411 }
/-- [I -/
def k15 : Class := { plain "[I" (some 0) with kind := .array 14 .int, interfaces := #[11, 5], accessFlags := 1041 }

def heap : Heap := #[]
def classes : Array Class := #[k0, k1, k2, k3, k4, k5, k6, k7, k8, k9, k10, k11, k12, k13, k14, k15]
def interned : List (Array UInt16 × Addr) := []
def slotsUsed : Nat := 0
def theMethod : MethodId := ⟨1, 1⟩
def args0 : Array Value := #[.int 3, .int 1, .int 9, .int 1, .int 4]
def aboutOver (below : List Frame) : State where
  vm := { classes := classes, interned := interned.toArray }
  heap := heap
  slotsUsed := slotsUsed
  threads := #[{ frames := .invoking theMethod args0 :: below }]
def below0 : List Frame := [.native { method := ⟨0, 0⟩, args := #[] }]
def about1 : State := aboutOver below0
def p0 : Program := .bare "" "" ""
def e0 : Env := launch0.env 0 0 0
theorem w_frames : about1.frames = Frame.invoking theMethod args0 :: below0 := rfl
set_option maxRecDepth 65536 in
theorem w_args : argsFit about1.vm theMethod args0 = true := by decide +kernel
set_option maxRecDepth 65536 in
theorem w_heap : heapFits about1 = true := by decide +kernel
set_option maxRecDepth 65536 in
theorem w_runnable : about1.curStatus? = some .runnable := by decide +kernel
set_option maxRecDepth 65536 in
theorem w_alone : about1.alone = true := by decide +kernel
set_option maxRecDepth 65536 in
theorem w_named : about1.methodNamed? x = some theMethod := by decide +kernel
set_option maxRecDepth 65536 in
theorem w_hears : about1.hears theMethod below0 = true := by decide +kernel
set_option maxRecDepth 65536 in
theorem w_ripe : about1.ripe theMethod args0 below0 = true := by decide +kernel
theorem w_running : about1.status = .running := rfl
set_option maxRecDepth 65536 in
theorem w_room : about1.hasRoom e0.platform room_1 = true :=
  launch0.hasRoom_least _ room_1 (by decide +kernel) (by decide +kernel) (by decide +kernel) (by decide +kernel) (by decide +kernel) (by decide +kernel)
theorem allAtoms_all (ts : List Jvm.Cond) (a : Array Jvm.Value) (st : Jvm.State) : (allAtoms ts).before a st = ts.all (fun c => c.before a st) := by
  induction ts with
  | nil => rfl
  | cons c t ih =>
    show (Jvm.Cond.and c (allAtoms t)).before a st = _
    rw [Jvm.Cond.before_and, ih, List.all_cons]
def words1 : List Jvm.Cond := Jvm.Cond.code x code maxLocals ret :: tables_1
/-- a 'code' word, met by the world's own term for the bytes: nothing is compared byte by byte -/
theorem code_word {y : MethodName} {bytes : ByteArray} {mx : Nat} {rt : Option FieldType} {a : Array Value} {s : State} {m : MethodId} {meth : Method} {c : Code} (h1 : s.methodNamed? y = some m) (h2 : s.vm.method? m = some meth) (h3 : meth.code = some c) (h4 : c.code = bytes)
    (h5 : (c.maxLocals == mx && c.exceptionTable.isEmpty && decide (c.maxStack ≤ mostOperands) && decide (meth.sig.returnType = rt) && !meth.locks && decide (parseMethodDescriptor y.desc = some meth.sig)) = true) : (Jvm.Cond.code y bytes mx rt).before a s = true := by
  simp only [Bool.and_eq_true, beq_iff_eq, Bool.not_eq_true', decide_eq_true_eq] at h5
  obtain ⟨⟨⟨⟨⟨g1, g2⟩, g3⟩, g4⟩, g5⟩, g6⟩ := h5
  simp [Cond.before, Cond.holds, Cond.value, h1, h2, h3, h4, g1, g2, g3, g4, g5, g6]
def isCode : Jvm.Cond → Bool
  | .code _ _ _ _ => true
  | _ => false
theorem all_split {L : List Jvm.Cond} {P : Jvm.Cond → Bool} (h1 : L.all (fun c => isCode c || P c) = true) (h2 : ∀ c ∈ L.filter isCode, P c = true) : L.all P = true := by
  refine List.all_eq_true.mpr fun c hc => ?_
  have h := List.all_eq_true.mp h1 c hc
  rcases Bool.eq_false_or_eq_true (isCode c) with hi | hi
  · exact h2 c (List.mem_filter.mpr ⟨hc, hi⟩)
  · simpa [hi] using h
set_option maxRecDepth 65536 in
theorem w_c0 : (Jvm.Cond.code x code maxLocals ret).before args0 about1 = true := code_word (m := ⟨1, 1⟩) (meth := k1m1) (c := k1c1) (by decide +kernel) rfl rfl rfl (by decide +kernel)
set_option maxRecDepth 65536 in
theorem w_c1 : (Jvm.Cond.code ({ cls := "com/example/brief_locator/brieflocator/interchange/CanonicalForm", name := "<init>", desc := "([BIIII)V" } : Jvm.MethodName) prog_13_method_1_code (7 : Nat) (Option.none : Option Jvm.ClassFile.FieldType)).before args0 about1 = true := code_word (m := ⟨2, 0⟩) (meth := k2m0) (c := k2c0) (by decide +kernel) rfl rfl rfl (by decide +kernel)
set_option maxRecDepth 65536 in
theorem w_c2 : (Jvm.Cond.code ({ cls := "java/lang/Object", name := "<init>", desc := "()V" } : Jvm.MethodName) object_method_1_code (1 : Nat) (Option.none : Option Jvm.ClassFile.FieldType)).before args0 about1 = true := code_word (m := ⟨0, 0⟩) (meth := k0m0) (c := k0c0) (by decide +kernel) rfl rfl rfl (by decide +kernel)
set_option maxRecDepth 65536 in
theorem w_c3 : (Jvm.Cond.code ({ cls := "com/example/brief_locator/brieflocator/interchange/CanonicalForm", name := "isScheme", desc := "(B)Z" } : Jvm.MethodName) prog_13_method_14_code (2 : Nat) (Option.some Jvm.ClassFile.FieldType.boolean)).before args0 about1 = true := code_word (m := ⟨2, 2⟩) (meth := k2m2) (c := k2c2) (by decide +kernel) rfl rfl rfl (by decide +kernel)
set_option maxRecDepth 65536 in
theorem w_c4 : (Jvm.Cond.code ({ cls := "com/example/brief_locator/brieflocator/interchange/CanonicalForm", name := "isSet", desc := "(II)Z" } : Jvm.MethodName) prog_13_method_24_code (3 : Nat) (Option.some Jvm.ClassFile.FieldType.boolean)).before args0 about1 = true := code_word (m := ⟨2, 3⟩) (meth := k2m3) (c := k2c3) (by decide +kernel) rfl rfl rfl (by decide +kernel)
set_option maxRecDepth 65536 in
theorem w_c5 : (Jvm.Cond.code ({ cls := "com/example/brief_locator/brieflocator/cbor/CborReader", name := "argumentAt", desc := "([BI)J" } : Jvm.MethodName) prog_6_method_21_code (3 : Nat) (Option.some Jvm.ClassFile.FieldType.long)).before args0 about1 = true := code_word (m := ⟨3, 0⟩) (meth := k3m0) (c := k3c0) (by decide +kernel) rfl rfl rfl (by decide +kernel)
set_option maxRecDepth 65536 in
theorem w_c6 : (Jvm.Cond.code ({ cls := "com/example/brief_locator/brieflocator/cbor/CborWriter", name := "headLength", desc := "(J)I" } : Jvm.MethodName) prog_7_method_10_code (3 : Nat) (Option.some Jvm.ClassFile.FieldType.int)).before args0 about1 = true := code_word (m := ⟨4, 1⟩) (meth := k4m1) (c := k4c1) (by decide +kernel) rfl rfl rfl (by decide +kernel)
set_option maxRecDepth 65536 in
theorem w_c7 : (Jvm.Cond.code ({ cls := "java/lang/Long", name := "compareUnsigned", desc := "(JJ)I" } : Jvm.MethodName) jdk_35_method_43_code (4 : Nat) (Option.some Jvm.ClassFile.FieldType.int)).before args0 about1 = true := code_word (m := ⟨10, 1⟩) (meth := k10m1) (c := k10c1) (by decide +kernel) rfl rfl rfl (by decide +kernel)
set_option maxRecDepth 65536 in
theorem w_c8 : (Jvm.Cond.code ({ cls := "java/lang/Long", name := "compare", desc := "(JJ)I" } : Jvm.MethodName) jdk_35_method_42_code (4 : Nat) (Option.some Jvm.ClassFile.FieldType.int)).before args0 about1 = true := code_word (m := ⟨10, 0⟩) (meth := k10m0) (c := k10c0) (by decide +kernel) rfl rfl rfl (by decide +kernel)
set_option maxRecDepth 65536 in
theorem w_c9 : (Jvm.Cond.code ({ cls := "com/example/brief_locator/brieflocator/interchange/CanonicalForm", name := "hasRootlessAuthority", desc := "()Z" } : Jvm.MethodName) prog_13_method_11_code (1 : Nat) (Option.some Jvm.ClassFile.FieldType.boolean)).before args0 about1 = true := code_word (m := ⟨2, 1⟩) (meth := k2m1) (c := k2c1) (by decide +kernel) rfl rfl rfl (by decide +kernel)
def codes1 : List Jvm.Cond := [Jvm.Cond.code x code maxLocals ret, Jvm.Cond.code ({ cls := "com/example/brief_locator/brieflocator/interchange/CanonicalForm", name := "<init>", desc := "([BIIII)V" } : Jvm.MethodName) prog_13_method_1_code (7 : Nat) (Option.none : Option Jvm.ClassFile.FieldType), Jvm.Cond.code ({ cls := "java/lang/Object", name := "<init>", desc := "()V" } : Jvm.MethodName) object_method_1_code (1 : Nat) (Option.none : Option Jvm.ClassFile.FieldType), Jvm.Cond.code ({ cls := "com/example/brief_locator/brieflocator/interchange/CanonicalForm", name := "isScheme", desc := "(B)Z" } : Jvm.MethodName) prog_13_method_14_code (2 : Nat) (Option.some Jvm.ClassFile.FieldType.boolean), Jvm.Cond.code ({ cls := "com/example/brief_locator/brieflocator/interchange/CanonicalForm", name := "isSet", desc := "(II)Z" } : Jvm.MethodName) prog_13_method_24_code (3 : Nat) (Option.some Jvm.ClassFile.FieldType.boolean), Jvm.Cond.code ({ cls := "com/example/brief_locator/brieflocator/cbor/CborReader", name := "argumentAt", desc := "([BI)J" } : Jvm.MethodName) prog_6_method_21_code (3 : Nat) (Option.some Jvm.ClassFile.FieldType.long), Jvm.Cond.code ({ cls := "com/example/brief_locator/brieflocator/cbor/CborWriter", name := "headLength", desc := "(J)I" } : Jvm.MethodName) prog_7_method_10_code (3 : Nat) (Option.some Jvm.ClassFile.FieldType.int), Jvm.Cond.code ({ cls := "java/lang/Long", name := "compareUnsigned", desc := "(JJ)I" } : Jvm.MethodName) jdk_35_method_43_code (4 : Nat) (Option.some Jvm.ClassFile.FieldType.int), Jvm.Cond.code ({ cls := "java/lang/Long", name := "compare", desc := "(JJ)I" } : Jvm.MethodName) jdk_35_method_42_code (4 : Nat) (Option.some Jvm.ClassFile.FieldType.int), Jvm.Cond.code ({ cls := "com/example/brief_locator/brieflocator/interchange/CanonicalForm", name := "hasRootlessAuthority", desc := "()Z" } : Jvm.MethodName) prog_13_method_11_code (1 : Nat) (Option.some Jvm.ClassFile.FieldType.boolean)]
set_option maxRecDepth 65536 in
theorem codes_eq : words1.filter isCode = codes1 := rfl
theorem w_codes : ∀ c ∈ words1.filter isCode, c.before args0 about1 = true := by
  rw [codes_eq]
  intro c hc
  simp only [codes1, List.mem_cons, List.not_mem_nil, or_false] at hc
  rcases hc with rfl | rfl | rfl | rfl | rfl | rfl | rfl | rfl | rfl | rfl
  · exact w_c0
  · exact w_c1
  · exact w_c2
  · exact w_c3
  · exact w_c4
  · exact w_c5
  · exact w_c6
  · exact w_c7
  · exact w_c8
  · exact w_c9
set_option maxRecDepth 65536 in
theorem w_t1 : (words1.take 24).all (fun c => isCode c || c.before args0 about1) = true := by decide +kernel
set_option maxRecDepth 65536 in
theorem w_t2 : ((words1.drop 24).take 24).all (fun c => isCode c || c.before args0 about1) = true := by decide +kernel
set_option maxRecDepth 65536 in
theorem w_t3 : ((words1.drop 24).drop 24).all (fun c => isCode c || c.before args0 about1) = true := by decide +kernel
theorem w_tables : (allAtoms (Jvm.Cond.code x code maxLocals ret :: tables_1)).before args0 about1 = true := by
  rw [allAtoms_all]
  show words1.all (fun c => c.before args0 about1) = true
  refine all_split ?_ w_codes
  rw [← List.take_append_drop 24 words1, List.all_append, w_t1, ← List.take_append_drop 24 (words1.drop 24), List.all_append, w_t2, w_t3]
  rfl
set_option maxRecDepth 65536 in
theorem w_case : (Jvm.Cond.and given_1 narrow_1).before args0 about1 = true := by decide +kernel
theorem w_applies : (headSpec (Jvm.Cond.code x code maxLocals ret :: tables_1) room_1).applies x e0.platform about1 = true :=
  (Spec.applies_iff w_frames).mpr ⟨w_running, w_runnable, w_alone, w_named, w_hears, w_ripe, w_room, w_tables⟩
theorem atStart : AtStart classFile x code maxLocals ret World_1 tables_1 room_1 Calls_1 rest_1 Pre_1 launch0 p0 e0 about1 theMethod args0 below0 :=
  ⟨lists_1, trivial, launch0.admits_env _ _ _, launch0.least_env, fairChoices_fair.cas, fairChoices_fair.clock, w_frames, w_args, w_heap, w_applies, trivial, trivial, w_case⟩
end start1
theorem witness_1 : WitnessClaimed_1 := ⟨start1.p0, start1.e0, start1.about1, start1.theMethod, start1.args0, start1.below0, start1.atStart⟩
end Jvm.Pilot.@@N@@
