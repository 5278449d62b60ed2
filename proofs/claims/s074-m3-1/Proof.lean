import JvmDerived
import JvmDerived.Pilot.@@N@@Statement
import JvmDerived.Pilot.@@N@@Code
set_option linter.unusedVariables false
set_option linter.unusedSimpArgs false
namespace Jvm.RoadKit
open Sem ClassFile Op Lib Jvm.Stand Jvm.Free Jvm.LawKit
section Own
variable {p : Program} {l : Launch} {e : Env} {R : Room} {s : State} {m : MethodId} {args : Array Value} {below : List Frame} {meth : Method} {c : Code} {T : State} {locs : List Loc} {cells slots : Nat}
/-- from U the run ends, and Q holds of what it returns -/
def Outs (p : Program) (e : Env) (below : List Frame) (s : State) (Q : Option Value → Heap → List Loc → Prop) (C S : Nat) (U : State) : Prop :=
  ∃ s₂ o, Steps p.tables e below U s₂ ∧ s₂.status = .running ∧ Ended s₂ below o ∧ ∃ v L, o = .returned v ∧ Q v s₂.heap L ∧ FrameEnd s o s₂ L C S
variable {Q : Option Value → Heap → List Loc → Prop} {C S : Nat}
theorem Outs.of {U U' : State} (h : ∀ t, Steps p.tables e below U' t → Steps p.tables e below U t) (k : Outs p e below s Q C S U') : Outs p e below s Q C S U := by
  obtain ⟨t, o, st, r⟩ := k
  exact ⟨t, o, h t st, r⟩
theorem Outs.to {U U' : State} (h : Steps p.tables e below U U') (k : Outs p e below s Q C S U') : Outs p e below s Q C S U := by
  obtain ⟨t, o, st, r⟩ := k
  exact ⟨t, o, h.trans st, r⟩
theorem Outs.mono {U : State} {Q' : Option Value → Heap → List Loc → Prop} (k : Outs p e below s Q C S U) (h : ∀ v h L, Q v h L → Q' v h L) : Outs p e below s Q' C S U := by
  obtain ⟨t, o, st, h1, h2, v, L, h3, h4, h5⟩ := k
  exact ⟨t, o, st, h1, h2, v, L, h3, h _ _ _ h4, h5⟩
theorem Outs.ret (X : Stand p l e R s m args below meth c T locs cells slots) {g : JFrame} {v : Option Value} (hv : meth.sig.returnType = none → v = none) (hlk : meth.locks = false) (hC : cells ≤ C) (hS : slots ≤ S)
    (st : ∀ fs, (∀ (f : JFrame) (acts : List Action), f.method = m → f.locked = none → f.entered = [] → (doReturn e (T.setTop f) acts v).1 = T.setFrames fs) → Steps p.tables e below (T.setTop g) (T.setFrames fs))
    {h : Heap} (eT : T.heap = h) (q : Q v h locs) : Outs p e below s Q C S (T.setTop g) := by
  subst eT
  obtain ⟨fs, hr, hrun, hended, hW, hsame⟩ := X.leave (v := v) hv hlk
  exact ⟨_, _, st fs hr, hrun, hended, v, locs, rfl, q, ⟨_, rfl⟩, hW, hsame.mono hC hS⟩
theorem Outs.retI (X : Stand p l e R s m args below meth c T locs cells slots) (hx : p.tables.exec = Jvm.exec) {pc : Nat} {Ls : Array Slot} {z : Int32} {rest : List Value} (hret : meth.sig.returnType = some .int) (hd : decode c.code pc = .ok (.ireturn, 1)) (hlk : meth.locks = false) (hC : cells ≤ C) (hS : slots ≤ S)
    {h : Heap} (eT : T.heap = h) (q : Q (some (.int z)) h locs) : Outs p e below s Q C S (T.setTop (mkF m pc Ls (.int z :: rest))) :=
  Outs.ret X (fun h => by rw [hret] at h; cases h) hlk hC hS (fun fs hl => retOut X hx hret rfl (Or.inl ⟨rfl, Or.inl rfl, z, rfl⟩) hd hl) eT q
theorem Outs.retL (X : Stand p l e R s m args below meth c T locs cells slots) (hx : p.tables.exec = Jvm.exec) {pc : Nat} {Ls : Array Slot} {z : Int64} {rest : List Value} (hret : meth.sig.returnType = some .long) (hd : decode c.code pc = .ok (.lreturn, 1)) (hlk : meth.locks = false) (hC : cells ≤ C) (hS : slots ≤ S)
    {h : Heap} (eT : T.heap = h) (q : Q (some (.long z)) h locs) : Outs p e below s Q C S (T.setTop (mkF m pc Ls (.long z :: rest))) :=
  Outs.ret X (fun h => by rw [hret] at h; cases h) hlk hC hS (fun fs hl => retOut X hx hret rfl (Or.inr (Or.inl ⟨rfl, rfl, z, rfl⟩)) hd hl) eT q
theorem Outs.retN (X : Stand p l e R s m args below meth c T locs cells slots) (hx : p.tables.exec = Jvm.exec) {pc : Nat} {Ls : Array Slot} {z : Int32} {t : FieldType} {rest : List Value} (hret : meth.sig.returnType = some t) (ht : t = .boolean ∨ t = .byte ∨ t = .char ∨ t = .short) (hd : decode c.code pc = .ok (.ireturn, 1)) (hlk : meth.locks = false) (hC : cells ≤ C) (hS : slots ≤ S)
    {h : Heap} (eT : T.heap = h) (q : Q (some (.int (nar t z))) h locs) : Outs p e below s Q C S (T.setTop (mkF m pc Ls (.int z :: rest))) :=
  Outs.ret X (fun h => by rw [hret] at h; cases h) hlk hC hS (fun fs hl => Jvm.RoadKit.retN X hx hret ht hd hl) eT q
theorem Outs.retV (X : Stand p l e R s m args below meth c T locs cells slots) (hx : p.tables.exec = Jvm.exec) {pc : Nat} {Ls : Array Slot} (hret : meth.sig.returnType = none) (hd : decode c.code pc = .ok (.return_, 1)) (hlk : meth.locks = false) (hC : cells ≤ C) (hS : slots ≤ S)
    {h : Heap} (eT : T.heap = h) (q : Q none h locs) : Outs p e below s Q C S (T.setTop (mkF m pc Ls [])) :=
  Outs.ret X (fun _ => rfl) hlk hC hS (fun fs hl => X.returnOut hx hret hd hl) eT q
theorem Outs.retA (X : Stand p l e R s m args below meth c T locs cells slots) (hx : p.tables.exec = Jvm.exec) {pc : Nat} {Ls : Array Slot} {w : Value} {t : FieldType} {rest : List Value} (hret : meth.sig.returnType = some t) (ht : t.isReference = true) (hw : w.isRef = true) (hn : narrow t w = w) (hd : decode c.code pc = .ok (.areturn, 1)) (hlk : meth.locks = false) (hC : cells ≤ C) (hS : slots ≤ S)
    {h : Heap} (eT : T.heap = h) (q : Q (some w) h locs) : Outs p e below s Q C S (T.setTop (mkF m pc Ls (w :: rest))) :=
  Outs.ret X (fun h => by rw [hret] at h; cases h) hlk hC hS (fun fs hl => retOut X hx hret hn (Or.inr (Or.inr (Or.inr (Or.inr ⟨rfl, ht, hw⟩)))) hd hl) eT q
theorem lremM {g : JFrame} {target : State} (X : Stand p l e R s m args below meth c T locs cells slots) (hx : p.tables.exec = Jvm.exec) (hg : g.method = m) {x y : Int64} {rest : List Value} (hd : decode c.code g.pc = .ok (.lrem, 1)) (hs : g.stack = .long y :: .long x :: rest) (hy : y ≠ 0)
    (hr : Steps p.tables e below (T.setTop { g with pc := g.pc + 1, stack := .long (x % y) :: rest }) target) : Steps p.tables e below (T.setTop g) target :=
  XS.lrem X.here hx hg hd hs hy (by rw [lrem_mod]; exact hr)
/-- a body that returns v and leaves the heap as it was -/
def QR (z : Option Value) (h0 : Heap) (n0 : Nat) (v : Option Value) (h : Heap) (L : List Loc) : Prop := v = z ∧ Fr n0 L ∧ h = h0
/-- the law's own -/
def QL (n0 : Nat) (v : Option Value) (h : Heap) (L : List Loc) : Prop := v = some (.int 1) ∧ Fr n0 L
end Own
end Jvm.RoadKit
namespace Jvm.RoadKit
open Sem ClassFile Op Lib Jvm.Stand Jvm.Free Jvm.LawKit
section OwnHeap
variable {p : Program} {l : Launch} {e : Env} {R : Room} {s : State} {m : MethodId} {args : Array Value} {below : List Frame} {meth : Method} {c : Code} {T : State} {locs : List Loc} {cells slots : Nat} {Z : State} {a0 : Array Value} {h h' : Heap} {a b : Addr} {ty : FieldType} {n : Nat}
def upv {α : Type} (g : Nat → α) (k : Nat) (v : α) : Nat → α := fun j => if j = k then v else g j
theorem upv_same {α : Type} (g : Nat → α) (k : Nat) (v : α) : upv g k v k = v := if_pos rfl
theorem upv_ne {α : Type} (g : Nat → α) {k j : Nat} (v : α) (q : j ≠ k) : upv g k v j = g j := if_neg q
/-- an array of n places; place j holds f j -/
def AF (Z : State) (h : Heap) (a : Addr) (ty : FieldType) (n : Nat) (f : Nat → Value) : Prop :=
  ∃ c : Cell, Arr Z h a c ty ∧ c.slots.size = n ∧ n < 2147483648 ∧ ∀ j, j < n → c.slots[j]? = some (f j)
def AI (Z : State) (h : Heap) (a : Addr) (ty : FieldType) (n : Nat) (g : Nat → Int32) : Prop := AF Z h a ty n (fun j => .int (g j))
def AJ (Z : State) (h : Heap) (a : Addr) (ty : FieldType) (n : Nat) (g : Nat → Int64) : Prop := AF Z h a ty n (fun j => .long (g j))
theorem AF.lt {f : Nat → Value} (F : AF Z h a ty n f) : a < h.size := by obtain ⟨c, A, -⟩ := F; exact A.lt
theorem AF.ext {f : Nat → Value} (F : AF Z h a ty n f) (E : Ext h h') : AF Z h' a ty n f := by obtain ⟨c, A, r⟩ := F; exact ⟨c, A.ext E, r⟩
theorem AF.other {f : Nat → Value} {sl : Nat} {v : Value} (F : AF Z h b ty n f) (W : Wr h h' a sl v) (q : b ≠ a) : AF Z h' b ty n f := by obtain ⟨c, A, r⟩ := F; exact ⟨c, A.other W q, r⟩
theorem AF.keep {f : Nat → Value} {ws : List Addr} (F : AF Z h a ty n f) (K : Keep h h' ws) (q : a ∉ ws) : AF Z h' a ty n f := by obtain ⟨c, A, r⟩ := F; exact ⟨c, ⟨K.2.1 a c A.1 q, A.2⟩, r⟩
theorem AF.len {f : Nat → Value} (F : AF Z h a ty n f) : n < 2147483648 := by obtain ⟨c, A, -, M, -⟩ := F; exact M
theorem AF.cong {f f' : Nat → Value} (F : AF Z h a ty n f) (q : ∀ j, j < n → f j = f' j) : AF Z h a ty n f' := by
  obtain ⟨c, A, S, M, G⟩ := F
  exact ⟨c, A, S, M, fun j hj => by rw [← q j hj]; exact G j hj⟩
theorem AI.cong {g g' : Nat → Int32} (F : AI Z h a ty n g) (q : ∀ j, j < n → g j = g' j) : AI Z h a ty n g' := AF.cong F fun j hj => by rw [q j hj]
theorem AJ.cong {g g' : Nat → Int64} (F : AJ Z h a ty n g) (q : ∀ j, j < n → g j = g' j) : AJ Z h a ty n g' := AF.cong F fun j hj => by rw [q j hj]
theorem own_nat {j : Int32} {k : Nat} (hk : j.toInt = k) : j.toNatClampNeg = k := by
  show j.toInt.toNat = k
  rw [hk]; rfl
theorem own_in {cl : Cell} {j : Int32} {k : Nat} (S : cl.slots.size = n) (hk : j.toInt = k) (hn : k < n) : ¬ (j < 0 ∨ cl.slots.size ≤ j.toNatClampNeg) := by
  rw [own_nat hk, S, Int32.lt_iff_toInt_lt, hk]
  have : (0 : Int32).toInt = 0 := rfl
  omega
theorem AF.set {f : Nat → Value} {k : Nat} {v : Value} (F : AF Z h a ty n f) (W : Wr h h' a k v) : AF Z h' a ty n (upv f k v) := by
  obtain ⟨c, A, S, M, G⟩ := F
  refine ⟨c.setSlot k v, A.same W, by rw [sz_set]; exact S, M, fun j hj => ?_⟩
  have hz : j < c.slots.size := by omega
  simp only [Cell.setSlot, upv, Array.getElem?_setIfInBounds]
  by_cases q : j = k
  · subst q; simp [hz]
  · rw [if_neg (Ne.symm q), if_neg q]; exact G j hj
theorem AI.set {g : Nat → Int32} {k : Nat} {x : Int32} (F : AI Z h a ty n g) (W : Wr h h' a k (.int x)) : AI Z h' a ty n (upv g k x) :=
  AF.cong (AF.set F W) fun j _ => by simp only [upv]; split <;> rfl
theorem AJ.set {g : Nat → Int64} {k : Nat} {x : Int64} (F : AJ Z h a ty n g) (W : Wr h h' a k (.long x)) : AJ Z h' a ty n (upv g k x) :=
  AF.cong (AF.set F W) fun j _ => by simp only [upv]; split <;> rfl
theorem AF.fresh {k : ClassId} {z : Int32} {i : Nat} (A : Arr Z h a (newA k ty z) ty) (q : z.toInt = i) : AF Z h a ty i (fun _ => defaultValue ty) := by
  have S : (newA k ty z).slots.size = i := by rw [sz_new, own_nat q]
  refine ⟨_, A, S, ?_, fun j hj => ?_⟩
  · have := z.toInt_lt; omega
  · have hz : j < (newA k ty z).slots.size := by omega
    simp only [newA] at hz ⊢
    rw [Array.getElem?_eq_getElem hz]; simp
section Loads
theorem ldI (X : Stand p l e R s m args below meth c T locs cells slots) (hx : p.tables.exec = Jvm.exec) (hZ : Z.Warmed39 s.vm) (eT : T.heap = h) {g : Nat → Int32} (F : AI Z h a .int n g) {j : Int32} {k : Nat} (hk : j.toInt = k) (hn : k < n) {f : JFrame} (hg : f.method = m) {rest : List Value} (hs : f.stack = .int j :: .ref a :: rest) (hd : decode c.code f.pc = .ok (.iaload, 1)) :
    ∀ target, Steps p.tables e below (T.setTop { f with pc := f.pc + 1, stack := .int (g k) :: rest }) target → Steps p.tables e below (T.setTop f) target := by
  obtain ⟨cl, A, S, M, G⟩ := F
  intro target kt
  exact X.iaload hx (by rw [eT]; exact A.1) (State.isArrayOf_alike hZ.alike A.2.1) A.2.2 (own_in S hk hn) (by rw [own_nat hk]; exact G k hn) hg hs hd target kt
theorem ldB (X : Stand p l e R s m args below meth c T locs cells slots) (hx : p.tables.exec = Jvm.exec) (hZ : Z.Warmed39 s.vm) (eT : T.heap = h) {g : Nat → Int32} (F : AI Z h a .byte n g) {j : Int32} {k : Nat} (hk : j.toInt = k) (hn : k < n) {f : JFrame} (hg : f.method = m) {rest : List Value} (hs : f.stack = .int j :: .ref a :: rest) (hd : decode c.code f.pc = .ok (.baload, 1)) :
    ∀ target, Steps p.tables e below (T.setTop { f with pc := f.pc + 1, stack := .int (g k) :: rest }) target → Steps p.tables e below (T.setTop f) target := by
  obtain ⟨cl, A, S, M, G⟩ := F
  intro target kt
  exact X.baloadBytes hx (by rw [eT]; exact A.1) (State.isArrayOf_alike hZ.alike A.2.1) A.2.2 (own_in S hk hn) (by rw [own_nat hk]; exact G k hn) hg hs hd target kt
theorem ldJ (X : Stand p l e R s m args below meth c T locs cells slots) (hx : p.tables.exec = Jvm.exec) (hZ : Z.Warmed39 s.vm) (eT : T.heap = h) {g : Nat → Int64} (F : AJ Z h a .long n g) {j : Int32} {k : Nat} (hk : j.toInt = k) (hn : k < n) {f : JFrame} (hg : f.method = m) {rest : List Value} (hs : f.stack = .int j :: .ref a :: rest) (hd : decode c.code f.pc = .ok (.laload, 1)) :
    ∀ target, Steps p.tables e below (T.setTop { f with pc := f.pc + 1, stack := .long (g k) :: rest }) target → Steps p.tables e below (T.setTop f) target := by
  obtain ⟨cl, A, S, M, G⟩ := F
  intro target kt
  exact X.laload hx (by rw [eT]; exact A.1) (State.isArrayOf_alike hZ.alike A.2.1) A.2.2 (own_in S hk hn) (by rw [own_nat hk]; exact G k hn) hg hs hd target kt
theorem ldR (X : Stand p l e R s m args below meth c T locs cells slots) (hx : p.tables.exec = Jvm.exec) (hZ : Z.Warmed39 s.vm) (eT : T.heap = h) {g : Nat → Value} (F : AF Z h a ty n g) (hty : ty.isReference = true) {j : Int32} {k : Nat} (hk : j.toInt = k) (hn : k < n) {f : JFrame} (hg : f.method = m) {rest : List Value} (hs : f.stack = .int j :: .ref a :: rest) (hd : decode c.code f.pc = .ok (.aaload, 1)) :
    ∀ target, Steps p.tables e below (T.setTop { f with pc := f.pc + 1, stack := g k :: rest }) target → Steps p.tables e below (T.setTop f) target := by
  obtain ⟨cl, A, S, M, G⟩ := F
  intro target kt
  exact X.aaload hx (by rw [eT]; exact A.1) (State.isArrayOf_alike hZ.alike A.2.1) hty A.2.2 (own_in S hk hn) (by rw [own_nat hk]; exact G k hn) hg hs hd target kt
theorem alen (X : Stand p l e R s m args below meth c T locs cells slots) (hx : p.tables.exec = Jvm.exec) (hZ : Z.Warmed39 s.vm) (eT : T.heap = h) {g : Nat → Value} (F : AF Z h a ty n g) {z : Int32} (hz : z.toInt = n) {f : JFrame} (hg : f.method = m) {rest : List Value} (hs : f.stack = .ref a :: rest) (hd : decode c.code f.pc = .ok (.arraylength, 1)) :
    ∀ target, Steps p.tables e below (T.setTop { f with pc := f.pc + 1, stack := .int z :: rest }) target → Steps p.tables e below (T.setTop f) target := by
  obtain ⟨cl, A, S, M, G⟩ := F
  intro target kt
  have h0 : ¬ z < 0 := by
    rw [Int32.lt_iff_toInt_lt, hz]
    have : (0 : Int32).toInt = 0 := rfl
    omega
  have q : cl.slots.size.toInt32 = z := by rw [S, ← own_nat hz]; exact (back32 h0).1
  refine X.arraylength hx (by rw [eT]; exact A.1) (State.isArrayOf_alike hZ.alike A.2.1) hg hs hd target ?_
  rw [q]; exact kt
end Loads
section Stores
theorem puI (X : Stand p l e R s m args below meth c T locs cells slots) (hx : p.tables.exec = Jvm.exec) (hZ : Z.Warmed39 s.vm) (eT : T.heap = h) {g : Nat → Int32} (F : AI Z h a .int n g) {j x : Int32} {k : Nat} (hk : j.toInt = k) (hn : k < n) {f : JFrame} (hg : f.method = m) {rest : List Value} (hs : f.stack = .int x :: .int j :: .ref a :: rest) (hd : decode c.code f.pc = .ok (.iastore, 1)) :
    ∃ T' h', Stand p l e R s m args below meth c T' (locs ++ [⟨a, k⟩]) cells slots ∧ T'.heap = h' ∧ Wr h h' a k (.int x) ∧ AI Z h' a .int n (upv g k x) ∧ ∀ target, Steps p.tables e below (T'.setTop { f with pc := f.pc + 1, stack := rest }) target → Steps p.tables e below (T.setTop f) target := by
  obtain ⟨cl, A, S, M, G⟩ := id F
  obtain ⟨T', h', X', e', W, st⟩ := stI X hx hZ eT A (j := j) (own_in S hk hn) hg hs hd
  rw [own_nat hk] at X' W
  exact ⟨T', h', X', e', W, AI.set F W, st⟩
theorem puB (X : Stand p l e R s m args below meth c T locs cells slots) (hx : p.tables.exec = Jvm.exec) (hZ : Z.Warmed39 s.vm) (eT : T.heap = h) {g : Nat → Int32} (F : AI Z h a .byte n g) {j x : Int32} {k : Nat} (hk : j.toInt = k) (hn : k < n) {f : JFrame} (hg : f.method = m) {rest : List Value} (hs : f.stack = .int x :: .int j :: .ref a :: rest) (hd : decode c.code f.pc = .ok (.bastore, 1)) :
    ∃ T' h', Stand p l e R s m args below meth c T' (locs ++ [⟨a, k⟩]) cells slots ∧ T'.heap = h' ∧ Wr h h' a k (.int x.toInt8.toInt32) ∧ AI Z h' a .byte n (upv g k x.toInt8.toInt32) ∧ ∀ target, Steps p.tables e below (T'.setTop { f with pc := f.pc + 1, stack := rest }) target → Steps p.tables e below (T.setTop f) target := by
  obtain ⟨cl, A, S, M, G⟩ := id F
  obtain ⟨T', h', X', e', W, st⟩ := stB X hx hZ eT A (j := j) (own_in S hk hn) hg hs hd
  rw [own_nat hk] at X' W
  exact ⟨T', h', X', e', W, AI.set F W, st⟩
theorem puJ (X : Stand p l e R s m args below meth c T locs cells slots) (hx : p.tables.exec = Jvm.exec) (hZ : Z.Warmed39 s.vm) (eT : T.heap = h) {g : Nat → Int64} (F : AJ Z h a .long n g) {j : Int32} {x : Int64} {k : Nat} (hk : j.toInt = k) (hn : k < n) {f : JFrame} (hg : f.method = m) {rest : List Value} (hs : f.stack = .long x :: .int j :: .ref a :: rest) (hd : decode c.code f.pc = .ok (.lastore, 1)) :
    ∃ T' h', Stand p l e R s m args below meth c T' (locs ++ [⟨a, k⟩]) cells slots ∧ T'.heap = h' ∧ Wr h h' a k (.long x) ∧ AJ Z h' a .long n (upv g k x) ∧ ∀ target, Steps p.tables e below (T'.setTop { f with pc := f.pc + 1, stack := rest }) target → Steps p.tables e below (T.setTop f) target := by
  obtain ⟨cl, A, S, M, G⟩ := id F
  obtain ⟨T', h', X', e', W, st⟩ := stJ X hx hZ eT A (j := j) (own_in S hk hn) hg hs hd
  rw [own_nat hk] at X' W
  exact ⟨T', h', X', e', W, AJ.set F W, st⟩
theorem puR (X : Stand p l e R s m args below meth c T locs cells slots) (hx : p.tables.exec = Jvm.exec) (hZ : Z.Warmed39 s.vm) (eT : T.heap = h) {g : Nat → Value} (F : AF Z h a ty n g) (hty : ty.isReference = true) {j : Int32} {x : Value} (O : Sto Z h a x) {k : Nat} (hk : j.toInt = k) (hn : k < n) {f : JFrame} (hg : f.method = m) {rest : List Value} (hs : f.stack = x :: .int j :: .ref a :: rest) (hd : decode c.code f.pc = .ok (.aastore, 1)) :
    ∃ T' h', Stand p l e R s m args below meth c T' (locs ++ [⟨a, k⟩]) cells slots ∧ T'.heap = h' ∧ Wr h h' a k x ∧ AF Z h' a ty n (upv g k x) ∧ ∀ target, Steps p.tables e below (T'.setTop { f with pc := f.pc + 1, stack := rest }) target → Steps p.tables e below (T.setTop f) target := by
  obtain ⟨cl, A, S, M, G⟩ := id F
  obtain ⟨T', h', X', e', W, st⟩ := stR X hx hZ eT A (j := j) (own_in S hk hn) hty O hg hs hd
  rw [own_nat hk] at X' W
  exact ⟨T', h', X', e', W, AF.set F W, st⟩
theorem newAF (X : Stand p l e R s m args below meth c T locs cells slots) (hx : p.tables.exec = Jvm.exec) (hZ : Z.Warmed39 s.vm) {aty : ArrayType} (w : (Cond.arrayClass (newarray.typeOf aty)).before a0 Z = true) (eT : T.heap = h) {f : JFrame} (hg : f.method = m) (hd : decode c.code f.pc = .ok (.newarray aty, 2)) {z : Int32} {rest : List Value} (hs : f.stack = .int z :: rest)
    {k : Nat} (hk : z.toInt = k) {cap : Nat} (hcap : k ≤ cap) (hb : cap * 8 ≤ 536870912) (hc : cells + 1 ≤ R.cells) (hl : slots + cap ≤ R.slots) :
    ∃ T' h', Stand p l e R s m args below meth c T' locs (cells + 1) (slots + cap) ∧ T'.heap = h' ∧ Ext h h' ∧ AF Z h' h.size (newarray.typeOf aty) k (fun _ => defaultValue (newarray.typeOf aty)) ∧
      ∀ target, Steps p.tables e below (T'.setTop { f with pc := f.pc + 2, stack := .ref h.size :: rest }) target → Steps p.tables e below (T.setTop f) target := by
  have h0 : ¬ z < 0 := by
    rw [Int32.lt_iff_toInt_lt, hk]
    have : (0 : Int32).toInt = 0 := rfl
    omega
  obtain ⟨T', h', cA, X', e', E, A, st⟩ := newP X hx hZ w eT hg hd hs h0 (cap := cap) (by rw [own_nat hk]; exact hcap) hb hc hl
  exact ⟨T', h', X', e', E, AF.fresh A hk, st⟩
end Stores
theorem hide (X : Stand p l e R s m args below meth c T locs cells slots) {n0 : Nat} (N : Fr n0 locs) {C S : Nat} (hc : cells ≤ C) (hs : slots ≤ S) : ∃ L, Stand p l e R s m args below meth c T L C S ∧ Fr n0 L := ⟨locs, X.more hc hs, N⟩
theorem own_selects {args' : Array Value} {U : State} {y : MethodName} {k : Nat} (wi : (Cond.instantiable y.cls k).before args' U = true) (hpriv : U.PrivateAt y) (hinst : (Cond.instanceMethod y).before args' U = true) (hy : y.cls ≠ "java/lang/invoke/MethodHandle" ∧ y.cls ≠ "java/lang/invoke/VarHandle") : (Cond.selects y.cls y y).before args' U = true := by
  obtain ⟨c1, k1, i1, i2, -, i3, -⟩ := Cond.instantiable_spec wi
  have hni : k1.isInterface = false := by cases q : k1.isInterface <;> simp [q] at i3 ⊢
  exact Jvm.Stand.selects_self_of_private i1 i2 hni hpriv hinst hy
theorem isRef_cat {w : Value} (q : w.isRef = true) : w.category = 1 := by
  rcases ref_cases q with rfl | ⟨x, rfl⟩ <;> rfl
theorem mem1 {α : Type} (x : α) (L : List α) : x ∈ x :: L := List.mem_cons_self
theorem mem2 {α : Type} (x y : α) (L : List α) : x ∈ y :: x :: L := List.mem_cons_of_mem _ List.mem_cons_self
end OwnHeap
end Jvm.RoadKit
namespace Jvm.RoadKit
open Sem ClassFile Op Lib Jvm.Stand Jvm.Free Jvm.LawKit
section OwnCopy
variable {p : Program} {l : Launch} {e : Env} {R : Room} {s : State} {m : MethodId} {args : Array Value} {below : List Frame} {meth : Method} {c : Code} {T : State} {locs : List Loc} {cells slots : Nat} {Z : State} {a0 : Array Value} {h h' : Heap} {a b : Addr} {ty : FieldType} {n : Nat}
theorem own_map {g : Nat → Int64} {i : Nat} (hi : i < n) (d : Value) : ((List.range n).map fun j => Value.long (g j)).getD i d = .long (g i) := by
  simp [List.getD_eq_getElem?_getD, hi]
theorem own_z (h : n < 2147483648) : ∃ z : Int32, z.toInt = n := ⟨Int32.ofInt n, Int32.toInt_ofInt_of_le (by omega) (by omega)⟩
theorem AJ.arv {g : Nat → Int64} {z : Int32} (F : AJ Z h a .long n g) (hz : z.toInt = n) : ∃ k, Arv Z h a k .long z ((List.range n).map fun j => Value.long (g j)) (.long 0) := by
  obtain ⟨c, A, S, M, G⟩ := F
  refine ⟨c.cls, c, A, rfl, by rw [S, own_nat hz], ?_, fun i hi => ?_, fun i hi => ?_⟩
  · rw [Int32.lt_iff_toInt_lt, hz]
    have : (0 : Int32).toInt = 0 := rfl
    omega
  · rw [own_map (by omega)]; exact G i (by omega)
  · rw [own_map (by omega)]; rfl
theorem Arv.aj {g : Nat → Int64} {z : Int32} {k : ClassId} {vs : List Value} {d : Value} (F : Arv Z h a k .long z vs d) (hz : z.toInt = n) (q : ∀ j, j < n → vs.getD j d = .long (g j)) : AJ Z h a .long n g := by
  obtain ⟨c, A, -, S, M, G, -⟩ := F
  rw [own_nat hz] at S
  have := z.toInt_lt
  exact ⟨c, A, S, by omega, fun j hj => by rw [G j (by omega), q j hj]⟩
theorem cpJ (X : Stand p l e R s m args below meth c T locs cells slots) (hx : p.tables.exec = Jvm.exec) (hZ : Z.Warmed39 s.vm) {own : String} {index : Nat} (hown : s.vm.findClass own = some m.cls)
    (w1 : (Cond.methodLink own index Jvm.Stand.acN).before a0 Z = true) (w2 : (Cond.native Jvm.Stand.acN).before a0 Z = true) (w3 : (Cond.static Jvm.Stand.acN).before a0 Z = true) (w4 : (Cond.initialized "java/lang/System").before a0 Z = true) (eT : T.heap = h)
    {n1 n2 k : Nat} {g1 g2 : Nat → Int64} (A : AJ Z h a .long n1 g1) (B : AJ Z h b .long n2 g2) {nn : Int32} (hk : nn.toInt = k) (h1 : k ≤ n1) (h2 : k ≤ n2) {n0 : Nat} (N : Fr n0 locs) (ge : n0 ≤ b)
    {f : JFrame} (hg : f.method = m) (hsize : f.locals.size = c.maxLocals) {rest : List Value} (hs : f.stack = .int nn :: .int 0 :: .ref b :: .int 0 :: .ref a :: rest) (hd : decode c.code f.pc = .ok (.invokestatic index, 3))
    (hf : 1 ≤ R.frames) {W : Nat} (hW : 2 * f.monitorRoom + (rest.map fun v => v.category).sum ≤ W) (hlo : W + (nativeFrameWords "java/lang/System" "arraycopy" 5 + 11) ≤ R.locals) :
    ∃ T' h' L, Stand p l e R s m args below meth c T' L cells slots ∧ T'.heap = h' ∧ Fr n0 L ∧ Keep h h' [b] ∧ AJ Z h' b .long n2 (fun j => if j < k then g1 j else g2 j) ∧
      ∀ target, Steps p.tables e below (T'.setTop { f with pc := f.pc + 3, stack := rest }) target → Steps p.tables e below (T.setTop f) target := by
  obtain ⟨z1, hz1⟩ := own_z (AF.len A)
  obtain ⟨z2, hz2⟩ := own_z (AF.len B)
  obtain ⟨k1, A1⟩ := AJ.arv A hz1
  obtain ⟨k2, B1⟩ := AJ.arv B hz2
  have e0 : (0 : Int32).toNatClampNeg = 0 := rfl
  have en : nn.toNatClampNeg = k := own_nat hk
  obtain ⟨T', h', L, X', e', N', K', V', st⟩ := cpA X hx hZ hown w1 w2 w3 w4 eT A1 B1 (sp := 0) (dp := 0) (nn := nn) (us := (List.range nn.toNatClampNeg).map fun i => ((List.range n1).map fun j => Value.long (g1 j)).getD ((0 : Int32).toNatClampNeg + i) (.long 0)) (Or.inl ⟨rfl, rfl⟩) (by decide) (by decide)
    (by rw [Int32.lt_iff_toInt_lt, hk]; have : (0 : Int32).toInt = 0 := rfl
        omega)
    (by rw [e0, en, own_nat hz1]; omega) (by rw [e0, en, own_nat hz2]; omega) rfl (by rw [e0, en]; simp; exact h2) N ge hg hsize hs hd hf hW hlo
  refine ⟨T', h', L, X', e', N', K', Arv.aj V' hz2 (fun j hj => ?_), st⟩
  rw [e0, en]
  simp only [List.take_zero, List.nil_append, Nat.zero_add, List.getD_eq_getElem?_getD]
  by_cases q : j < k
  · rw [List.getElem?_append_left (by simp; exact q), if_pos q]
    simp [q, Nat.lt_of_lt_of_le q h1]
  · rw [List.getElem?_append_right (by simp; omega), if_neg q]
    simp only [List.length_map, List.length_range, List.getElem?_drop]
    rw [show k + (j - k) = j by omega]
    simp [hj]
end OwnCopy
end Jvm.RoadKit
namespace Jvm.Pilot.@@N@@
open Jvm Jvm.ClassFile Sem Op Lib Jvm.Free Jvm.Stand Jvm.LawKit Jvm.RoadKit Bundle Jvm.Pilot.@@N@@.Jvm.D
theorem ef_5 (m : MethodId) (x0 : Int32) : entryFrame m #[(.int x0)] 2 = mkF m 0 #[.val (.int x0), .unset] [] := by first | (simp [entryFrame, mkF, argsToLocals, Value.category]; done) | rfl
theorem d5_0 : decode jdk_33_method_47_code 0 = .ok (.iload_n 0, 1) := by decide +kernel
theorem d5_1 : decode jdk_33_method_47_code 1 = .ok (.ifCond .gt 14, 3) := by decide +kernel
theorem d5_15 : decode jdk_33_method_47_code 15 = .ok (.bipush 31, 2) := by decide +kernel
theorem d5_17 : decode jdk_33_method_47_code 17 = .ok (.istore_n 1, 1) := by decide +kernel
theorem d5_18 : decode jdk_33_method_47_code 18 = .ok (.iload_n 0, 1) := by decide +kernel
theorem d5_19 : decode jdk_33_method_47_code 19 = .ok (.ldc_w 264, 3) := by decide +kernel
theorem d5_22 : decode jdk_33_method_47_code 22 = .ok (.if_icmp .lt 11, 3) := by decide +kernel
theorem d5_25 : decode jdk_33_method_47_code 25 = .ok (.iinc 1 (-16), 3) := by decide +kernel
theorem d5_28 : decode jdk_33_method_47_code 28 = .ok (.iload_n 0, 1) := by decide +kernel
theorem d5_29 : decode jdk_33_method_47_code 29 = .ok (.bipush 16, 2) := by decide +kernel
theorem d5_31 : decode jdk_33_method_47_code 31 = .ok (.iushr, 1) := by decide +kernel
theorem d5_32 : decode jdk_33_method_47_code 32 = .ok (.istore_n 0, 1) := by decide +kernel
theorem d5_33 : decode jdk_33_method_47_code 33 = .ok (.iload_n 0, 1) := by decide +kernel
theorem d5_34 : decode jdk_33_method_47_code 34 = .ok (.sipush 256, 3) := by decide +kernel
theorem d5_37 : decode jdk_33_method_47_code 37 = .ok (.if_icmp .lt 11, 3) := by decide +kernel
theorem d5_40 : decode jdk_33_method_47_code 40 = .ok (.iinc 1 (-8), 3) := by decide +kernel
theorem d5_43 : decode jdk_33_method_47_code 43 = .ok (.iload_n 0, 1) := by decide +kernel
theorem d5_44 : decode jdk_33_method_47_code 44 = .ok (.bipush 8, 2) := by decide +kernel
theorem d5_46 : decode jdk_33_method_47_code 46 = .ok (.iushr, 1) := by decide +kernel
theorem d5_47 : decode jdk_33_method_47_code 47 = .ok (.istore_n 0, 1) := by decide +kernel
theorem d5_48 : decode jdk_33_method_47_code 48 = .ok (.iload_n 0, 1) := by decide +kernel
theorem d5_49 : decode jdk_33_method_47_code 49 = .ok (.bipush 16, 2) := by decide +kernel
theorem d5_51 : decode jdk_33_method_47_code 51 = .ok (.if_icmp .lt 10, 3) := by decide +kernel
theorem d5_54 : decode jdk_33_method_47_code 54 = .ok (.iinc 1 (-4), 3) := by decide +kernel
theorem d5_57 : decode jdk_33_method_47_code 57 = .ok (.iload_n 0, 1) := by decide +kernel
theorem d5_58 : decode jdk_33_method_47_code 58 = .ok (.iconst 4, 1) := by decide +kernel
theorem d5_59 : decode jdk_33_method_47_code 59 = .ok (.iushr, 1) := by decide +kernel
theorem d5_60 : decode jdk_33_method_47_code 60 = .ok (.istore_n 0, 1) := by decide +kernel
theorem d5_61 : decode jdk_33_method_47_code 61 = .ok (.iload_n 0, 1) := by decide +kernel
theorem d5_62 : decode jdk_33_method_47_code 62 = .ok (.iconst 4, 1) := by decide +kernel
theorem d5_63 : decode jdk_33_method_47_code 63 = .ok (.if_icmp .lt 10, 3) := by decide +kernel
theorem d5_66 : decode jdk_33_method_47_code 66 = .ok (.iinc 1 (-2), 3) := by decide +kernel
theorem d5_69 : decode jdk_33_method_47_code 69 = .ok (.iload_n 0, 1) := by decide +kernel
theorem d5_70 : decode jdk_33_method_47_code 70 = .ok (.iconst 2, 1) := by decide +kernel
theorem d5_71 : decode jdk_33_method_47_code 71 = .ok (.iushr, 1) := by decide +kernel
theorem d5_72 : decode jdk_33_method_47_code 72 = .ok (.istore_n 0, 1) := by decide +kernel
theorem d5_73 : decode jdk_33_method_47_code 73 = .ok (.iload_n 1, 1) := by decide +kernel
theorem d5_74 : decode jdk_33_method_47_code 74 = .ok (.iload_n 0, 1) := by decide +kernel
theorem d5_75 : decode jdk_33_method_47_code 75 = .ok (.iconst 1, 1) := by decide +kernel
theorem d5_76 : decode jdk_33_method_47_code 76 = .ok (.iushr, 1) := by decide +kernel
theorem d5_77 : decode jdk_33_method_47_code 77 = .ok (.isub, 1) := by decide +kernel
theorem d5_78 : decode jdk_33_method_47_code 78 = .ok (.ireturn, 1) := by decide +kernel
theorem d5_4 : decode jdk_33_method_47_code 4 = .ok (.iload_n 0, 1) := by decide +kernel
theorem d5_5 : decode jdk_33_method_47_code 5 = .ok (.ifCond .ne 8, 3) := by decide +kernel
theorem d5_8 : decode jdk_33_method_47_code 8 = .ok (.bipush 32, 2) := by decide +kernel
theorem d5_10 : decode jdk_33_method_47_code 10 = .ok (.goto 4, 3) := by decide +kernel
theorem d5_13 : decode jdk_33_method_47_code 13 = .ok (.iconst 0, 1) := by decide +kernel
theorem d5_14 : decode jdk_33_method_47_code 14 = .ok (.ireturn, 1) := by decide +kernel
theorem pn_5 : plainName "java/lang/Integer" = true := by first | (simp [plainName, overriddenIn]; done) | decide +kernel
def ni_22_l0 (i0 : Int32) : Int32 := (if i0 < (65536 : Int32) then i0 else ((i0.toUInt32 >>> ((16 : Int32) &&& 31).toUInt32).toInt32))
def ni_22_l1 (i0 : Int32) : Int32 := (if i0 < (65536 : Int32) then (31 : Int32) else (15 : Int32))
def ni_v47 (i0 : Int32) : Int32 := (((ni_22_l0 i0).toUInt32 >>> ((8 : Int32) &&& 31).toUInt32).toInt32)
def ni_37_l0 (i0 : Int32) : Int32 := (if (ni_22_l0 i0) < (256 : Int32) then (ni_22_l0 i0) else (ni_v47 i0))
def ni_37_l1 (i0 : Int32) : Int32 := (if (ni_22_l0 i0) < (256 : Int32) then (ni_22_l1 i0) else ((ni_22_l1 i0) + (-8 : Int32)))
def ni_v60 (i0 : Int32) : Int32 := (((ni_37_l0 i0).toUInt32 >>> ((4 : Int32) &&& 31).toUInt32).toInt32)
def ni_51_l0 (i0 : Int32) : Int32 := (if (ni_37_l0 i0) < (16 : Int32) then (ni_37_l0 i0) else (ni_v60 i0))
def ni_51_l1 (i0 : Int32) : Int32 := (if (ni_37_l0 i0) < (16 : Int32) then (ni_37_l1 i0) else ((ni_37_l1 i0) + (-4 : Int32)))
def ni_v72 (i0 : Int32) : Int32 := (((ni_51_l0 i0).toUInt32 >>> ((2 : Int32) &&& 31).toUInt32).toInt32)
def ni_63_l0 (i0 : Int32) : Int32 := (if (ni_51_l0 i0) < (4 : Int32) then (ni_51_l0 i0) else (ni_v72 i0))
def ni_63_l1 (i0 : Int32) : Int32 := (if (ni_51_l0 i0) < (4 : Int32) then (ni_51_l1 i0) else ((ni_51_l1 i0) + (-2 : Int32)))
def ni_5_s0 (i0 : Int32) : Int32 := (if i0 = (0 : Int32) then (32 : Int32) else (0 : Int32))
def F_ni (i0 : Int32) : Int32 := (if (0 : Int32) < i0 then ((ni_63_l1 i0) - (((ni_63_l0 i0).toUInt32 >>> ((1 : Int32) &&& 31).toUInt32).toInt32)) else (ni_5_s0 i0))
set_option maxRecDepth 65536 in
set_option maxHeartbeats 40000000 in
theorem rm5 (l : Launch) (Z : State) (a0 : Array Value) (hw : ∀ d ∈ tables_1, d.before a0 Z = true) (ws : List Jvm.Cond) (i0 : Int32)  (h0 : Heap) (n0 : Nat)  :
    MetFree l (⟨"java/lang/Integer", "numberOfLeadingZeros", "(I)I"⟩ : MethodName) (head1 (Jvm.Cond.code (⟨"java/lang/Integer", "numberOfLeadingZeros", "(I)I"⟩ : MethodName) jdk_33_method_47_code 2 (some .int) :: ws) ({ frames := 0, cells := 0, slots := 0, locals := 0 } : Room)) (fun a U => a = #[(.int i0)] ∧ Z.Warmed39 U.vm ∧ U.heap = h0) (fun _ _ _ _ _ => True) (fun _ U o U' => ∃ v L, o = .returned v ∧ QR (some (.int (F_ni i0))) h0 n0 v U'.heap L ∧ FrameEnd U o U' L ({ frames := 0, cells := 0, slots := 0, locals := 0 } : Room).cells ({ frames := 0, cells := 0, slots := 0, locals := 0 } : Room).slots) := by
  refine MetFree.of_bodySF (plainFor_of_name pn_5) hisR ?_
  intro p e s m args below meth c s₁ Bd hml0 hP hK
  obtain ⟨rfl, hZ, hh⟩ := hP
  have hx := Bd.exec
  have hby := Bd.bytes
  have hml : c.maxLocals = 2 := hml0
  have hown : s.vm.findClass "java/lang/Integer" = some m.cls := findClass_of_methodNamed Bd.named
  have hnm := (name_of_methodNamed Bd.named Bd.method).1
  have hret := Bd.returns
  have hlk : meth.locks = false := BodyLoose.notSynchronized Bd
  have X0 : Stand p l e ({ frames := 0, cells := 0, slots := 0, locals := 0 } : Room) s m #[(.int i0)] below meth c s₁ [] 0 0 := Stand.of_body Bd
  have e0 : s₁.heap = h0 := by rw [← hh, Bd.state]; rfl
  have N0 := Fr.nil n0
  show Outs p e below s (QR (some (.int (F_ni i0))) h0 n0) _ _ _
  refine Outs.of (U' := s₁.setTop (mkF m 0 #[.val (.int i0), .unset] [])) (fun t k => castTop (ef_5 m i0) k) ?_
  refine Outs.of (U' := s₁.setTop (mkF m 1 #[.val (.int i0), .unset] [(.int i0)])) (fun t k => ?_) ?_
  · refine XS.iloadN X0.here hx rfl (hb hby d5_0) rfl ?_
    exact k
  by_cases hc1 : (0 : Int32) < i0
  · refine Outs.of (U' := s₁.setTop (mkF m 15 #[.val (.int i0), .unset] [])) (fun t k => ?_) ?_
    · refine XS.ifYes X0.here hx rfl (pc0 := 1) (pc' := 15) rfl (hb hby d5_1) rfl ((if0 _ _).trans (tlt hc1).2.2.1) (by decide) (by decide) ?_
      exact k
    refine Outs.of (U' := s₁.setTop (mkF m 33 #[.val (.int (ni_22_l0 i0)), .val (.int (ni_22_l1 i0))] [])) (fun t k => ?_) ?_
    · refine XS.bipush X0.here hx rfl (hb hby d5_15) ?_
      refine XS.istoreN X0.here hx rfl (hb hby d5_17) rfl (l' := #[.val (.int i0), .val (.int (31 : Int32))]) rfl ?_
      refine XS.iloadN X0.here hx rfl (hb hby d5_18) rfl ?_
      refine X0.ldcwInt hx hown (mvT hZ (hw _ (List.mem_of_getElem? (i := 26) rfl))) (g := (mkF m 19 #[.val (.int i0), .val (.int (31 : Int32))] [(.int i0)])) rfl (hb hby d5_19) _ ?_
      by_cases hc22 : i0 < (65536 : Int32)
      · refine XS.icmpYes X0.here hx rfl (pc0 := 22) (pc' := 33) rfl (hb hby d5_22) rfl (tlt hc22).1 (by decide) (by decide) ?_
        rw [show (ni_22_l0 i0) = i0 from (if_pos hc22), show (ni_22_l1 i0) = (31 : Int32) from (if_pos hc22)] at k
        exact k
      · refine XS.icmpNo X0.here hx rfl (hb hby d5_22) rfl (flt hc22).1 ?_
        refine XS.iinc X0.here hx rfl (hb hby d5_25) rfl (l' := #[.val (.int i0), .val (.int (15 : Int32))]) rfl ?_
        refine XS.iloadN X0.here hx rfl (hb hby d5_28) rfl ?_
        refine XS.bipush X0.here hx rfl (hb hby d5_29) ?_
        refine XS.iushr X0.here hx rfl (hb hby d5_31) rfl ?_
        refine XS.istoreN X0.here hx rfl (hb hby d5_32) rfl (l' := #[.val (.int ((i0.toUInt32 >>> ((16 : Int32) &&& 31).toUInt32).toInt32)), .val (.int (15 : Int32))]) rfl ?_
        rw [show (ni_22_l0 i0) = ((i0.toUInt32 >>> ((16 : Int32) &&& 31).toUInt32).toInt32) from (if_neg hc22), show (ni_22_l1 i0) = (15 : Int32) from (if_neg hc22)] at k
        exact k
    refine Outs.of (U' := s₁.setTop (mkF m 48 #[.val (.int (ni_37_l0 i0)), .val (.int (ni_37_l1 i0))] [])) (fun t k => ?_) ?_
    · refine XS.iloadN X0.here hx rfl (hb hby d5_33) rfl ?_
      refine XS.sipush X0.here hx rfl (hb hby d5_34) ?_
      by_cases hc37 : (ni_22_l0 i0) < (256 : Int32)
      · refine XS.icmpYes X0.here hx rfl (pc0 := 37) (pc' := 48) rfl (hb hby d5_37) rfl (tlt hc37).1 (by decide) (by decide) ?_
        rw [show (ni_37_l0 i0) = (ni_22_l0 i0) from (if_pos hc37), show (ni_37_l1 i0) = (ni_22_l1 i0) from (if_pos hc37)] at k
        exact k
      · refine XS.icmpNo X0.here hx rfl (hb hby d5_37) rfl (flt hc37).1 ?_
        refine XS.iinc X0.here hx rfl (hb hby d5_40) rfl (l' := #[.val (.int (ni_22_l0 i0)), .val (.int ((ni_22_l1 i0) + (-8 : Int32)))]) rfl ?_
        refine XS.iloadN X0.here hx rfl (hb hby d5_43) rfl ?_
        refine XS.bipush X0.here hx rfl (hb hby d5_44) ?_
        refine XS.iushr X0.here hx rfl (hb hby d5_46) rfl ?_
        refine XS.istoreN X0.here hx rfl (hb hby d5_47) rfl (l' := #[.val (.int (ni_v47 i0)), .val (.int ((ni_22_l1 i0) + (-8 : Int32)))]) rfl ?_
        rw [show (ni_37_l0 i0) = (ni_v47 i0) from (if_neg hc37), show (ni_37_l1 i0) = ((ni_22_l1 i0) + (-8 : Int32)) from (if_neg hc37)] at k
        exact k
    refine Outs.of (U' := s₁.setTop (mkF m 61 #[.val (.int (ni_51_l0 i0)), .val (.int (ni_51_l1 i0))] [])) (fun t k => ?_) ?_
    · refine XS.iloadN X0.here hx rfl (hb hby d5_48) rfl ?_
      refine XS.bipush X0.here hx rfl (hb hby d5_49) ?_
      by_cases hc51 : (ni_37_l0 i0) < (16 : Int32)
      · refine XS.icmpYes X0.here hx rfl (pc0 := 51) (pc' := 61) rfl (hb hby d5_51) rfl (tlt hc51).1 (by decide) (by decide) ?_
        rw [show (ni_51_l0 i0) = (ni_37_l0 i0) from (if_pos hc51), show (ni_51_l1 i0) = (ni_37_l1 i0) from (if_pos hc51)] at k
        exact k
      · refine XS.icmpNo X0.here hx rfl (hb hby d5_51) rfl (flt hc51).1 ?_
        refine XS.iinc X0.here hx rfl (hb hby d5_54) rfl (l' := #[.val (.int (ni_37_l0 i0)), .val (.int ((ni_37_l1 i0) + (-4 : Int32)))]) rfl ?_
        refine XS.iloadN X0.here hx rfl (hb hby d5_57) rfl ?_
        refine XS.iconst X0.here hx rfl (hb hby d5_58) ?_
        refine XS.iushr X0.here hx rfl (hb hby d5_59) rfl ?_
        refine XS.istoreN X0.here hx rfl (hb hby d5_60) rfl (l' := #[.val (.int (ni_v60 i0)), .val (.int ((ni_37_l1 i0) + (-4 : Int32)))]) rfl ?_
        rw [show (ni_51_l0 i0) = (ni_v60 i0) from (if_neg hc51), show (ni_51_l1 i0) = ((ni_37_l1 i0) + (-4 : Int32)) from (if_neg hc51)] at k
        exact k
    refine Outs.of (U' := s₁.setTop (mkF m 73 #[.val (.int (ni_63_l0 i0)), .val (.int (ni_63_l1 i0))] [])) (fun t k => ?_) ?_
    · refine XS.iloadN X0.here hx rfl (hb hby d5_61) rfl ?_
      refine XS.iconst X0.here hx rfl (hb hby d5_62) ?_
      by_cases hc63 : (ni_51_l0 i0) < (4 : Int32)
      · refine XS.icmpYes X0.here hx rfl (pc0 := 63) (pc' := 73) rfl (hb hby d5_63) rfl (tlt hc63).1 (by decide) (by decide) ?_
        rw [show (ni_63_l0 i0) = (ni_51_l0 i0) from (if_pos hc63), show (ni_63_l1 i0) = (ni_51_l1 i0) from (if_pos hc63)] at k
        exact k
      · refine XS.icmpNo X0.here hx rfl (hb hby d5_63) rfl (flt hc63).1 ?_
        refine XS.iinc X0.here hx rfl (hb hby d5_66) rfl (l' := #[.val (.int (ni_51_l0 i0)), .val (.int ((ni_51_l1 i0) + (-2 : Int32)))]) rfl ?_
        refine XS.iloadN X0.here hx rfl (hb hby d5_69) rfl ?_
        refine XS.iconst X0.here hx rfl (hb hby d5_70) ?_
        refine XS.iushr X0.here hx rfl (hb hby d5_71) rfl ?_
        refine XS.istoreN X0.here hx rfl (hb hby d5_72) rfl (l' := #[.val (.int (ni_v72 i0)), .val (.int ((ni_51_l1 i0) + (-2 : Int32)))]) rfl ?_
        rw [show (ni_63_l0 i0) = (ni_v72 i0) from (if_neg hc63), show (ni_63_l1 i0) = ((ni_51_l1 i0) + (-2 : Int32)) from (if_neg hc63)] at k
        exact k
    refine Outs.of (U' := s₁.setTop (mkF m 78 #[.val (.int (ni_63_l0 i0)), .val (.int (ni_63_l1 i0))] [(.int ((ni_63_l1 i0) - (((ni_63_l0 i0).toUInt32 >>> ((1 : Int32) &&& 31).toUInt32).toInt32)))])) (fun t k => ?_) ?_
    · refine XS.iloadN X0.here hx rfl (hb hby d5_73) rfl ?_
      refine XS.iloadN X0.here hx rfl (hb hby d5_74) rfl ?_
      refine XS.iconst X0.here hx rfl (hb hby d5_75) ?_
      refine XS.iushr X0.here hx rfl (hb hby d5_76) rfl ?_
      refine XS.isub X0.here hx rfl (hb hby d5_77) rfl ?_
      exact k
    exact Outs.retI X0 hx hret (hb hby d5_78) hlk (by decide) (by decide) e0 ⟨congrArg (fun z_ => some (Value.int z_)) (show (F_ni i0) = ((ni_63_l1 i0) - (((ni_63_l0 i0).toUInt32 >>> ((1 : Int32) &&& 31).toUInt32).toInt32)) from (if_pos hc1)).symm, N0, rfl⟩
  · refine Outs.of (U' := s₁.setTop (mkF m 4 #[.val (.int i0), .unset] [])) (fun t k => ?_) ?_
    · refine XS.ifNo X0.here hx rfl (hb hby d5_1) rfl ((if0 _ _).trans (flt hc1).2.2.1) ?_
      exact k
    refine Outs.of (U' := s₁.setTop (mkF m 14 #[.val (.int i0), .unset] [(.int (ni_5_s0 i0))])) (fun t k => ?_) ?_
    · refine XS.iloadN X0.here hx rfl (hb hby d5_4) rfl ?_
      by_cases hc5 : i0 = (0 : Int32)
      · refine XS.ifNo X0.here hx rfl (hb hby d5_5) rfl ((if0 _ _).trans (teq hc5).2) ?_
        refine XS.bipush X0.here hx rfl (hb hby d5_8) ?_
        refine XS.goto X0.here hx rfl (pc0 := 10) (pc' := 14) rfl (hb hby d5_10) (by decide) (by decide) ?_
        rw [show (ni_5_s0 i0) = (32 : Int32) from (if_pos hc5)] at k
        exact k
      · refine XS.ifYes X0.here hx rfl (pc0 := 5) (pc' := 13) rfl (hb hby d5_5) rfl ((if0 _ _).trans (feq hc5).2) (by decide) (by decide) ?_
        refine XS.iconst X0.here hx rfl (hb hby d5_13) ?_
        rw [show (ni_5_s0 i0) = (0 : Int32) from (if_neg hc5)] at k
        exact k
    exact Outs.retI X0 hx hret (hb hby d5_14) hlk (by decide) (by decide) e0 ⟨congrArg (fun z_ => some (Value.int z_)) (show (F_ni i0) = (ni_5_s0 i0) from (if_neg hc1)).symm, N0, rfl⟩
theorem ef_4 (m : MethodId) (x0 : Int64) : entryFrame m #[(.long x0)] 3 = mkF m 0 #[.val (.long x0), .second, .unset] [] := by first | (simp [entryFrame, mkF, argsToLocals, Value.category]; done) | rfl
theorem d4_0 : decode jdk_35_method_48_code 0 = .ok (.lload_n 0, 1) := by decide +kernel
theorem d4_1 : decode jdk_35_method_48_code 1 = .ok (.bipush 32, 2) := by decide +kernel
theorem d4_3 : decode jdk_35_method_48_code 3 = .ok (.lushr, 1) := by decide +kernel
theorem d4_4 : decode jdk_35_method_48_code 4 = .ok (.l2i, 1) := by decide +kernel
theorem d4_5 : decode jdk_35_method_48_code 5 = .ok (.istore_n 2, 1) := by decide +kernel
theorem d4_6 : decode jdk_35_method_48_code 6 = .ok (.iload_n 2, 1) := by decide +kernel
theorem d4_7 : decode jdk_35_method_48_code 7 = .ok (.ifCond .ne 14, 3) := by decide +kernel
theorem d4_10 : decode jdk_35_method_48_code 10 = .ok (.bipush 32, 2) := by decide +kernel
theorem d4_12 : decode jdk_35_method_48_code 12 = .ok (.lload_n 0, 1) := by decide +kernel
theorem d4_13 : decode jdk_35_method_48_code 13 = .ok (.l2i, 1) := by decide +kernel
theorem pd_3 : parseMethodDescriptor "(I)I" = some ⟨[.int], some .int⟩ := by decide +kernel
theorem d4_14 : decode jdk_35_method_48_code 14 = .ok (.invokestatic 308, 3) := by decide +kernel
theorem d4_17 : decode jdk_35_method_48_code 17 = .ok (.iadd, 1) := by decide +kernel
theorem d4_18 : decode jdk_35_method_48_code 18 = .ok (.goto 7, 3) := by decide +kernel
theorem d4_25 : decode jdk_35_method_48_code 25 = .ok (.ireturn, 1) := by decide +kernel
theorem d4_21 : decode jdk_35_method_48_code 21 = .ok (.iload_n 2, 1) := by decide +kernel
theorem d4_22 : decode jdk_35_method_48_code 22 = .ok (.invokestatic 308, 3) := by decide +kernel
theorem pn_4 : plainName "java/lang/Long" = true := by first | (simp [plainName, overriddenIn]; done) | decide +kernel
def nl_v5 (j0 : Int64) : Int32 := (((j0.toUInt64 >>> ((32 : Int32) &&& 0x3f).toInt64.toUInt64).toInt64).toInt32)
def F_nl (j0 : Int64) : Int32 := (if (nl_v5 j0) = (0 : Int32) then ((32 : Int32) + (F_ni (j0.toInt32))) else (F_ni (nl_v5 j0)))
set_option maxRecDepth 65536 in
set_option maxHeartbeats 40000000 in
theorem rm4 (l : Launch) (Z : State) (a0 : Array Value) (hw : ∀ d ∈ tables_1, d.before a0 Z = true) (ws : List Jvm.Cond) (j0 : Int64)  (h0 : Heap) (n0 : Nat)  :
    MetFree l (⟨"java/lang/Long", "numberOfLeadingZeros", "(J)I"⟩ : MethodName) (head1 (Jvm.Cond.code (⟨"java/lang/Long", "numberOfLeadingZeros", "(J)I"⟩ : MethodName) jdk_35_method_48_code 3 (some .int) :: ws) ({ frames := 1, cells := 0, slots := 0, locals := 14 } : Room)) (fun a U => a = #[(.long j0)] ∧ Z.Warmed39 U.vm ∧ U.heap = h0) (fun _ _ _ _ _ => True) (fun _ U o U' => ∃ v L, o = .returned v ∧ QR (some (.int (F_nl j0))) h0 n0 v U'.heap L ∧ FrameEnd U o U' L ({ frames := 1, cells := 0, slots := 0, locals := 14 } : Room).cells ({ frames := 1, cells := 0, slots := 0, locals := 14 } : Room).slots) := by
  refine MetFree.of_bodySF (plainFor_of_name pn_4) hisR ?_
  intro p e s m args below meth c s₁ Bd hml0 hP hK
  obtain ⟨rfl, hZ, hh⟩ := hP
  have hx := Bd.exec
  have hby := Bd.bytes
  have hml : c.maxLocals = 3 := hml0
  have hown : s.vm.findClass "java/lang/Long" = some m.cls := findClass_of_methodNamed Bd.named
  have hnm := (name_of_methodNamed Bd.named Bd.method).1
  have hret := Bd.returns
  have hlk : meth.locks = false := BodyLoose.notSynchronized Bd
  have X0 : Stand p l e ({ frames := 1, cells := 0, slots := 0, locals := 14 } : Room) s m #[(.long j0)] below meth c s₁ [] 0 0 := Stand.of_body Bd
  have e0 : s₁.heap = h0 := by rw [← hh, Bd.state]; rfl
  have N0 := Fr.nil n0
  show Outs p e below s (QR (some (.int (F_nl j0))) h0 n0) _ _ _
  refine Outs.of (U' := s₁.setTop (mkF m 0 #[.val (.long j0), .second, .unset] [])) (fun t k => castTop (ef_4 m j0) k) ?_
  refine Outs.of (U' := s₁.setTop (mkF m 7 #[.val (.long j0), .second, .val (.int (nl_v5 j0))] [(.int (nl_v5 j0))])) (fun t k => ?_) ?_
  · refine XS.lloadN X0.here hx rfl (hb hby d4_0) rfl ?_
    refine XS.bipush X0.here hx rfl (hb hby d4_1) ?_
    refine XS.lushr X0.here hx rfl (hb hby d4_3) rfl ?_
    refine XS.l2i X0.here hx rfl (hb hby d4_4) rfl ?_
    refine XS.istoreN X0.here hx rfl (hb hby d4_5) rfl (l' := #[.val (.long j0), .second, .val (.int (nl_v5 j0))]) rfl ?_
    refine XS.iloadN X0.here hx rfl (hb hby d4_6) rfl ?_
    exact k
  by_cases hc7 : (nl_v5 j0) = (0 : Int32)
  · refine Outs.of (U' := s₁.setTop (mkF m 10 #[.val (.long j0), .second, .val (.int (nl_v5 j0))] [])) (fun t k => ?_) ?_
    · refine XS.ifNo X0.here hx rfl (hb hby d4_7) rfl ((if0 _ _).trans (teq hc7).2) ?_
      exact k
    refine Outs.of (U' := s₁.setTop (mkF m 14 #[.val (.long j0), .second, .val (.int (nl_v5 j0))] [(.int (j0.toInt32)), (.int (32 : Int32))])) (fun t k => ?_) ?_
    · refine XS.bipush X0.here hx rfl (hb hby d4_10) ?_
      refine XS.lloadN X0.here hx rfl (hb hby d4_12) rfl ?_
      refine XS.l2i X0.here hx rfl (hb hby d4_13) rfl ?_
      exact k
    obtain ⟨_, _, ⟨T1, L1, k1, n1⟩, -, X1, ⟨Lc1, hQ1, l1, y1, z1⟩, st1⟩ := Jvm.LawKit.callS X0 hx (y := (⟨"java/lang/Integer", "numberOfLeadingZeros", "(I)I"⟩ : MethodName)) hown (mvT hZ (hw _ (List.mem_of_getElem? (i := 22) rfl))) (mvT hZ (hw _ (List.mem_of_getElem? (i := 23) rfl))) (mvT hZ (hw _ (List.mem_of_getElem? (i := 24) rfl))) (mvT hZ (hw _ (List.mem_of_getElem? (i := 25) rfl))) (by decide) (backOf (W := 1) (rm5 l Z a0 hw [] (j0.toInt32) h0 n0 ) hZ (hw _ (List.mem_of_getElem? (i := 25) rfl)) (hw _ (List.mem_of_getElem? (i := 24) rfl)) (by decide) (by decide)) (g := (mkF m 14 #[.val (.long j0), .second, .val (.int (nl_v5 j0))] [(.int (j0.toInt32)), (.int (32 : Int32))])) rfl (by rw [hml]; rfl) (argsL := [(.int (j0.toInt32))]) (rest := [(.int (32 : Int32))]) (lenOf pd_3 rfl) rfl (by show 2 * 0 + _ ≤ _; exact Nat.le_of_eq rfl) (hb hby d4_14) (fun _ _ => ⟨rfl, e0, (by decide : 0 + 0 ≤ _), (by decide : 0 + 0 ≤ _)⟩)
    dsimp only [Pt.U, Pt.locs, Pt.cells, Pt.slots] at X1 l1 y1 z1 st1 hQ1
    subst l1 y1 z1
    obtain ⟨rfl, N1q, e1⟩ := hQ1
    have N1 := Fr.app N0 N1q
    obtain ⟨Lh1, X1, N1⟩ := hide X1 N1 (C := 0) (S := 0) (by decide) (by decide)
    refine Outs.of st1 ?_
    refine Outs.of (U' := T1.setTop (mkF m 25 #[.val (.long j0), .second, .val (.int (nl_v5 j0))] [(.int ((32 : Int32) + (F_ni (j0.toInt32))))])) (fun t k => ?_) ?_
    · refine XS.iadd X1.here hx rfl (hb hby d4_17) rfl ?_
      refine XS.goto X1.here hx rfl (pc0 := 18) (pc' := 25) rfl (hb hby d4_18) (by decide) (by decide) ?_
      exact k
    exact Outs.retI X1 hx hret (hb hby d4_25) hlk (by decide) (by decide) e1 ⟨congrArg (fun z_ => some (Value.int z_)) (show (F_nl j0) = ((32 : Int32) + (F_ni (j0.toInt32))) from (if_pos hc7)).symm, N1, rfl⟩
  · refine Outs.of (U' := s₁.setTop (mkF m 21 #[.val (.long j0), .second, .val (.int (nl_v5 j0))] [])) (fun t k => ?_) ?_
    · refine XS.ifYes X0.here hx rfl (pc0 := 7) (pc' := 21) rfl (hb hby d4_7) rfl ((if0 _ _).trans (feq hc7).2) (by decide) (by decide) ?_
      exact k
    refine Outs.of (U' := s₁.setTop (mkF m 22 #[.val (.long j0), .second, .val (.int (nl_v5 j0))] [(.int (nl_v5 j0))])) (fun t k => ?_) ?_
    · refine XS.iloadN X0.here hx rfl (hb hby d4_21) rfl ?_
      exact k
    obtain ⟨_, _, ⟨T2, L2, k2, n2⟩, -, X2, ⟨Lc2, hQ2, l2, y2, z2⟩, st2⟩ := Jvm.LawKit.callS X0 hx (y := (⟨"java/lang/Integer", "numberOfLeadingZeros", "(I)I"⟩ : MethodName)) hown (mvT hZ (hw _ (List.mem_of_getElem? (i := 22) rfl))) (mvT hZ (hw _ (List.mem_of_getElem? (i := 23) rfl))) (mvT hZ (hw _ (List.mem_of_getElem? (i := 24) rfl))) (mvT hZ (hw _ (List.mem_of_getElem? (i := 25) rfl))) (by decide) (backOf (W := 0) (rm5 l Z a0 hw [] (nl_v5 j0) h0 n0 ) hZ (hw _ (List.mem_of_getElem? (i := 25) rfl)) (hw _ (List.mem_of_getElem? (i := 24) rfl)) (by decide) (by decide)) (g := (mkF m 22 #[.val (.long j0), .second, .val (.int (nl_v5 j0))] [(.int (nl_v5 j0))])) rfl (by rw [hml]; rfl) (argsL := [(.int (nl_v5 j0))]) (rest := []) (lenOf pd_3 rfl) rfl (by show 2 * 0 + _ ≤ _; exact Nat.le_of_eq rfl) (hb hby d4_22) (fun _ _ => ⟨rfl, e0, (by decide : 0 + 0 ≤ _), (by decide : 0 + 0 ≤ _)⟩)
    dsimp only [Pt.U, Pt.locs, Pt.cells, Pt.slots] at X2 l2 y2 z2 st2 hQ2
    subst l2 y2 z2
    obtain ⟨rfl, N2q, e2⟩ := hQ2
    have N2 := Fr.app N0 N2q
    obtain ⟨Lh2, X2, N2⟩ := hide X2 N2 (C := 0) (S := 0) (by decide) (by decide)
    refine Outs.of st2 ?_
    exact Outs.retI X2 hx hret (hb hby d4_25) hlk (by decide) (by decide) e2 ⟨congrArg (fun z_ => some (Value.int z_)) (show (F_nl j0) = (F_ni (nl_v5 j0)) from (if_neg hc7)).symm, N2, rfl⟩
theorem ef_9 (m : MethodId) (x0 : Int32) (x1 : Int32) : entryFrame m #[(.int x0), (.int x1)] 2 = mkF m 0 #[.val (.int x0), .val (.int x1)] [] := by first | (simp [entryFrame, mkF, argsToLocals, Value.category]; done) | rfl
theorem d9_0 : decode jdk_29_method_69_code 0 = .ok (.iload_n 0, 1) := by decide +kernel
theorem d9_1 : decode jdk_29_method_69_code 1 = .ok (.iload_n 1, 1) := by decide +kernel
theorem d9_2 : decode jdk_29_method_69_code 2 = .ok (.if_icmp .gt 7, 3) := by decide +kernel
theorem d9_9 : decode jdk_29_method_69_code 9 = .ok (.iload_n 1, 1) := by decide +kernel
theorem d9_5 : decode jdk_29_method_69_code 5 = .ok (.iload_n 0, 1) := by decide +kernel
theorem d9_6 : decode jdk_29_method_69_code 6 = .ok (.goto 4, 3) := by decide +kernel
theorem d9_10 : decode jdk_29_method_69_code 10 = .ok (.ireturn, 1) := by decide +kernel
def f9_2_s0 (i0 : Int32) (i1 : Int32) : Int32 := (if i1 < i0 then i1 else i0)
def F_f9 (i0 : Int32) (i1 : Int32) : Int32 := (f9_2_s0 i0 i1)
set_option maxRecDepth 65536 in
set_option maxHeartbeats 40000000 in
theorem rm9 (l : Launch) (Z : State) (a0 : Array Value) (hw : ∀ d ∈ tables_1, d.before a0 Z = true) (ws : List Jvm.Cond) (i0 : Int32) (i1 : Int32)  (h0 : Heap) (n0 : Nat)  :
    MetFree l (⟨"java/lang/Math", "min", "(II)I"⟩ : MethodName) (head1 (Jvm.Cond.code (⟨"java/lang/Math", "min", "(II)I"⟩ : MethodName) jdk_29_method_69_code 2 (some .int) :: ws) ({ frames := 0, cells := 0, slots := 0, locals := 0 } : Room)) (fun a U => a = #[(.int i0), (.int i1)] ∧ Z.Warmed39 U.vm ∧ U.heap = h0) (fun _ _ _ _ _ => True) (fun _ U o U' => ∃ v L, o = .returned v ∧ QR (some (.int (F_f9 i0 i1))) h0 n0 v U'.heap L ∧ FrameEnd U o U' L ({ frames := 0, cells := 0, slots := 0, locals := 0 } : Room).cells ({ frames := 0, cells := 0, slots := 0, locals := 0 } : Room).slots) := by
  refine MetFree.of_bodySF (Jvm.Free.JP.mathPlain rfl (by decide +kernel)) hisR ?_
  intro p e s m args below meth c s₁ Bd hml0 hP hK
  obtain ⟨rfl, hZ, hh⟩ := hP
  have hx := Bd.exec
  have hby := Bd.bytes
  have hml : c.maxLocals = 2 := hml0
  have hown : s.vm.findClass "java/lang/Math" = some m.cls := findClass_of_methodNamed Bd.named
  have hnm := (name_of_methodNamed Bd.named Bd.method).1
  have hret := Bd.returns
  have hlk : meth.locks = false := BodyLoose.notSynchronized Bd
  have X0 : Stand p l e ({ frames := 0, cells := 0, slots := 0, locals := 0 } : Room) s m #[(.int i0), (.int i1)] below meth c s₁ [] 0 0 := Stand.of_body Bd
  have e0 : s₁.heap = h0 := by rw [← hh, Bd.state]; rfl
  have N0 := Fr.nil n0
  show Outs p e below s (QR (some (.int (F_f9 i0 i1))) h0 n0) _ _ _
  refine Outs.of (U' := s₁.setTop (mkF m 0 #[.val (.int i0), .val (.int i1)] [])) (fun t k => castTop (ef_9 m i0 i1) k) ?_
  refine Outs.of (U' := s₁.setTop (mkF m 10 #[.val (.int i0), .val (.int i1)] [(.int (f9_2_s0 i0 i1))])) (fun t k => ?_) ?_
  · refine XS.iloadN X0.here hx rfl (hb hby d9_0) rfl ?_
    refine XS.iloadN X0.here hx rfl (hb hby d9_1) rfl ?_
    by_cases hc2 : i1 < i0
    · refine XS.icmpYes X0.here hx rfl (pc0 := 2) (pc' := 9) rfl (hb hby d9_2) rfl (tlt hc2).2.2.1 (by decide) (by decide) ?_
      refine XS.iloadN X0.here hx rfl (hb hby d9_9) rfl ?_
      rw [show (f9_2_s0 i0 i1) = i1 from (if_pos hc2)] at k
      exact k
    · refine XS.icmpNo X0.here hx rfl (hb hby d9_2) rfl (flt hc2).2.2.1 ?_
      refine XS.iloadN X0.here hx rfl (hb hby d9_5) rfl ?_
      refine XS.goto X0.here hx rfl (pc0 := 6) (pc' := 10) rfl (hb hby d9_6) (by decide) (by decide) ?_
      rw [show (f9_2_s0 i0 i1) = i0 from (if_neg hc2)] at k
      exact k
  exact Outs.retI X0 hx hret (hb hby d9_10) hlk (by decide) (by decide) e0 ⟨congrArg (fun z_ => some (Value.int z_)) (show (F_f9 i0 i1) = (f9_2_s0 i0 i1) from rfl).symm, N0, rfl⟩
theorem ef_8 (m : MethodId) (x0 : Addr) (x1 : Int32) : entryFrame m #[(.ref x0), (.int x1)] 3 = mkF m 0 #[.val (.ref x0), .val (.int x1), .unset] [] := by first | (simp [entryFrame, mkF, argsToLocals, Value.category]; done) | rfl
theorem d8_0 : decode jdk_65_method_124_code 0 = .ok (.iload_n 1, 1) := by decide +kernel
theorem d8_1 : decode jdk_65_method_124_code 1 = .ok (.aload_n 0, 1) := by decide +kernel
theorem d8_2 : decode jdk_65_method_124_code 2 = .ok (.arraylength, 1) := by decide +kernel
theorem d8_3 : decode jdk_65_method_124_code 3 = .ok (.if_icmp .ne 11, 3) := by decide +kernel
theorem d8_14 : decode jdk_65_method_124_code 14 = .ok (.iload_n 1, 1) := by decide +kernel
theorem d8_15 : decode jdk_65_method_124_code 15 = .ok (.newarray .long, 2) := by decide +kernel
theorem d8_17 : decode jdk_65_method_124_code 17 = .ok (.astore_n 2, 1) := by decide +kernel
theorem d8_18 : decode jdk_65_method_124_code 18 = .ok (.aload_n 0, 1) := by decide +kernel
theorem d8_19 : decode jdk_65_method_124_code 19 = .ok (.iconst 0, 1) := by decide +kernel
theorem d8_20 : decode jdk_65_method_124_code 20 = .ok (.aload_n 2, 1) := by decide +kernel
theorem d8_21 : decode jdk_65_method_124_code 21 = .ok (.iconst 0, 1) := by decide +kernel
theorem d8_22 : decode jdk_65_method_124_code 22 = .ok (.aload_n 0, 1) := by decide +kernel
theorem d8_23 : decode jdk_65_method_124_code 23 = .ok (.arraylength, 1) := by decide +kernel
theorem d8_24 : decode jdk_65_method_124_code 24 = .ok (.iload_n 1, 1) := by decide +kernel
theorem pd_7 : parseMethodDescriptor "(II)I" = some ⟨[.int, .int], some .int⟩ := by decide +kernel
theorem d8_25 : decode jdk_65_method_124_code 25 = .ok (.invokestatic 304, 3) := by decide +kernel
theorem d8_28 : decode jdk_65_method_124_code 28 = .ok (.invokestatic 150, 3) := by decide +kernel
theorem d8_31 : decode jdk_65_method_124_code 31 = .ok (.aload_n 2, 1) := by decide +kernel
theorem d8_32 : decode jdk_65_method_124_code 32 = .ok (.areturn, 1) := by decide +kernel
theorem pn_8 : plainName "java/util/Arrays" = true := by first | (simp [plainName, overriddenIn]; done) | decide +kernel
def cp1_g28 (g : Nat → Int64) : Nat → Int64 := (fun j_ => if j_ < 1 then g j_ else (fun _ => (0 : Int64)) j_)
def Q_cp1 (Z : State) (o0 : Addr) (g : Nat → Int64) (h0 : Heap) (n0 : Nat) (v : Option Value) (h : Heap) (L : List Loc) : Prop := ∃ b1 : Addr, n0 ≤ b1 ∧ h0.size ≤ b1 ∧ v = some (.ref b1) ∧ Fr n0 L ∧ Keep h0 h [] ∧ AJ Z h b1 .long 2 (cp1_g28 g)
set_option maxRecDepth 65536 in
set_option maxHeartbeats 40000000 in
theorem rmcp1 (l : Launch) (Z : State) (a0 : Array Value) (hw : ∀ d ∈ tables_1, d.before a0 Z = true) (ws : List Jvm.Cond) (o0 : Addr) (g : Nat → Int64) (h0 : Heap) (n0 : Nat) (Z0 : n0 ≤ h0.size) (A_o0 : AJ Z h0 o0 .long 1 g) :
    MetFree l (⟨"java/util/Arrays", "copyOf", "([JI)[J"⟩ : MethodName) (head1 (Jvm.Cond.code (⟨"java/util/Arrays", "copyOf", "([JI)[J"⟩ : MethodName) jdk_65_method_124_code 3 (some (.array .long)) :: ws) ({ frames := 1, cells := 1, slots := 2, locals := 18 } : Room)) (fun a U => a = #[(.ref o0), (.int (2 : Int32))] ∧ Z.Warmed39 U.vm ∧ U.heap = h0) (fun _ _ _ _ _ => True) (fun _ U o U' => ∃ v L, o = .returned v ∧ Q_cp1 Z o0 g h0 n0 v U'.heap L ∧ FrameEnd U o U' L ({ frames := 1, cells := 1, slots := 2, locals := 18 } : Room).cells ({ frames := 1, cells := 1, slots := 2, locals := 18 } : Room).slots) := by
  refine MetFree.of_bodySF (plainFor_of_name pn_8) hisR ?_
  intro p e s m args below meth c s₁ Bd hml0 hP hK
  obtain ⟨rfl, hZ, hh⟩ := hP
  have hx := Bd.exec
  have hby := Bd.bytes
  have hml : c.maxLocals = 3 := hml0
  have hown : s.vm.findClass "java/util/Arrays" = some m.cls := findClass_of_methodNamed Bd.named
  have hnm := (name_of_methodNamed Bd.named Bd.method).1
  have hret := Bd.returns
  have hlk : meth.locks = false := BodyLoose.notSynchronized Bd
  have X0 : Stand p l e ({ frames := 1, cells := 1, slots := 2, locals := 18 } : Room) s m #[(.ref o0), (.int (2 : Int32))] below meth c s₁ [] 0 0 := Stand.of_body Bd
  have e0 : s₁.heap = h0 := by rw [← hh, Bd.state]; rfl
  have N0 := Fr.nil n0
  show Outs p e below s (Q_cp1 Z o0 g h0 n0) _ _ _
  refine Outs.of (U' := s₁.setTop (mkF m 0 #[.val (.ref o0), .val (.int (2 : Int32)), .unset] [])) (fun t k => castTop (ef_8 m o0 (2 : Int32)) k) ?_
  refine Outs.of (U' := s₁.setTop (mkF m 2 #[.val (.ref o0), .val (.int (2 : Int32)), .unset] [(.ref o0), (.int (2 : Int32))])) (fun t k => ?_) ?_
  · refine XS.iloadN X0.here hx rfl (hb hby d8_0) rfl ?_
    refine XS.aloadN X0.here hx rfl (hb hby d8_1) rfl rfl ?_
    exact k
  refine Outs.of (alen X0 hx hZ e0 A_o0 (z := (1 : Int32)) rfl (f := (mkF m 2 #[.val (.ref o0), .val (.int (2 : Int32)), .unset] [(.ref o0), (.int (2 : Int32))])) rfl rfl (hb hby d8_2)) ?_
  refine Outs.of (U' := s₁.setTop (mkF m 15 #[.val (.ref o0), .val (.int (2 : Int32)), .unset] [(.int (2 : Int32))])) (fun t k => ?_) ?_
  · refine XS.icmpYes X0.here hx rfl (pc0 := 3) (pc' := 14) rfl (hb hby d8_3) rfl (feq (show ¬ ((2 : Int32) = (1 : Int32)) from (by decide))).2 (by decide) (by decide) ?_
    refine XS.iloadN X0.here hx rfl (hb hby d8_14) rfl ?_
    exact k
  obtain ⟨T1, h1, X1, e1, E1, A1, st1⟩ := newAF X0 hx hZ (aty := .long) (hw _ (List.mem_of_getElem? (i := 10) rfl)) e0 (f := (mkF m 15 #[.val (.ref o0), .val (.int (2 : Int32)), .unset] [(.int (2 : Int32))])) rfl (hb hby d8_15) rfl (k := 2) rfl (cap := 2) (by decide) (by decide) (by decide) (by decide)
  obtain ⟨b1, g1⟩ : ∃ z, z = h0.size := ⟨_, rfl⟩
  rw [← g1] at A1 st1
  have g_b1 : n0 ≤ b1 := Nat.le_trans Z0 (Nat.le_of_eq g1.symm)
  have sz_b1 : h0.size ≤ b1 := Nat.le_trans (Keep.refl h0 []).1 (Nat.le_of_eq g1.symm)
  have ne_o0_b1 : o0 ≠ b1 := Nat.ne_of_lt (Nat.lt_of_lt_of_eq A_o0.lt g1.symm)
  have V1 : AJ Z h1 b1 .long 2 (fun _ => (0 : Int64)) := A1
  refine Outs.of st1 ?_
  refine Outs.of (U' := T1.setTop (mkF m 23 #[.val (.ref o0), .val (.int (2 : Int32)), .val (.ref b1)] [(.ref o0), (.int (0 : Int32)), (.ref b1), (.int (0 : Int32)), (.ref o0)])) (fun t k => ?_) ?_
  · refine XS.astoreN X1.here hx rfl (hb hby d8_17) rfl rfl (l' := #[.val (.ref o0), .val (.int (2 : Int32)), .val (.ref b1)]) rfl ?_
    refine XS.aloadN X1.here hx rfl (hb hby d8_18) rfl rfl ?_
    refine XS.iconst X1.here hx rfl (hb hby d8_19) ?_
    refine XS.aloadN X1.here hx rfl (hb hby d8_20) rfl rfl ?_
    refine XS.iconst X1.here hx rfl (hb hby d8_21) ?_
    refine XS.aloadN X1.here hx rfl (hb hby d8_22) rfl rfl ?_
    exact k
  have f2 : AJ Z h1 o0 .long 1 g := (A_o0.ext E1)
  refine Outs.of (alen X1 hx hZ e1 f2 (z := (1 : Int32)) rfl (f := (mkF m 23 #[.val (.ref o0), .val (.int (2 : Int32)), .val (.ref b1)] [(.ref o0), (.int (0 : Int32)), (.ref b1), (.int (0 : Int32)), (.ref o0)])) rfl rfl (hb hby d8_23)) ?_
  refine Outs.of (U' := T1.setTop (mkF m 25 #[.val (.ref o0), .val (.int (2 : Int32)), .val (.ref b1)] [(.int (2 : Int32)), (.int (1 : Int32)), (.int (0 : Int32)), (.ref b1), (.int (0 : Int32)), (.ref o0)])) (fun t k => ?_) ?_
  · refine XS.iloadN X1.here hx rfl (hb hby d8_24) rfl ?_
    exact k
  obtain ⟨_, _, ⟨T3, L3, k3, n3⟩, -, X3, ⟨Lc3, hQ3, l3, y3, z3⟩, st3⟩ := Jvm.LawKit.callS X1 hx (y := (⟨"java/lang/Math", "min", "(II)I"⟩ : MethodName)) hown (mvT hZ (hw _ (List.mem_of_getElem? (i := 44) rfl))) (mvT hZ (hw _ (List.mem_of_getElem? (i := 45) rfl))) (mvT hZ (hw _ (List.mem_of_getElem? (i := 46) rfl))) (mvT hZ (hw _ (List.mem_of_getElem? (i := 47) rfl))) (by decide) (backOf (W := 4) (rm9 l Z a0 hw [] (1 : Int32) (2 : Int32) h1 n0 ) hZ (hw _ (List.mem_of_getElem? (i := 47) rfl)) (hw _ (List.mem_of_getElem? (i := 46) rfl)) (by decide) (by decide)) (g := (mkF m 25 #[.val (.ref o0), .val (.int (2 : Int32)), .val (.ref b1)] [(.int (2 : Int32)), (.int (1 : Int32)), (.int (0 : Int32)), (.ref b1), (.int (0 : Int32)), (.ref o0)])) rfl (by rw [hml]; rfl) (argsL := [(.int (1 : Int32)), (.int (2 : Int32))]) (rest := [(.int (0 : Int32)), (.ref b1), (.int (0 : Int32)), (.ref o0)]) (lenOf pd_7 rfl) rfl (by show 2 * 0 + _ ≤ _; exact Nat.le_of_eq rfl) (hb hby d8_25) (fun _ _ => ⟨rfl, e1, (by decide : 1 + 0 ≤ _), (by decide : 2 + 0 ≤ _)⟩)
  dsimp only [Pt.U, Pt.locs, Pt.cells, Pt.slots] at X3 l3 y3 z3 st3 hQ3
  subst l3 y3 z3
  obtain ⟨rfl, N3q, e3⟩ := hQ3
  have N3 := Fr.app N0 N3q
  obtain ⟨Lh3, X3, N3⟩ := hide X3 N3 (C := 1) (S := 2) (by decide) (by decide)
  refine Outs.of st3 ?_
  obtain ⟨T4, h4, Lc4, X4, e4, N4, K4, V4, st4⟩ := cpJ X3 hx hZ hown (hw _ (List.mem_of_getElem? (i := 48) rfl)) (hw _ (List.mem_of_getElem? (i := 51) rfl)) (hw _ (List.mem_of_getElem? (i := 49) rfl)) (hw _ (List.mem_of_getElem? (i := 50) rfl)) e3 f2 V1 (nn := (1 : Int32)) (k := 1) rfl (by decide) (by decide) N3 g_b1 (f := (mkF m 28 #[.val (.ref o0), .val (.int (2 : Int32)), .val (.ref b1)] [(.int (1 : Int32)), (.int (0 : Int32)), (.ref b1), (.int (0 : Int32)), (.ref o0)])) rfl (by rw [hml]; rfl) rfl (hb hby d8_28) (by decide) (W := 0) (by show 2 * 0 + _ ≤ _; exact Nat.le_of_eq rfl) (by decide)
  replace V4 : AJ Z h4 b1 .long 2 (cp1_g28 g) := V4
  obtain ⟨Lh4, X4, N4⟩ := hide X4 N4 (C := 1) (S := 2) (by decide) (by decide)
  refine Outs.of st4 ?_
  refine Outs.of (U' := T4.setTop (mkF m 32 #[.val (.ref o0), .val (.int (2 : Int32)), .val (.ref b1)] [(.ref b1)])) (fun t k => ?_) ?_
  · refine XS.aloadN X4.here hx rfl (hb hby d8_31) rfl rfl ?_
    exact k
  exact Outs.retA (w := (.ref b1)) X4 hx hret rfl rfl rfl (hb hby d8_32) hlk (by decide) (by decide) e4 ⟨b1, g_b1, sz_b1, rfl, N4, (((Keep.refl h0 []).ext E1).trans K4 (allS (Or.inr sz_b1) all0)), V4⟩
def cp2_g28 (g : Nat → Int64) : Nat → Int64 := (fun j_ => if j_ < 2 then g j_ else (fun _ => (0 : Int64)) j_)
def Q_cp2 (Z : State) (o0 : Addr) (g : Nat → Int64) (h0 : Heap) (n0 : Nat) (v : Option Value) (h : Heap) (L : List Loc) : Prop := ∃ b1 : Addr, n0 ≤ b1 ∧ h0.size ≤ b1 ∧ v = some (.ref b1) ∧ Fr n0 L ∧ Keep h0 h [] ∧ AJ Z h b1 .long 4 (cp2_g28 g)
set_option maxRecDepth 65536 in
set_option maxHeartbeats 40000000 in
theorem rmcp2 (l : Launch) (Z : State) (a0 : Array Value) (hw : ∀ d ∈ tables_1, d.before a0 Z = true) (ws : List Jvm.Cond) (o0 : Addr) (g : Nat → Int64) (h0 : Heap) (n0 : Nat) (Z0 : n0 ≤ h0.size) (A_o0 : AJ Z h0 o0 .long 2 g) :
    MetFree l (⟨"java/util/Arrays", "copyOf", "([JI)[J"⟩ : MethodName) (head1 (Jvm.Cond.code (⟨"java/util/Arrays", "copyOf", "([JI)[J"⟩ : MethodName) jdk_65_method_124_code 3 (some (.array .long)) :: ws) ({ frames := 1, cells := 1, slots := 4, locals := 18 } : Room)) (fun a U => a = #[(.ref o0), (.int (4 : Int32))] ∧ Z.Warmed39 U.vm ∧ U.heap = h0) (fun _ _ _ _ _ => True) (fun _ U o U' => ∃ v L, o = .returned v ∧ Q_cp2 Z o0 g h0 n0 v U'.heap L ∧ FrameEnd U o U' L ({ frames := 1, cells := 1, slots := 4, locals := 18 } : Room).cells ({ frames := 1, cells := 1, slots := 4, locals := 18 } : Room).slots) := by
  refine MetFree.of_bodySF (plainFor_of_name pn_8) hisR ?_
  intro p e s m args below meth c s₁ Bd hml0 hP hK
  obtain ⟨rfl, hZ, hh⟩ := hP
  have hx := Bd.exec
  have hby := Bd.bytes
  have hml : c.maxLocals = 3 := hml0
  have hown : s.vm.findClass "java/util/Arrays" = some m.cls := findClass_of_methodNamed Bd.named
  have hnm := (name_of_methodNamed Bd.named Bd.method).1
  have hret := Bd.returns
  have hlk : meth.locks = false := BodyLoose.notSynchronized Bd
  have X0 : Stand p l e ({ frames := 1, cells := 1, slots := 4, locals := 18 } : Room) s m #[(.ref o0), (.int (4 : Int32))] below meth c s₁ [] 0 0 := Stand.of_body Bd
  have e0 : s₁.heap = h0 := by rw [← hh, Bd.state]; rfl
  have N0 := Fr.nil n0
  show Outs p e below s (Q_cp2 Z o0 g h0 n0) _ _ _
  refine Outs.of (U' := s₁.setTop (mkF m 0 #[.val (.ref o0), .val (.int (4 : Int32)), .unset] [])) (fun t k => castTop (ef_8 m o0 (4 : Int32)) k) ?_
  refine Outs.of (U' := s₁.setTop (mkF m 2 #[.val (.ref o0), .val (.int (4 : Int32)), .unset] [(.ref o0), (.int (4 : Int32))])) (fun t k => ?_) ?_
  · refine XS.iloadN X0.here hx rfl (hb hby d8_0) rfl ?_
    refine XS.aloadN X0.here hx rfl (hb hby d8_1) rfl rfl ?_
    exact k
  refine Outs.of (alen X0 hx hZ e0 A_o0 (z := (2 : Int32)) rfl (f := (mkF m 2 #[.val (.ref o0), .val (.int (4 : Int32)), .unset] [(.ref o0), (.int (4 : Int32))])) rfl rfl (hb hby d8_2)) ?_
  refine Outs.of (U' := s₁.setTop (mkF m 15 #[.val (.ref o0), .val (.int (4 : Int32)), .unset] [(.int (4 : Int32))])) (fun t k => ?_) ?_
  · refine XS.icmpYes X0.here hx rfl (pc0 := 3) (pc' := 14) rfl (hb hby d8_3) rfl (feq (show ¬ ((4 : Int32) = (2 : Int32)) from (by decide))).2 (by decide) (by decide) ?_
    refine XS.iloadN X0.here hx rfl (hb hby d8_14) rfl ?_
    exact k
  obtain ⟨T1, h1, X1, e1, E1, A1, st1⟩ := newAF X0 hx hZ (aty := .long) (hw _ (List.mem_of_getElem? (i := 10) rfl)) e0 (f := (mkF m 15 #[.val (.ref o0), .val (.int (4 : Int32)), .unset] [(.int (4 : Int32))])) rfl (hb hby d8_15) rfl (k := 4) rfl (cap := 4) (by decide) (by decide) (by decide) (by decide)
  obtain ⟨b1, g1⟩ : ∃ z, z = h0.size := ⟨_, rfl⟩
  rw [← g1] at A1 st1
  have g_b1 : n0 ≤ b1 := Nat.le_trans Z0 (Nat.le_of_eq g1.symm)
  have sz_b1 : h0.size ≤ b1 := Nat.le_trans (Keep.refl h0 []).1 (Nat.le_of_eq g1.symm)
  have ne_o0_b1 : o0 ≠ b1 := Nat.ne_of_lt (Nat.lt_of_lt_of_eq A_o0.lt g1.symm)
  have V1 : AJ Z h1 b1 .long 4 (fun _ => (0 : Int64)) := A1
  refine Outs.of st1 ?_
  refine Outs.of (U' := T1.setTop (mkF m 23 #[.val (.ref o0), .val (.int (4 : Int32)), .val (.ref b1)] [(.ref o0), (.int (0 : Int32)), (.ref b1), (.int (0 : Int32)), (.ref o0)])) (fun t k => ?_) ?_
  · refine XS.astoreN X1.here hx rfl (hb hby d8_17) rfl rfl (l' := #[.val (.ref o0), .val (.int (4 : Int32)), .val (.ref b1)]) rfl ?_
    refine XS.aloadN X1.here hx rfl (hb hby d8_18) rfl rfl ?_
    refine XS.iconst X1.here hx rfl (hb hby d8_19) ?_
    refine XS.aloadN X1.here hx rfl (hb hby d8_20) rfl rfl ?_
    refine XS.iconst X1.here hx rfl (hb hby d8_21) ?_
    refine XS.aloadN X1.here hx rfl (hb hby d8_22) rfl rfl ?_
    exact k
  have f2 : AJ Z h1 o0 .long 2 g := (A_o0.ext E1)
  refine Outs.of (alen X1 hx hZ e1 f2 (z := (2 : Int32)) rfl (f := (mkF m 23 #[.val (.ref o0), .val (.int (4 : Int32)), .val (.ref b1)] [(.ref o0), (.int (0 : Int32)), (.ref b1), (.int (0 : Int32)), (.ref o0)])) rfl rfl (hb hby d8_23)) ?_
  refine Outs.of (U' := T1.setTop (mkF m 25 #[.val (.ref o0), .val (.int (4 : Int32)), .val (.ref b1)] [(.int (4 : Int32)), (.int (2 : Int32)), (.int (0 : Int32)), (.ref b1), (.int (0 : Int32)), (.ref o0)])) (fun t k => ?_) ?_
  · refine XS.iloadN X1.here hx rfl (hb hby d8_24) rfl ?_
    exact k
  obtain ⟨_, _, ⟨T3, L3, k3, n3⟩, -, X3, ⟨Lc3, hQ3, l3, y3, z3⟩, st3⟩ := Jvm.LawKit.callS X1 hx (y := (⟨"java/lang/Math", "min", "(II)I"⟩ : MethodName)) hown (mvT hZ (hw _ (List.mem_of_getElem? (i := 44) rfl))) (mvT hZ (hw _ (List.mem_of_getElem? (i := 45) rfl))) (mvT hZ (hw _ (List.mem_of_getElem? (i := 46) rfl))) (mvT hZ (hw _ (List.mem_of_getElem? (i := 47) rfl))) (by decide) (backOf (W := 4) (rm9 l Z a0 hw [] (2 : Int32) (4 : Int32) h1 n0 ) hZ (hw _ (List.mem_of_getElem? (i := 47) rfl)) (hw _ (List.mem_of_getElem? (i := 46) rfl)) (by decide) (by decide)) (g := (mkF m 25 #[.val (.ref o0), .val (.int (4 : Int32)), .val (.ref b1)] [(.int (4 : Int32)), (.int (2 : Int32)), (.int (0 : Int32)), (.ref b1), (.int (0 : Int32)), (.ref o0)])) rfl (by rw [hml]; rfl) (argsL := [(.int (2 : Int32)), (.int (4 : Int32))]) (rest := [(.int (0 : Int32)), (.ref b1), (.int (0 : Int32)), (.ref o0)]) (lenOf pd_7 rfl) rfl (by show 2 * 0 + _ ≤ _; exact Nat.le_of_eq rfl) (hb hby d8_25) (fun _ _ => ⟨rfl, e1, (by decide : 1 + 0 ≤ _), (by decide : 4 + 0 ≤ _)⟩)
  dsimp only [Pt.U, Pt.locs, Pt.cells, Pt.slots] at X3 l3 y3 z3 st3 hQ3
  subst l3 y3 z3
  obtain ⟨rfl, N3q, e3⟩ := hQ3
  have N3 := Fr.app N0 N3q
  obtain ⟨Lh3, X3, N3⟩ := hide X3 N3 (C := 1) (S := 4) (by decide) (by decide)
  refine Outs.of st3 ?_
  obtain ⟨T4, h4, Lc4, X4, e4, N4, K4, V4, st4⟩ := cpJ X3 hx hZ hown (hw _ (List.mem_of_getElem? (i := 48) rfl)) (hw _ (List.mem_of_getElem? (i := 51) rfl)) (hw _ (List.mem_of_getElem? (i := 49) rfl)) (hw _ (List.mem_of_getElem? (i := 50) rfl)) e3 f2 V1 (nn := (2 : Int32)) (k := 2) rfl (by decide) (by decide) N3 g_b1 (f := (mkF m 28 #[.val (.ref o0), .val (.int (4 : Int32)), .val (.ref b1)] [(.int (2 : Int32)), (.int (0 : Int32)), (.ref b1), (.int (0 : Int32)), (.ref o0)])) rfl (by rw [hml]; rfl) rfl (hb hby d8_28) (by decide) (W := 0) (by show 2 * 0 + _ ≤ _; exact Nat.le_of_eq rfl) (by decide)
  replace V4 : AJ Z h4 b1 .long 4 (cp2_g28 g) := V4
  obtain ⟨Lh4, X4, N4⟩ := hide X4 N4 (C := 1) (S := 4) (by decide) (by decide)
  refine Outs.of st4 ?_
  refine Outs.of (U' := T4.setTop (mkF m 32 #[.val (.ref o0), .val (.int (4 : Int32)), .val (.ref b1)] [(.ref b1)])) (fun t k => ?_) ?_
  · refine XS.aloadN X4.here hx rfl (hb hby d8_31) rfl rfl ?_
    exact k
  exact Outs.retA (w := (.ref b1)) X4 hx hret rfl rfl rfl (hb hby d8_32) hlk (by decide) (by decide) e4 ⟨b1, g_b1, sz_b1, rfl, N4, (((Keep.refl h0 []).ext E1).trans K4 (allS (Or.inr sz_b1) all0)), V4⟩
theorem ef_6 (m : MethodId) (x0 : Addr) (x1 : Int64) (x2 : Int64) : entryFrame m #[(.ref x0), (.long x1), (.long x2)] 7 = mkF m 0 #[.val (.ref x0), .val (.long x1), .second, .val (.long x2), .second, .unset, .unset] [] := by first | (simp [entryFrame, mkF, argsToLocals, Value.category]; done) | rfl
theorem d6_0 : decode prog_9_method_6_code 0 = .ok (.lload_n 1, 1) := by decide +kernel
theorem d6_1 : decode prog_9_method_6_code 1 = .ok (.bipush 6, 2) := by decide +kernel
theorem d6_3 : decode prog_9_method_6_code 3 = .ok (.lushr, 1) := by decide +kernel
theorem d6_4 : decode prog_9_method_6_code 4 = .ok (.l2i, 1) := by decide +kernel
theorem d6_5 : decode prog_9_method_6_code 5 = .ok (.istore 5, 2) := by decide +kernel
theorem d6_7 : decode prog_9_method_6_code 7 = .ok (.lload_n 1, 1) := by decide +kernel
theorem d6_8 : decode prog_9_method_6_code 8 = .ok (.ldc2_w 44, 3) := by decide +kernel
theorem d6_11 : decode prog_9_method_6_code 11 = .ok (.land, 1) := by decide +kernel
theorem d6_12 : decode prog_9_method_6_code 12 = .ok (.l2i, 1) := by decide +kernel
theorem d6_13 : decode prog_9_method_6_code 13 = .ok (.istore 6, 2) := by decide +kernel
theorem d6_15 : decode prog_9_method_6_code 15 = .ok (.aload_n 0, 1) := by decide +kernel
theorem d6_16 : decode prog_9_method_6_code 16 = .ok (.getfield 7, 3) := by decide +kernel
theorem d6_19 : decode prog_9_method_6_code 19 = .ok (.iload 5, 2) := by decide +kernel
theorem d6_21 : decode prog_9_method_6_code 21 = .ok (.dup2, 1) := by decide +kernel
theorem d6_22 : decode prog_9_method_6_code 22 = .ok (.laload, 1) := by decide +kernel
theorem d6_23 : decode prog_9_method_6_code 23 = .ok (.lload_n 3, 1) := by decide +kernel
theorem d6_24 : decode prog_9_method_6_code 24 = .ok (.iload 6, 2) := by decide +kernel
theorem d6_26 : decode prog_9_method_6_code 26 = .ok (.lshl, 1) := by decide +kernel
theorem d6_27 : decode prog_9_method_6_code 27 = .ok (.lor, 1) := by decide +kernel
theorem d6_28 : decode prog_9_method_6_code 28 = .ok (.lastore, 1) := by decide +kernel
theorem d6_29 : decode prog_9_method_6_code 29 = .ok (.iload 6, 2) := by decide +kernel
theorem d6_31 : decode prog_9_method_6_code 31 = .ok (.ifCond .le 34, 3) := by decide +kernel
theorem d6_34 : decode prog_9_method_6_code 34 = .ok (.lload_n 3, 1) := by decide +kernel
theorem d6_35 : decode prog_9_method_6_code 35 = .ok (.bipush 64, 2) := by decide +kernel
theorem d6_37 : decode prog_9_method_6_code 37 = .ok (.iload 6, 2) := by decide +kernel
theorem d6_39 : decode prog_9_method_6_code 39 = .ok (.isub, 1) := by decide +kernel
theorem d6_40 : decode prog_9_method_6_code 40 = .ok (.lushr, 1) := by decide +kernel
theorem d6_41 : decode prog_9_method_6_code 41 = .ok (.lconst 0, 1) := by decide +kernel
theorem d6_42 : decode prog_9_method_6_code 42 = .ok (.lcmp, 1) := by decide +kernel
theorem d6_43 : decode prog_9_method_6_code 43 = .ok (.ifCond .eq 22, 3) := by decide +kernel
theorem d6_65 : decode prog_9_method_6_code 65 = .ok (.return_, 1) := by decide +kernel
theorem d6_46 : decode prog_9_method_6_code 46 = .ok (.aload_n 0, 1) := by decide +kernel
theorem d6_47 : decode prog_9_method_6_code 47 = .ok (.getfield 7, 3) := by decide +kernel
theorem d6_50 : decode prog_9_method_6_code 50 = .ok (.iload 5, 2) := by decide +kernel
theorem d6_52 : decode prog_9_method_6_code 52 = .ok (.iconst 1, 1) := by decide +kernel
theorem d6_53 : decode prog_9_method_6_code 53 = .ok (.iadd, 1) := by decide +kernel
theorem d6_54 : decode prog_9_method_6_code 54 = .ok (.dup2, 1) := by decide +kernel
theorem d6_55 : decode prog_9_method_6_code 55 = .ok (.laload, 1) := by decide +kernel
theorem d6_56 : decode prog_9_method_6_code 56 = .ok (.lload_n 3, 1) := by decide +kernel
theorem d6_57 : decode prog_9_method_6_code 57 = .ok (.bipush 64, 2) := by decide +kernel
theorem d6_59 : decode prog_9_method_6_code 59 = .ok (.iload 6, 2) := by decide +kernel
theorem d6_61 : decode prog_9_method_6_code 61 = .ok (.isub, 1) := by decide +kernel
theorem d6_62 : decode prog_9_method_6_code 62 = .ok (.lushr, 1) := by decide +kernel
theorem d6_63 : decode prog_9_method_6_code 63 = .ok (.lor, 1) := by decide +kernel
theorem d6_64 : decode prog_9_method_6_code 64 = .ok (.lastore, 1) := by decide +kernel
theorem pn_1 : plainName "com/example/brief_locator/brieflocator/cbor/OpenContainers" = true := by first | (simp [plainName, overriddenIn]; done) | decide +kernel
def sb_v5 (j1 : Int64) : Int32 := (((j1.toUInt64 >>> ((6 : Int32) &&& 0x3f).toInt64.toUInt64).toInt64).toInt32)
def sb_v13 (j1 : Int64) : Int32 := ((j1 &&& (63 : Int64)).toInt32)
def SbOk (j1 j2 : Int64) (kw n : Nat) : Prop := (sb_v5 j1).toInt = (kw : Int) ∧ kw < n ∧ ((sb_v5 j1) + (1 : Int32)).toInt = ((kw + 1 : Nat) : Int) ∧ ((0 : Int32) < (sb_v13 j1) → ¬ ((j2.toUInt64 >>> (((64 : Int32) - (sb_v13 j1)) &&& 0x3f).toInt64.toUInt64).toInt64) = (0 : Int64) → kw + 1 < n)
def sb_g28 (j1 : Int64) (j2 : Int64) (g : Nat → Int64) (kw : Nat) : Nat → Int64 := (upv g kw ((g kw) ||| (j2 <<< ((sb_v13 j1) &&& 0x3f).toInt64)))
def sb_g64 (j1 : Int64) (j2 : Int64) (g : Nat → Int64) (kw : Nat) : Nat → Int64 := (upv (sb_g28 j1 j2 g kw) ((kw + 1)) (((sb_g28 j1 j2 g kw) ((kw + 1))) ||| ((j2.toUInt64 >>> (((64 : Int32) - (sb_v13 j1)) &&& 0x3f).toInt64.toUInt64).toInt64)))
def sb_out0 (j1 : Int64) (j2 : Int64) (g : Nat → Int64) (kw : Nat) : Nat → Int64 := (if (0 : Int32) < (sb_v13 j1) then (if ((j2.toUInt64 >>> (((64 : Int32) - (sb_v13 j1)) &&& 0x3f).toInt64.toUInt64).toInt64) = (0 : Int64) then (sb_g28 j1 j2 g kw) else (sb_g64 j1 j2 g kw)) else (sb_g28 j1 j2 g kw))
def Q_sb (Z : State) (o0 : Addr) (j1 : Int64) (j2 : Int64) (a1 : Addr) (n : Nat) (g : Nat → Int64) (kw : Nat) (h0 : Heap) (n0 : Nat) (v : Option Value) (h : Heap) (L : List Loc) : Prop := v = none ∧ Fr n0 L ∧ Keep h0 h [a1] ∧ AJ Z h a1 .long n (sb_out0 j1 j2 g kw)
set_option maxRecDepth 65536 in
set_option maxHeartbeats 40000000 in
theorem rmsb (l : Launch) (Z : State) (a0 : Array Value) (hw : ∀ d ∈ tables_1, d.before a0 Z = true) (ws : List Jvm.Cond) (o0 : Addr) (j1 : Int64) (j2 : Int64) (a1 : Addr) (n : Nat) (g : Nat → Int64) (kw : Nat) (h0 : Heap) (n0 : Nat) (E_o0 : Exa Z h0 o0 "com/example/brief_locator/brieflocator/cbor/OpenContainers") (F_o0_words : Fld Z h0 o0 "com/example/brief_locator/brieflocator/cbor/OpenContainers" "words" "[J" (.ref a1)) (A_a1 : AJ Z h0 a1 .long n g) (ne_o0_a1 : o0 ≠ a1) (g_a1 : n0 ≤ a1) (hs : SbOk j1 j2 kw n) :
    MetFree l (⟨"com/example/brief_locator/brieflocator/cbor/OpenContainers", "setBits", "(JJ)V"⟩ : MethodName) (head1 (Jvm.Cond.code (⟨"com/example/brief_locator/brieflocator/cbor/OpenContainers", "setBits", "(JJ)V"⟩ : MethodName) prog_9_method_6_code 7 none :: ws) ({ frames := 0, cells := 0, slots := 0, locals := 0 } : Room)) (fun a U => a = #[(.ref o0), (.long j1), (.long j2)] ∧ Z.Warmed39 U.vm ∧ U.heap = h0) (fun _ _ _ _ _ => True) (fun _ U o U' => ∃ v L, o = .returned v ∧ Q_sb Z o0 j1 j2 a1 n g kw h0 n0 v U'.heap L ∧ FrameEnd U o U' L ({ frames := 0, cells := 0, slots := 0, locals := 0 } : Room).cells ({ frames := 0, cells := 0, slots := 0, locals := 0 } : Room).slots) := by
  refine MetFree.of_bodySF (plainFor_of_name pn_1) hisR ?_
  intro p e s m args below meth c s₁ Bd hml0 hP hK
  obtain ⟨rfl, hZ, hh⟩ := hP
  have hx := Bd.exec
  have hby := Bd.bytes
  have hml : c.maxLocals = 7 := hml0
  have hown : s.vm.findClass "com/example/brief_locator/brieflocator/cbor/OpenContainers" = some m.cls := findClass_of_methodNamed Bd.named
  have hnm := (name_of_methodNamed Bd.named Bd.method).1
  have hret := Bd.returns
  have hlk : meth.locks = false := BodyLoose.notSynchronized Bd
  have X0 : Stand p l e ({ frames := 0, cells := 0, slots := 0, locals := 0 } : Room) s m #[(.ref o0), (.long j1), (.long j2)] below meth c s₁ [] 0 0 := Stand.of_body Bd
  have e0 : s₁.heap = h0 := by rw [← hh, Bd.state]; rfl
  have N0 := Fr.nil n0
  show Outs p e below s (Q_sb Z o0 j1 j2 a1 n g kw h0 n0) _ _ _
  refine Outs.of (U' := s₁.setTop (mkF m 0 #[.val (.ref o0), .val (.long j1), .second, .val (.long j2), .second, .unset, .unset] [])) (fun t k => castTop (ef_6 m o0 j1 j2) k) ?_
  refine Outs.of (U' := s₁.setTop (mkF m 16 #[.val (.ref o0), .val (.long j1), .second, .val (.long j2), .second, .val (.int (sb_v5 j1)), .val (.int (sb_v13 j1))] [(.ref o0)])) (fun t k => ?_) ?_
  · refine XS.lloadN X0.here hx rfl (hb hby d6_0) rfl ?_
    refine XS.bipush X0.here hx rfl (hb hby d6_1) ?_
    refine XS.lushr X0.here hx rfl (hb hby d6_3) rfl ?_
    refine XS.l2i X0.here hx rfl (hb hby d6_4) rfl ?_
    refine XS.istore X0.here hx rfl (hb hby d6_5) rfl (l' := #[.val (.ref o0), .val (.long j1), .second, .val (.long j2), .second, .val (.int (sb_v5 j1)), .unset]) rfl ?_
    refine XS.lloadN X0.here hx rfl (hb hby d6_7) rfl ?_
    refine X0.ldc2Long hx hown (mvT hZ (hw _ (List.mem_of_getElem? (i := 34) rfl))) (g := (mkF m 8 #[.val (.ref o0), .val (.long j1), .second, .val (.long j2), .second, .val (.int (sb_v5 j1)), .unset] [(.long j1)])) rfl (hb hby d6_8) _ ?_
    refine XS.land X0.here hx rfl (hb hby d6_11) rfl ?_
    refine XS.l2i X0.here hx rfl (hb hby d6_12) rfl ?_
    refine XS.istore X0.here hx rfl (hb hby d6_13) rfl (l' := #[.val (.ref o0), .val (.long j1), .second, .val (.long j2), .second, .val (.int (sb_v5 j1)), .val (.int (sb_v13 j1))]) rfl ?_
    refine XS.aloadN X0.here hx rfl (hb hby d6_15) rfl rfl ?_
    exact k
  obtain ⟨T1, X1, e1, st1⟩ := getF X0 hx hZ hown (host := "") (Or.inl (hw _ (List.mem_of_getElem? (i := 11) rfl))) Via.refl e0 F_o0_words (g := (mkF m 16 #[.val (.ref o0), .val (.long j1), .second, .val (.long j2), .second, .val (.int (sb_v5 j1)), .val (.int (sb_v13 j1))] [(.ref o0)])) rfl rfl (hb hby d6_16)
  refine Outs.of st1 ?_
  refine Outs.of (U' := T1.setTop (mkF m 22 #[.val (.ref o0), .val (.long j1), .second, .val (.long j2), .second, .val (.int (sb_v5 j1)), .val (.int (sb_v13 j1))] [(.int (sb_v5 j1)), (.ref a1), (.int (sb_v5 j1)), (.ref a1)])) (fun t k => ?_) ?_
  · refine XS.iload X1.here hx rfl (hb hby d6_19) rfl ?_
    show Steps p.tables e below (T1.setTop (mkF m 21 #[.val (.ref o0), .val (.long j1), .second, .val (.long j2), .second, .val (.int (sb_v5 j1)), .val (.int (sb_v13 j1))] [(.int (sb_v5 j1)), (.ref a1)])) _
    jvm_step X1.here [X1.here.top, hx, (hb hby d6_21), Value.category]
    exact k
  refine Outs.of (ldJ X1 hx hZ e1 A_a1 (j := (sb_v5 j1)) (k := kw) hs.1 hs.2.1 (f := (mkF m 22 #[.val (.ref o0), .val (.long j1), .second, .val (.long j2), .second, .val (.int (sb_v5 j1)), .val (.int (sb_v13 j1))] [(.int (sb_v5 j1)), (.ref a1), (.int (sb_v5 j1)), (.ref a1)])) rfl rfl (hb hby d6_22)) ?_
  refine Outs.of (U' := T1.setTop (mkF m 28 #[.val (.ref o0), .val (.long j1), .second, .val (.long j2), .second, .val (.int (sb_v5 j1)), .val (.int (sb_v13 j1))] [(.long ((g kw) ||| (j2 <<< ((sb_v13 j1) &&& 0x3f).toInt64))), (.int (sb_v5 j1)), (.ref a1)])) (fun t k => ?_) ?_
  · refine XS.lloadN X1.here hx rfl (hb hby d6_23) rfl ?_
    refine XS.iload X1.here hx rfl (hb hby d6_24) rfl ?_
    refine XS.lshl X1.here hx rfl (hb hby d6_26) rfl ?_
    refine XS.lor X1.here hx rfl (hb hby d6_27) rfl ?_
    exact k
  obtain ⟨T2, h2, X2, e2, W2, V2, st2⟩ := puJ X1 hx hZ e1 A_a1 (j := (sb_v5 j1)) (x := ((g kw) ||| (j2 <<< ((sb_v13 j1) &&& 0x3f).toInt64))) (k := kw) hs.1 hs.2.1 (f := (mkF m 28 #[.val (.ref o0), .val (.long j1), .second, .val (.long j2), .second, .val (.int (sb_v5 j1)), .val (.int (sb_v13 j1))] [(.long ((g kw) ||| (j2 <<< ((sb_v13 j1) &&& 0x3f).toInt64))), (.int (sb_v5 j1)), (.ref a1)])) rfl rfl (hb hby d6_28)
  replace V2 : AJ Z h2 a1 .long n (sb_g28 j1 j2 g kw) := V2
  have N2 := Fr.snoc X2 N0 g_a1
  obtain ⟨Lh2, X2, N2⟩ := hide X2 N2 (C := 0) (S := 0) (by decide) (by decide)
  refine Outs.of st2 ?_
  refine Outs.of (U' := T2.setTop (mkF m 31 #[.val (.ref o0), .val (.long j1), .second, .val (.long j2), .second, .val (.int (sb_v5 j1)), .val (.int (sb_v13 j1))] [(.int (sb_v13 j1))])) (fun t k => ?_) ?_
  · refine XS.iload X2.here hx rfl (hb hby d6_29) rfl ?_
    exact k
  by_cases hc31 : (0 : Int32) < (sb_v13 j1)
  · refine Outs.of (U' := T2.setTop (mkF m 34 #[.val (.ref o0), .val (.long j1), .second, .val (.long j2), .second, .val (.int (sb_v5 j1)), .val (.int (sb_v13 j1))] [])) (fun t k => ?_) ?_
    · refine XS.ifNo X2.here hx rfl (hb hby d6_31) rfl ((if0 _ _).trans (tlt hc31).2.2.2) ?_
      exact k
    refine Outs.of (U' := T2.setTop (mkF m 43 #[.val (.ref o0), .val (.long j1), .second, .val (.long j2), .second, .val (.int (sb_v5 j1)), .val (.int (sb_v13 j1))] [(.int (lcmpW ((j2.toUInt64 >>> (((64 : Int32) - (sb_v13 j1)) &&& 0x3f).toInt64.toUInt64).toInt64) (0 : Int64)))])) (fun t k => ?_) ?_
    · refine XS.lloadN X2.here hx rfl (hb hby d6_34) rfl ?_
      refine XS.bipush X2.here hx rfl (hb hby d6_35) ?_
      refine XS.iload X2.here hx rfl (hb hby d6_37) rfl ?_
      refine XS.isub X2.here hx rfl (hb hby d6_39) rfl ?_
      refine XS.lushr X2.here hx rfl (hb hby d6_40) rfl ?_
      refine XS.lconst X2.here hx rfl (hb hby d6_41) ?_
      refine XS.lcmp X2.here hx rfl (hb hby d6_42) rfl ?_
      exact k
    by_cases hc43 : ((j2.toUInt64 >>> (((64 : Int32) - (sb_v13 j1)) &&& 0x3f).toInt64.toUInt64).toInt64) = (0 : Int64)
    · refine Outs.of (U' := T2.setTop (mkF m 65 #[.val (.ref o0), .val (.long j1), .second, .val (.long j2), .second, .val (.int (sb_v5 j1)), .val (.int (sb_v13 j1))] [])) (fun t k => ?_) ?_
      · refine XS.ifYes X2.here hx rfl (pc0 := 43) (pc' := 65) rfl (hb hby d6_43) rfl ((if0 _ _).trans (teq ((lw_eq _ _).mpr hc43)).1) (by decide) (by decide) ?_
        exact k
      exact Outs.retV X2 hx hret (hb hby d6_65) hlk (by decide) (by decide) e2 ⟨rfl, N2, ((Keep.refl h0 [a1]).wr W2 (Or.inl (List.mem_of_getElem? (i := 0) rfl))), (by rw [show (sb_out0 j1 j2 g kw) = (sb_g28 j1 j2 g kw) from ((if_pos hc31).trans (if_pos hc43))]; exact V2)⟩
    · refine Outs.of (U' := T2.setTop (mkF m 46 #[.val (.ref o0), .val (.long j1), .second, .val (.long j2), .second, .val (.int (sb_v5 j1)), .val (.int (sb_v13 j1))] [])) (fun t k => ?_) ?_
      · refine XS.ifNo X2.here hx rfl (hb hby d6_43) rfl ((if0 _ _).trans (feq (fun q_ => hc43 ((lw_eq _ _).mp q_))).1) ?_
        exact k
      refine Outs.of (U' := T2.setTop (mkF m 47 #[.val (.ref o0), .val (.long j1), .second, .val (.long j2), .second, .val (.int (sb_v5 j1)), .val (.int (sb_v13 j1))] [(.ref o0)])) (fun t k => ?_) ?_
      · refine XS.aloadN X2.here hx rfl (hb hby d6_46) rfl rfl ?_
        exact k
      have f4 : Fld Z h2 o0 "com/example/brief_locator/brieflocator/cbor/OpenContainers" "words" "[J" (.ref a1) := (F_o0_words.other W2 (Or.inl ne_o0_a1))
      obtain ⟨T3, X3, e3, st3⟩ := getF X2 hx hZ hown (host := "") (Or.inl (hw _ (List.mem_of_getElem? (i := 11) rfl))) Via.refl e2 f4 (g := (mkF m 47 #[.val (.ref o0), .val (.long j1), .second, .val (.long j2), .second, .val (.int (sb_v5 j1)), .val (.int (sb_v13 j1))] [(.ref o0)])) rfl rfl (hb hby d6_47)
      refine Outs.of st3 ?_
      refine Outs.of (U' := T3.setTop (mkF m 55 #[.val (.ref o0), .val (.long j1), .second, .val (.long j2), .second, .val (.int (sb_v5 j1)), .val (.int (sb_v13 j1))] [(.int ((sb_v5 j1) + (1 : Int32))), (.ref a1), (.int ((sb_v5 j1) + (1 : Int32))), (.ref a1)])) (fun t k => ?_) ?_
      · refine XS.iload X3.here hx rfl (hb hby d6_50) rfl ?_
        refine XS.iconst X3.here hx rfl (hb hby d6_52) ?_
        refine XS.iadd X3.here hx rfl (hb hby d6_53) rfl ?_
        show Steps p.tables e below (T3.setTop (mkF m 54 #[.val (.ref o0), .val (.long j1), .second, .val (.long j2), .second, .val (.int (sb_v5 j1)), .val (.int (sb_v13 j1))] [(.int ((sb_v5 j1) + (1 : Int32))), (.ref a1)])) _
        jvm_step X3.here [X3.here.top, hx, (hb hby d6_54), Value.category]
        exact k
      refine Outs.of (ldJ X3 hx hZ e3 V2 (j := ((sb_v5 j1) + (1 : Int32))) (k := (kw + 1)) hs.2.2.1 (hs.2.2.2 hc31 hc43) (f := (mkF m 55 #[.val (.ref o0), .val (.long j1), .second, .val (.long j2), .second, .val (.int (sb_v5 j1)), .val (.int (sb_v13 j1))] [(.int ((sb_v5 j1) + (1 : Int32))), (.ref a1), (.int ((sb_v5 j1) + (1 : Int32))), (.ref a1)])) rfl rfl (hb hby d6_55)) ?_
      refine Outs.of (U' := T3.setTop (mkF m 64 #[.val (.ref o0), .val (.long j1), .second, .val (.long j2), .second, .val (.int (sb_v5 j1)), .val (.int (sb_v13 j1))] [(.long (((sb_g28 j1 j2 g kw) ((kw + 1))) ||| ((j2.toUInt64 >>> (((64 : Int32) - (sb_v13 j1)) &&& 0x3f).toInt64.toUInt64).toInt64))), (.int ((sb_v5 j1) + (1 : Int32))), (.ref a1)])) (fun t k => ?_) ?_
      · refine XS.lloadN X3.here hx rfl (hb hby d6_56) rfl ?_
        refine XS.bipush X3.here hx rfl (hb hby d6_57) ?_
        refine XS.iload X3.here hx rfl (hb hby d6_59) rfl ?_
        refine XS.isub X3.here hx rfl (hb hby d6_61) rfl ?_
        refine XS.lushr X3.here hx rfl (hb hby d6_62) rfl ?_
        refine XS.lor X3.here hx rfl (hb hby d6_63) rfl ?_
        exact k
      obtain ⟨T5, h5, X5, e5, W5, V5, st5⟩ := puJ X3 hx hZ e3 V2 (j := ((sb_v5 j1) + (1 : Int32))) (x := (((sb_g28 j1 j2 g kw) ((kw + 1))) ||| ((j2.toUInt64 >>> (((64 : Int32) - (sb_v13 j1)) &&& 0x3f).toInt64.toUInt64).toInt64))) (k := (kw + 1)) hs.2.2.1 (hs.2.2.2 hc31 hc43) (f := (mkF m 64 #[.val (.ref o0), .val (.long j1), .second, .val (.long j2), .second, .val (.int (sb_v5 j1)), .val (.int (sb_v13 j1))] [(.long (((sb_g28 j1 j2 g kw) ((kw + 1))) ||| ((j2.toUInt64 >>> (((64 : Int32) - (sb_v13 j1)) &&& 0x3f).toInt64.toUInt64).toInt64))), (.int ((sb_v5 j1) + (1 : Int32))), (.ref a1)])) rfl rfl (hb hby d6_64)
      replace V5 : AJ Z h5 a1 .long n (sb_g64 j1 j2 g kw) := V5
      have N5 := Fr.snoc X5 N2 g_a1
      obtain ⟨Lh5, X5, N5⟩ := hide X5 N5 (C := 0) (S := 0) (by decide) (by decide)
      refine Outs.of st5 ?_
      exact Outs.retV X5 hx hret (hb hby d6_65) hlk (by decide) (by decide) e5 ⟨rfl, N5, (((Keep.refl h0 [a1]).wr W2 (Or.inl (List.mem_of_getElem? (i := 0) rfl))).wr W5 (Or.inl (List.mem_of_getElem? (i := 0) rfl))), (by rw [show (sb_out0 j1 j2 g kw) = (sb_g64 j1 j2 g kw) from ((if_pos hc31).trans (if_neg hc43))]; exact V5)⟩
  · refine Outs.of (U' := T2.setTop (mkF m 65 #[.val (.ref o0), .val (.long j1), .second, .val (.long j2), .second, .val (.int (sb_v5 j1)), .val (.int (sb_v13 j1))] [])) (fun t k => ?_) ?_
    · refine XS.ifYes X2.here hx rfl (pc0 := 31) (pc' := 65) rfl (hb hby d6_31) rfl ((if0 _ _).trans (flt hc31).2.2.2) (by decide) (by decide) ?_
      exact k
    exact Outs.retV X2 hx hret (hb hby d6_65) hlk (by decide) (by decide) e2 ⟨rfl, N2, ((Keep.refl h0 [a1]).wr W2 (Or.inl (List.mem_of_getElem? (i := 0) rfl))), (by rw [show (sb_out0 j1 j2 g kw) = (sb_g28 j1 j2 g kw) from (if_neg hc31)]; exact V2)⟩
theorem ef_7 (m : MethodId) (x0 : Addr) : entryFrame m #[(.ref x0)] 3 = mkF m 0 #[.val (.ref x0), .unset, .unset] [] := by first | (simp [entryFrame, mkF, argsToLocals, Value.category]; done) | rfl
theorem d7_0 : decode prog_9_method_5_code 0 = .ok (.aload_n 0, 1) := by decide +kernel
theorem d7_1 : decode prog_9_method_5_code 1 = .ok (.getfield 19, 3) := by decide +kernel
theorem d7_4 : decode prog_9_method_5_code 4 = .ok (.lconst 1, 1) := by decide +kernel
theorem d7_5 : decode prog_9_method_5_code 5 = .ok (.lsub, 1) := by decide +kernel
theorem d7_6 : decode prog_9_method_5_code 6 = .ok (.lstore_n 1, 1) := by decide +kernel
theorem d7_7 : decode prog_9_method_5_code 7 = .ok (.aload_n 0, 1) := by decide +kernel
theorem d7_8 : decode prog_9_method_5_code 8 = .ok (.getfield 7, 3) := by decide +kernel
theorem d7_11 : decode prog_9_method_5_code 11 = .ok (.lload_n 1, 1) := by decide +kernel
theorem d7_12 : decode prog_9_method_5_code 12 = .ok (.bipush 6, 2) := by decide +kernel
theorem d7_14 : decode prog_9_method_5_code 14 = .ok (.lushr, 1) := by decide +kernel
theorem d7_15 : decode prog_9_method_5_code 15 = .ok (.l2i, 1) := by decide +kernel
theorem d7_16 : decode prog_9_method_5_code 16 = .ok (.laload, 1) := by decide +kernel
theorem d7_17 : decode prog_9_method_5_code 17 = .ok (.lload_n 1, 1) := by decide +kernel
theorem d7_18 : decode prog_9_method_5_code 18 = .ok (.ldc2_w 44, 3) := by decide +kernel
theorem d7_21 : decode prog_9_method_5_code 21 = .ok (.land, 1) := by decide +kernel
theorem d7_22 : decode prog_9_method_5_code 22 = .ok (.l2i, 1) := by decide +kernel
theorem d7_23 : decode prog_9_method_5_code 23 = .ok (.lushr, 1) := by decide +kernel
theorem d7_24 : decode prog_9_method_5_code 24 = .ok (.lconst 1, 1) := by decide +kernel
theorem d7_25 : decode prog_9_method_5_code 25 = .ok (.land, 1) := by decide +kernel
theorem d7_26 : decode prog_9_method_5_code 26 = .ok (.lconst 0, 1) := by decide +kernel
theorem d7_27 : decode prog_9_method_5_code 27 = .ok (.lcmp, 1) := by decide +kernel
theorem d7_28 : decode prog_9_method_5_code 28 = .ok (.ifCond .eq 7, 3) := by decide +kernel
theorem d7_35 : decode prog_9_method_5_code 35 = .ok (.iconst 0, 1) := by decide +kernel
theorem d7_31 : decode prog_9_method_5_code 31 = .ok (.iconst 1, 1) := by decide +kernel
theorem d7_32 : decode prog_9_method_5_code 32 = .ok (.goto 4, 3) := by decide +kernel
theorem d7_36 : decode prog_9_method_5_code 36 = .ok (.ireturn, 1) := by decide +kernel
def im_28_s0 (sz : Int64) (g : Nat → Int64) (kw : Nat) : Int32 := (if ((((g kw).toUInt64 >>> ((((sz - (1 : Int64)) &&& (63 : Int64)).toInt32) &&& 0x3f).toInt64.toUInt64).toInt64) &&& (1 : Int64)) = (0 : Int64) then (0 : Int32) else (1 : Int32))
def F_im (sz : Int64) (g : Nat → Int64) (kw : Nat) : Int32 := (nar .boolean (im_28_s0 sz g kw))
set_option maxRecDepth 65536 in
set_option maxHeartbeats 40000000 in
theorem rmim (l : Launch) (Z : State) (a0 : Array Value) (hw : ∀ d ∈ tables_1, d.before a0 Z = true) (ws : List Jvm.Cond) (o0 : Addr) (sz : Int64) (a1 : Addr) (n : Nat) (g : Nat → Int64) (kw : Nat) (h0 : Heap) (n0 : Nat) (E_o0 : Exa Z h0 o0 "com/example/brief_locator/brieflocator/cbor/OpenContainers") (F_o0_size : Fld Z h0 o0 "com/example/brief_locator/brieflocator/cbor/OpenContainers" "size" "J" (.long sz)) (F_o0_words : Fld Z h0 o0 "com/example/brief_locator/brieflocator/cbor/OpenContainers" "words" "[J" (.ref a1)) (A_a1 : AJ Z h0 a1 .long n g) (hk0 : ((((sz - (1 : Int64)).toUInt64 >>> ((6 : Int32) &&& 0x3f).toInt64.toUInt64).toInt64).toInt32).toInt = (kw : Int)) (hn0 : kw < n) :
    MetFree l (⟨"com/example/brief_locator/brieflocator/cbor/OpenContainers", "innermostIsMap", "()Z"⟩ : MethodName) (head1 (Jvm.Cond.code (⟨"com/example/brief_locator/brieflocator/cbor/OpenContainers", "innermostIsMap", "()Z"⟩ : MethodName) prog_9_method_5_code 3 (some .boolean) :: ws) ({ frames := 0, cells := 0, slots := 0, locals := 0 } : Room)) (fun a U => a = #[(.ref o0)] ∧ Z.Warmed39 U.vm ∧ U.heap = h0) (fun _ _ _ _ _ => True) (fun _ U o U' => ∃ v L, o = .returned v ∧ QR (some (.int (F_im sz g kw))) h0 n0 v U'.heap L ∧ FrameEnd U o U' L ({ frames := 0, cells := 0, slots := 0, locals := 0 } : Room).cells ({ frames := 0, cells := 0, slots := 0, locals := 0 } : Room).slots) := by
  refine MetFree.of_bodySF (plainFor_of_name pn_1) hisR ?_
  intro p e s m args below meth c s₁ Bd hml0 hP hK
  obtain ⟨rfl, hZ, hh⟩ := hP
  have hx := Bd.exec
  have hby := Bd.bytes
  have hml : c.maxLocals = 3 := hml0
  have hown : s.vm.findClass "com/example/brief_locator/brieflocator/cbor/OpenContainers" = some m.cls := findClass_of_methodNamed Bd.named
  have hnm := (name_of_methodNamed Bd.named Bd.method).1
  have hret := Bd.returns
  have hlk : meth.locks = false := BodyLoose.notSynchronized Bd
  have X0 : Stand p l e ({ frames := 0, cells := 0, slots := 0, locals := 0 } : Room) s m #[(.ref o0)] below meth c s₁ [] 0 0 := Stand.of_body Bd
  have e0 : s₁.heap = h0 := by rw [← hh, Bd.state]; rfl
  have N0 := Fr.nil n0
  show Outs p e below s (QR (some (.int (F_im sz g kw))) h0 n0) _ _ _
  refine Outs.of (U' := s₁.setTop (mkF m 0 #[.val (.ref o0), .unset, .unset] [])) (fun t k => castTop (ef_7 m o0) k) ?_
  refine Outs.of (U' := s₁.setTop (mkF m 1 #[.val (.ref o0), .unset, .unset] [(.ref o0)])) (fun t k => ?_) ?_
  · refine XS.aloadN X0.here hx rfl (hb hby d7_0) rfl rfl ?_
    exact k
  obtain ⟨T1, X1, e1, st1⟩ := getF X0 hx hZ hown (host := "") (Or.inl (hw _ (List.mem_of_getElem? (i := 27) rfl))) Via.refl e0 F_o0_size (g := (mkF m 1 #[.val (.ref o0), .unset, .unset] [(.ref o0)])) rfl rfl (hb hby d7_1)
  refine Outs.of st1 ?_
  refine Outs.of (U' := T1.setTop (mkF m 8 #[.val (.ref o0), .val (.long (sz - (1 : Int64))), .second] [(.ref o0)])) (fun t k => ?_) ?_
  · refine XS.lconst X1.here hx rfl (hb hby d7_4) ?_
    refine XS.lsub X1.here hx rfl (hb hby d7_5) rfl ?_
    refine XS.lstoreN X1.here hx rfl (hb hby d7_6) rfl (l' := #[.val (.ref o0), .val (.long (sz - (1 : Int64))), .second]) rfl ?_
    refine XS.aloadN X1.here hx rfl (hb hby d7_7) rfl rfl ?_
    exact k
  obtain ⟨T2, X2, e2, st2⟩ := getF X1 hx hZ hown (host := "") (Or.inl (hw _ (List.mem_of_getElem? (i := 11) rfl))) Via.refl e1 F_o0_words (g := (mkF m 8 #[.val (.ref o0), .val (.long (sz - (1 : Int64))), .second] [(.ref o0)])) rfl rfl (hb hby d7_8)
  refine Outs.of st2 ?_
  refine Outs.of (U' := T2.setTop (mkF m 16 #[.val (.ref o0), .val (.long (sz - (1 : Int64))), .second] [(.int ((((sz - (1 : Int64)).toUInt64 >>> ((6 : Int32) &&& 0x3f).toInt64.toUInt64).toInt64).toInt32)), (.ref a1)])) (fun t k => ?_) ?_
  · refine XS.lloadN X2.here hx rfl (hb hby d7_11) rfl ?_
    refine XS.bipush X2.here hx rfl (hb hby d7_12) ?_
    refine XS.lushr X2.here hx rfl (hb hby d7_14) rfl ?_
    refine XS.l2i X2.here hx rfl (hb hby d7_15) rfl ?_
    exact k
  refine Outs.of (ldJ X2 hx hZ e2 A_a1 (j := ((((sz - (1 : Int64)).toUInt64 >>> ((6 : Int32) &&& 0x3f).toInt64.toUInt64).toInt64).toInt32)) (k := kw) hk0 hn0 (f := (mkF m 16 #[.val (.ref o0), .val (.long (sz - (1 : Int64))), .second] [(.int ((((sz - (1 : Int64)).toUInt64 >>> ((6 : Int32) &&& 0x3f).toInt64.toUInt64).toInt64).toInt32)), (.ref a1)])) rfl rfl (hb hby d7_16)) ?_
  refine Outs.of (U' := T2.setTop (mkF m 36 #[.val (.ref o0), .val (.long (sz - (1 : Int64))), .second] [(.int (im_28_s0 sz g kw))])) (fun t k => ?_) ?_
  · refine XS.lloadN X2.here hx rfl (hb hby d7_17) rfl ?_
    refine X2.ldc2Long hx hown (mvT hZ (hw _ (List.mem_of_getElem? (i := 34) rfl))) (g := (mkF m 18 #[.val (.ref o0), .val (.long (sz - (1 : Int64))), .second] [(.long (sz - (1 : Int64))), (.long (g kw))])) rfl (hb hby d7_18) _ ?_
    refine XS.land X2.here hx rfl (hb hby d7_21) rfl ?_
    refine XS.l2i X2.here hx rfl (hb hby d7_22) rfl ?_
    refine XS.lushr X2.here hx rfl (hb hby d7_23) rfl ?_
    refine XS.lconst X2.here hx rfl (hb hby d7_24) ?_
    refine XS.land X2.here hx rfl (hb hby d7_25) rfl ?_
    refine XS.lconst X2.here hx rfl (hb hby d7_26) ?_
    refine XS.lcmp X2.here hx rfl (hb hby d7_27) rfl ?_
    by_cases hc28 : ((((g kw).toUInt64 >>> ((((sz - (1 : Int64)) &&& (63 : Int64)).toInt32) &&& 0x3f).toInt64.toUInt64).toInt64) &&& (1 : Int64)) = (0 : Int64)
    · refine XS.ifYes X2.here hx rfl (pc0 := 28) (pc' := 35) rfl (hb hby d7_28) rfl ((if0 _ _).trans (teq ((lw_eq _ _).mpr hc28)).1) (by decide) (by decide) ?_
      refine XS.iconst X2.here hx rfl (hb hby d7_35) ?_
      rw [show (im_28_s0 sz g kw) = (0 : Int32) from (if_pos hc28)] at k
      exact k
    · refine XS.ifNo X2.here hx rfl (hb hby d7_28) rfl ((if0 _ _).trans (feq (fun q_ => hc28 ((lw_eq _ _).mp q_))).1) ?_
      refine XS.iconst X2.here hx rfl (hb hby d7_31) ?_
      refine XS.goto X2.here hx rfl (pc0 := 32) (pc' := 36) rfl (hb hby d7_32) (by decide) (by decide) ?_
      rw [show (im_28_s0 sz g kw) = (1 : Int32) from (if_neg hc28)] at k
      exact k
  exact Outs.retN (t := .boolean) (z := (im_28_s0 sz g kw)) X2 hx hret (by simp) (hb hby d7_36) hlk (by decide) (by decide) e2 ⟨congrArg (fun z_ => some (Value.int z_)) (show (F_im sz g kw) = (nar .boolean (im_28_s0 sz g kw)) from rfl).symm, N0, rfl⟩
theorem ef_11 (m : MethodId) (x0 : Addr) (x1 : Int64) : entryFrame m #[(.ref x0), (.long x1)] 8 = mkF m 0 #[.val (.ref x0), .val (.long x1), .second, .unset, .unset, .unset, .unset, .unset] [] := by first | (simp [entryFrame, mkF, argsToLocals, Value.category]; done) | rfl
theorem d11_0 : decode prog_9_method_7_code 0 = .ok (.lload_n 1, 1) := by decide +kernel
theorem d11_1 : decode prog_9_method_7_code 1 = .ok (.lconst 1, 1) := by decide +kernel
theorem d11_2 : decode prog_9_method_7_code 2 = .ok (.lsub, 1) := by decide +kernel
theorem d11_3 : decode prog_9_method_7_code 3 = .ok (.lstore_n 3, 1) := by decide +kernel
theorem d11_4 : decode prog_9_method_7_code 4 = .ok (.lload_n 3, 1) := by decide +kernel
theorem d11_5 : decode prog_9_method_7_code 5 = .ok (.bipush 6, 2) := by decide +kernel
theorem d11_7 : decode prog_9_method_7_code 7 = .ok (.lushr, 1) := by decide +kernel
theorem d11_8 : decode prog_9_method_7_code 8 = .ok (.l2i, 1) := by decide +kernel
theorem d11_9 : decode prog_9_method_7_code 9 = .ok (.istore 5, 2) := by decide +kernel
theorem d11_11 : decode prog_9_method_7_code 11 = .ok (.aload_n 0, 1) := by decide +kernel
theorem d11_12 : decode prog_9_method_7_code 12 = .ok (.getfield 7, 3) := by decide +kernel
theorem d11_15 : decode prog_9_method_7_code 15 = .ok (.iload 5, 2) := by decide +kernel
theorem d11_17 : decode prog_9_method_7_code 17 = .ok (.laload, 1) := by decide +kernel
theorem d11_18 : decode prog_9_method_7_code 18 = .ok (.ldc2_w 42, 3) := by decide +kernel
theorem d11_21 : decode prog_9_method_7_code 21 = .ok (.ldc2_w 44, 3) := by decide +kernel
theorem d11_24 : decode prog_9_method_7_code 24 = .ok (.lload_n 3, 1) := by decide +kernel
theorem d11_25 : decode prog_9_method_7_code 25 = .ok (.ldc2_w 44, 3) := by decide +kernel
theorem d11_28 : decode prog_9_method_7_code 28 = .ok (.land, 1) := by decide +kernel
theorem d11_29 : decode prog_9_method_7_code 29 = .ok (.lsub, 1) := by decide +kernel
theorem d11_30 : decode prog_9_method_7_code 30 = .ok (.l2i, 1) := by decide +kernel
theorem d11_31 : decode prog_9_method_7_code 31 = .ok (.lushr, 1) := by decide +kernel
theorem d11_32 : decode prog_9_method_7_code 32 = .ok (.land, 1) := by decide +kernel
theorem d11_33 : decode prog_9_method_7_code 33 = .ok (.lstore 6, 2) := by decide +kernel
theorem d11_35 : decode prog_9_method_7_code 35 = .ok (.lload 6, 2) := by decide +kernel
theorem d11_37 : decode prog_9_method_7_code 37 = .ok (.lconst 0, 1) := by decide +kernel
theorem d11_38 : decode prog_9_method_7_code 38 = .ok (.lcmp, 1) := by decide +kernel
theorem d11_39 : decode prog_9_method_7_code 39 = .ok (.ifCond .ne 15, 3) := by decide +kernel
theorem d11_42 : decode prog_9_method_7_code 42 = .ok (.iinc 5 (-1), 3) := by decide +kernel
theorem d11_45 : decode prog_9_method_7_code 45 = .ok (.aload_n 0, 1) := by decide +kernel
theorem d11_46 : decode prog_9_method_7_code 46 = .ok (.getfield 7, 3) := by decide +kernel
theorem d11_49 : decode prog_9_method_7_code 49 = .ok (.iload 5, 2) := by decide +kernel
theorem d11_51 : decode prog_9_method_7_code 51 = .ok (.laload, 1) := by decide +kernel
theorem d11_52 : decode prog_9_method_7_code 52 = .ok (.lstore 6, 2) := by decide +kernel
theorem d11_54 : decode prog_9_method_7_code 54 = .ok (.iload 5, 2) := by decide +kernel
theorem d11_56 : decode prog_9_method_7_code 56 = .ok (.i2l, 1) := by decide +kernel
theorem d11_57 : decode prog_9_method_7_code 57 = .ok (.bipush 6, 2) := by decide +kernel
theorem d11_59 : decode prog_9_method_7_code 59 = .ok (.lshl, 1) := by decide +kernel
theorem d11_60 : decode prog_9_method_7_code 60 = .ok (.ldc2_w 44, 3) := by decide +kernel
theorem d11_63 : decode prog_9_method_7_code 63 = .ok (.ladd, 1) := by decide +kernel
theorem d11_64 : decode prog_9_method_7_code 64 = .ok (.lload 6, 2) := by decide +kernel
theorem pd_2 : parseMethodDescriptor "(J)I" = some ⟨[.long], some .int⟩ := by decide +kernel
theorem d11_66 : decode prog_9_method_7_code 66 = .ok (.invokestatic 13, 3) := by decide +kernel
theorem d11_69 : decode prog_9_method_7_code 69 = .ok (.i2l, 1) := by decide +kernel
theorem d11_70 : decode prog_9_method_7_code 70 = .ok (.lsub, 1) := by decide +kernel
theorem d11_71 : decode prog_9_method_7_code 71 = .ok (.lreturn, 1) := by decide +kernel
def hs_v9 (j1 : Int64) : Int32 := ((((j1 - (1 : Int64)).toUInt64 >>> ((6 : Int32) &&& 0x3f).toInt64.toUInt64).toInt64).toInt32)
def hs_v33 (j1 : Int64) (g : Nat → Int64) (kw : Nat) : Int64 := ((g kw) &&& (((-1 : Int64).toUInt64 >>> ((((63 : Int64) - ((j1 - (1 : Int64)) &&& (63 : Int64))).toInt32) &&& 0x3f).toInt64.toUInt64).toInt64))
def HsOk (j1 : Int64) (g : Nat → Int64) (kw kq n : Nat) : Prop := (hs_v9 j1).toInt = (kw : Int) ∧ kw < n ∧ ((hs_v33 j1 g kw) = (0 : Int64) → ((hs_v9 j1) + (-1 : Int32)).toInt = (kq : Int) ∧ kq < n)
def F_hs (j1 : Int64) (g : Nat → Int64) (kw : Nat) (kq : Nat) : Int64 := (if (hs_v33 j1 g kw) = (0 : Int64) then ((((((hs_v9 j1) + (-1 : Int32)).toInt64) <<< ((6 : Int32) &&& 0x3f).toInt64) + (63 : Int64)) - ((F_nl (g kq)).toInt64)) else (((((hs_v9 j1).toInt64) <<< ((6 : Int32) &&& 0x3f).toInt64) + (63 : Int64)) - ((F_nl (hs_v33 j1 g kw)).toInt64)))
set_option maxRecDepth 65536 in
set_option maxHeartbeats 40000000 in
theorem rmhs (l : Launch) (Z : State) (a0 : Array Value) (hw : ∀ d ∈ tables_1, d.before a0 Z = true) (ws : List Jvm.Cond) (o0 : Addr) (j1 : Int64) (a1 : Addr) (n : Nat) (g : Nat → Int64) (kw : Nat) (kq : Nat) (h0 : Heap) (n0 : Nat) (E_o0 : Exa Z h0 o0 "com/example/brief_locator/brieflocator/cbor/OpenContainers") (F_o0_words : Fld Z h0 o0 "com/example/brief_locator/brieflocator/cbor/OpenContainers" "words" "[J" (.ref a1)) (A_a1 : AJ Z h0 a1 .long n g) (hs : HsOk j1 g kw kq n) :
    MetFree l (⟨"com/example/brief_locator/brieflocator/cbor/OpenContainers", "highestSetBitBelow", "(J)J"⟩ : MethodName) (head1 (Jvm.Cond.code (⟨"com/example/brief_locator/brieflocator/cbor/OpenContainers", "highestSetBitBelow", "(J)J"⟩ : MethodName) prog_9_method_7_code 8 (some .long) :: ws) ({ frames := 2, cells := 0, slots := 0, locals := 30 } : Room)) (fun a U => a = #[(.ref o0), (.long j1)] ∧ Z.Warmed39 U.vm ∧ U.heap = h0) (fun _ _ _ _ _ => True) (fun _ U o U' => ∃ v L, o = .returned v ∧ QR (some (.long (F_hs j1 g kw kq))) h0 n0 v U'.heap L ∧ FrameEnd U o U' L ({ frames := 2, cells := 0, slots := 0, locals := 30 } : Room).cells ({ frames := 2, cells := 0, slots := 0, locals := 30 } : Room).slots) := by
  refine MetFree.of_bodySF (plainFor_of_name pn_1) hisR ?_
  intro p e s m args below meth c s₁ Bd hml0 hP hK
  obtain ⟨rfl, hZ, hh⟩ := hP
  have hx := Bd.exec
  have hby := Bd.bytes
  have hml : c.maxLocals = 8 := hml0
  have hown : s.vm.findClass "com/example/brief_locator/brieflocator/cbor/OpenContainers" = some m.cls := findClass_of_methodNamed Bd.named
  have hnm := (name_of_methodNamed Bd.named Bd.method).1
  have hret := Bd.returns
  have hlk : meth.locks = false := BodyLoose.notSynchronized Bd
  have X0 : Stand p l e ({ frames := 2, cells := 0, slots := 0, locals := 30 } : Room) s m #[(.ref o0), (.long j1)] below meth c s₁ [] 0 0 := Stand.of_body Bd
  have e0 : s₁.heap = h0 := by rw [← hh, Bd.state]; rfl
  have N0 := Fr.nil n0
  show Outs p e below s (QR (some (.long (F_hs j1 g kw kq))) h0 n0) _ _ _
  refine Outs.of (U' := s₁.setTop (mkF m 0 #[.val (.ref o0), .val (.long j1), .second, .unset, .unset, .unset, .unset, .unset] [])) (fun t k => castTop (ef_11 m o0 j1) k) ?_
  refine Outs.of (U' := s₁.setTop (mkF m 12 #[.val (.ref o0), .val (.long j1), .second, .val (.long (j1 - (1 : Int64))), .second, .val (.int (hs_v9 j1)), .unset, .unset] [(.ref o0)])) (fun t k => ?_) ?_
  · refine XS.lloadN X0.here hx rfl (hb hby d11_0) rfl ?_
    refine XS.lconst X0.here hx rfl (hb hby d11_1) ?_
    refine XS.lsub X0.here hx rfl (hb hby d11_2) rfl ?_
    refine XS.lstoreN X0.here hx rfl (hb hby d11_3) rfl (l' := #[.val (.ref o0), .val (.long j1), .second, .val (.long (j1 - (1 : Int64))), .second, .unset, .unset, .unset]) rfl ?_
    refine XS.lloadN X0.here hx rfl (hb hby d11_4) rfl ?_
    refine XS.bipush X0.here hx rfl (hb hby d11_5) ?_
    refine XS.lushr X0.here hx rfl (hb hby d11_7) rfl ?_
    refine XS.l2i X0.here hx rfl (hb hby d11_8) rfl ?_
    refine XS.istore X0.here hx rfl (hb hby d11_9) rfl (l' := #[.val (.ref o0), .val (.long j1), .second, .val (.long (j1 - (1 : Int64))), .second, .val (.int (hs_v9 j1)), .unset, .unset]) rfl ?_
    refine XS.aloadN X0.here hx rfl (hb hby d11_11) rfl rfl ?_
    exact k
  obtain ⟨T1, X1, e1, st1⟩ := getF X0 hx hZ hown (host := "") (Or.inl (hw _ (List.mem_of_getElem? (i := 11) rfl))) Via.refl e0 F_o0_words (g := (mkF m 12 #[.val (.ref o0), .val (.long j1), .second, .val (.long (j1 - (1 : Int64))), .second, .val (.int (hs_v9 j1)), .unset, .unset] [(.ref o0)])) rfl rfl (hb hby d11_12)
  refine Outs.of st1 ?_
  refine Outs.of (U' := T1.setTop (mkF m 17 #[.val (.ref o0), .val (.long j1), .second, .val (.long (j1 - (1 : Int64))), .second, .val (.int (hs_v9 j1)), .unset, .unset] [(.int (hs_v9 j1)), (.ref a1)])) (fun t k => ?_) ?_
  · refine XS.iload X1.here hx rfl (hb hby d11_15) rfl ?_
    exact k
  refine Outs.of (ldJ X1 hx hZ e1 A_a1 (j := (hs_v9 j1)) (k := kw) hs.1 hs.2.1 (f := (mkF m 17 #[.val (.ref o0), .val (.long j1), .second, .val (.long (j1 - (1 : Int64))), .second, .val (.int (hs_v9 j1)), .unset, .unset] [(.int (hs_v9 j1)), (.ref a1)])) rfl rfl (hb hby d11_17)) ?_
  refine Outs.of (U' := T1.setTop (mkF m 39 #[.val (.ref o0), .val (.long j1), .second, .val (.long (j1 - (1 : Int64))), .second, .val (.int (hs_v9 j1)), .val (.long (hs_v33 j1 g kw)), .second] [(.int (lcmpW (hs_v33 j1 g kw) (0 : Int64)))])) (fun t k => ?_) ?_
  · refine X1.ldc2Long hx hown (mvT hZ (hw _ (List.mem_of_getElem? (i := 61) rfl))) (g := (mkF m 18 #[.val (.ref o0), .val (.long j1), .second, .val (.long (j1 - (1 : Int64))), .second, .val (.int (hs_v9 j1)), .unset, .unset] [(.long (g kw))])) rfl (hb hby d11_18) _ ?_
    refine X1.ldc2Long hx hown (mvT hZ (hw _ (List.mem_of_getElem? (i := 34) rfl))) (g := (mkF m 21 #[.val (.ref o0), .val (.long j1), .second, .val (.long (j1 - (1 : Int64))), .second, .val (.int (hs_v9 j1)), .unset, .unset] [(.long (-1 : Int64)), (.long (g kw))])) rfl (hb hby d11_21) _ ?_
    refine XS.lloadN X1.here hx rfl (hb hby d11_24) rfl ?_
    refine X1.ldc2Long hx hown (mvT hZ (hw _ (List.mem_of_getElem? (i := 34) rfl))) (g := (mkF m 25 #[.val (.ref o0), .val (.long j1), .second, .val (.long (j1 - (1 : Int64))), .second, .val (.int (hs_v9 j1)), .unset, .unset] [(.long (j1 - (1 : Int64))), (.long (63 : Int64)), (.long (-1 : Int64)), (.long (g kw))])) rfl (hb hby d11_25) _ ?_
    refine XS.land X1.here hx rfl (hb hby d11_28) rfl ?_
    refine XS.lsub X1.here hx rfl (hb hby d11_29) rfl ?_
    refine XS.l2i X1.here hx rfl (hb hby d11_30) rfl ?_
    refine XS.lushr X1.here hx rfl (hb hby d11_31) rfl ?_
    refine XS.land X1.here hx rfl (hb hby d11_32) rfl ?_
    refine XS.lstore X1.here hx rfl (hb hby d11_33) rfl (l' := #[.val (.ref o0), .val (.long j1), .second, .val (.long (j1 - (1 : Int64))), .second, .val (.int (hs_v9 j1)), .val (.long (hs_v33 j1 g kw)), .second]) rfl ?_
    refine XS.lload X1.here hx rfl (hb hby d11_35) rfl ?_
    refine XS.lconst X1.here hx rfl (hb hby d11_37) ?_
    refine XS.lcmp X1.here hx rfl (hb hby d11_38) rfl ?_
    exact k
  by_cases hc39 : (hs_v33 j1 g kw) = (0 : Int64)
  · refine Outs.of (U' := T1.setTop (mkF m 42 #[.val (.ref o0), .val (.long j1), .second, .val (.long (j1 - (1 : Int64))), .second, .val (.int (hs_v9 j1)), .val (.long (hs_v33 j1 g kw)), .second] [])) (fun t k => ?_) ?_
    · refine XS.ifNo X1.here hx rfl (hb hby d11_39) rfl ((if0 _ _).trans (teq ((lw_eq _ _).mpr hc39)).2) ?_
      exact k
    refine Outs.of (U' := T1.setTop (mkF m 46 #[.val (.ref o0), .val (.long j1), .second, .val (.long (j1 - (1 : Int64))), .second, .val (.int ((hs_v9 j1) + (-1 : Int32))), .val (.long (hs_v33 j1 g kw)), .second] [(.ref o0)])) (fun t k => ?_) ?_
    · refine XS.iinc X1.here hx rfl (hb hby d11_42) rfl (l' := #[.val (.ref o0), .val (.long j1), .second, .val (.long (j1 - (1 : Int64))), .second, .val (.int ((hs_v9 j1) + (-1 : Int32))), .val (.long (hs_v33 j1 g kw)), .second]) rfl ?_
      refine XS.aloadN X1.here hx rfl (hb hby d11_45) rfl rfl ?_
      exact k
    obtain ⟨T2, X2, e2, st2⟩ := getF X1 hx hZ hown (host := "") (Or.inl (hw _ (List.mem_of_getElem? (i := 11) rfl))) Via.refl e1 F_o0_words (g := (mkF m 46 #[.val (.ref o0), .val (.long j1), .second, .val (.long (j1 - (1 : Int64))), .second, .val (.int ((hs_v9 j1) + (-1 : Int32))), .val (.long (hs_v33 j1 g kw)), .second] [(.ref o0)])) rfl rfl (hb hby d11_46)
    refine Outs.of st2 ?_
    refine Outs.of (U' := T2.setTop (mkF m 51 #[.val (.ref o0), .val (.long j1), .second, .val (.long (j1 - (1 : Int64))), .second, .val (.int ((hs_v9 j1) + (-1 : Int32))), .val (.long (hs_v33 j1 g kw)), .second] [(.int ((hs_v9 j1) + (-1 : Int32))), (.ref a1)])) (fun t k => ?_) ?_
    · refine XS.iload X2.here hx rfl (hb hby d11_49) rfl ?_
      exact k
    refine Outs.of (ldJ X2 hx hZ e2 A_a1 (j := ((hs_v9 j1) + (-1 : Int32))) (k := kq) (hs.2.2 hc39).1 (hs.2.2 hc39).2 (f := (mkF m 51 #[.val (.ref o0), .val (.long j1), .second, .val (.long (j1 - (1 : Int64))), .second, .val (.int ((hs_v9 j1) + (-1 : Int32))), .val (.long (hs_v33 j1 g kw)), .second] [(.int ((hs_v9 j1) + (-1 : Int32))), (.ref a1)])) rfl rfl (hb hby d11_51)) ?_
    refine Outs.of (U' := T2.setTop (mkF m 66 #[.val (.ref o0), .val (.long j1), .second, .val (.long (j1 - (1 : Int64))), .second, .val (.int ((hs_v9 j1) + (-1 : Int32))), .val (.long (g kq)), .second] [(.long (g kq)), (.long (((((hs_v9 j1) + (-1 : Int32)).toInt64) <<< ((6 : Int32) &&& 0x3f).toInt64) + (63 : Int64)))])) (fun t k => ?_) ?_
    · refine XS.lstore X2.here hx rfl (hb hby d11_52) rfl (l' := #[.val (.ref o0), .val (.long j1), .second, .val (.long (j1 - (1 : Int64))), .second, .val (.int ((hs_v9 j1) + (-1 : Int32))), .val (.long (g kq)), .second]) rfl ?_
      refine XS.iload X2.here hx rfl (hb hby d11_54) rfl ?_
      refine XS.i2l X2.here hx rfl (hb hby d11_56) rfl ?_
      refine XS.bipush X2.here hx rfl (hb hby d11_57) ?_
      refine XS.lshl X2.here hx rfl (hb hby d11_59) rfl ?_
      refine X2.ldc2Long hx hown (mvT hZ (hw _ (List.mem_of_getElem? (i := 34) rfl))) (g := (mkF m 60 #[.val (.ref o0), .val (.long j1), .second, .val (.long (j1 - (1 : Int64))), .second, .val (.int ((hs_v9 j1) + (-1 : Int32))), .val (.long (g kq)), .second] [(.long ((((hs_v9 j1) + (-1 : Int32)).toInt64) <<< ((6 : Int32) &&& 0x3f).toInt64))])) rfl (hb hby d11_60) _ ?_
      refine XS.ladd X2.here hx rfl (hb hby d11_63) rfl ?_
      refine XS.lload X2.here hx rfl (hb hby d11_64) rfl ?_
      exact k
    obtain ⟨_, _, ⟨T3, L3, k3, n3⟩, -, X3, ⟨Lc3, hQ3, l3, y3, z3⟩, st3⟩ := Jvm.LawKit.callS X2 hx (y := (⟨"java/lang/Long", "numberOfLeadingZeros", "(J)I"⟩ : MethodName)) hown (mvT hZ (hw _ (List.mem_of_getElem? (i := 18) rfl))) (mvT hZ (hw _ (List.mem_of_getElem? (i := 19) rfl))) (mvT hZ (hw _ (List.mem_of_getElem? (i := 20) rfl))) (mvT hZ (hw _ (List.mem_of_getElem? (i := 21) rfl))) (by decide) (backOf (W := 2) (rm4 l Z a0 hw [] (g kq) h0 n0 ) hZ (hw _ (List.mem_of_getElem? (i := 21) rfl)) (hw _ (List.mem_of_getElem? (i := 20) rfl)) (by decide) (by decide)) (g := (mkF m 66 #[.val (.ref o0), .val (.long j1), .second, .val (.long (j1 - (1 : Int64))), .second, .val (.int ((hs_v9 j1) + (-1 : Int32))), .val (.long (g kq)), .second] [(.long (g kq)), (.long (((((hs_v9 j1) + (-1 : Int32)).toInt64) <<< ((6 : Int32) &&& 0x3f).toInt64) + (63 : Int64)))])) rfl (by rw [hml]; rfl) (argsL := [(.long (g kq))]) (rest := [(.long (((((hs_v9 j1) + (-1 : Int32)).toInt64) <<< ((6 : Int32) &&& 0x3f).toInt64) + (63 : Int64)))]) (lenOf pd_2 rfl) rfl (by show 2 * 0 + _ ≤ _; exact Nat.le_of_eq rfl) (hb hby d11_66) (fun _ _ => ⟨rfl, e2, (by decide : 0 + 0 ≤ _), (by decide : 0 + 0 ≤ _)⟩)
    dsimp only [Pt.U, Pt.locs, Pt.cells, Pt.slots] at X3 l3 y3 z3 st3 hQ3
    subst l3 y3 z3
    obtain ⟨rfl, N3q, e3⟩ := hQ3
    have N3 := Fr.app N0 N3q
    obtain ⟨Lh3, X3, N3⟩ := hide X3 N3 (C := 0) (S := 0) (by decide) (by decide)
    refine Outs.of st3 ?_
    refine Outs.of (U' := T3.setTop (mkF m 71 #[.val (.ref o0), .val (.long j1), .second, .val (.long (j1 - (1 : Int64))), .second, .val (.int ((hs_v9 j1) + (-1 : Int32))), .val (.long (g kq)), .second] [(.long ((((((hs_v9 j1) + (-1 : Int32)).toInt64) <<< ((6 : Int32) &&& 0x3f).toInt64) + (63 : Int64)) - ((F_nl (g kq)).toInt64)))])) (fun t k => ?_) ?_
    · refine XS.i2l X3.here hx rfl (hb hby d11_69) rfl ?_
      refine XS.lsub X3.here hx rfl (hb hby d11_70) rfl ?_
      exact k
    exact Outs.retL X3 hx hret (hb hby d11_71) hlk (by decide) (by decide) e3 ⟨congrArg (fun z_ => some (Value.long z_)) (show (F_hs j1 g kw kq) = ((((((hs_v9 j1) + (-1 : Int32)).toInt64) <<< ((6 : Int32) &&& 0x3f).toInt64) + (63 : Int64)) - ((F_nl (g kq)).toInt64)) from (if_pos hc39)).symm, N3, rfl⟩
  · refine Outs.of (U' := T1.setTop (mkF m 54 #[.val (.ref o0), .val (.long j1), .second, .val (.long (j1 - (1 : Int64))), .second, .val (.int (hs_v9 j1)), .val (.long (hs_v33 j1 g kw)), .second] [])) (fun t k => ?_) ?_
    · refine XS.ifYes X1.here hx rfl (pc0 := 39) (pc' := 54) rfl (hb hby d11_39) rfl ((if0 _ _).trans (feq (fun q_ => hc39 ((lw_eq _ _).mp q_))).2) (by decide) (by decide) ?_
      exact k
    refine Outs.of (U' := T1.setTop (mkF m 66 #[.val (.ref o0), .val (.long j1), .second, .val (.long (j1 - (1 : Int64))), .second, .val (.int (hs_v9 j1)), .val (.long (hs_v33 j1 g kw)), .second] [(.long (hs_v33 j1 g kw)), (.long ((((hs_v9 j1).toInt64) <<< ((6 : Int32) &&& 0x3f).toInt64) + (63 : Int64)))])) (fun t k => ?_) ?_
    · refine XS.iload X1.here hx rfl (hb hby d11_54) rfl ?_
      refine XS.i2l X1.here hx rfl (hb hby d11_56) rfl ?_
      refine XS.bipush X1.here hx rfl (hb hby d11_57) ?_
      refine XS.lshl X1.here hx rfl (hb hby d11_59) rfl ?_
      refine X1.ldc2Long hx hown (mvT hZ (hw _ (List.mem_of_getElem? (i := 34) rfl))) (g := (mkF m 60 #[.val (.ref o0), .val (.long j1), .second, .val (.long (j1 - (1 : Int64))), .second, .val (.int (hs_v9 j1)), .val (.long (hs_v33 j1 g kw)), .second] [(.long (((hs_v9 j1).toInt64) <<< ((6 : Int32) &&& 0x3f).toInt64))])) rfl (hb hby d11_60) _ ?_
      refine XS.ladd X1.here hx rfl (hb hby d11_63) rfl ?_
      refine XS.lload X1.here hx rfl (hb hby d11_64) rfl ?_
      exact k
    obtain ⟨_, _, ⟨T4, L4, k4, n4⟩, -, X4, ⟨Lc4, hQ4, l4, y4, z4⟩, st4⟩ := Jvm.LawKit.callS X1 hx (y := (⟨"java/lang/Long", "numberOfLeadingZeros", "(J)I"⟩ : MethodName)) hown (mvT hZ (hw _ (List.mem_of_getElem? (i := 18) rfl))) (mvT hZ (hw _ (List.mem_of_getElem? (i := 19) rfl))) (mvT hZ (hw _ (List.mem_of_getElem? (i := 20) rfl))) (mvT hZ (hw _ (List.mem_of_getElem? (i := 21) rfl))) (by decide) (backOf (W := 2) (rm4 l Z a0 hw [] (hs_v33 j1 g kw) h0 n0 ) hZ (hw _ (List.mem_of_getElem? (i := 21) rfl)) (hw _ (List.mem_of_getElem? (i := 20) rfl)) (by decide) (by decide)) (g := (mkF m 66 #[.val (.ref o0), .val (.long j1), .second, .val (.long (j1 - (1 : Int64))), .second, .val (.int (hs_v9 j1)), .val (.long (hs_v33 j1 g kw)), .second] [(.long (hs_v33 j1 g kw)), (.long ((((hs_v9 j1).toInt64) <<< ((6 : Int32) &&& 0x3f).toInt64) + (63 : Int64)))])) rfl (by rw [hml]; rfl) (argsL := [(.long (hs_v33 j1 g kw))]) (rest := [(.long ((((hs_v9 j1).toInt64) <<< ((6 : Int32) &&& 0x3f).toInt64) + (63 : Int64)))]) (lenOf pd_2 rfl) rfl (by show 2 * 0 + _ ≤ _; exact Nat.le_of_eq rfl) (hb hby d11_66) (fun _ _ => ⟨rfl, e1, (by decide : 0 + 0 ≤ _), (by decide : 0 + 0 ≤ _)⟩)
    dsimp only [Pt.U, Pt.locs, Pt.cells, Pt.slots] at X4 l4 y4 z4 st4 hQ4
    subst l4 y4 z4
    obtain ⟨rfl, N4q, e4⟩ := hQ4
    have N4 := Fr.app N0 N4q
    obtain ⟨Lh4, X4, N4⟩ := hide X4 N4 (C := 0) (S := 0) (by decide) (by decide)
    refine Outs.of st4 ?_
    refine Outs.of (U' := T4.setTop (mkF m 71 #[.val (.ref o0), .val (.long j1), .second, .val (.long (j1 - (1 : Int64))), .second, .val (.int (hs_v9 j1)), .val (.long (hs_v33 j1 g kw)), .second] [(.long (((((hs_v9 j1).toInt64) <<< ((6 : Int32) &&& 0x3f).toInt64) + (63 : Int64)) - ((F_nl (hs_v33 j1 g kw)).toInt64)))])) (fun t k => ?_) ?_
    · refine XS.i2l X4.here hx rfl (hb hby d11_69) rfl ?_
      refine XS.lsub X4.here hx rfl (hb hby d11_70) rfl ?_
      exact k
    exact Outs.retL X4 hx hret (hb hby d11_71) hlk (by decide) (by decide) e4 ⟨congrArg (fun z_ => some (Value.long z_)) (show (F_hs j1 g kw kq) = (((((hs_v9 j1).toInt64) <<< ((6 : Int32) &&& 0x3f).toInt64) + (63 : Int64)) - ((F_nl (hs_v33 j1 g kw)).toInt64)) from (if_neg hc39)).symm, N4, rfl⟩
theorem ef_12 (m : MethodId) (x0 : Addr) (x1 : Int64) : entryFrame m #[(.ref x0), (.long x1)] 7 = mkF m 0 #[.val (.ref x0), .val (.long x1), .second, .unset, .unset, .unset, .unset] [] := by first | (simp [entryFrame, mkF, argsToLocals, Value.category]; done) | rfl
theorem d12_0 : decode prog_9_method_8_code 0 = .ok (.lload_n 1, 1) := by decide +kernel
theorem d12_1 : decode prog_9_method_8_code 1 = .ok (.bipush 6, 2) := by decide +kernel
theorem d12_3 : decode prog_9_method_8_code 3 = .ok (.lushr, 1) := by decide +kernel
theorem d12_4 : decode prog_9_method_8_code 4 = .ok (.l2i, 1) := by decide +kernel
theorem d12_5 : decode prog_9_method_8_code 5 = .ok (.istore_n 3, 1) := by decide +kernel
theorem d12_6 : decode prog_9_method_8_code 6 = .ok (.lload_n 1, 1) := by decide +kernel
theorem d12_7 : decode prog_9_method_8_code 7 = .ok (.ldc2_w 44, 3) := by decide +kernel
theorem d12_10 : decode prog_9_method_8_code 10 = .ok (.land, 1) := by decide +kernel
theorem d12_11 : decode prog_9_method_8_code 11 = .ok (.l2i, 1) := by decide +kernel
theorem d12_12 : decode prog_9_method_8_code 12 = .ok (.istore 4, 2) := by decide +kernel
theorem d12_14 : decode prog_9_method_8_code 14 = .ok (.aload_n 0, 1) := by decide +kernel
theorem d12_15 : decode prog_9_method_8_code 15 = .ok (.getfield 7, 3) := by decide +kernel
theorem d12_18 : decode prog_9_method_8_code 18 = .ok (.iload_n 3, 1) := by decide +kernel
theorem d12_19 : decode prog_9_method_8_code 19 = .ok (.laload, 1) := by decide +kernel
theorem d12_20 : decode prog_9_method_8_code 20 = .ok (.iload 4, 2) := by decide +kernel
theorem d12_22 : decode prog_9_method_8_code 22 = .ok (.lushr, 1) := by decide +kernel
theorem d12_23 : decode prog_9_method_8_code 23 = .ok (.lstore 5, 2) := by decide +kernel
theorem d12_25 : decode prog_9_method_8_code 25 = .ok (.aload_n 0, 1) := by decide +kernel
theorem d12_26 : decode prog_9_method_8_code 26 = .ok (.getfield 7, 3) := by decide +kernel
theorem d12_29 : decode prog_9_method_8_code 29 = .ok (.iload_n 3, 1) := by decide +kernel
theorem d12_30 : decode prog_9_method_8_code 30 = .ok (.dup2, 1) := by decide +kernel
theorem d12_31 : decode prog_9_method_8_code 31 = .ok (.laload, 1) := by decide +kernel
theorem d12_32 : decode prog_9_method_8_code 32 = .ok (.ldc2_w 42, 3) := by decide +kernel
theorem d12_35 : decode prog_9_method_8_code 35 = .ok (.iload 4, 2) := by decide +kernel
theorem d12_37 : decode prog_9_method_8_code 37 = .ok (.lshl, 1) := by decide +kernel
theorem d12_38 : decode prog_9_method_8_code 38 = .ok (.ldc2_w 42, 3) := by decide +kernel
theorem d12_41 : decode prog_9_method_8_code 41 = .ok (.lxor, 1) := by decide +kernel
theorem d12_42 : decode prog_9_method_8_code 42 = .ok (.land, 1) := by decide +kernel
theorem d12_43 : decode prog_9_method_8_code 43 = .ok (.lastore, 1) := by decide +kernel
theorem d12_44 : decode prog_9_method_8_code 44 = .ok (.iload 4, 2) := by decide +kernel
theorem d12_46 : decode prog_9_method_8_code 46 = .ok (.ifCond .le 42, 3) := by decide +kernel
theorem d12_49 : decode prog_9_method_8_code 49 = .ok (.iload_n 3, 1) := by decide +kernel
theorem d12_50 : decode prog_9_method_8_code 50 = .ok (.iconst 1, 1) := by decide +kernel
theorem d12_51 : decode prog_9_method_8_code 51 = .ok (.iadd, 1) := by decide +kernel
theorem d12_52 : decode prog_9_method_8_code 52 = .ok (.aload_n 0, 1) := by decide +kernel
theorem d12_53 : decode prog_9_method_8_code 53 = .ok (.getfield 7, 3) := by decide +kernel
theorem d12_56 : decode prog_9_method_8_code 56 = .ok (.arraylength, 1) := by decide +kernel
theorem d12_57 : decode prog_9_method_8_code 57 = .ok (.if_icmp .ge 31, 3) := by decide +kernel
theorem d12_60 : decode prog_9_method_8_code 60 = .ok (.lload 5, 2) := by decide +kernel
theorem d12_62 : decode prog_9_method_8_code 62 = .ok (.aload_n 0, 1) := by decide +kernel
theorem d12_63 : decode prog_9_method_8_code 63 = .ok (.getfield 7, 3) := by decide +kernel
theorem d12_66 : decode prog_9_method_8_code 66 = .ok (.iload_n 3, 1) := by decide +kernel
theorem d12_67 : decode prog_9_method_8_code 67 = .ok (.iconst 1, 1) := by decide +kernel
theorem d12_68 : decode prog_9_method_8_code 68 = .ok (.iadd, 1) := by decide +kernel
theorem d12_69 : decode prog_9_method_8_code 69 = .ok (.laload, 1) := by decide +kernel
theorem d12_70 : decode prog_9_method_8_code 70 = .ok (.bipush 64, 2) := by decide +kernel
theorem d12_72 : decode prog_9_method_8_code 72 = .ok (.iload 4, 2) := by decide +kernel
theorem d12_74 : decode prog_9_method_8_code 74 = .ok (.isub, 1) := by decide +kernel
theorem d12_75 : decode prog_9_method_8_code 75 = .ok (.lshl, 1) := by decide +kernel
theorem d12_76 : decode prog_9_method_8_code 76 = .ok (.lor, 1) := by decide +kernel
theorem d12_77 : decode prog_9_method_8_code 77 = .ok (.lstore 5, 2) := by decide +kernel
theorem d12_79 : decode prog_9_method_8_code 79 = .ok (.aload_n 0, 1) := by decide +kernel
theorem d12_80 : decode prog_9_method_8_code 80 = .ok (.getfield 7, 3) := by decide +kernel
theorem d12_83 : decode prog_9_method_8_code 83 = .ok (.iload_n 3, 1) := by decide +kernel
theorem d12_84 : decode prog_9_method_8_code 84 = .ok (.iconst 1, 1) := by decide +kernel
theorem d12_85 : decode prog_9_method_8_code 85 = .ok (.iadd, 1) := by decide +kernel
theorem d12_86 : decode prog_9_method_8_code 86 = .ok (.lconst 0, 1) := by decide +kernel
theorem d12_87 : decode prog_9_method_8_code 87 = .ok (.lastore, 1) := by decide +kernel
theorem d12_88 : decode prog_9_method_8_code 88 = .ok (.aload_n 0, 1) := by decide +kernel
theorem d12_89 : decode prog_9_method_8_code 89 = .ok (.lload_n 1, 1) := by decide +kernel
theorem d12_90 : decode prog_9_method_8_code 90 = .ok (.putfield 19, 3) := by decide +kernel
theorem d12_93 : decode prog_9_method_8_code 93 = .ok (.lload 5, 2) := by decide +kernel
theorem d12_95 : decode prog_9_method_8_code 95 = .ok (.lreturn, 1) := by decide +kernel
def tk_v5 (j1 : Int64) : Int32 := (((j1.toUInt64 >>> ((6 : Int32) &&& 0x3f).toInt64.toUInt64).toInt64).toInt32)
def TkOk (j1 : Int64) (nl : Int32) (kw n : Nat) : Prop := (tk_v5 j1).toInt = (kw : Int) ∧ kw < n ∧ ((tk_v5 j1) + (1 : Int32)).toInt = ((kw + 1 : Nat) : Int) ∧ (((tk_v5 j1) + (1 : Int32)) < nl → kw + 1 < n)
def tk_v12 (j1 : Int64) : Int32 := ((j1 &&& (63 : Int64)).toInt32)
def tk_v23 (j1 : Int64) (g : Nat → Int64) (kw : Nat) : Int64 := (((g kw).toUInt64 >>> ((tk_v12 j1) &&& 0x3f).toInt64.toUInt64).toInt64)
def tk_g43 (j1 : Int64) (g : Nat → Int64) (kw : Nat) : Nat → Int64 := (upv g kw ((g kw) &&& (((-1 : Int64) <<< ((tk_v12 j1) &&& 0x3f).toInt64) ^^^ (-1 : Int64))))
def tk_v77 (j1 : Int64) (g : Nat → Int64) (kw : Nat) : Int64 := ((tk_v23 j1 g kw) ||| (((tk_g43 j1 g kw) ((kw + 1))) <<< (((64 : Int32) - (tk_v12 j1)) &&& 0x3f).toInt64))
def tk_g87 (j1 : Int64) (g : Nat → Int64) (kw : Nat) : Nat → Int64 := (upv (tk_g43 j1 g kw) ((kw + 1)) (0 : Int64))
def F_tk (j1 : Int64) (nl : Int32) (g : Nat → Int64) (kw : Nat) : Int64 := (if (0 : Int32) < (tk_v12 j1) then (if ((tk_v5 j1) + (1 : Int32)) < nl then (tk_v77 j1 g kw) else (tk_v23 j1 g kw)) else (tk_v23 j1 g kw))
def tk_out3 (j1 : Int64) (nl : Int32) (g : Nat → Int64) (kw : Nat) : Nat → Int64 := (if (0 : Int32) < (tk_v12 j1) then (if ((tk_v5 j1) + (1 : Int32)) < nl then (tk_g87 j1 g kw) else (tk_g43 j1 g kw)) else (tk_g43 j1 g kw))
def Q_tk (Z : State) (o0 : Addr) (j1 : Int64) (sz : Int64) (nl : Int32) (a1 : Addr) (n : Nat) (g : Nat → Int64) (kw : Nat) (h0 : Heap) (n0 : Nat) (v : Option Value) (h : Heap) (L : List Loc) : Prop := v = some (.long (F_tk j1 nl g kw)) ∧ Fr n0 L ∧ Keep h0 h [o0, a1] ∧ Exa Z h o0 "com/example/brief_locator/brieflocator/cbor/OpenContainers" ∧ Fld Z h o0 "com/example/brief_locator/brieflocator/cbor/OpenContainers" "words" "[J" (.ref a1) ∧ Fld Z h o0 "com/example/brief_locator/brieflocator/cbor/OpenContainers" "size" "J" (.long j1) ∧ AJ Z h a1 .long n (tk_out3 j1 nl g kw)
set_option maxRecDepth 65536 in
set_option maxHeartbeats 40000000 in
theorem rmtk (l : Launch) (Z : State) (a0 : Array Value) (hw : ∀ d ∈ tables_1, d.before a0 Z = true) (ws : List Jvm.Cond) (o0 : Addr) (j1 : Int64) (sz : Int64) (nl : Int32) (a1 : Addr) (n : Nat) (g : Nat → Int64) (kw : Nat) (h0 : Heap) (n0 : Nat) (E_o0 : Exa Z h0 o0 "com/example/brief_locator/brieflocator/cbor/OpenContainers") (F_o0_words : Fld Z h0 o0 "com/example/brief_locator/brieflocator/cbor/OpenContainers" "words" "[J" (.ref a1)) (A_a1 : AJ Z h0 a1 .long n g) (ne_o0_a1 : o0 ≠ a1) (F_o0_size : Fld Z h0 o0 "com/example/brief_locator/brieflocator/cbor/OpenContainers" "size" "J" (.long sz)) (g_o0 : n0 ≤ o0) (g_a1 : n0 ≤ a1) (hl : nl.toInt = (n : Int)) (hs : TkOk j1 nl kw n) :
    MetFree l (⟨"com/example/brief_locator/brieflocator/cbor/OpenContainers", "take", "(J)J"⟩ : MethodName) (head1 (Jvm.Cond.code (⟨"com/example/brief_locator/brieflocator/cbor/OpenContainers", "take", "(J)J"⟩ : MethodName) prog_9_method_8_code 7 (some .long) :: ws) ({ frames := 0, cells := 0, slots := 0, locals := 0 } : Room)) (fun a U => a = #[(.ref o0), (.long j1)] ∧ Z.Warmed39 U.vm ∧ U.heap = h0) (fun _ _ _ _ _ => True) (fun _ U o U' => ∃ v L, o = .returned v ∧ Q_tk Z o0 j1 sz nl a1 n g kw h0 n0 v U'.heap L ∧ FrameEnd U o U' L ({ frames := 0, cells := 0, slots := 0, locals := 0 } : Room).cells ({ frames := 0, cells := 0, slots := 0, locals := 0 } : Room).slots) := by
  refine MetFree.of_bodySF (plainFor_of_name pn_1) hisR ?_
  intro p e s m args below meth c s₁ Bd hml0 hP hK
  obtain ⟨rfl, hZ, hh⟩ := hP
  have hx := Bd.exec
  have hby := Bd.bytes
  have hml : c.maxLocals = 7 := hml0
  have hown : s.vm.findClass "com/example/brief_locator/brieflocator/cbor/OpenContainers" = some m.cls := findClass_of_methodNamed Bd.named
  have hnm := (name_of_methodNamed Bd.named Bd.method).1
  have hret := Bd.returns
  have hlk : meth.locks = false := BodyLoose.notSynchronized Bd
  have X0 : Stand p l e ({ frames := 0, cells := 0, slots := 0, locals := 0 } : Room) s m #[(.ref o0), (.long j1)] below meth c s₁ [] 0 0 := Stand.of_body Bd
  have e0 : s₁.heap = h0 := by rw [← hh, Bd.state]; rfl
  have N0 := Fr.nil n0
  show Outs p e below s (Q_tk Z o0 j1 sz nl a1 n g kw h0 n0) _ _ _
  refine Outs.of (U' := s₁.setTop (mkF m 0 #[.val (.ref o0), .val (.long j1), .second, .unset, .unset, .unset, .unset] [])) (fun t k => castTop (ef_12 m o0 j1) k) ?_
  refine Outs.of (U' := s₁.setTop (mkF m 15 #[.val (.ref o0), .val (.long j1), .second, .val (.int (tk_v5 j1)), .val (.int (tk_v12 j1)), .unset, .unset] [(.ref o0)])) (fun t k => ?_) ?_
  · refine XS.lloadN X0.here hx rfl (hb hby d12_0) rfl ?_
    refine XS.bipush X0.here hx rfl (hb hby d12_1) ?_
    refine XS.lushr X0.here hx rfl (hb hby d12_3) rfl ?_
    refine XS.l2i X0.here hx rfl (hb hby d12_4) rfl ?_
    refine XS.istoreN X0.here hx rfl (hb hby d12_5) rfl (l' := #[.val (.ref o0), .val (.long j1), .second, .val (.int (tk_v5 j1)), .unset, .unset, .unset]) rfl ?_
    refine XS.lloadN X0.here hx rfl (hb hby d12_6) rfl ?_
    refine X0.ldc2Long hx hown (mvT hZ (hw _ (List.mem_of_getElem? (i := 34) rfl))) (g := (mkF m 7 #[.val (.ref o0), .val (.long j1), .second, .val (.int (tk_v5 j1)), .unset, .unset, .unset] [(.long j1)])) rfl (hb hby d12_7) _ ?_
    refine XS.land X0.here hx rfl (hb hby d12_10) rfl ?_
    refine XS.l2i X0.here hx rfl (hb hby d12_11) rfl ?_
    refine XS.istore X0.here hx rfl (hb hby d12_12) rfl (l' := #[.val (.ref o0), .val (.long j1), .second, .val (.int (tk_v5 j1)), .val (.int (tk_v12 j1)), .unset, .unset]) rfl ?_
    refine XS.aloadN X0.here hx rfl (hb hby d12_14) rfl rfl ?_
    exact k
  obtain ⟨T1, X1, e1, st1⟩ := getF X0 hx hZ hown (host := "") (Or.inl (hw _ (List.mem_of_getElem? (i := 11) rfl))) Via.refl e0 F_o0_words (g := (mkF m 15 #[.val (.ref o0), .val (.long j1), .second, .val (.int (tk_v5 j1)), .val (.int (tk_v12 j1)), .unset, .unset] [(.ref o0)])) rfl rfl (hb hby d12_15)
  refine Outs.of st1 ?_
  refine Outs.of (U' := T1.setTop (mkF m 19 #[.val (.ref o0), .val (.long j1), .second, .val (.int (tk_v5 j1)), .val (.int (tk_v12 j1)), .unset, .unset] [(.int (tk_v5 j1)), (.ref a1)])) (fun t k => ?_) ?_
  · refine XS.iloadN X1.here hx rfl (hb hby d12_18) rfl ?_
    exact k
  refine Outs.of (ldJ X1 hx hZ e1 A_a1 (j := (tk_v5 j1)) (k := kw) hs.1 hs.2.1 (f := (mkF m 19 #[.val (.ref o0), .val (.long j1), .second, .val (.int (tk_v5 j1)), .val (.int (tk_v12 j1)), .unset, .unset] [(.int (tk_v5 j1)), (.ref a1)])) rfl rfl (hb hby d12_19)) ?_
  refine Outs.of (U' := T1.setTop (mkF m 26 #[.val (.ref o0), .val (.long j1), .second, .val (.int (tk_v5 j1)), .val (.int (tk_v12 j1)), .val (.long (tk_v23 j1 g kw)), .second] [(.ref o0)])) (fun t k => ?_) ?_
  · refine XS.iload X1.here hx rfl (hb hby d12_20) rfl ?_
    refine XS.lushr X1.here hx rfl (hb hby d12_22) rfl ?_
    refine XS.lstore X1.here hx rfl (hb hby d12_23) rfl (l' := #[.val (.ref o0), .val (.long j1), .second, .val (.int (tk_v5 j1)), .val (.int (tk_v12 j1)), .val (.long (tk_v23 j1 g kw)), .second]) rfl ?_
    refine XS.aloadN X1.here hx rfl (hb hby d12_25) rfl rfl ?_
    exact k
  obtain ⟨T2, X2, e2, st2⟩ := getF X1 hx hZ hown (host := "") (Or.inl (hw _ (List.mem_of_getElem? (i := 11) rfl))) Via.refl e1 F_o0_words (g := (mkF m 26 #[.val (.ref o0), .val (.long j1), .second, .val (.int (tk_v5 j1)), .val (.int (tk_v12 j1)), .val (.long (tk_v23 j1 g kw)), .second] [(.ref o0)])) rfl rfl (hb hby d12_26)
  refine Outs.of st2 ?_
  refine Outs.of (U' := T2.setTop (mkF m 31 #[.val (.ref o0), .val (.long j1), .second, .val (.int (tk_v5 j1)), .val (.int (tk_v12 j1)), .val (.long (tk_v23 j1 g kw)), .second] [(.int (tk_v5 j1)), (.ref a1), (.int (tk_v5 j1)), (.ref a1)])) (fun t k => ?_) ?_
  · refine XS.iloadN X2.here hx rfl (hb hby d12_29) rfl ?_
    show Steps p.tables e below (T2.setTop (mkF m 30 #[.val (.ref o0), .val (.long j1), .second, .val (.int (tk_v5 j1)), .val (.int (tk_v12 j1)), .val (.long (tk_v23 j1 g kw)), .second] [(.int (tk_v5 j1)), (.ref a1)])) _
    jvm_step X2.here [X2.here.top, hx, (hb hby d12_30), Value.category]
    exact k
  refine Outs.of (ldJ X2 hx hZ e2 A_a1 (j := (tk_v5 j1)) (k := kw) hs.1 hs.2.1 (f := (mkF m 31 #[.val (.ref o0), .val (.long j1), .second, .val (.int (tk_v5 j1)), .val (.int (tk_v12 j1)), .val (.long (tk_v23 j1 g kw)), .second] [(.int (tk_v5 j1)), (.ref a1), (.int (tk_v5 j1)), (.ref a1)])) rfl rfl (hb hby d12_31)) ?_
  refine Outs.of (U' := T2.setTop (mkF m 43 #[.val (.ref o0), .val (.long j1), .second, .val (.int (tk_v5 j1)), .val (.int (tk_v12 j1)), .val (.long (tk_v23 j1 g kw)), .second] [(.long ((g kw) &&& (((-1 : Int64) <<< ((tk_v12 j1) &&& 0x3f).toInt64) ^^^ (-1 : Int64)))), (.int (tk_v5 j1)), (.ref a1)])) (fun t k => ?_) ?_
  · refine X2.ldc2Long hx hown (mvT hZ (hw _ (List.mem_of_getElem? (i := 61) rfl))) (g := (mkF m 32 #[.val (.ref o0), .val (.long j1), .second, .val (.int (tk_v5 j1)), .val (.int (tk_v12 j1)), .val (.long (tk_v23 j1 g kw)), .second] [(.long (g kw)), (.int (tk_v5 j1)), (.ref a1)])) rfl (hb hby d12_32) _ ?_
    refine XS.iload X2.here hx rfl (hb hby d12_35) rfl ?_
    refine XS.lshl X2.here hx rfl (hb hby d12_37) rfl ?_
    refine X2.ldc2Long hx hown (mvT hZ (hw _ (List.mem_of_getElem? (i := 61) rfl))) (g := (mkF m 38 #[.val (.ref o0), .val (.long j1), .second, .val (.int (tk_v5 j1)), .val (.int (tk_v12 j1)), .val (.long (tk_v23 j1 g kw)), .second] [(.long ((-1 : Int64) <<< ((tk_v12 j1) &&& 0x3f).toInt64)), (.long (g kw)), (.int (tk_v5 j1)), (.ref a1)])) rfl (hb hby d12_38) _ ?_
    refine XS.lxor X2.here hx rfl (hb hby d12_41) rfl ?_
    refine XS.land X2.here hx rfl (hb hby d12_42) rfl ?_
    exact k
  obtain ⟨T3, h3, X3, e3, W3, V3, st3⟩ := puJ X2 hx hZ e2 A_a1 (j := (tk_v5 j1)) (x := ((g kw) &&& (((-1 : Int64) <<< ((tk_v12 j1) &&& 0x3f).toInt64) ^^^ (-1 : Int64)))) (k := kw) hs.1 hs.2.1 (f := (mkF m 43 #[.val (.ref o0), .val (.long j1), .second, .val (.int (tk_v5 j1)), .val (.int (tk_v12 j1)), .val (.long (tk_v23 j1 g kw)), .second] [(.long ((g kw) &&& (((-1 : Int64) <<< ((tk_v12 j1) &&& 0x3f).toInt64) ^^^ (-1 : Int64)))), (.int (tk_v5 j1)), (.ref a1)])) rfl rfl (hb hby d12_43)
  replace V3 : AJ Z h3 a1 .long n (tk_g43 j1 g kw) := V3
  have N3 := Fr.snoc X3 N0 g_a1
  obtain ⟨Lh3, X3, N3⟩ := hide X3 N3 (C := 0) (S := 0) (by decide) (by decide)
  refine Outs.of st3 ?_
  refine Outs.of (U' := T3.setTop (mkF m 46 #[.val (.ref o0), .val (.long j1), .second, .val (.int (tk_v5 j1)), .val (.int (tk_v12 j1)), .val (.long (tk_v23 j1 g kw)), .second] [(.int (tk_v12 j1))])) (fun t k => ?_) ?_
  · refine XS.iload X3.here hx rfl (hb hby d12_44) rfl ?_
    exact k
  by_cases hc46 : (0 : Int32) < (tk_v12 j1)
  · refine Outs.of (U' := T3.setTop (mkF m 49 #[.val (.ref o0), .val (.long j1), .second, .val (.int (tk_v5 j1)), .val (.int (tk_v12 j1)), .val (.long (tk_v23 j1 g kw)), .second] [])) (fun t k => ?_) ?_
    · refine XS.ifNo X3.here hx rfl (hb hby d12_46) rfl ((if0 _ _).trans (tlt hc46).2.2.2) ?_
      exact k
    refine Outs.of (U' := T3.setTop (mkF m 53 #[.val (.ref o0), .val (.long j1), .second, .val (.int (tk_v5 j1)), .val (.int (tk_v12 j1)), .val (.long (tk_v23 j1 g kw)), .second] [(.ref o0), (.int ((tk_v5 j1) + (1 : Int32)))])) (fun t k => ?_) ?_
    · refine XS.iloadN X3.here hx rfl (hb hby d12_49) rfl ?_
      refine XS.iconst X3.here hx rfl (hb hby d12_50) ?_
      refine XS.iadd X3.here hx rfl (hb hby d12_51) rfl ?_
      refine XS.aloadN X3.here hx rfl (hb hby d12_52) rfl rfl ?_
      exact k
    have f5 : Fld Z h3 o0 "com/example/brief_locator/brieflocator/cbor/OpenContainers" "words" "[J" (.ref a1) := (F_o0_words.other W3 (Or.inl ne_o0_a1))
    obtain ⟨T4, X4, e4, st4⟩ := getF X3 hx hZ hown (host := "") (Or.inl (hw _ (List.mem_of_getElem? (i := 11) rfl))) Via.refl e3 f5 (g := (mkF m 53 #[.val (.ref o0), .val (.long j1), .second, .val (.int (tk_v5 j1)), .val (.int (tk_v12 j1)), .val (.long (tk_v23 j1 g kw)), .second] [(.ref o0), (.int ((tk_v5 j1) + (1 : Int32)))])) rfl rfl (hb hby d12_53)
    refine Outs.of st4 ?_
    refine Outs.of (alen X4 hx hZ e4 V3 (z := nl) hl (f := (mkF m 56 #[.val (.ref o0), .val (.long j1), .second, .val (.int (tk_v5 j1)), .val (.int (tk_v12 j1)), .val (.long (tk_v23 j1 g kw)), .second] [(.ref a1), (.int ((tk_v5 j1) + (1 : Int32)))])) rfl rfl (hb hby d12_56)) ?_
    by_cases hc57 : ((tk_v5 j1) + (1 : Int32)) < nl
    · refine Outs.of (U' := T4.setTop (mkF m 60 #[.val (.ref o0), .val (.long j1), .second, .val (.int (tk_v5 j1)), .val (.int (tk_v12 j1)), .val (.long (tk_v23 j1 g kw)), .second] [])) (fun t k => ?_) ?_
      · refine XS.icmpNo X4.here hx rfl (hb hby d12_57) rfl (tlt hc57).2.1 ?_
        exact k
      refine Outs.of (U' := T4.setTop (mkF m 63 #[.val (.ref o0), .val (.long j1), .second, .val (.int (tk_v5 j1)), .val (.int (tk_v12 j1)), .val (.long (tk_v23 j1 g kw)), .second] [(.ref o0), (.long (tk_v23 j1 g kw))])) (fun t k => ?_) ?_
      · refine XS.lload X4.here hx rfl (hb hby d12_60) rfl ?_
        refine XS.aloadN X4.here hx rfl (hb hby d12_62) rfl rfl ?_
        exact k
      obtain ⟨T6, X6, e6, st6⟩ := getF X4 hx hZ hown (host := "") (Or.inl (hw _ (List.mem_of_getElem? (i := 11) rfl))) Via.refl e4 f5 (g := (mkF m 63 #[.val (.ref o0), .val (.long j1), .second, .val (.int (tk_v5 j1)), .val (.int (tk_v12 j1)), .val (.long (tk_v23 j1 g kw)), .second] [(.ref o0), (.long (tk_v23 j1 g kw))])) rfl rfl (hb hby d12_63)
      refine Outs.of st6 ?_
      refine Outs.of (U' := T6.setTop (mkF m 69 #[.val (.ref o0), .val (.long j1), .second, .val (.int (tk_v5 j1)), .val (.int (tk_v12 j1)), .val (.long (tk_v23 j1 g kw)), .second] [(.int ((tk_v5 j1) + (1 : Int32))), (.ref a1), (.long (tk_v23 j1 g kw))])) (fun t k => ?_) ?_
      · refine XS.iloadN X6.here hx rfl (hb hby d12_66) rfl ?_
        refine XS.iconst X6.here hx rfl (hb hby d12_67) ?_
        refine XS.iadd X6.here hx rfl (hb hby d12_68) rfl ?_
        exact k
      refine Outs.of (ldJ X6 hx hZ e6 V3 (j := ((tk_v5 j1) + (1 : Int32))) (k := (kw + 1)) hs.2.2.1 (hs.2.2.2 hc57) (f := (mkF m 69 #[.val (.ref o0), .val (.long j1), .second, .val (.int (tk_v5 j1)), .val (.int (tk_v12 j1)), .val (.long (tk_v23 j1 g kw)), .second] [(.int ((tk_v5 j1) + (1 : Int32))), (.ref a1), (.long (tk_v23 j1 g kw))])) rfl rfl (hb hby d12_69)) ?_
      refine Outs.of (U' := T6.setTop (mkF m 80 #[.val (.ref o0), .val (.long j1), .second, .val (.int (tk_v5 j1)), .val (.int (tk_v12 j1)), .val (.long (tk_v77 j1 g kw)), .second] [(.ref o0)])) (fun t k => ?_) ?_
      · refine XS.bipush X6.here hx rfl (hb hby d12_70) ?_
        refine XS.iload X6.here hx rfl (hb hby d12_72) rfl ?_
        refine XS.isub X6.here hx rfl (hb hby d12_74) rfl ?_
        refine XS.lshl X6.here hx rfl (hb hby d12_75) rfl ?_
        refine XS.lor X6.here hx rfl (hb hby d12_76) rfl ?_
        refine XS.lstore X6.here hx rfl (hb hby d12_77) rfl (l' := #[.val (.ref o0), .val (.long j1), .second, .val (.int (tk_v5 j1)), .val (.int (tk_v12 j1)), .val (.long (tk_v77 j1 g kw)), .second]) rfl ?_
        refine XS.aloadN X6.here hx rfl (hb hby d12_79) rfl rfl ?_
        exact k
      obtain ⟨T7, X7, e7, st7⟩ := getF X6 hx hZ hown (host := "") (Or.inl (hw _ (List.mem_of_getElem? (i := 11) rfl))) Via.refl e6 f5 (g := (mkF m 80 #[.val (.ref o0), .val (.long j1), .second, .val (.int (tk_v5 j1)), .val (.int (tk_v12 j1)), .val (.long (tk_v77 j1 g kw)), .second] [(.ref o0)])) rfl rfl (hb hby d12_80)
      refine Outs.of st7 ?_
      refine Outs.of (U' := T7.setTop (mkF m 87 #[.val (.ref o0), .val (.long j1), .second, .val (.int (tk_v5 j1)), .val (.int (tk_v12 j1)), .val (.long (tk_v77 j1 g kw)), .second] [(.long (0 : Int64)), (.int ((tk_v5 j1) + (1 : Int32))), (.ref a1)])) (fun t k => ?_) ?_
      · refine XS.iloadN X7.here hx rfl (hb hby d12_83) rfl ?_
        refine XS.iconst X7.here hx rfl (hb hby d12_84) ?_
        refine XS.iadd X7.here hx rfl (hb hby d12_85) rfl ?_
        refine XS.lconst X7.here hx rfl (hb hby d12_86) ?_
        exact k
      obtain ⟨T8, h8, X8, e8, W8, V8, st8⟩ := puJ X7 hx hZ e7 V3 (j := ((tk_v5 j1) + (1 : Int32))) (x := (0 : Int64)) (k := (kw + 1)) hs.2.2.1 (hs.2.2.2 hc57) (f := (mkF m 87 #[.val (.ref o0), .val (.long j1), .second, .val (.int (tk_v5 j1)), .val (.int (tk_v12 j1)), .val (.long (tk_v77 j1 g kw)), .second] [(.long (0 : Int64)), (.int ((tk_v5 j1) + (1 : Int32))), (.ref a1)])) rfl rfl (hb hby d12_87)
      replace V8 : AJ Z h8 a1 .long n (tk_g87 j1 g kw) := V8
      have N8 := Fr.snoc X8 N3 g_a1
      obtain ⟨Lh8, X8, N8⟩ := hide X8 N8 (C := 0) (S := 0) (by decide) (by decide)
      refine Outs.of st8 ?_
      refine Outs.of (U' := T8.setTop (mkF m 90 #[.val (.ref o0), .val (.long j1), .second, .val (.int (tk_v5 j1)), .val (.int (tk_v12 j1)), .val (.long (tk_v77 j1 g kw)), .second] [(.long j1), (.ref o0)])) (fun t k => ?_) ?_
      · refine XS.aloadN X8.here hx rfl (hb hby d12_88) rfl rfl ?_
        refine XS.lloadN X8.here hx rfl (hb hby d12_89) rfl ?_
        exact k
      have f10 : Exa Z h8 o0 "com/example/brief_locator/brieflocator/cbor/OpenContainers" := ((E_o0.wr W3).wr W8)
      have f11 : Fld Z h8 o0 "com/example/brief_locator/brieflocator/cbor/OpenContainers" "size" "J" (.long sz) := ((F_o0_size.other W3 (Or.inl ne_o0_a1)).other W8 (Or.inl ne_o0_a1))
      obtain ⟨T9, h9, X9, e9, W9, st9⟩ := putF X8 hx hZ hown (host := "") (Or.inl (hw _ (List.mem_of_getElem? (i := 27) rfl))) Via.refl e8 f11 f10 (Or.inl (hw _ (List.mem_of_getElem? (i := 28) rfl))) (hw _ (List.mem_of_getElem? (i := 2) rfl)) (ty := .long) (by decide) rfl rfl (g := (mkF m 90 #[.val (.ref o0), .val (.long j1), .second, .val (.int (tk_v5 j1)), .val (.int (tk_v12 j1)), .val (.long (tk_v77 j1 g kw)), .second] [(.long j1), (.ref o0)])) rfl rfl (hb hby d12_90)
      have F9 : Fld Z h9 o0 "com/example/brief_locator/brieflocator/cbor/OpenContainers" "size" "J" (.long j1) := f11.same W9
      have N9 := Fr.snoc X9 N8 g_o0
      obtain ⟨Lh9, X9, N9⟩ := hide X9 N9 (C := 0) (S := 0) (by decide) (by decide)
      refine Outs.of st9 ?_
      refine Outs.of (U' := T9.setTop (mkF m 95 #[.val (.ref o0), .val (.long j1), .second, .val (.int (tk_v5 j1)), .val (.int (tk_v12 j1)), .val (.long (tk_v77 j1 g kw)), .second] [(.long (tk_v77 j1 g kw))])) (fun t k => ?_) ?_
      · refine XS.lload X9.here hx rfl (hb hby d12_93) rfl ?_
        exact k
      have f12 : Exa Z h9 o0 "com/example/brief_locator/brieflocator/cbor/OpenContainers" := (f10.wr W9)
      have f13 : Fld Z h9 o0 "com/example/brief_locator/brieflocator/cbor/OpenContainers" "words" "[J" (.ref a1) := ((f5.other W8 (Or.inl ne_o0_a1)).other W9 (Or.inr (slot_ne (Or.inl (hw _ (List.mem_of_getElem? (i := 12) rfl))) (Or.inl (hw _ (List.mem_of_getElem? (i := 28) rfl))) (by decide) (t := (.array .long)) (t' := .long) (by decide) (by decide))))
      have f14 : AJ Z h9 a1 .long n (tk_g87 j1 g kw) := (V8.other W9 ne_o0_a1.symm)
      exact Outs.retL X9 hx hret (hb hby d12_95) hlk (by decide) (by decide) e9 ⟨congrArg (fun z_ => some (Value.long z_)) (show (F_tk j1 nl g kw) = (tk_v77 j1 g kw) from ((if_pos hc46).trans (if_pos hc57))).symm, N9, ((((Keep.refl h0 [o0, a1]).wr W3 (Or.inl (List.mem_of_getElem? (i := 1) rfl))).wr W8 (Or.inl (List.mem_of_getElem? (i := 1) rfl))).wr W9 (Or.inl (List.mem_of_getElem? (i := 0) rfl))), f12, f13, F9, (by rw [show (tk_out3 j1 nl g kw) = (tk_g87 j1 g kw) from ((if_pos hc46).trans (if_pos hc57))]; exact f14)⟩
    · refine Outs.of (U' := T4.setTop (mkF m 88 #[.val (.ref o0), .val (.long j1), .second, .val (.int (tk_v5 j1)), .val (.int (tk_v12 j1)), .val (.long (tk_v23 j1 g kw)), .second] [])) (fun t k => ?_) ?_
      · refine XS.icmpYes X4.here hx rfl (pc0 := 57) (pc' := 88) rfl (hb hby d12_57) rfl (flt hc57).2.1 (by decide) (by decide) ?_
        exact k
      refine Outs.of (U' := T4.setTop (mkF m 90 #[.val (.ref o0), .val (.long j1), .second, .val (.int (tk_v5 j1)), .val (.int (tk_v12 j1)), .val (.long (tk_v23 j1 g kw)), .second] [(.long j1), (.ref o0)])) (fun t k => ?_) ?_
      · refine XS.aloadN X4.here hx rfl (hb hby d12_88) rfl rfl ?_
        refine XS.lloadN X4.here hx rfl (hb hby d12_89) rfl ?_
        exact k
      have f16 : Exa Z h3 o0 "com/example/brief_locator/brieflocator/cbor/OpenContainers" := (E_o0.wr W3)
      have f17 : Fld Z h3 o0 "com/example/brief_locator/brieflocator/cbor/OpenContainers" "size" "J" (.long sz) := (F_o0_size.other W3 (Or.inl ne_o0_a1))
      obtain ⟨T15, h15, X15, e15, W15, st15⟩ := putF X4 hx hZ hown (host := "") (Or.inl (hw _ (List.mem_of_getElem? (i := 27) rfl))) Via.refl e4 f17 f16 (Or.inl (hw _ (List.mem_of_getElem? (i := 28) rfl))) (hw _ (List.mem_of_getElem? (i := 2) rfl)) (ty := .long) (by decide) rfl rfl (g := (mkF m 90 #[.val (.ref o0), .val (.long j1), .second, .val (.int (tk_v5 j1)), .val (.int (tk_v12 j1)), .val (.long (tk_v23 j1 g kw)), .second] [(.long j1), (.ref o0)])) rfl rfl (hb hby d12_90)
      have F15 : Fld Z h15 o0 "com/example/brief_locator/brieflocator/cbor/OpenContainers" "size" "J" (.long j1) := f17.same W15
      have N15 := Fr.snoc X15 N3 g_o0
      obtain ⟨Lh15, X15, N15⟩ := hide X15 N15 (C := 0) (S := 0) (by decide) (by decide)
      refine Outs.of st15 ?_
      refine Outs.of (U' := T15.setTop (mkF m 95 #[.val (.ref o0), .val (.long j1), .second, .val (.int (tk_v5 j1)), .val (.int (tk_v12 j1)), .val (.long (tk_v23 j1 g kw)), .second] [(.long (tk_v23 j1 g kw))])) (fun t k => ?_) ?_
      · refine XS.lload X15.here hx rfl (hb hby d12_93) rfl ?_
        exact k
      have f18 : Exa Z h15 o0 "com/example/brief_locator/brieflocator/cbor/OpenContainers" := (f16.wr W15)
      have f19 : Fld Z h15 o0 "com/example/brief_locator/brieflocator/cbor/OpenContainers" "words" "[J" (.ref a1) := (f5.other W15 (Or.inr (slot_ne (Or.inl (hw _ (List.mem_of_getElem? (i := 12) rfl))) (Or.inl (hw _ (List.mem_of_getElem? (i := 28) rfl))) (by decide) (t := (.array .long)) (t' := .long) (by decide) (by decide))))
      have f20 : AJ Z h15 a1 .long n (tk_g43 j1 g kw) := (V3.other W15 ne_o0_a1.symm)
      exact Outs.retL X15 hx hret (hb hby d12_95) hlk (by decide) (by decide) e15 ⟨congrArg (fun z_ => some (Value.long z_)) (show (F_tk j1 nl g kw) = (tk_v23 j1 g kw) from ((if_pos hc46).trans (if_neg hc57))).symm, N15, (((Keep.refl h0 [o0, a1]).wr W3 (Or.inl (List.mem_of_getElem? (i := 1) rfl))).wr W15 (Or.inl (List.mem_of_getElem? (i := 0) rfl))), f18, f19, F15, (by rw [show (tk_out3 j1 nl g kw) = (tk_g43 j1 g kw) from ((if_pos hc46).trans (if_neg hc57))]; exact f20)⟩
  · refine Outs.of (U' := T3.setTop (mkF m 88 #[.val (.ref o0), .val (.long j1), .second, .val (.int (tk_v5 j1)), .val (.int (tk_v12 j1)), .val (.long (tk_v23 j1 g kw)), .second] [])) (fun t k => ?_) ?_
    · refine XS.ifYes X3.here hx rfl (pc0 := 46) (pc' := 88) rfl (hb hby d12_46) rfl ((if0 _ _).trans (flt hc46).2.2.2) (by decide) (by decide) ?_
      exact k
    refine Outs.of (U' := T3.setTop (mkF m 90 #[.val (.ref o0), .val (.long j1), .second, .val (.int (tk_v5 j1)), .val (.int (tk_v12 j1)), .val (.long (tk_v23 j1 g kw)), .second] [(.long j1), (.ref o0)])) (fun t k => ?_) ?_
    · refine XS.aloadN X3.here hx rfl (hb hby d12_88) rfl rfl ?_
      refine XS.lloadN X3.here hx rfl (hb hby d12_89) rfl ?_
      exact k
    have f22 : Exa Z h3 o0 "com/example/brief_locator/brieflocator/cbor/OpenContainers" := (E_o0.wr W3)
    have f23 : Fld Z h3 o0 "com/example/brief_locator/brieflocator/cbor/OpenContainers" "size" "J" (.long sz) := (F_o0_size.other W3 (Or.inl ne_o0_a1))
    obtain ⟨T21, h21, X21, e21, W21, st21⟩ := putF X3 hx hZ hown (host := "") (Or.inl (hw _ (List.mem_of_getElem? (i := 27) rfl))) Via.refl e3 f23 f22 (Or.inl (hw _ (List.mem_of_getElem? (i := 28) rfl))) (hw _ (List.mem_of_getElem? (i := 2) rfl)) (ty := .long) (by decide) rfl rfl (g := (mkF m 90 #[.val (.ref o0), .val (.long j1), .second, .val (.int (tk_v5 j1)), .val (.int (tk_v12 j1)), .val (.long (tk_v23 j1 g kw)), .second] [(.long j1), (.ref o0)])) rfl rfl (hb hby d12_90)
    have F21 : Fld Z h21 o0 "com/example/brief_locator/brieflocator/cbor/OpenContainers" "size" "J" (.long j1) := f23.same W21
    have N21 := Fr.snoc X21 N3 g_o0
    obtain ⟨Lh21, X21, N21⟩ := hide X21 N21 (C := 0) (S := 0) (by decide) (by decide)
    refine Outs.of st21 ?_
    refine Outs.of (U' := T21.setTop (mkF m 95 #[.val (.ref o0), .val (.long j1), .second, .val (.int (tk_v5 j1)), .val (.int (tk_v12 j1)), .val (.long (tk_v23 j1 g kw)), .second] [(.long (tk_v23 j1 g kw))])) (fun t k => ?_) ?_
    · refine XS.lload X21.here hx rfl (hb hby d12_93) rfl ?_
      exact k
    have f24 : Exa Z h21 o0 "com/example/brief_locator/brieflocator/cbor/OpenContainers" := (f22.wr W21)
    have f25 : Fld Z h21 o0 "com/example/brief_locator/brieflocator/cbor/OpenContainers" "words" "[J" (.ref a1) := ((F_o0_words.other W3 (Or.inl ne_o0_a1)).other W21 (Or.inr (slot_ne (Or.inl (hw _ (List.mem_of_getElem? (i := 12) rfl))) (Or.inl (hw _ (List.mem_of_getElem? (i := 28) rfl))) (by decide) (t := (.array .long)) (t' := .long) (by decide) (by decide))))
    have f26 : AJ Z h21 a1 .long n (tk_g43 j1 g kw) := (V3.other W21 ne_o0_a1.symm)
    exact Outs.retL X21 hx hret (hb hby d12_95) hlk (by decide) (by decide) e21 ⟨congrArg (fun z_ => some (Value.long z_)) (show (F_tk j1 nl g kw) = (tk_v23 j1 g kw) from (if_neg hc46)).symm, N21, (((Keep.refl h0 [o0, a1]).wr W3 (Or.inl (List.mem_of_getElem? (i := 1) rfl))).wr W21 (Or.inl (List.mem_of_getElem? (i := 0) rfl))), f24, f25, F21, (by rw [show (tk_out3 j1 nl g kw) = (tk_g43 j1 g kw) from (if_neg hc46)]; exact f26)⟩
theorem ef_3 (m : MethodId) (x0 : Addr) (x1 : Int64) (x2 : Int32) : entryFrame m #[(.ref x0), (.long x1), (.int x2)] 9 = mkF m 0 #[.val (.ref x0), .val (.long x1), .second, .val (.int x2), .unset, .unset, .unset, .unset, .unset] [] := by first | (simp [entryFrame, mkF, argsToLocals, Value.category]; done) | rfl
theorem d3_0 : decode prog_9_method_2_code 0 = .ok (.lload_n 1, 1) := by decide +kernel
theorem d3_1 : decode prog_9_method_2_code 1 = .ok (.lconst 1, 1) := by decide +kernel
theorem d3_2 : decode prog_9_method_2_code 2 = .ok (.ladd, 1) := by decide +kernel
theorem d3_3 : decode prog_9_method_2_code 3 = .ok (.lstore 4, 2) := by decide +kernel
theorem d3_5 : decode prog_9_method_2_code 5 = .ok (.bipush 63, 2) := by decide +kernel
theorem d3_7 : decode prog_9_method_2_code 7 = .ok (.lload 4, 2) := by decide +kernel
theorem d3_9 : decode prog_9_method_2_code 9 = .ok (.invokestatic 13, 3) := by decide +kernel
theorem d3_12 : decode prog_9_method_2_code 12 = .ok (.isub, 1) := by decide +kernel
theorem d3_13 : decode prog_9_method_2_code 13 = .ok (.istore 6, 2) := by decide +kernel
theorem d3_15 : decode prog_9_method_2_code 15 = .ok (.aload_n 0, 1) := by decide +kernel
theorem d3_16 : decode prog_9_method_2_code 16 = .ok (.getfield 19, 3) := by decide +kernel
theorem d3_19 : decode prog_9_method_2_code 19 = .ok (.ldc2_w 23, 3) := by decide +kernel
theorem d3_22 : decode prog_9_method_2_code 22 = .ok (.iload 6, 2) := by decide +kernel
theorem d3_24 : decode prog_9_method_2_code 24 = .ok (.i2l, 1) := by decide +kernel
theorem d3_25 : decode prog_9_method_2_code 25 = .ok (.lmul, 1) := by decide +kernel
theorem d3_26 : decode prog_9_method_2_code 26 = .ok (.ladd, 1) := by decide +kernel
theorem d3_27 : decode prog_9_method_2_code 27 = .ok (.lconst 1, 1) := by decide +kernel
theorem d3_28 : decode prog_9_method_2_code 28 = .ok (.ladd, 1) := by decide +kernel
theorem d3_29 : decode prog_9_method_2_code 29 = .ok (.lstore 7, 2) := by decide +kernel
theorem d3_31 : decode prog_9_method_2_code 31 = .ok (.lload 7, 2) := by decide +kernel
theorem d3_33 : decode prog_9_method_2_code 33 = .ok (.bipush 6, 2) := by decide +kernel
theorem d3_35 : decode prog_9_method_2_code 35 = .ok (.lushr, 1) := by decide +kernel
theorem d3_36 : decode prog_9_method_2_code 36 = .ok (.aload_n 0, 1) := by decide +kernel
theorem d3_37 : decode prog_9_method_2_code 37 = .ok (.getfield 7, 3) := by decide +kernel
theorem d3_40 : decode prog_9_method_2_code 40 = .ok (.arraylength, 1) := by decide +kernel
theorem d3_41 : decode prog_9_method_2_code 41 = .ok (.i2l, 1) := by decide +kernel
theorem d3_42 : decode prog_9_method_2_code 42 = .ok (.lcmp, 1) := by decide +kernel
theorem d3_43 : decode prog_9_method_2_code 43 = .ok (.ifCond .lt 21, 3) := by decide +kernel
theorem d3_64 : decode prog_9_method_2_code 64 = .ok (.aload_n 0, 1) := by decide +kernel
theorem d3_65 : decode prog_9_method_2_code 65 = .ok (.aload_n 0, 1) := by decide +kernel
theorem d3_66 : decode prog_9_method_2_code 66 = .ok (.getfield 19, 3) := by decide +kernel
theorem d3_69 : decode prog_9_method_2_code 69 = .ok (.lload 4, 2) := by decide +kernel
theorem pd_4 : parseMethodDescriptor "(JJ)V" = some ⟨[.long, .long], none⟩ := by decide +kernel
theorem d3_71 : decode prog_9_method_2_code 71 = .ok (.invokevirtual 31, 3) := by decide +kernel
theorem d3_74 : decode prog_9_method_2_code 74 = .ok (.iload_n 3, 1) := by decide +kernel
theorem d3_75 : decode prog_9_method_2_code 75 = .ok (.ifCond .eq 10, 3) := by decide +kernel
theorem d3_85 : decode prog_9_method_2_code 85 = .ok (.aload_n 0, 1) := by decide +kernel
theorem d3_86 : decode prog_9_method_2_code 86 = .ok (.lload 7, 2) := by decide +kernel
theorem d3_88 : decode prog_9_method_2_code 88 = .ok (.lconst 1, 1) := by decide +kernel
theorem d3_89 : decode prog_9_method_2_code 89 = .ok (.ladd, 1) := by decide +kernel
theorem d3_90 : decode prog_9_method_2_code 90 = .ok (.putfield 19, 3) := by decide +kernel
theorem d3_93 : decode prog_9_method_2_code 93 = .ok (.return_, 1) := by decide +kernel
theorem d3_78 : decode prog_9_method_2_code 78 = .ok (.aload_n 0, 1) := by decide +kernel
theorem d3_79 : decode prog_9_method_2_code 79 = .ok (.lload 7, 2) := by decide +kernel
theorem d3_81 : decode prog_9_method_2_code 81 = .ok (.lconst 1, 1) := by decide +kernel
theorem d3_82 : decode prog_9_method_2_code 82 = .ok (.invokevirtual 31, 3) := by decide +kernel
def op_v13 (j1 : Int64) : Int32 := ((63 : Int32) - (F_nl (j1 + (1 : Int64))))
def op_v29 (j1 : Int64) (sz : Int64) : Int64 := ((sz + ((2 : Int64) * ((op_v13 j1).toInt64))) + (1 : Int64))
def op_out3 (j1 : Int64) (i2 : Int32) (sz : Int64) (g : Nat → Int64) (k1 : Nat) (k2 : Nat) : Nat → Int64 := (if i2 = (0 : Int32) then (sb_out0 sz (j1 + (1 : Int64)) g k1) else (sb_out0 (op_v29 j1 sz) (1 : Int64) (sb_out0 sz (j1 + (1 : Int64)) g k1) k2))
def Q_op (Z : State) (o0 : Addr) (j1 : Int64) (i2 : Int32) (sz : Int64) (nl : Int32) (a1 : Addr) (n : Nat) (g : Nat → Int64) (k1 : Nat) (k2 : Nat) (h0 : Heap) (n0 : Nat) (v : Option Value) (h : Heap) (L : List Loc) : Prop := v = none ∧ Fr n0 L ∧ Keep h0 h [o0, a1] ∧ Exa Z h o0 "com/example/brief_locator/brieflocator/cbor/OpenContainers" ∧ Fld Z h o0 "com/example/brief_locator/brieflocator/cbor/OpenContainers" "words" "[J" (.ref a1) ∧ Fld Z h o0 "com/example/brief_locator/brieflocator/cbor/OpenContainers" "size" "J" (.long ((op_v29 j1 sz) + (1 : Int64))) ∧ AJ Z h a1 .long n (op_out3 j1 i2 sz g k1 k2)
set_option maxRecDepth 65536 in
set_option maxHeartbeats 40000000 in
theorem rmop (l : Launch) (Z : State) (a0 : Array Value) (hw : ∀ d ∈ tables_1, d.before a0 Z = true) (ws : List Jvm.Cond) (o0 : Addr) (j1 : Int64) (i2 : Int32) (sz : Int64) (nl : Int32) (a1 : Addr) (n : Nat) (g : Nat → Int64) (k1 : Nat) (k2 : Nat) (h0 : Heap) (n0 : Nat) (E_o0 : Exa Z h0 o0 "com/example/brief_locator/brieflocator/cbor/OpenContainers") (F_o0_words : Fld Z h0 o0 "com/example/brief_locator/brieflocator/cbor/OpenContainers" "words" "[J" (.ref a1)) (A_a1 : AJ Z h0 a1 .long n g) (ne_o0_a1 : o0 ≠ a1) (F_o0_size : Fld Z h0 o0 "com/example/brief_locator/brieflocator/cbor/OpenContainers" "size" "J" (.long sz)) (g_o0 : n0 ≤ o0) (g_a1 : n0 ≤ a1) (hl : nl.toInt = (n : Int)) (hgr : (((op_v29 j1 sz).toUInt64 >>> ((6 : Int32) &&& 0x3f).toInt64.toUInt64).toInt64) < (nl.toInt64)) (h1 : SbOk sz (j1 + (1 : Int64)) k1 n) (h2 : SbOk (op_v29 j1 sz) (1 : Int64) k2 n) :
    MetFree l (⟨"com/example/brief_locator/brieflocator/cbor/OpenContainers", "open", "(JZ)V"⟩ : MethodName) (head1 (Jvm.Cond.code (⟨"com/example/brief_locator/brieflocator/cbor/OpenContainers", "open", "(JZ)V"⟩ : MethodName) prog_9_method_2_code 9 none :: ws) ({ frames := 2, cells := 0, slots := 0, locals := 29 } : Room)) (fun a U => a = #[(.ref o0), (.long j1), (.int i2)] ∧ Z.Warmed39 U.vm ∧ U.heap = h0) (fun _ _ _ _ _ => True) (fun _ U o U' => ∃ v L, o = .returned v ∧ Q_op Z o0 j1 i2 sz nl a1 n g k1 k2 h0 n0 v U'.heap L ∧ FrameEnd U o U' L ({ frames := 2, cells := 0, slots := 0, locals := 29 } : Room).cells ({ frames := 2, cells := 0, slots := 0, locals := 29 } : Room).slots) := by
  refine MetFree.of_bodySF (plainFor_of_name pn_1) hisR ?_
  intro p e s m args below meth c s₁ Bd hml0 hP hK
  obtain ⟨rfl, hZ, hh⟩ := hP
  have hx := Bd.exec
  have hby := Bd.bytes
  have hml : c.maxLocals = 9 := hml0
  have hown : s.vm.findClass "com/example/brief_locator/brieflocator/cbor/OpenContainers" = some m.cls := findClass_of_methodNamed Bd.named
  have hnm := (name_of_methodNamed Bd.named Bd.method).1
  have hret := Bd.returns
  have hlk : meth.locks = false := BodyLoose.notSynchronized Bd
  have X0 : Stand p l e ({ frames := 2, cells := 0, slots := 0, locals := 29 } : Room) s m #[(.ref o0), (.long j1), (.int i2)] below meth c s₁ [] 0 0 := Stand.of_body Bd
  have e0 : s₁.heap = h0 := by rw [← hh, Bd.state]; rfl
  have N0 := Fr.nil n0
  show Outs p e below s (Q_op Z o0 j1 i2 sz nl a1 n g k1 k2 h0 n0) _ _ _
  refine Outs.of (U' := s₁.setTop (mkF m 0 #[.val (.ref o0), .val (.long j1), .second, .val (.int i2), .unset, .unset, .unset, .unset, .unset] [])) (fun t k => castTop (ef_3 m o0 j1 i2) k) ?_
  refine Outs.of (U' := s₁.setTop (mkF m 9 #[.val (.ref o0), .val (.long j1), .second, .val (.int i2), .val (.long (j1 + (1 : Int64))), .second, .unset, .unset, .unset] [(.long (j1 + (1 : Int64))), (.int (63 : Int32))])) (fun t k => ?_) ?_
  · refine XS.lloadN X0.here hx rfl (hb hby d3_0) rfl ?_
    refine XS.lconst X0.here hx rfl (hb hby d3_1) ?_
    refine XS.ladd X0.here hx rfl (hb hby d3_2) rfl ?_
    refine XS.lstore X0.here hx rfl (hb hby d3_3) rfl (l' := #[.val (.ref o0), .val (.long j1), .second, .val (.int i2), .val (.long (j1 + (1 : Int64))), .second, .unset, .unset, .unset]) rfl ?_
    refine XS.bipush X0.here hx rfl (hb hby d3_5) ?_
    refine XS.lload X0.here hx rfl (hb hby d3_7) rfl ?_
    exact k
  obtain ⟨_, _, ⟨T1, L1, k1, n1⟩, -, X1, ⟨Lc1, hQ1, l1, y1, z1⟩, st1⟩ := Jvm.LawKit.callS X0 hx (y := (⟨"java/lang/Long", "numberOfLeadingZeros", "(J)I"⟩ : MethodName)) hown (mvT hZ (hw _ (List.mem_of_getElem? (i := 18) rfl))) (mvT hZ (hw _ (List.mem_of_getElem? (i := 19) rfl))) (mvT hZ (hw _ (List.mem_of_getElem? (i := 20) rfl))) (mvT hZ (hw _ (List.mem_of_getElem? (i := 21) rfl))) (by decide) (backOf (W := 1) (rm4 l Z a0 hw [] (j1 + (1 : Int64)) h0 n0 ) hZ (hw _ (List.mem_of_getElem? (i := 21) rfl)) (hw _ (List.mem_of_getElem? (i := 20) rfl)) (by decide) (by decide)) (g := (mkF m 9 #[.val (.ref o0), .val (.long j1), .second, .val (.int i2), .val (.long (j1 + (1 : Int64))), .second, .unset, .unset, .unset] [(.long (j1 + (1 : Int64))), (.int (63 : Int32))])) rfl (by rw [hml]; rfl) (argsL := [(.long (j1 + (1 : Int64)))]) (rest := [(.int (63 : Int32))]) (lenOf pd_2 rfl) rfl (by show 2 * 0 + _ ≤ _; exact Nat.le_of_eq rfl) (hb hby d3_9) (fun _ _ => ⟨rfl, e0, (by decide : 0 + 0 ≤ _), (by decide : 0 + 0 ≤ _)⟩)
  dsimp only [Pt.U, Pt.locs, Pt.cells, Pt.slots] at X1 l1 y1 z1 st1 hQ1
  subst l1 y1 z1
  obtain ⟨rfl, N1q, e1⟩ := hQ1
  have N1 := Fr.app N0 N1q
  obtain ⟨Lh1, X1, N1⟩ := hide X1 N1 (C := 0) (S := 0) (by decide) (by decide)
  refine Outs.of st1 ?_
  refine Outs.of (U' := T1.setTop (mkF m 16 #[.val (.ref o0), .val (.long j1), .second, .val (.int i2), .val (.long (j1 + (1 : Int64))), .second, .val (.int (op_v13 j1)), .unset, .unset] [(.ref o0)])) (fun t k => ?_) ?_
  · refine XS.isub X1.here hx rfl (hb hby d3_12) rfl ?_
    refine XS.istore X1.here hx rfl (hb hby d3_13) rfl (l' := #[.val (.ref o0), .val (.long j1), .second, .val (.int i2), .val (.long (j1 + (1 : Int64))), .second, .val (.int (op_v13 j1)), .unset, .unset]) rfl ?_
    refine XS.aloadN X1.here hx rfl (hb hby d3_15) rfl rfl ?_
    exact k
  obtain ⟨T2, X2, e2, st2⟩ := getF X1 hx hZ hown (host := "") (Or.inl (hw _ (List.mem_of_getElem? (i := 27) rfl))) Via.refl e1 F_o0_size (g := (mkF m 16 #[.val (.ref o0), .val (.long j1), .second, .val (.int i2), .val (.long (j1 + (1 : Int64))), .second, .val (.int (op_v13 j1)), .unset, .unset] [(.ref o0)])) rfl rfl (hb hby d3_16)
  refine Outs.of st2 ?_
  refine Outs.of (U' := T2.setTop (mkF m 37 #[.val (.ref o0), .val (.long j1), .second, .val (.int i2), .val (.long (j1 + (1 : Int64))), .second, .val (.int (op_v13 j1)), .val (.long (op_v29 j1 sz)), .second] [(.ref o0), (.long (((op_v29 j1 sz).toUInt64 >>> ((6 : Int32) &&& 0x3f).toInt64.toUInt64).toInt64))])) (fun t k => ?_) ?_
  · refine X2.ldc2Long hx hown (mvT hZ (hw _ (List.mem_of_getElem? (i := 29) rfl))) (g := (mkF m 19 #[.val (.ref o0), .val (.long j1), .second, .val (.int i2), .val (.long (j1 + (1 : Int64))), .second, .val (.int (op_v13 j1)), .unset, .unset] [(.long sz)])) rfl (hb hby d3_19) _ ?_
    refine XS.iload X2.here hx rfl (hb hby d3_22) rfl ?_
    refine XS.i2l X2.here hx rfl (hb hby d3_24) rfl ?_
    refine XS.lmul X2.here hx rfl (hb hby d3_25) rfl ?_
    refine XS.ladd X2.here hx rfl (hb hby d3_26) rfl ?_
    refine XS.lconst X2.here hx rfl (hb hby d3_27) ?_
    refine XS.ladd X2.here hx rfl (hb hby d3_28) rfl ?_
    refine XS.lstore X2.here hx rfl (hb hby d3_29) rfl (l' := #[.val (.ref o0), .val (.long j1), .second, .val (.int i2), .val (.long (j1 + (1 : Int64))), .second, .val (.int (op_v13 j1)), .val (.long (op_v29 j1 sz)), .second]) rfl ?_
    refine XS.lload X2.here hx rfl (hb hby d3_31) rfl ?_
    refine XS.bipush X2.here hx rfl (hb hby d3_33) ?_
    refine XS.lushr X2.here hx rfl (hb hby d3_35) rfl ?_
    refine XS.aloadN X2.here hx rfl (hb hby d3_36) rfl rfl ?_
    exact k
  obtain ⟨T3, X3, e3, st3⟩ := getF X2 hx hZ hown (host := "") (Or.inl (hw _ (List.mem_of_getElem? (i := 11) rfl))) Via.refl e2 F_o0_words (g := (mkF m 37 #[.val (.ref o0), .val (.long j1), .second, .val (.int i2), .val (.long (j1 + (1 : Int64))), .second, .val (.int (op_v13 j1)), .val (.long (op_v29 j1 sz)), .second] [(.ref o0), (.long (((op_v29 j1 sz).toUInt64 >>> ((6 : Int32) &&& 0x3f).toInt64.toUInt64).toInt64))])) rfl rfl (hb hby d3_37)
  refine Outs.of st3 ?_
  refine Outs.of (alen X3 hx hZ e3 A_a1 (z := nl) hl (f := (mkF m 40 #[.val (.ref o0), .val (.long j1), .second, .val (.int i2), .val (.long (j1 + (1 : Int64))), .second, .val (.int (op_v13 j1)), .val (.long (op_v29 j1 sz)), .second] [(.ref a1), (.long (((op_v29 j1 sz).toUInt64 >>> ((6 : Int32) &&& 0x3f).toInt64.toUInt64).toInt64))])) rfl rfl (hb hby d3_40)) ?_
  refine Outs.of (U' := T3.setTop (mkF m 66 #[.val (.ref o0), .val (.long j1), .second, .val (.int i2), .val (.long (j1 + (1 : Int64))), .second, .val (.int (op_v13 j1)), .val (.long (op_v29 j1 sz)), .second] [(.ref o0), (.ref o0)])) (fun t k => ?_) ?_
  · refine XS.i2l X3.here hx rfl (hb hby d3_41) rfl ?_
    refine XS.lcmp X3.here hx rfl (hb hby d3_42) rfl ?_
    refine XS.ifYes X3.here hx rfl (pc0 := 43) (pc' := 64) rfl (hb hby d3_43) rfl ((if0 _ _).trans (tlt ((lw_lt _ _).mpr hgr)).1) (by decide) (by decide) ?_
    refine XS.aloadN X3.here hx rfl (hb hby d3_64) rfl rfl ?_
    refine XS.aloadN X3.here hx rfl (hb hby d3_65) rfl rfl ?_
    exact k
  obtain ⟨T4, X4, e4, st4⟩ := getF X3 hx hZ hown (host := "") (Or.inl (hw _ (List.mem_of_getElem? (i := 27) rfl))) Via.refl e3 F_o0_size (g := (mkF m 66 #[.val (.ref o0), .val (.long j1), .second, .val (.int i2), .val (.long (j1 + (1 : Int64))), .second, .val (.int (op_v13 j1)), .val (.long (op_v29 j1 sz)), .second] [(.ref o0), (.ref o0)])) rfl rfl (hb hby d3_66)
  refine Outs.of st4 ?_
  refine Outs.of (U' := T4.setTop (mkF m 71 #[.val (.ref o0), .val (.long j1), .second, .val (.int i2), .val (.long (j1 + (1 : Int64))), .second, .val (.int (op_v13 j1)), .val (.long (op_v29 j1 sz)), .second] [(.long (j1 + (1 : Int64))), (.long sz), (.ref o0)])) (fun t k => ?_) ?_
  · refine XS.lload X4.here hx rfl (hb hby d3_69) rfl ?_
    exact k
  obtain ⟨cq5, q5, q5'⟩ := E_o0.cell
  obtain ⟨_, _, ⟨T5, L5, k5, n5⟩, -, X5, ⟨Lc5, hQ5, l5, y5, z5⟩, st5⟩ := X4.privateBack hx (y := (⟨"com/example/brief_locator/brieflocator/cbor/OpenContainers", "setBits", "(JJ)V"⟩ : MethodName)) hown (mvT hZ (hw _ (List.mem_of_getElem? (i := 30) rfl))) (mvT hZ (hw _ (List.mem_of_getElem? (i := 31) rfl))) (own_selects (mvT hZ (hw _ (List.mem_of_getElem? (i := 2) rfl))) (Cond.privateMethod_at (mvP hZ (hw _ (List.mem_of_getElem? (i := 32) rfl)) (args := #[]))) (mvT hZ (hw _ (List.mem_of_getElem? (i := 31) rfl))) (by decide)) (Cond.privateMethod_at (mvP hZ (hw _ (List.mem_of_getElem? (i := 32) rfl)) (args := #[]))) (mvT hZ (hw _ (List.mem_of_getElem? (i := 33) rfl))) (by decide) (backOf (W := 0) (rmsb l Z a0 hw [] o0 sz (j1 + (1 : Int64)) a1 n g k1 h0 n0 E_o0 F_o0_words A_a1 ne_o0_a1 g_a1 h1) hZ (hw _ (List.mem_of_getElem? (i := 33) rfl)) (hw _ (List.mem_of_getElem? (i := 3) rfl)) (by decide) (by decide)) (g := (mkF m 71 #[.val (.ref o0), .val (.long j1), .second, .val (.int i2), .val (.long (j1 + (1 : Int64))), .second, .val (.int (op_v13 j1)), .val (.long (op_v29 j1 sz)), .second] [(.long (j1 + (1 : Int64))), (.long sz), (.ref o0)])) rfl (by rw [hml]; rfl) (Steps.refl _) (a := o0) (by rw [e4]; exact q5) q5' (argsL := [(.long sz), (.long (j1 + (1 : Int64)))]) (rest := []) (lenOf pd_4 rfl) rfl (by show 2 * 0 + _ ≤ _; exact Nat.le_of_eq rfl) (hb hby d3_71) (fun _ _ => ⟨rfl, e4, (by decide : 0 + 0 ≤ _), (by decide : 0 + 0 ≤ _)⟩)
  dsimp only [Pt.U, Pt.locs, Pt.cells, Pt.slots] at X5 l5 y5 z5 st5 hQ5
  subst l5 y5 z5
  obtain ⟨rfl, N5q, K5, u5_0⟩ := hQ5
  have N5 := Fr.app N1 N5q
  obtain ⟨Lh5, X5, N5⟩ := hide X5 N5 (C := 0) (S := 0) (by decide) (by decide)
  refine Outs.to st5 ?_
  refine Outs.of (U' := T5.setTop (mkF m 75 #[.val (.ref o0), .val (.long j1), .second, .val (.int i2), .val (.long (j1 + (1 : Int64))), .second, .val (.int (op_v13 j1)), .val (.long (op_v29 j1 sz)), .second] [(.int i2)])) (fun t k => ?_) ?_
  · refine XS.iloadN X5.here hx rfl (hb hby d3_74) rfl ?_
    exact k
  by_cases hc75 : i2 = (0 : Int32)
  · refine Outs.of (U' := T5.setTop (mkF m 85 #[.val (.ref o0), .val (.long j1), .second, .val (.int i2), .val (.long (j1 + (1 : Int64))), .second, .val (.int (op_v13 j1)), .val (.long (op_v29 j1 sz)), .second] [])) (fun t k => ?_) ?_
    · refine XS.ifYes X5.here hx rfl (pc0 := 75) (pc' := 85) rfl (hb hby d3_75) rfl ((if0 _ _).trans (teq hc75).1) (by decide) (by decide) ?_
      exact k
    refine Outs.of (U' := T5.setTop (mkF m 90 #[.val (.ref o0), .val (.long j1), .second, .val (.int i2), .val (.long (j1 + (1 : Int64))), .second, .val (.int (op_v13 j1)), .val (.long (op_v29 j1 sz)), .second] [(.long ((op_v29 j1 sz) + (1 : Int64))), (.ref o0)])) (fun t k => ?_) ?_
    · refine XS.aloadN X5.here hx rfl (hb hby d3_85) rfl rfl ?_
      refine XS.lload X5.here hx rfl (hb hby d3_86) rfl ?_
      refine XS.lconst X5.here hx rfl (hb hby d3_88) ?_
      refine XS.ladd X5.here hx rfl (hb hby d3_89) rfl ?_
      exact k
    have f7 : Exa Z T5.heap o0 "com/example/brief_locator/brieflocator/cbor/OpenContainers" := (E_o0.keep K5)
    have f8 : Fld Z T5.heap o0 "com/example/brief_locator/brieflocator/cbor/OpenContainers" "size" "J" (.long sz) := (F_o0_size.keep K5 (ninS ne_o0_a1 nin0))
    obtain ⟨T6, h6, X6, e6, W6, st6⟩ := putF X5 hx hZ hown (host := "") (Or.inl (hw _ (List.mem_of_getElem? (i := 27) rfl))) Via.refl rfl f8 f7 (Or.inl (hw _ (List.mem_of_getElem? (i := 28) rfl))) (hw _ (List.mem_of_getElem? (i := 2) rfl)) (ty := .long) (by decide) rfl rfl (g := (mkF m 90 #[.val (.ref o0), .val (.long j1), .second, .val (.int i2), .val (.long (j1 + (1 : Int64))), .second, .val (.int (op_v13 j1)), .val (.long (op_v29 j1 sz)), .second] [(.long ((op_v29 j1 sz) + (1 : Int64))), (.ref o0)])) rfl rfl (hb hby d3_90)
    have F6 : Fld Z h6 o0 "com/example/brief_locator/brieflocator/cbor/OpenContainers" "size" "J" (.long ((op_v29 j1 sz) + (1 : Int64))) := f8.same W6
    have N6 := Fr.snoc X6 N5 g_o0
    obtain ⟨Lh6, X6, N6⟩ := hide X6 N6 (C := 0) (S := 0) (by decide) (by decide)
    refine Outs.of st6 ?_
    have f9 : Exa Z h6 o0 "com/example/brief_locator/brieflocator/cbor/OpenContainers" := (f7.wr W6)
    have f10 : Fld Z h6 o0 "com/example/brief_locator/brieflocator/cbor/OpenContainers" "words" "[J" (.ref a1) := ((F_o0_words.keep K5 (ninS ne_o0_a1 nin0)).other W6 (Or.inr (slot_ne (Or.inl (hw _ (List.mem_of_getElem? (i := 12) rfl))) (Or.inl (hw _ (List.mem_of_getElem? (i := 28) rfl))) (by decide) (t := (.array .long)) (t' := .long) (by decide) (by decide))))
    have f11 : AJ Z h6 a1 .long n (sb_out0 sz (j1 + (1 : Int64)) g k1) := (u5_0.other W6 ne_o0_a1.symm)
    exact Outs.retV X6 hx hret (hb hby d3_93) hlk (by decide) (by decide) e6 ⟨rfl, N6, (((Keep.refl h0 [o0, a1]).trans K5 (allS (Or.inl (List.mem_of_getElem? (i := 1) rfl)) all0)).wr W6 (Or.inl (List.mem_of_getElem? (i := 0) rfl))), f9, f10, F6, (by rw [show (op_out3 j1 i2 sz g k1 k2) = (sb_out0 sz (j1 + (1 : Int64)) g k1) from (if_pos hc75)]; exact f11)⟩
  · refine Outs.of (U' := T5.setTop (mkF m 78 #[.val (.ref o0), .val (.long j1), .second, .val (.int i2), .val (.long (j1 + (1 : Int64))), .second, .val (.int (op_v13 j1)), .val (.long (op_v29 j1 sz)), .second] [])) (fun t k => ?_) ?_
    · refine XS.ifNo X5.here hx rfl (hb hby d3_75) rfl ((if0 _ _).trans (feq hc75).1) ?_
      exact k
    refine Outs.of (U' := T5.setTop (mkF m 82 #[.val (.ref o0), .val (.long j1), .second, .val (.int i2), .val (.long (j1 + (1 : Int64))), .second, .val (.int (op_v13 j1)), .val (.long (op_v29 j1 sz)), .second] [(.long (1 : Int64)), (.long (op_v29 j1 sz)), (.ref o0)])) (fun t k => ?_) ?_
    · refine XS.aloadN X5.here hx rfl (hb hby d3_78) rfl rfl ?_
      refine XS.lload X5.here hx rfl (hb hby d3_79) rfl ?_
      refine XS.lconst X5.here hx rfl (hb hby d3_81) ?_
      exact k
    have f13 : Exa Z T5.heap o0 "com/example/brief_locator/brieflocator/cbor/OpenContainers" := (E_o0.keep K5)
    have f14 : Fld Z T5.heap o0 "com/example/brief_locator/brieflocator/cbor/OpenContainers" "words" "[J" (.ref a1) := (F_o0_words.keep K5 (ninS ne_o0_a1 nin0))
    obtain ⟨cq12, q12, q12'⟩ := f13.cell
    obtain ⟨_, _, ⟨T12, L12, k12, n12⟩, -, X12, ⟨Lc12, hQ12, l12, y12, z12⟩, st12⟩ := X5.privateBack hx (y := (⟨"com/example/brief_locator/brieflocator/cbor/OpenContainers", "setBits", "(JJ)V"⟩ : MethodName)) hown (mvT hZ (hw _ (List.mem_of_getElem? (i := 30) rfl))) (mvT hZ (hw _ (List.mem_of_getElem? (i := 31) rfl))) (own_selects (mvT hZ (hw _ (List.mem_of_getElem? (i := 2) rfl))) (Cond.privateMethod_at (mvP hZ (hw _ (List.mem_of_getElem? (i := 32) rfl)) (args := #[]))) (mvT hZ (hw _ (List.mem_of_getElem? (i := 31) rfl))) (by decide)) (Cond.privateMethod_at (mvP hZ (hw _ (List.mem_of_getElem? (i := 32) rfl)) (args := #[]))) (mvT hZ (hw _ (List.mem_of_getElem? (i := 33) rfl))) (by decide) (backOf (W := 0) (rmsb l Z a0 hw [] o0 (op_v29 j1 sz) (1 : Int64) a1 n (sb_out0 sz (j1 + (1 : Int64)) g k1) k2 T5.heap n0 f13 f14 u5_0 ne_o0_a1 g_a1 h2) hZ (hw _ (List.mem_of_getElem? (i := 33) rfl)) (hw _ (List.mem_of_getElem? (i := 3) rfl)) (by decide) (by decide)) (g := (mkF m 82 #[.val (.ref o0), .val (.long j1), .second, .val (.int i2), .val (.long (j1 + (1 : Int64))), .second, .val (.int (op_v13 j1)), .val (.long (op_v29 j1 sz)), .second] [(.long (1 : Int64)), (.long (op_v29 j1 sz)), (.ref o0)])) rfl (by rw [hml]; rfl) (Steps.refl _) (a := o0) q12 q12' (argsL := [(.long (op_v29 j1 sz)), (.long (1 : Int64))]) (rest := []) (lenOf pd_4 rfl) rfl (by show 2 * 0 + _ ≤ _; exact Nat.le_of_eq rfl) (hb hby d3_82) (fun _ _ => ⟨rfl, rfl, (by decide : 0 + 0 ≤ _), (by decide : 0 + 0 ≤ _)⟩)
    dsimp only [Pt.U, Pt.locs, Pt.cells, Pt.slots] at X12 l12 y12 z12 st12 hQ12
    subst l12 y12 z12
    obtain ⟨rfl, N12q, K12, u12_0⟩ := hQ12
    have N12 := Fr.app N5 N12q
    obtain ⟨Lh12, X12, N12⟩ := hide X12 N12 (C := 0) (S := 0) (by decide) (by decide)
    refine Outs.to st12 ?_
    refine Outs.of (U' := T12.setTop (mkF m 90 #[.val (.ref o0), .val (.long j1), .second, .val (.int i2), .val (.long (j1 + (1 : Int64))), .second, .val (.int (op_v13 j1)), .val (.long (op_v29 j1 sz)), .second] [(.long ((op_v29 j1 sz) + (1 : Int64))), (.ref o0)])) (fun t k => ?_) ?_
    · refine XS.aloadN X12.here hx rfl (hb hby d3_85) rfl rfl ?_
      refine XS.lload X12.here hx rfl (hb hby d3_86) rfl ?_
      refine XS.lconst X12.here hx rfl (hb hby d3_88) ?_
      refine XS.ladd X12.here hx rfl (hb hby d3_89) rfl ?_
      exact k
    have f16 : Exa Z T12.heap o0 "com/example/brief_locator/brieflocator/cbor/OpenContainers" := (f13.keep K12)
    have f17 : Fld Z T12.heap o0 "com/example/brief_locator/brieflocator/cbor/OpenContainers" "size" "J" (.long sz) := ((F_o0_size.keep K5 (ninS ne_o0_a1 nin0)).keep K12 (ninS ne_o0_a1 nin0))
    obtain ⟨T15, h15, X15, e15, W15, st15⟩ := putF X12 hx hZ hown (host := "") (Or.inl (hw _ (List.mem_of_getElem? (i := 27) rfl))) Via.refl rfl f17 f16 (Or.inl (hw _ (List.mem_of_getElem? (i := 28) rfl))) (hw _ (List.mem_of_getElem? (i := 2) rfl)) (ty := .long) (by decide) rfl rfl (g := (mkF m 90 #[.val (.ref o0), .val (.long j1), .second, .val (.int i2), .val (.long (j1 + (1 : Int64))), .second, .val (.int (op_v13 j1)), .val (.long (op_v29 j1 sz)), .second] [(.long ((op_v29 j1 sz) + (1 : Int64))), (.ref o0)])) rfl rfl (hb hby d3_90)
    have F15 : Fld Z h15 o0 "com/example/brief_locator/brieflocator/cbor/OpenContainers" "size" "J" (.long ((op_v29 j1 sz) + (1 : Int64))) := f17.same W15
    have N15 := Fr.snoc X15 N12 g_o0
    obtain ⟨Lh15, X15, N15⟩ := hide X15 N15 (C := 0) (S := 0) (by decide) (by decide)
    refine Outs.of st15 ?_
    have f18 : Exa Z h15 o0 "com/example/brief_locator/brieflocator/cbor/OpenContainers" := (f16.wr W15)
    have f19 : Fld Z h15 o0 "com/example/brief_locator/brieflocator/cbor/OpenContainers" "words" "[J" (.ref a1) := ((f14.keep K12 (ninS ne_o0_a1 nin0)).other W15 (Or.inr (slot_ne (Or.inl (hw _ (List.mem_of_getElem? (i := 12) rfl))) (Or.inl (hw _ (List.mem_of_getElem? (i := 28) rfl))) (by decide) (t := (.array .long)) (t' := .long) (by decide) (by decide))))
    have f20 : AJ Z h15 a1 .long n (sb_out0 (op_v29 j1 sz) (1 : Int64) (sb_out0 sz (j1 + (1 : Int64)) g k1) k2) := (u12_0.other W15 ne_o0_a1.symm)
    exact Outs.retV X15 hx hret (hb hby d3_93) hlk (by decide) (by decide) e15 ⟨rfl, N15, ((((Keep.refl h0 [o0, a1]).trans K5 (allS (Or.inl (List.mem_of_getElem? (i := 1) rfl)) all0)).trans K12 (allS (Or.inl (List.mem_of_getElem? (i := 1) rfl)) all0)).wr W15 (Or.inl (List.mem_of_getElem? (i := 0) rfl))), f18, f19, F15, (by rw [show (op_out3 j1 i2 sz g k1 k2) = (sb_out0 (op_v29 j1 sz) (1 : Int64) (sb_out0 sz (j1 + (1 : Int64)) g k1) k2) from (if_neg hc75)]; exact f20)⟩
theorem d3_46 : decode prog_9_method_2_code 46 = .ok (.aload_n 0, 1) := by decide +kernel
theorem d3_47 : decode prog_9_method_2_code 47 = .ok (.aload_n 0, 1) := by decide +kernel
theorem d3_48 : decode prog_9_method_2_code 48 = .ok (.getfield 7, 3) := by decide +kernel
theorem d3_51 : decode prog_9_method_2_code 51 = .ok (.iconst 2, 1) := by decide +kernel
theorem d3_52 : decode prog_9_method_2_code 52 = .ok (.aload_n 0, 1) := by decide +kernel
theorem d3_53 : decode prog_9_method_2_code 53 = .ok (.getfield 7, 3) := by decide +kernel
theorem d3_56 : decode prog_9_method_2_code 56 = .ok (.arraylength, 1) := by decide +kernel
theorem d3_57 : decode prog_9_method_2_code 57 = .ok (.imul, 1) := by decide +kernel
theorem pd_6 : parseMethodDescriptor "([JI)[J" = some ⟨[(.array .long), .int], some (.array .long)⟩ := by decide +kernel
theorem d3_58 : decode prog_9_method_2_code 58 = .ok (.invokestatic 25, 3) := by decide +kernel
theorem d3_61 : decode prog_9_method_2_code 61 = .ok (.putfield 7, 3) := by decide +kernel
def og1_v13 (j1 : Int64) : Int32 := ((63 : Int32) - (F_nl (j1 + (1 : Int64))))
def og1_v29 (j1 : Int64) (sz : Int64) : Int64 := ((sz + ((2 : Int64) * ((og1_v13 j1).toInt64))) + (1 : Int64))
def og1_out3 (j1 : Int64) (i2 : Int32) (sz : Int64) (g : Nat → Int64) (k1 : Nat) (k2 : Nat) : Nat → Int64 := (if i2 = (0 : Int32) then (sb_out0 sz (j1 + (1 : Int64)) (cp1_g28 g) k1) else (sb_out0 (og1_v29 j1 sz) (1 : Int64) (sb_out0 sz (j1 + (1 : Int64)) (cp1_g28 g) k1) k2))
def Q_og1 (Z : State) (o0 : Addr) (j1 : Int64) (i2 : Int32) (sz : Int64) (a1 : Addr) (g : Nat → Int64) (k1 : Nat) (k2 : Nat) (h0 : Heap) (n0 : Nat) (v : Option Value) (h : Heap) (L : List Loc) : Prop := ∃ b6 : Addr, n0 ≤ b6 ∧ h0.size ≤ b6 ∧ v = none ∧ Fr n0 L ∧ Keep h0 h [o0] ∧ Exa Z h o0 "com/example/brief_locator/brieflocator/cbor/OpenContainers" ∧ Fld Z h o0 "com/example/brief_locator/brieflocator/cbor/OpenContainers" "words" "[J" (.ref b6) ∧ Fld Z h o0 "com/example/brief_locator/brieflocator/cbor/OpenContainers" "size" "J" (.long ((og1_v29 j1 sz) + (1 : Int64))) ∧ AJ Z h b6 .long 2 (og1_out3 j1 i2 sz g k1 k2)
set_option maxRecDepth 65536 in
set_option maxHeartbeats 40000000 in
theorem rmog1 (l : Launch) (Z : State) (a0 : Array Value) (hw : ∀ d ∈ tables_1, d.before a0 Z = true) (ws : List Jvm.Cond) (o0 : Addr) (j1 : Int64) (i2 : Int32) (sz : Int64) (a1 : Addr) (g : Nat → Int64) (k1 : Nat) (k2 : Nat) (h0 : Heap) (n0 : Nat) (Z0 : n0 ≤ h0.size) (E_o0 : Exa Z h0 o0 "com/example/brief_locator/brieflocator/cbor/OpenContainers") (F_o0_words : Fld Z h0 o0 "com/example/brief_locator/brieflocator/cbor/OpenContainers" "words" "[J" (.ref a1)) (A_a1 : AJ Z h0 a1 .long 1 g) (ne_o0_a1 : o0 ≠ a1) (F_o0_size : Fld Z h0 o0 "com/example/brief_locator/brieflocator/cbor/OpenContainers" "size" "J" (.long sz)) (g_o0 : n0 ≤ o0) (hgr : ¬ (((op_v29 j1 sz).toUInt64 >>> ((6 : Int32) &&& 0x3f).toInt64.toUInt64).toInt64) < (1 : Int64)) (h1 : SbOk sz (j1 + (1 : Int64)) k1 2) (h2 : SbOk (op_v29 j1 sz) (1 : Int64) k2 2) :
    MetFree l (⟨"com/example/brief_locator/brieflocator/cbor/OpenContainers", "open", "(JZ)V"⟩ : MethodName) (head1 (Jvm.Cond.code (⟨"com/example/brief_locator/brieflocator/cbor/OpenContainers", "open", "(JZ)V"⟩ : MethodName) prog_9_method_2_code 9 none :: ws) ({ frames := 2, cells := 1, slots := 2, locals := 33 } : Room)) (fun a U => a = #[(.ref o0), (.long j1), (.int i2)] ∧ Z.Warmed39 U.vm ∧ U.heap = h0) (fun _ _ _ _ _ => True) (fun _ U o U' => ∃ v L, o = .returned v ∧ Q_og1 Z o0 j1 i2 sz a1 g k1 k2 h0 n0 v U'.heap L ∧ FrameEnd U o U' L ({ frames := 2, cells := 1, slots := 2, locals := 33 } : Room).cells ({ frames := 2, cells := 1, slots := 2, locals := 33 } : Room).slots) := by
  refine MetFree.of_bodySF (plainFor_of_name pn_1) hisR ?_
  intro p e s m args below meth c s₁ Bd hml0 hP hK
  obtain ⟨rfl, hZ, hh⟩ := hP
  have hx := Bd.exec
  have hby := Bd.bytes
  have hml : c.maxLocals = 9 := hml0
  have hown : s.vm.findClass "com/example/brief_locator/brieflocator/cbor/OpenContainers" = some m.cls := findClass_of_methodNamed Bd.named
  have hnm := (name_of_methodNamed Bd.named Bd.method).1
  have hret := Bd.returns
  have hlk : meth.locks = false := BodyLoose.notSynchronized Bd
  have X0 : Stand p l e ({ frames := 2, cells := 1, slots := 2, locals := 33 } : Room) s m #[(.ref o0), (.long j1), (.int i2)] below meth c s₁ [] 0 0 := Stand.of_body Bd
  have e0 : s₁.heap = h0 := by rw [← hh, Bd.state]; rfl
  have N0 := Fr.nil n0
  show Outs p e below s (Q_og1 Z o0 j1 i2 sz a1 g k1 k2 h0 n0) _ _ _
  refine Outs.of (U' := s₁.setTop (mkF m 0 #[.val (.ref o0), .val (.long j1), .second, .val (.int i2), .unset, .unset, .unset, .unset, .unset] [])) (fun t k => castTop (ef_3 m o0 j1 i2) k) ?_
  refine Outs.of (U' := s₁.setTop (mkF m 9 #[.val (.ref o0), .val (.long j1), .second, .val (.int i2), .val (.long (j1 + (1 : Int64))), .second, .unset, .unset, .unset] [(.long (j1 + (1 : Int64))), (.int (63 : Int32))])) (fun t k => ?_) ?_
  · refine XS.lloadN X0.here hx rfl (hb hby d3_0) rfl ?_
    refine XS.lconst X0.here hx rfl (hb hby d3_1) ?_
    refine XS.ladd X0.here hx rfl (hb hby d3_2) rfl ?_
    refine XS.lstore X0.here hx rfl (hb hby d3_3) rfl (l' := #[.val (.ref o0), .val (.long j1), .second, .val (.int i2), .val (.long (j1 + (1 : Int64))), .second, .unset, .unset, .unset]) rfl ?_
    refine XS.bipush X0.here hx rfl (hb hby d3_5) ?_
    refine XS.lload X0.here hx rfl (hb hby d3_7) rfl ?_
    exact k
  obtain ⟨_, _, ⟨T1, L1, k1, n1⟩, -, X1, ⟨Lc1, hQ1, l1, y1, z1⟩, st1⟩ := Jvm.LawKit.callS X0 hx (y := (⟨"java/lang/Long", "numberOfLeadingZeros", "(J)I"⟩ : MethodName)) hown (mvT hZ (hw _ (List.mem_of_getElem? (i := 18) rfl))) (mvT hZ (hw _ (List.mem_of_getElem? (i := 19) rfl))) (mvT hZ (hw _ (List.mem_of_getElem? (i := 20) rfl))) (mvT hZ (hw _ (List.mem_of_getElem? (i := 21) rfl))) (by decide) (backOf (W := 1) (rm4 l Z a0 hw [] (j1 + (1 : Int64)) h0 n0 ) hZ (hw _ (List.mem_of_getElem? (i := 21) rfl)) (hw _ (List.mem_of_getElem? (i := 20) rfl)) (by decide) (by decide)) (g := (mkF m 9 #[.val (.ref o0), .val (.long j1), .second, .val (.int i2), .val (.long (j1 + (1 : Int64))), .second, .unset, .unset, .unset] [(.long (j1 + (1 : Int64))), (.int (63 : Int32))])) rfl (by rw [hml]; rfl) (argsL := [(.long (j1 + (1 : Int64)))]) (rest := [(.int (63 : Int32))]) (lenOf pd_2 rfl) rfl (by show 2 * 0 + _ ≤ _; exact Nat.le_of_eq rfl) (hb hby d3_9) (fun _ _ => ⟨rfl, e0, (by decide : 0 + 0 ≤ _), (by decide : 0 + 0 ≤ _)⟩)
  dsimp only [Pt.U, Pt.locs, Pt.cells, Pt.slots] at X1 l1 y1 z1 st1 hQ1
  subst l1 y1 z1
  obtain ⟨rfl, N1q, e1⟩ := hQ1
  have N1 := Fr.app N0 N1q
  obtain ⟨Lh1, X1, N1⟩ := hide X1 N1 (C := 0) (S := 0) (by decide) (by decide)
  refine Outs.of st1 ?_
  refine Outs.of (U' := T1.setTop (mkF m 16 #[.val (.ref o0), .val (.long j1), .second, .val (.int i2), .val (.long (j1 + (1 : Int64))), .second, .val (.int (og1_v13 j1)), .unset, .unset] [(.ref o0)])) (fun t k => ?_) ?_
  · refine XS.isub X1.here hx rfl (hb hby d3_12) rfl ?_
    refine XS.istore X1.here hx rfl (hb hby d3_13) rfl (l' := #[.val (.ref o0), .val (.long j1), .second, .val (.int i2), .val (.long (j1 + (1 : Int64))), .second, .val (.int (og1_v13 j1)), .unset, .unset]) rfl ?_
    refine XS.aloadN X1.here hx rfl (hb hby d3_15) rfl rfl ?_
    exact k
  obtain ⟨T2, X2, e2, st2⟩ := getF X1 hx hZ hown (host := "") (Or.inl (hw _ (List.mem_of_getElem? (i := 27) rfl))) Via.refl e1 F_o0_size (g := (mkF m 16 #[.val (.ref o0), .val (.long j1), .second, .val (.int i2), .val (.long (j1 + (1 : Int64))), .second, .val (.int (og1_v13 j1)), .unset, .unset] [(.ref o0)])) rfl rfl (hb hby d3_16)
  refine Outs.of st2 ?_
  refine Outs.of (U' := T2.setTop (mkF m 37 #[.val (.ref o0), .val (.long j1), .second, .val (.int i2), .val (.long (j1 + (1 : Int64))), .second, .val (.int (og1_v13 j1)), .val (.long (og1_v29 j1 sz)), .second] [(.ref o0), (.long (((og1_v29 j1 sz).toUInt64 >>> ((6 : Int32) &&& 0x3f).toInt64.toUInt64).toInt64))])) (fun t k => ?_) ?_
  · refine X2.ldc2Long hx hown (mvT hZ (hw _ (List.mem_of_getElem? (i := 29) rfl))) (g := (mkF m 19 #[.val (.ref o0), .val (.long j1), .second, .val (.int i2), .val (.long (j1 + (1 : Int64))), .second, .val (.int (og1_v13 j1)), .unset, .unset] [(.long sz)])) rfl (hb hby d3_19) _ ?_
    refine XS.iload X2.here hx rfl (hb hby d3_22) rfl ?_
    refine XS.i2l X2.here hx rfl (hb hby d3_24) rfl ?_
    refine XS.lmul X2.here hx rfl (hb hby d3_25) rfl ?_
    refine XS.ladd X2.here hx rfl (hb hby d3_26) rfl ?_
    refine XS.lconst X2.here hx rfl (hb hby d3_27) ?_
    refine XS.ladd X2.here hx rfl (hb hby d3_28) rfl ?_
    refine XS.lstore X2.here hx rfl (hb hby d3_29) rfl (l' := #[.val (.ref o0), .val (.long j1), .second, .val (.int i2), .val (.long (j1 + (1 : Int64))), .second, .val (.int (og1_v13 j1)), .val (.long (og1_v29 j1 sz)), .second]) rfl ?_
    refine XS.lload X2.here hx rfl (hb hby d3_31) rfl ?_
    refine XS.bipush X2.here hx rfl (hb hby d3_33) ?_
    refine XS.lushr X2.here hx rfl (hb hby d3_35) rfl ?_
    refine XS.aloadN X2.here hx rfl (hb hby d3_36) rfl rfl ?_
    exact k
  obtain ⟨T3, X3, e3, st3⟩ := getF X2 hx hZ hown (host := "") (Or.inl (hw _ (List.mem_of_getElem? (i := 11) rfl))) Via.refl e2 F_o0_words (g := (mkF m 37 #[.val (.ref o0), .val (.long j1), .second, .val (.int i2), .val (.long (j1 + (1 : Int64))), .second, .val (.int (og1_v13 j1)), .val (.long (og1_v29 j1 sz)), .second] [(.ref o0), (.long (((og1_v29 j1 sz).toUInt64 >>> ((6 : Int32) &&& 0x3f).toInt64.toUInt64).toInt64))])) rfl rfl (hb hby d3_37)
  refine Outs.of st3 ?_
  refine Outs.of (alen X3 hx hZ e3 A_a1 (z := (1 : Int32)) rfl (f := (mkF m 40 #[.val (.ref o0), .val (.long j1), .second, .val (.int i2), .val (.long (j1 + (1 : Int64))), .second, .val (.int (og1_v13 j1)), .val (.long (og1_v29 j1 sz)), .second] [(.ref a1), (.long (((og1_v29 j1 sz).toUInt64 >>> ((6 : Int32) &&& 0x3f).toInt64.toUInt64).toInt64))])) rfl rfl (hb hby d3_40)) ?_
  refine Outs.of (U' := T3.setTop (mkF m 48 #[.val (.ref o0), .val (.long j1), .second, .val (.int i2), .val (.long (j1 + (1 : Int64))), .second, .val (.int (og1_v13 j1)), .val (.long (og1_v29 j1 sz)), .second] [(.ref o0), (.ref o0)])) (fun t k => ?_) ?_
  · refine XS.i2l X3.here hx rfl (hb hby d3_41) rfl ?_
    refine XS.lcmp X3.here hx rfl (hb hby d3_42) rfl ?_
    refine XS.ifNo X3.here hx rfl (hb hby d3_43) rfl ((if0 _ _).trans (flt (fun q_ => hgr ((lw_lt _ _).mp q_))).1) ?_
    refine XS.aloadN X3.here hx rfl (hb hby d3_46) rfl rfl ?_
    refine XS.aloadN X3.here hx rfl (hb hby d3_47) rfl rfl ?_
    exact k
  obtain ⟨T4, X4, e4, st4⟩ := getF X3 hx hZ hown (host := "") (Or.inl (hw _ (List.mem_of_getElem? (i := 11) rfl))) Via.refl e3 F_o0_words (g := (mkF m 48 #[.val (.ref o0), .val (.long j1), .second, .val (.int i2), .val (.long (j1 + (1 : Int64))), .second, .val (.int (og1_v13 j1)), .val (.long (og1_v29 j1 sz)), .second] [(.ref o0), (.ref o0)])) rfl rfl (hb hby d3_48)
  refine Outs.of st4 ?_
  refine Outs.of (U' := T4.setTop (mkF m 53 #[.val (.ref o0), .val (.long j1), .second, .val (.int i2), .val (.long (j1 + (1 : Int64))), .second, .val (.int (og1_v13 j1)), .val (.long (og1_v29 j1 sz)), .second] [(.ref o0), (.int (2 : Int32)), (.ref a1), (.ref o0)])) (fun t k => ?_) ?_
  · refine XS.iconst X4.here hx rfl (hb hby d3_51) ?_
    refine XS.aloadN X4.here hx rfl (hb hby d3_52) rfl rfl ?_
    exact k
  obtain ⟨T5, X5, e5, st5⟩ := getF X4 hx hZ hown (host := "") (Or.inl (hw _ (List.mem_of_getElem? (i := 11) rfl))) Via.refl e4 F_o0_words (g := (mkF m 53 #[.val (.ref o0), .val (.long j1), .second, .val (.int i2), .val (.long (j1 + (1 : Int64))), .second, .val (.int (og1_v13 j1)), .val (.long (og1_v29 j1 sz)), .second] [(.ref o0), (.int (2 : Int32)), (.ref a1), (.ref o0)])) rfl rfl (hb hby d3_53)
  refine Outs.of st5 ?_
  refine Outs.of (alen X5 hx hZ e5 A_a1 (z := (1 : Int32)) rfl (f := (mkF m 56 #[.val (.ref o0), .val (.long j1), .second, .val (.int i2), .val (.long (j1 + (1 : Int64))), .second, .val (.int (og1_v13 j1)), .val (.long (og1_v29 j1 sz)), .second] [(.ref a1), (.int (2 : Int32)), (.ref a1), (.ref o0)])) rfl rfl (hb hby d3_56)) ?_
  refine Outs.of (U' := T5.setTop (mkF m 58 #[.val (.ref o0), .val (.long j1), .second, .val (.int i2), .val (.long (j1 + (1 : Int64))), .second, .val (.int (og1_v13 j1)), .val (.long (og1_v29 j1 sz)), .second] [(.int (2 : Int32)), (.ref a1), (.ref o0)])) (fun t k => ?_) ?_
  · refine XS.imul X5.here hx rfl (hb hby d3_57) rfl ?_
    exact k
  obtain ⟨_, _, ⟨T6, L6, k6, n6⟩, -, X6, ⟨Lc6, hQ6, l6, y6, z6⟩, st6⟩ := Jvm.LawKit.callS X5 hx (y := (⟨"java/util/Arrays", "copyOf", "([JI)[J"⟩ : MethodName)) hown (mvT hZ (hw _ (List.mem_of_getElem? (i := 40) rfl))) (mvT hZ (hw _ (List.mem_of_getElem? (i := 41) rfl))) (mvT hZ (hw _ (List.mem_of_getElem? (i := 42) rfl))) (mvT hZ (hw _ (List.mem_of_getElem? (i := 43) rfl))) (by decide) (backOf (W := 1) (rmcp1 l Z a0 hw [] a1 g h0 n0 Z0 A_a1) hZ (hw _ (List.mem_of_getElem? (i := 43) rfl)) (hw _ (List.mem_of_getElem? (i := 42) rfl)) (by decide) (by decide)) (g := (mkF m 58 #[.val (.ref o0), .val (.long j1), .second, .val (.int i2), .val (.long (j1 + (1 : Int64))), .second, .val (.int (og1_v13 j1)), .val (.long (og1_v29 j1 sz)), .second] [(.int (2 : Int32)), (.ref a1), (.ref o0)])) rfl (by rw [hml]; rfl) (argsL := [(.ref a1), (.int (2 : Int32))]) (rest := [(.ref o0)]) (lenOf pd_6 rfl) rfl (by show 2 * 0 + _ ≤ _; exact Nat.le_of_eq rfl) (hb hby d3_58) (fun _ _ => ⟨rfl, e5, (by decide : 0 + 1 ≤ _), (by decide : 0 + 2 ≤ _)⟩)
  dsimp only [Pt.U, Pt.locs, Pt.cells, Pt.slots] at X6 l6 y6 z6 st6 hQ6
  subst l6 y6 z6
  obtain ⟨b6, g_b6, hs_b6, rfl, N6q, K6, u6_0⟩ := hQ6
  have N6 := Fr.app N1 N6q
  have sz_b6 : h0.size ≤ b6 := Nat.le_trans (Keep.refl h0 [o0]).1 hs_b6
  have ne_o0_b6 : o0 ≠ b6 := Nat.ne_of_lt (Nat.lt_of_lt_of_le E_o0.lt hs_b6)
  have ne_a1_b6 : a1 ≠ b6 := Nat.ne_of_lt (Nat.lt_of_lt_of_le A_a1.lt hs_b6)
  obtain ⟨Lh6, X6, N6⟩ := hide X6 N6 (C := 1) (S := 2) (by decide) (by decide)
  refine Outs.of st6 ?_
  have f8 : Exa Z T6.heap o0 "com/example/brief_locator/brieflocator/cbor/OpenContainers" := (E_o0.keep K6)
  have f9 : Fld Z T6.heap o0 "com/example/brief_locator/brieflocator/cbor/OpenContainers" "words" "[J" (.ref a1) := (F_o0_words.keep K6 nin0)
  obtain ⟨T7, h7, X7, e7, W7, st7⟩ := putF X6 hx hZ hown (host := "") (Or.inl (hw _ (List.mem_of_getElem? (i := 11) rfl))) Via.refl rfl f9 f8 (Or.inl (hw _ (List.mem_of_getElem? (i := 12) rfl))) (hw _ (List.mem_of_getElem? (i := 2) rfl)) (ty := (.array .long)) (by decide) rfl rfl (g := (mkF m 61 #[.val (.ref o0), .val (.long j1), .second, .val (.int i2), .val (.long (j1 + (1 : Int64))), .second, .val (.int (og1_v13 j1)), .val (.long (og1_v29 j1 sz)), .second] [(.ref b6), (.ref o0)])) rfl rfl (hb hby d3_61)
  have F7 : Fld Z h7 o0 "com/example/brief_locator/brieflocator/cbor/OpenContainers" "words" "[J" (.ref b6) := f9.same W7
  have N7 := Fr.snoc X7 N6 g_o0
  obtain ⟨Lh7, X7, N7⟩ := hide X7 N7 (C := 1) (S := 2) (by decide) (by decide)
  refine Outs.of st7 ?_
  refine Outs.of (U' := T7.setTop (mkF m 66 #[.val (.ref o0), .val (.long j1), .second, .val (.int i2), .val (.long (j1 + (1 : Int64))), .second, .val (.int (og1_v13 j1)), .val (.long (og1_v29 j1 sz)), .second] [(.ref o0), (.ref o0)])) (fun t k => ?_) ?_
  · refine XS.aloadN X7.here hx rfl (hb hby d3_64) rfl rfl ?_
    refine XS.aloadN X7.here hx rfl (hb hby d3_65) rfl rfl ?_
    exact k
  have f11 : Fld Z h7 o0 "com/example/brief_locator/brieflocator/cbor/OpenContainers" "size" "J" (.long sz) := ((F_o0_size.keep K6 nin0).other W7 (Or.inr (slot_ne (Or.inl (hw _ (List.mem_of_getElem? (i := 28) rfl))) (Or.inl (hw _ (List.mem_of_getElem? (i := 12) rfl))) (by decide) (t := .long) (t' := (.array .long)) (by decide) (by decide))))
  obtain ⟨T10, X10, e10, st10⟩ := getF X7 hx hZ hown (host := "") (Or.inl (hw _ (List.mem_of_getElem? (i := 27) rfl))) Via.refl e7 f11 (g := (mkF m 66 #[.val (.ref o0), .val (.long j1), .second, .val (.int i2), .val (.long (j1 + (1 : Int64))), .second, .val (.int (og1_v13 j1)), .val (.long (og1_v29 j1 sz)), .second] [(.ref o0), (.ref o0)])) rfl rfl (hb hby d3_66)
  refine Outs.of st10 ?_
  refine Outs.of (U' := T10.setTop (mkF m 71 #[.val (.ref o0), .val (.long j1), .second, .val (.int i2), .val (.long (j1 + (1 : Int64))), .second, .val (.int (og1_v13 j1)), .val (.long (og1_v29 j1 sz)), .second] [(.long (j1 + (1 : Int64))), (.long sz), (.ref o0)])) (fun t k => ?_) ?_
  · refine XS.lload X10.here hx rfl (hb hby d3_69) rfl ?_
    exact k
  have f13 : Exa Z h7 o0 "com/example/brief_locator/brieflocator/cbor/OpenContainers" := (f8.wr W7)
  have f14 : AJ Z h7 b6 .long 2 (cp1_g28 g) := (u6_0.other W7 ne_o0_b6.symm)
  obtain ⟨cq12, q12, q12'⟩ := f13.cell
  obtain ⟨_, _, ⟨T12, L12, k12, n12⟩, -, X12, ⟨Lc12, hQ12, l12, y12, z12⟩, st12⟩ := X10.privateBack hx (y := (⟨"com/example/brief_locator/brieflocator/cbor/OpenContainers", "setBits", "(JJ)V"⟩ : MethodName)) hown (mvT hZ (hw _ (List.mem_of_getElem? (i := 30) rfl))) (mvT hZ (hw _ (List.mem_of_getElem? (i := 31) rfl))) (own_selects (mvT hZ (hw _ (List.mem_of_getElem? (i := 2) rfl))) (Cond.privateMethod_at (mvP hZ (hw _ (List.mem_of_getElem? (i := 32) rfl)) (args := #[]))) (mvT hZ (hw _ (List.mem_of_getElem? (i := 31) rfl))) (by decide)) (Cond.privateMethod_at (mvP hZ (hw _ (List.mem_of_getElem? (i := 32) rfl)) (args := #[]))) (mvT hZ (hw _ (List.mem_of_getElem? (i := 33) rfl))) (by decide) (backOf (W := 0) (rmsb l Z a0 hw [] o0 sz (j1 + (1 : Int64)) b6 2 (cp1_g28 g) k1 h7 n0 f13 F7 f14 ne_o0_b6 g_b6 h1) hZ (hw _ (List.mem_of_getElem? (i := 33) rfl)) (hw _ (List.mem_of_getElem? (i := 3) rfl)) (by decide) (by decide)) (g := (mkF m 71 #[.val (.ref o0), .val (.long j1), .second, .val (.int i2), .val (.long (j1 + (1 : Int64))), .second, .val (.int (og1_v13 j1)), .val (.long (og1_v29 j1 sz)), .second] [(.long (j1 + (1 : Int64))), (.long sz), (.ref o0)])) rfl (by rw [hml]; rfl) (Steps.refl _) (a := o0) (by rw [e10]; exact q12) q12' (argsL := [(.long sz), (.long (j1 + (1 : Int64)))]) (rest := []) (lenOf pd_4 rfl) rfl (by show 2 * 0 + _ ≤ _; exact Nat.le_of_eq rfl) (hb hby d3_71) (fun _ _ => ⟨rfl, e10, (by decide : 1 + 0 ≤ _), (by decide : 2 + 0 ≤ _)⟩)
  dsimp only [Pt.U, Pt.locs, Pt.cells, Pt.slots] at X12 l12 y12 z12 st12 hQ12
  subst l12 y12 z12
  obtain ⟨rfl, N12q, K12, u12_0⟩ := hQ12
  have N12 := Fr.app N7 N12q
  obtain ⟨Lh12, X12, N12⟩ := hide X12 N12 (C := 1) (S := 2) (by decide) (by decide)
  refine Outs.to st12 ?_
  refine Outs.of (U' := T12.setTop (mkF m 75 #[.val (.ref o0), .val (.long j1), .second, .val (.int i2), .val (.long (j1 + (1 : Int64))), .second, .val (.int (og1_v13 j1)), .val (.long (og1_v29 j1 sz)), .second] [(.int i2)])) (fun t k => ?_) ?_
  · refine XS.iloadN X12.here hx rfl (hb hby d3_74) rfl ?_
    exact k
  by_cases hc75 : i2 = (0 : Int32)
  · refine Outs.of (U' := T12.setTop (mkF m 85 #[.val (.ref o0), .val (.long j1), .second, .val (.int i2), .val (.long (j1 + (1 : Int64))), .second, .val (.int (og1_v13 j1)), .val (.long (og1_v29 j1 sz)), .second] [])) (fun t k => ?_) ?_
    · refine XS.ifYes X12.here hx rfl (pc0 := 75) (pc' := 85) rfl (hb hby d3_75) rfl ((if0 _ _).trans (teq hc75).1) (by decide) (by decide) ?_
      exact k
    refine Outs.of (U' := T12.setTop (mkF m 90 #[.val (.ref o0), .val (.long j1), .second, .val (.int i2), .val (.long (j1 + (1 : Int64))), .second, .val (.int (og1_v13 j1)), .val (.long (og1_v29 j1 sz)), .second] [(.long ((og1_v29 j1 sz) + (1 : Int64))), (.ref o0)])) (fun t k => ?_) ?_
    · refine XS.aloadN X12.here hx rfl (hb hby d3_85) rfl rfl ?_
      refine XS.lload X12.here hx rfl (hb hby d3_86) rfl ?_
      refine XS.lconst X12.here hx rfl (hb hby d3_88) ?_
      refine XS.ladd X12.here hx rfl (hb hby d3_89) rfl ?_
      exact k
    have f16 : Exa Z T12.heap o0 "com/example/brief_locator/brieflocator/cbor/OpenContainers" := (f13.keep K12)
    have f17 : Fld Z T12.heap o0 "com/example/brief_locator/brieflocator/cbor/OpenContainers" "size" "J" (.long sz) := (f11.keep K12 (ninS ne_o0_b6 nin0))
    obtain ⟨T15, h15, X15, e15, W15, st15⟩ := putF X12 hx hZ hown (host := "") (Or.inl (hw _ (List.mem_of_getElem? (i := 27) rfl))) Via.refl rfl f17 f16 (Or.inl (hw _ (List.mem_of_getElem? (i := 28) rfl))) (hw _ (List.mem_of_getElem? (i := 2) rfl)) (ty := .long) (by decide) rfl rfl (g := (mkF m 90 #[.val (.ref o0), .val (.long j1), .second, .val (.int i2), .val (.long (j1 + (1 : Int64))), .second, .val (.int (og1_v13 j1)), .val (.long (og1_v29 j1 sz)), .second] [(.long ((og1_v29 j1 sz) + (1 : Int64))), (.ref o0)])) rfl rfl (hb hby d3_90)
    have F15 : Fld Z h15 o0 "com/example/brief_locator/brieflocator/cbor/OpenContainers" "size" "J" (.long ((og1_v29 j1 sz) + (1 : Int64))) := f17.same W15
    have N15 := Fr.snoc X15 N12 g_o0
    obtain ⟨Lh15, X15, N15⟩ := hide X15 N15 (C := 1) (S := 2) (by decide) (by decide)
    refine Outs.of st15 ?_
    have f18 : Exa Z h15 o0 "com/example/brief_locator/brieflocator/cbor/OpenContainers" := (f16.wr W15)
    have f19 : Fld Z h15 o0 "com/example/brief_locator/brieflocator/cbor/OpenContainers" "words" "[J" (.ref b6) := ((F7.keep K12 (ninS ne_o0_b6 nin0)).other W15 (Or.inr (slot_ne (Or.inl (hw _ (List.mem_of_getElem? (i := 12) rfl))) (Or.inl (hw _ (List.mem_of_getElem? (i := 28) rfl))) (by decide) (t := (.array .long)) (t' := .long) (by decide) (by decide))))
    have f20 : AJ Z h15 b6 .long 2 (sb_out0 sz (j1 + (1 : Int64)) (cp1_g28 g) k1) := (u12_0.other W15 ne_o0_b6.symm)
    exact Outs.retV X15 hx hret (hb hby d3_93) hlk (by decide) (by decide) e15 ⟨b6, g_b6, sz_b6, rfl, N15, (((((Keep.refl h0 [o0]).trans K6 all0).wr W7 (Or.inl (List.mem_of_getElem? (i := 0) rfl))).trans K12 (allS (Or.inr sz_b6) all0)).wr W15 (Or.inl (List.mem_of_getElem? (i := 0) rfl))), f18, f19, F15, (by rw [show (og1_out3 j1 i2 sz g k1 k2) = (sb_out0 sz (j1 + (1 : Int64)) (cp1_g28 g) k1) from (if_pos hc75)]; exact f20)⟩
  · refine Outs.of (U' := T12.setTop (mkF m 78 #[.val (.ref o0), .val (.long j1), .second, .val (.int i2), .val (.long (j1 + (1 : Int64))), .second, .val (.int (og1_v13 j1)), .val (.long (og1_v29 j1 sz)), .second] [])) (fun t k => ?_) ?_
    · refine XS.ifNo X12.here hx rfl (hb hby d3_75) rfl ((if0 _ _).trans (feq hc75).1) ?_
      exact k
    refine Outs.of (U' := T12.setTop (mkF m 82 #[.val (.ref o0), .val (.long j1), .second, .val (.int i2), .val (.long (j1 + (1 : Int64))), .second, .val (.int (og1_v13 j1)), .val (.long (og1_v29 j1 sz)), .second] [(.long (1 : Int64)), (.long (og1_v29 j1 sz)), (.ref o0)])) (fun t k => ?_) ?_
    · refine XS.aloadN X12.here hx rfl (hb hby d3_78) rfl rfl ?_
      refine XS.lload X12.here hx rfl (hb hby d3_79) rfl ?_
      refine XS.lconst X12.here hx rfl (hb hby d3_81) ?_
      exact k
    have f22 : Exa Z T12.heap o0 "com/example/brief_locator/brieflocator/cbor/OpenContainers" := (f13.keep K12)
    have f23 : Fld Z T12.heap o0 "com/example/brief_locator/brieflocator/cbor/OpenContainers" "words" "[J" (.ref b6) := (F7.keep K12 (ninS ne_o0_b6 nin0))
    obtain ⟨cq21, q21, q21'⟩ := f22.cell
    obtain ⟨_, _, ⟨T21, L21, k21, n21⟩, -, X21, ⟨Lc21, hQ21, l21, y21, z21⟩, st21⟩ := X12.privateBack hx (y := (⟨"com/example/brief_locator/brieflocator/cbor/OpenContainers", "setBits", "(JJ)V"⟩ : MethodName)) hown (mvT hZ (hw _ (List.mem_of_getElem? (i := 30) rfl))) (mvT hZ (hw _ (List.mem_of_getElem? (i := 31) rfl))) (own_selects (mvT hZ (hw _ (List.mem_of_getElem? (i := 2) rfl))) (Cond.privateMethod_at (mvP hZ (hw _ (List.mem_of_getElem? (i := 32) rfl)) (args := #[]))) (mvT hZ (hw _ (List.mem_of_getElem? (i := 31) rfl))) (by decide)) (Cond.privateMethod_at (mvP hZ (hw _ (List.mem_of_getElem? (i := 32) rfl)) (args := #[]))) (mvT hZ (hw _ (List.mem_of_getElem? (i := 33) rfl))) (by decide) (backOf (W := 0) (rmsb l Z a0 hw [] o0 (og1_v29 j1 sz) (1 : Int64) b6 2 (sb_out0 sz (j1 + (1 : Int64)) (cp1_g28 g) k1) k2 T12.heap n0 f22 f23 u12_0 ne_o0_b6 g_b6 h2) hZ (hw _ (List.mem_of_getElem? (i := 33) rfl)) (hw _ (List.mem_of_getElem? (i := 3) rfl)) (by decide) (by decide)) (g := (mkF m 82 #[.val (.ref o0), .val (.long j1), .second, .val (.int i2), .val (.long (j1 + (1 : Int64))), .second, .val (.int (og1_v13 j1)), .val (.long (og1_v29 j1 sz)), .second] [(.long (1 : Int64)), (.long (og1_v29 j1 sz)), (.ref o0)])) rfl (by rw [hml]; rfl) (Steps.refl _) (a := o0) q21 q21' (argsL := [(.long (og1_v29 j1 sz)), (.long (1 : Int64))]) (rest := []) (lenOf pd_4 rfl) rfl (by show 2 * 0 + _ ≤ _; exact Nat.le_of_eq rfl) (hb hby d3_82) (fun _ _ => ⟨rfl, rfl, (by decide : 1 + 0 ≤ _), (by decide : 2 + 0 ≤ _)⟩)
    dsimp only [Pt.U, Pt.locs, Pt.cells, Pt.slots] at X21 l21 y21 z21 st21 hQ21
    subst l21 y21 z21
    obtain ⟨rfl, N21q, K21, u21_0⟩ := hQ21
    have N21 := Fr.app N12 N21q
    obtain ⟨Lh21, X21, N21⟩ := hide X21 N21 (C := 1) (S := 2) (by decide) (by decide)
    refine Outs.to st21 ?_
    refine Outs.of (U' := T21.setTop (mkF m 90 #[.val (.ref o0), .val (.long j1), .second, .val (.int i2), .val (.long (j1 + (1 : Int64))), .second, .val (.int (og1_v13 j1)), .val (.long (og1_v29 j1 sz)), .second] [(.long ((og1_v29 j1 sz) + (1 : Int64))), (.ref o0)])) (fun t k => ?_) ?_
    · refine XS.aloadN X21.here hx rfl (hb hby d3_85) rfl rfl ?_
      refine XS.lload X21.here hx rfl (hb hby d3_86) rfl ?_
      refine XS.lconst X21.here hx rfl (hb hby d3_88) ?_
      refine XS.ladd X21.here hx rfl (hb hby d3_89) rfl ?_
      exact k
    have f25 : Exa Z T21.heap o0 "com/example/brief_locator/brieflocator/cbor/OpenContainers" := (f22.keep K21)
    have f26 : Fld Z T21.heap o0 "com/example/brief_locator/brieflocator/cbor/OpenContainers" "size" "J" (.long sz) := ((f11.keep K12 (ninS ne_o0_b6 nin0)).keep K21 (ninS ne_o0_b6 nin0))
    obtain ⟨T24, h24, X24, e24, W24, st24⟩ := putF X21 hx hZ hown (host := "") (Or.inl (hw _ (List.mem_of_getElem? (i := 27) rfl))) Via.refl rfl f26 f25 (Or.inl (hw _ (List.mem_of_getElem? (i := 28) rfl))) (hw _ (List.mem_of_getElem? (i := 2) rfl)) (ty := .long) (by decide) rfl rfl (g := (mkF m 90 #[.val (.ref o0), .val (.long j1), .second, .val (.int i2), .val (.long (j1 + (1 : Int64))), .second, .val (.int (og1_v13 j1)), .val (.long (og1_v29 j1 sz)), .second] [(.long ((og1_v29 j1 sz) + (1 : Int64))), (.ref o0)])) rfl rfl (hb hby d3_90)
    have F24 : Fld Z h24 o0 "com/example/brief_locator/brieflocator/cbor/OpenContainers" "size" "J" (.long ((og1_v29 j1 sz) + (1 : Int64))) := f26.same W24
    have N24 := Fr.snoc X24 N21 g_o0
    obtain ⟨Lh24, X24, N24⟩ := hide X24 N24 (C := 1) (S := 2) (by decide) (by decide)
    refine Outs.of st24 ?_
    have f27 : Exa Z h24 o0 "com/example/brief_locator/brieflocator/cbor/OpenContainers" := (f25.wr W24)
    have f28 : Fld Z h24 o0 "com/example/brief_locator/brieflocator/cbor/OpenContainers" "words" "[J" (.ref b6) := ((f23.keep K21 (ninS ne_o0_b6 nin0)).other W24 (Or.inr (slot_ne (Or.inl (hw _ (List.mem_of_getElem? (i := 12) rfl))) (Or.inl (hw _ (List.mem_of_getElem? (i := 28) rfl))) (by decide) (t := (.array .long)) (t' := .long) (by decide) (by decide))))
    have f29 : AJ Z h24 b6 .long 2 (sb_out0 (og1_v29 j1 sz) (1 : Int64) (sb_out0 sz (j1 + (1 : Int64)) (cp1_g28 g) k1) k2) := (u21_0.other W24 ne_o0_b6.symm)
    exact Outs.retV X24 hx hret (hb hby d3_93) hlk (by decide) (by decide) e24 ⟨b6, g_b6, sz_b6, rfl, N24, ((((((Keep.refl h0 [o0]).trans K6 all0).wr W7 (Or.inl (List.mem_of_getElem? (i := 0) rfl))).trans K12 (allS (Or.inr sz_b6) all0)).trans K21 (allS (Or.inr sz_b6) all0)).wr W24 (Or.inl (List.mem_of_getElem? (i := 0) rfl))), f27, f28, F24, (by rw [show (og1_out3 j1 i2 sz g k1 k2) = (sb_out0 (og1_v29 j1 sz) (1 : Int64) (sb_out0 sz (j1 + (1 : Int64)) (cp1_g28 g) k1) k2) from (if_neg hc75)]; exact f29)⟩
def og2_v13 (j1 : Int64) : Int32 := ((63 : Int32) - (F_nl (j1 + (1 : Int64))))
def og2_v29 (j1 : Int64) (sz : Int64) : Int64 := ((sz + ((2 : Int64) * ((og2_v13 j1).toInt64))) + (1 : Int64))
def og2_out3 (j1 : Int64) (i2 : Int32) (sz : Int64) (g : Nat → Int64) (k1 : Nat) (k2 : Nat) : Nat → Int64 := (if i2 = (0 : Int32) then (sb_out0 sz (j1 + (1 : Int64)) (cp2_g28 g) k1) else (sb_out0 (og2_v29 j1 sz) (1 : Int64) (sb_out0 sz (j1 + (1 : Int64)) (cp2_g28 g) k1) k2))
def Q_og2 (Z : State) (o0 : Addr) (j1 : Int64) (i2 : Int32) (sz : Int64) (a1 : Addr) (g : Nat → Int64) (k1 : Nat) (k2 : Nat) (h0 : Heap) (n0 : Nat) (v : Option Value) (h : Heap) (L : List Loc) : Prop := ∃ b6 : Addr, n0 ≤ b6 ∧ h0.size ≤ b6 ∧ v = none ∧ Fr n0 L ∧ Keep h0 h [o0] ∧ Exa Z h o0 "com/example/brief_locator/brieflocator/cbor/OpenContainers" ∧ Fld Z h o0 "com/example/brief_locator/brieflocator/cbor/OpenContainers" "words" "[J" (.ref b6) ∧ Fld Z h o0 "com/example/brief_locator/brieflocator/cbor/OpenContainers" "size" "J" (.long ((og2_v29 j1 sz) + (1 : Int64))) ∧ AJ Z h b6 .long 4 (og2_out3 j1 i2 sz g k1 k2)
set_option maxRecDepth 65536 in
set_option maxHeartbeats 40000000 in
theorem rmog2 (l : Launch) (Z : State) (a0 : Array Value) (hw : ∀ d ∈ tables_1, d.before a0 Z = true) (ws : List Jvm.Cond) (o0 : Addr) (j1 : Int64) (i2 : Int32) (sz : Int64) (a1 : Addr) (g : Nat → Int64) (k1 : Nat) (k2 : Nat) (h0 : Heap) (n0 : Nat) (Z0 : n0 ≤ h0.size) (E_o0 : Exa Z h0 o0 "com/example/brief_locator/brieflocator/cbor/OpenContainers") (F_o0_words : Fld Z h0 o0 "com/example/brief_locator/brieflocator/cbor/OpenContainers" "words" "[J" (.ref a1)) (A_a1 : AJ Z h0 a1 .long 2 g) (ne_o0_a1 : o0 ≠ a1) (F_o0_size : Fld Z h0 o0 "com/example/brief_locator/brieflocator/cbor/OpenContainers" "size" "J" (.long sz)) (g_o0 : n0 ≤ o0) (hgr : ¬ (((op_v29 j1 sz).toUInt64 >>> ((6 : Int32) &&& 0x3f).toInt64.toUInt64).toInt64) < (2 : Int64)) (h1 : SbOk sz (j1 + (1 : Int64)) k1 4) (h2 : SbOk (op_v29 j1 sz) (1 : Int64) k2 4) :
    MetFree l (⟨"com/example/brief_locator/brieflocator/cbor/OpenContainers", "open", "(JZ)V"⟩ : MethodName) (head1 (Jvm.Cond.code (⟨"com/example/brief_locator/brieflocator/cbor/OpenContainers", "open", "(JZ)V"⟩ : MethodName) prog_9_method_2_code 9 none :: ws) ({ frames := 2, cells := 1, slots := 4, locals := 33 } : Room)) (fun a U => a = #[(.ref o0), (.long j1), (.int i2)] ∧ Z.Warmed39 U.vm ∧ U.heap = h0) (fun _ _ _ _ _ => True) (fun _ U o U' => ∃ v L, o = .returned v ∧ Q_og2 Z o0 j1 i2 sz a1 g k1 k2 h0 n0 v U'.heap L ∧ FrameEnd U o U' L ({ frames := 2, cells := 1, slots := 4, locals := 33 } : Room).cells ({ frames := 2, cells := 1, slots := 4, locals := 33 } : Room).slots) := by
  refine MetFree.of_bodySF (plainFor_of_name pn_1) hisR ?_
  intro p e s m args below meth c s₁ Bd hml0 hP hK
  obtain ⟨rfl, hZ, hh⟩ := hP
  have hx := Bd.exec
  have hby := Bd.bytes
  have hml : c.maxLocals = 9 := hml0
  have hown : s.vm.findClass "com/example/brief_locator/brieflocator/cbor/OpenContainers" = some m.cls := findClass_of_methodNamed Bd.named
  have hnm := (name_of_methodNamed Bd.named Bd.method).1
  have hret := Bd.returns
  have hlk : meth.locks = false := BodyLoose.notSynchronized Bd
  have X0 : Stand p l e ({ frames := 2, cells := 1, slots := 4, locals := 33 } : Room) s m #[(.ref o0), (.long j1), (.int i2)] below meth c s₁ [] 0 0 := Stand.of_body Bd
  have e0 : s₁.heap = h0 := by rw [← hh, Bd.state]; rfl
  have N0 := Fr.nil n0
  show Outs p e below s (Q_og2 Z o0 j1 i2 sz a1 g k1 k2 h0 n0) _ _ _
  refine Outs.of (U' := s₁.setTop (mkF m 0 #[.val (.ref o0), .val (.long j1), .second, .val (.int i2), .unset, .unset, .unset, .unset, .unset] [])) (fun t k => castTop (ef_3 m o0 j1 i2) k) ?_
  refine Outs.of (U' := s₁.setTop (mkF m 9 #[.val (.ref o0), .val (.long j1), .second, .val (.int i2), .val (.long (j1 + (1 : Int64))), .second, .unset, .unset, .unset] [(.long (j1 + (1 : Int64))), (.int (63 : Int32))])) (fun t k => ?_) ?_
  · refine XS.lloadN X0.here hx rfl (hb hby d3_0) rfl ?_
    refine XS.lconst X0.here hx rfl (hb hby d3_1) ?_
    refine XS.ladd X0.here hx rfl (hb hby d3_2) rfl ?_
    refine XS.lstore X0.here hx rfl (hb hby d3_3) rfl (l' := #[.val (.ref o0), .val (.long j1), .second, .val (.int i2), .val (.long (j1 + (1 : Int64))), .second, .unset, .unset, .unset]) rfl ?_
    refine XS.bipush X0.here hx rfl (hb hby d3_5) ?_
    refine XS.lload X0.here hx rfl (hb hby d3_7) rfl ?_
    exact k
  obtain ⟨_, _, ⟨T1, L1, k1, n1⟩, -, X1, ⟨Lc1, hQ1, l1, y1, z1⟩, st1⟩ := Jvm.LawKit.callS X0 hx (y := (⟨"java/lang/Long", "numberOfLeadingZeros", "(J)I"⟩ : MethodName)) hown (mvT hZ (hw _ (List.mem_of_getElem? (i := 18) rfl))) (mvT hZ (hw _ (List.mem_of_getElem? (i := 19) rfl))) (mvT hZ (hw _ (List.mem_of_getElem? (i := 20) rfl))) (mvT hZ (hw _ (List.mem_of_getElem? (i := 21) rfl))) (by decide) (backOf (W := 1) (rm4 l Z a0 hw [] (j1 + (1 : Int64)) h0 n0 ) hZ (hw _ (List.mem_of_getElem? (i := 21) rfl)) (hw _ (List.mem_of_getElem? (i := 20) rfl)) (by decide) (by decide)) (g := (mkF m 9 #[.val (.ref o0), .val (.long j1), .second, .val (.int i2), .val (.long (j1 + (1 : Int64))), .second, .unset, .unset, .unset] [(.long (j1 + (1 : Int64))), (.int (63 : Int32))])) rfl (by rw [hml]; rfl) (argsL := [(.long (j1 + (1 : Int64)))]) (rest := [(.int (63 : Int32))]) (lenOf pd_2 rfl) rfl (by show 2 * 0 + _ ≤ _; exact Nat.le_of_eq rfl) (hb hby d3_9) (fun _ _ => ⟨rfl, e0, (by decide : 0 + 0 ≤ _), (by decide : 0 + 0 ≤ _)⟩)
  dsimp only [Pt.U, Pt.locs, Pt.cells, Pt.slots] at X1 l1 y1 z1 st1 hQ1
  subst l1 y1 z1
  obtain ⟨rfl, N1q, e1⟩ := hQ1
  have N1 := Fr.app N0 N1q
  obtain ⟨Lh1, X1, N1⟩ := hide X1 N1 (C := 0) (S := 0) (by decide) (by decide)
  refine Outs.of st1 ?_
  refine Outs.of (U' := T1.setTop (mkF m 16 #[.val (.ref o0), .val (.long j1), .second, .val (.int i2), .val (.long (j1 + (1 : Int64))), .second, .val (.int (og2_v13 j1)), .unset, .unset] [(.ref o0)])) (fun t k => ?_) ?_
  · refine XS.isub X1.here hx rfl (hb hby d3_12) rfl ?_
    refine XS.istore X1.here hx rfl (hb hby d3_13) rfl (l' := #[.val (.ref o0), .val (.long j1), .second, .val (.int i2), .val (.long (j1 + (1 : Int64))), .second, .val (.int (og2_v13 j1)), .unset, .unset]) rfl ?_
    refine XS.aloadN X1.here hx rfl (hb hby d3_15) rfl rfl ?_
    exact k
  obtain ⟨T2, X2, e2, st2⟩ := getF X1 hx hZ hown (host := "") (Or.inl (hw _ (List.mem_of_getElem? (i := 27) rfl))) Via.refl e1 F_o0_size (g := (mkF m 16 #[.val (.ref o0), .val (.long j1), .second, .val (.int i2), .val (.long (j1 + (1 : Int64))), .second, .val (.int (og2_v13 j1)), .unset, .unset] [(.ref o0)])) rfl rfl (hb hby d3_16)
  refine Outs.of st2 ?_
  refine Outs.of (U' := T2.setTop (mkF m 37 #[.val (.ref o0), .val (.long j1), .second, .val (.int i2), .val (.long (j1 + (1 : Int64))), .second, .val (.int (og2_v13 j1)), .val (.long (og2_v29 j1 sz)), .second] [(.ref o0), (.long (((og2_v29 j1 sz).toUInt64 >>> ((6 : Int32) &&& 0x3f).toInt64.toUInt64).toInt64))])) (fun t k => ?_) ?_
  · refine X2.ldc2Long hx hown (mvT hZ (hw _ (List.mem_of_getElem? (i := 29) rfl))) (g := (mkF m 19 #[.val (.ref o0), .val (.long j1), .second, .val (.int i2), .val (.long (j1 + (1 : Int64))), .second, .val (.int (og2_v13 j1)), .unset, .unset] [(.long sz)])) rfl (hb hby d3_19) _ ?_
    refine XS.iload X2.here hx rfl (hb hby d3_22) rfl ?_
    refine XS.i2l X2.here hx rfl (hb hby d3_24) rfl ?_
    refine XS.lmul X2.here hx rfl (hb hby d3_25) rfl ?_
    refine XS.ladd X2.here hx rfl (hb hby d3_26) rfl ?_
    refine XS.lconst X2.here hx rfl (hb hby d3_27) ?_
    refine XS.ladd X2.here hx rfl (hb hby d3_28) rfl ?_
    refine XS.lstore X2.here hx rfl (hb hby d3_29) rfl (l' := #[.val (.ref o0), .val (.long j1), .second, .val (.int i2), .val (.long (j1 + (1 : Int64))), .second, .val (.int (og2_v13 j1)), .val (.long (og2_v29 j1 sz)), .second]) rfl ?_
    refine XS.lload X2.here hx rfl (hb hby d3_31) rfl ?_
    refine XS.bipush X2.here hx rfl (hb hby d3_33) ?_
    refine XS.lushr X2.here hx rfl (hb hby d3_35) rfl ?_
    refine XS.aloadN X2.here hx rfl (hb hby d3_36) rfl rfl ?_
    exact k
  obtain ⟨T3, X3, e3, st3⟩ := getF X2 hx hZ hown (host := "") (Or.inl (hw _ (List.mem_of_getElem? (i := 11) rfl))) Via.refl e2 F_o0_words (g := (mkF m 37 #[.val (.ref o0), .val (.long j1), .second, .val (.int i2), .val (.long (j1 + (1 : Int64))), .second, .val (.int (og2_v13 j1)), .val (.long (og2_v29 j1 sz)), .second] [(.ref o0), (.long (((og2_v29 j1 sz).toUInt64 >>> ((6 : Int32) &&& 0x3f).toInt64.toUInt64).toInt64))])) rfl rfl (hb hby d3_37)
  refine Outs.of st3 ?_
  refine Outs.of (alen X3 hx hZ e3 A_a1 (z := (2 : Int32)) rfl (f := (mkF m 40 #[.val (.ref o0), .val (.long j1), .second, .val (.int i2), .val (.long (j1 + (1 : Int64))), .second, .val (.int (og2_v13 j1)), .val (.long (og2_v29 j1 sz)), .second] [(.ref a1), (.long (((og2_v29 j1 sz).toUInt64 >>> ((6 : Int32) &&& 0x3f).toInt64.toUInt64).toInt64))])) rfl rfl (hb hby d3_40)) ?_
  refine Outs.of (U' := T3.setTop (mkF m 48 #[.val (.ref o0), .val (.long j1), .second, .val (.int i2), .val (.long (j1 + (1 : Int64))), .second, .val (.int (og2_v13 j1)), .val (.long (og2_v29 j1 sz)), .second] [(.ref o0), (.ref o0)])) (fun t k => ?_) ?_
  · refine XS.i2l X3.here hx rfl (hb hby d3_41) rfl ?_
    refine XS.lcmp X3.here hx rfl (hb hby d3_42) rfl ?_
    refine XS.ifNo X3.here hx rfl (hb hby d3_43) rfl ((if0 _ _).trans (flt (fun q_ => hgr ((lw_lt _ _).mp q_))).1) ?_
    refine XS.aloadN X3.here hx rfl (hb hby d3_46) rfl rfl ?_
    refine XS.aloadN X3.here hx rfl (hb hby d3_47) rfl rfl ?_
    exact k
  obtain ⟨T4, X4, e4, st4⟩ := getF X3 hx hZ hown (host := "") (Or.inl (hw _ (List.mem_of_getElem? (i := 11) rfl))) Via.refl e3 F_o0_words (g := (mkF m 48 #[.val (.ref o0), .val (.long j1), .second, .val (.int i2), .val (.long (j1 + (1 : Int64))), .second, .val (.int (og2_v13 j1)), .val (.long (og2_v29 j1 sz)), .second] [(.ref o0), (.ref o0)])) rfl rfl (hb hby d3_48)
  refine Outs.of st4 ?_
  refine Outs.of (U' := T4.setTop (mkF m 53 #[.val (.ref o0), .val (.long j1), .second, .val (.int i2), .val (.long (j1 + (1 : Int64))), .second, .val (.int (og2_v13 j1)), .val (.long (og2_v29 j1 sz)), .second] [(.ref o0), (.int (2 : Int32)), (.ref a1), (.ref o0)])) (fun t k => ?_) ?_
  · refine XS.iconst X4.here hx rfl (hb hby d3_51) ?_
    refine XS.aloadN X4.here hx rfl (hb hby d3_52) rfl rfl ?_
    exact k
  obtain ⟨T5, X5, e5, st5⟩ := getF X4 hx hZ hown (host := "") (Or.inl (hw _ (List.mem_of_getElem? (i := 11) rfl))) Via.refl e4 F_o0_words (g := (mkF m 53 #[.val (.ref o0), .val (.long j1), .second, .val (.int i2), .val (.long (j1 + (1 : Int64))), .second, .val (.int (og2_v13 j1)), .val (.long (og2_v29 j1 sz)), .second] [(.ref o0), (.int (2 : Int32)), (.ref a1), (.ref o0)])) rfl rfl (hb hby d3_53)
  refine Outs.of st5 ?_
  refine Outs.of (alen X5 hx hZ e5 A_a1 (z := (2 : Int32)) rfl (f := (mkF m 56 #[.val (.ref o0), .val (.long j1), .second, .val (.int i2), .val (.long (j1 + (1 : Int64))), .second, .val (.int (og2_v13 j1)), .val (.long (og2_v29 j1 sz)), .second] [(.ref a1), (.int (2 : Int32)), (.ref a1), (.ref o0)])) rfl rfl (hb hby d3_56)) ?_
  refine Outs.of (U' := T5.setTop (mkF m 58 #[.val (.ref o0), .val (.long j1), .second, .val (.int i2), .val (.long (j1 + (1 : Int64))), .second, .val (.int (og2_v13 j1)), .val (.long (og2_v29 j1 sz)), .second] [(.int (4 : Int32)), (.ref a1), (.ref o0)])) (fun t k => ?_) ?_
  · refine XS.imul X5.here hx rfl (hb hby d3_57) rfl ?_
    exact k
  obtain ⟨_, _, ⟨T6, L6, k6, n6⟩, -, X6, ⟨Lc6, hQ6, l6, y6, z6⟩, st6⟩ := Jvm.LawKit.callS X5 hx (y := (⟨"java/util/Arrays", "copyOf", "([JI)[J"⟩ : MethodName)) hown (mvT hZ (hw _ (List.mem_of_getElem? (i := 40) rfl))) (mvT hZ (hw _ (List.mem_of_getElem? (i := 41) rfl))) (mvT hZ (hw _ (List.mem_of_getElem? (i := 42) rfl))) (mvT hZ (hw _ (List.mem_of_getElem? (i := 43) rfl))) (by decide) (backOf (W := 1) (rmcp2 l Z a0 hw [] a1 g h0 n0 Z0 A_a1) hZ (hw _ (List.mem_of_getElem? (i := 43) rfl)) (hw _ (List.mem_of_getElem? (i := 42) rfl)) (by decide) (by decide)) (g := (mkF m 58 #[.val (.ref o0), .val (.long j1), .second, .val (.int i2), .val (.long (j1 + (1 : Int64))), .second, .val (.int (og2_v13 j1)), .val (.long (og2_v29 j1 sz)), .second] [(.int (4 : Int32)), (.ref a1), (.ref o0)])) rfl (by rw [hml]; rfl) (argsL := [(.ref a1), (.int (4 : Int32))]) (rest := [(.ref o0)]) (lenOf pd_6 rfl) rfl (by show 2 * 0 + _ ≤ _; exact Nat.le_of_eq rfl) (hb hby d3_58) (fun _ _ => ⟨rfl, e5, (by decide : 0 + 1 ≤ _), (by decide : 0 + 4 ≤ _)⟩)
  dsimp only [Pt.U, Pt.locs, Pt.cells, Pt.slots] at X6 l6 y6 z6 st6 hQ6
  subst l6 y6 z6
  obtain ⟨b6, g_b6, hs_b6, rfl, N6q, K6, u6_0⟩ := hQ6
  have N6 := Fr.app N1 N6q
  have sz_b6 : h0.size ≤ b6 := Nat.le_trans (Keep.refl h0 [o0]).1 hs_b6
  have ne_o0_b6 : o0 ≠ b6 := Nat.ne_of_lt (Nat.lt_of_lt_of_le E_o0.lt hs_b6)
  have ne_a1_b6 : a1 ≠ b6 := Nat.ne_of_lt (Nat.lt_of_lt_of_le A_a1.lt hs_b6)
  obtain ⟨Lh6, X6, N6⟩ := hide X6 N6 (C := 1) (S := 4) (by decide) (by decide)
  refine Outs.of st6 ?_
  have f8 : Exa Z T6.heap o0 "com/example/brief_locator/brieflocator/cbor/OpenContainers" := (E_o0.keep K6)
  have f9 : Fld Z T6.heap o0 "com/example/brief_locator/brieflocator/cbor/OpenContainers" "words" "[J" (.ref a1) := (F_o0_words.keep K6 nin0)
  obtain ⟨T7, h7, X7, e7, W7, st7⟩ := putF X6 hx hZ hown (host := "") (Or.inl (hw _ (List.mem_of_getElem? (i := 11) rfl))) Via.refl rfl f9 f8 (Or.inl (hw _ (List.mem_of_getElem? (i := 12) rfl))) (hw _ (List.mem_of_getElem? (i := 2) rfl)) (ty := (.array .long)) (by decide) rfl rfl (g := (mkF m 61 #[.val (.ref o0), .val (.long j1), .second, .val (.int i2), .val (.long (j1 + (1 : Int64))), .second, .val (.int (og2_v13 j1)), .val (.long (og2_v29 j1 sz)), .second] [(.ref b6), (.ref o0)])) rfl rfl (hb hby d3_61)
  have F7 : Fld Z h7 o0 "com/example/brief_locator/brieflocator/cbor/OpenContainers" "words" "[J" (.ref b6) := f9.same W7
  have N7 := Fr.snoc X7 N6 g_o0
  obtain ⟨Lh7, X7, N7⟩ := hide X7 N7 (C := 1) (S := 4) (by decide) (by decide)
  refine Outs.of st7 ?_
  refine Outs.of (U' := T7.setTop (mkF m 66 #[.val (.ref o0), .val (.long j1), .second, .val (.int i2), .val (.long (j1 + (1 : Int64))), .second, .val (.int (og2_v13 j1)), .val (.long (og2_v29 j1 sz)), .second] [(.ref o0), (.ref o0)])) (fun t k => ?_) ?_
  · refine XS.aloadN X7.here hx rfl (hb hby d3_64) rfl rfl ?_
    refine XS.aloadN X7.here hx rfl (hb hby d3_65) rfl rfl ?_
    exact k
  have f11 : Fld Z h7 o0 "com/example/brief_locator/brieflocator/cbor/OpenContainers" "size" "J" (.long sz) := ((F_o0_size.keep K6 nin0).other W7 (Or.inr (slot_ne (Or.inl (hw _ (List.mem_of_getElem? (i := 28) rfl))) (Or.inl (hw _ (List.mem_of_getElem? (i := 12) rfl))) (by decide) (t := .long) (t' := (.array .long)) (by decide) (by decide))))
  obtain ⟨T10, X10, e10, st10⟩ := getF X7 hx hZ hown (host := "") (Or.inl (hw _ (List.mem_of_getElem? (i := 27) rfl))) Via.refl e7 f11 (g := (mkF m 66 #[.val (.ref o0), .val (.long j1), .second, .val (.int i2), .val (.long (j1 + (1 : Int64))), .second, .val (.int (og2_v13 j1)), .val (.long (og2_v29 j1 sz)), .second] [(.ref o0), (.ref o0)])) rfl rfl (hb hby d3_66)
  refine Outs.of st10 ?_
  refine Outs.of (U' := T10.setTop (mkF m 71 #[.val (.ref o0), .val (.long j1), .second, .val (.int i2), .val (.long (j1 + (1 : Int64))), .second, .val (.int (og2_v13 j1)), .val (.long (og2_v29 j1 sz)), .second] [(.long (j1 + (1 : Int64))), (.long sz), (.ref o0)])) (fun t k => ?_) ?_
  · refine XS.lload X10.here hx rfl (hb hby d3_69) rfl ?_
    exact k
  have f13 : Exa Z h7 o0 "com/example/brief_locator/brieflocator/cbor/OpenContainers" := (f8.wr W7)
  have f14 : AJ Z h7 b6 .long 4 (cp2_g28 g) := (u6_0.other W7 ne_o0_b6.symm)
  obtain ⟨cq12, q12, q12'⟩ := f13.cell
  obtain ⟨_, _, ⟨T12, L12, k12, n12⟩, -, X12, ⟨Lc12, hQ12, l12, y12, z12⟩, st12⟩ := X10.privateBack hx (y := (⟨"com/example/brief_locator/brieflocator/cbor/OpenContainers", "setBits", "(JJ)V"⟩ : MethodName)) hown (mvT hZ (hw _ (List.mem_of_getElem? (i := 30) rfl))) (mvT hZ (hw _ (List.mem_of_getElem? (i := 31) rfl))) (own_selects (mvT hZ (hw _ (List.mem_of_getElem? (i := 2) rfl))) (Cond.privateMethod_at (mvP hZ (hw _ (List.mem_of_getElem? (i := 32) rfl)) (args := #[]))) (mvT hZ (hw _ (List.mem_of_getElem? (i := 31) rfl))) (by decide)) (Cond.privateMethod_at (mvP hZ (hw _ (List.mem_of_getElem? (i := 32) rfl)) (args := #[]))) (mvT hZ (hw _ (List.mem_of_getElem? (i := 33) rfl))) (by decide) (backOf (W := 0) (rmsb l Z a0 hw [] o0 sz (j1 + (1 : Int64)) b6 4 (cp2_g28 g) k1 h7 n0 f13 F7 f14 ne_o0_b6 g_b6 h1) hZ (hw _ (List.mem_of_getElem? (i := 33) rfl)) (hw _ (List.mem_of_getElem? (i := 3) rfl)) (by decide) (by decide)) (g := (mkF m 71 #[.val (.ref o0), .val (.long j1), .second, .val (.int i2), .val (.long (j1 + (1 : Int64))), .second, .val (.int (og2_v13 j1)), .val (.long (og2_v29 j1 sz)), .second] [(.long (j1 + (1 : Int64))), (.long sz), (.ref o0)])) rfl (by rw [hml]; rfl) (Steps.refl _) (a := o0) (by rw [e10]; exact q12) q12' (argsL := [(.long sz), (.long (j1 + (1 : Int64)))]) (rest := []) (lenOf pd_4 rfl) rfl (by show 2 * 0 + _ ≤ _; exact Nat.le_of_eq rfl) (hb hby d3_71) (fun _ _ => ⟨rfl, e10, (by decide : 1 + 0 ≤ _), (by decide : 4 + 0 ≤ _)⟩)
  dsimp only [Pt.U, Pt.locs, Pt.cells, Pt.slots] at X12 l12 y12 z12 st12 hQ12
  subst l12 y12 z12
  obtain ⟨rfl, N12q, K12, u12_0⟩ := hQ12
  have N12 := Fr.app N7 N12q
  obtain ⟨Lh12, X12, N12⟩ := hide X12 N12 (C := 1) (S := 4) (by decide) (by decide)
  refine Outs.to st12 ?_
  refine Outs.of (U' := T12.setTop (mkF m 75 #[.val (.ref o0), .val (.long j1), .second, .val (.int i2), .val (.long (j1 + (1 : Int64))), .second, .val (.int (og2_v13 j1)), .val (.long (og2_v29 j1 sz)), .second] [(.int i2)])) (fun t k => ?_) ?_
  · refine XS.iloadN X12.here hx rfl (hb hby d3_74) rfl ?_
    exact k
  by_cases hc75 : i2 = (0 : Int32)
  · refine Outs.of (U' := T12.setTop (mkF m 85 #[.val (.ref o0), .val (.long j1), .second, .val (.int i2), .val (.long (j1 + (1 : Int64))), .second, .val (.int (og2_v13 j1)), .val (.long (og2_v29 j1 sz)), .second] [])) (fun t k => ?_) ?_
    · refine XS.ifYes X12.here hx rfl (pc0 := 75) (pc' := 85) rfl (hb hby d3_75) rfl ((if0 _ _).trans (teq hc75).1) (by decide) (by decide) ?_
      exact k
    refine Outs.of (U' := T12.setTop (mkF m 90 #[.val (.ref o0), .val (.long j1), .second, .val (.int i2), .val (.long (j1 + (1 : Int64))), .second, .val (.int (og2_v13 j1)), .val (.long (og2_v29 j1 sz)), .second] [(.long ((og2_v29 j1 sz) + (1 : Int64))), (.ref o0)])) (fun t k => ?_) ?_
    · refine XS.aloadN X12.here hx rfl (hb hby d3_85) rfl rfl ?_
      refine XS.lload X12.here hx rfl (hb hby d3_86) rfl ?_
      refine XS.lconst X12.here hx rfl (hb hby d3_88) ?_
      refine XS.ladd X12.here hx rfl (hb hby d3_89) rfl ?_
      exact k
    have f16 : Exa Z T12.heap o0 "com/example/brief_locator/brieflocator/cbor/OpenContainers" := (f13.keep K12)
    have f17 : Fld Z T12.heap o0 "com/example/brief_locator/brieflocator/cbor/OpenContainers" "size" "J" (.long sz) := (f11.keep K12 (ninS ne_o0_b6 nin0))
    obtain ⟨T15, h15, X15, e15, W15, st15⟩ := putF X12 hx hZ hown (host := "") (Or.inl (hw _ (List.mem_of_getElem? (i := 27) rfl))) Via.refl rfl f17 f16 (Or.inl (hw _ (List.mem_of_getElem? (i := 28) rfl))) (hw _ (List.mem_of_getElem? (i := 2) rfl)) (ty := .long) (by decide) rfl rfl (g := (mkF m 90 #[.val (.ref o0), .val (.long j1), .second, .val (.int i2), .val (.long (j1 + (1 : Int64))), .second, .val (.int (og2_v13 j1)), .val (.long (og2_v29 j1 sz)), .second] [(.long ((og2_v29 j1 sz) + (1 : Int64))), (.ref o0)])) rfl rfl (hb hby d3_90)
    have F15 : Fld Z h15 o0 "com/example/brief_locator/brieflocator/cbor/OpenContainers" "size" "J" (.long ((og2_v29 j1 sz) + (1 : Int64))) := f17.same W15
    have N15 := Fr.snoc X15 N12 g_o0
    obtain ⟨Lh15, X15, N15⟩ := hide X15 N15 (C := 1) (S := 4) (by decide) (by decide)
    refine Outs.of st15 ?_
    have f18 : Exa Z h15 o0 "com/example/brief_locator/brieflocator/cbor/OpenContainers" := (f16.wr W15)
    have f19 : Fld Z h15 o0 "com/example/brief_locator/brieflocator/cbor/OpenContainers" "words" "[J" (.ref b6) := ((F7.keep K12 (ninS ne_o0_b6 nin0)).other W15 (Or.inr (slot_ne (Or.inl (hw _ (List.mem_of_getElem? (i := 12) rfl))) (Or.inl (hw _ (List.mem_of_getElem? (i := 28) rfl))) (by decide) (t := (.array .long)) (t' := .long) (by decide) (by decide))))
    have f20 : AJ Z h15 b6 .long 4 (sb_out0 sz (j1 + (1 : Int64)) (cp2_g28 g) k1) := (u12_0.other W15 ne_o0_b6.symm)
    exact Outs.retV X15 hx hret (hb hby d3_93) hlk (by decide) (by decide) e15 ⟨b6, g_b6, sz_b6, rfl, N15, (((((Keep.refl h0 [o0]).trans K6 all0).wr W7 (Or.inl (List.mem_of_getElem? (i := 0) rfl))).trans K12 (allS (Or.inr sz_b6) all0)).wr W15 (Or.inl (List.mem_of_getElem? (i := 0) rfl))), f18, f19, F15, (by rw [show (og2_out3 j1 i2 sz g k1 k2) = (sb_out0 sz (j1 + (1 : Int64)) (cp2_g28 g) k1) from (if_pos hc75)]; exact f20)⟩
  · refine Outs.of (U' := T12.setTop (mkF m 78 #[.val (.ref o0), .val (.long j1), .second, .val (.int i2), .val (.long (j1 + (1 : Int64))), .second, .val (.int (og2_v13 j1)), .val (.long (og2_v29 j1 sz)), .second] [])) (fun t k => ?_) ?_
    · refine XS.ifNo X12.here hx rfl (hb hby d3_75) rfl ((if0 _ _).trans (feq hc75).1) ?_
      exact k
    refine Outs.of (U' := T12.setTop (mkF m 82 #[.val (.ref o0), .val (.long j1), .second, .val (.int i2), .val (.long (j1 + (1 : Int64))), .second, .val (.int (og2_v13 j1)), .val (.long (og2_v29 j1 sz)), .second] [(.long (1 : Int64)), (.long (og2_v29 j1 sz)), (.ref o0)])) (fun t k => ?_) ?_
    · refine XS.aloadN X12.here hx rfl (hb hby d3_78) rfl rfl ?_
      refine XS.lload X12.here hx rfl (hb hby d3_79) rfl ?_
      refine XS.lconst X12.here hx rfl (hb hby d3_81) ?_
      exact k
    have f22 : Exa Z T12.heap o0 "com/example/brief_locator/brieflocator/cbor/OpenContainers" := (f13.keep K12)
    have f23 : Fld Z T12.heap o0 "com/example/brief_locator/brieflocator/cbor/OpenContainers" "words" "[J" (.ref b6) := (F7.keep K12 (ninS ne_o0_b6 nin0))
    obtain ⟨cq21, q21, q21'⟩ := f22.cell
    obtain ⟨_, _, ⟨T21, L21, k21, n21⟩, -, X21, ⟨Lc21, hQ21, l21, y21, z21⟩, st21⟩ := X12.privateBack hx (y := (⟨"com/example/brief_locator/brieflocator/cbor/OpenContainers", "setBits", "(JJ)V"⟩ : MethodName)) hown (mvT hZ (hw _ (List.mem_of_getElem? (i := 30) rfl))) (mvT hZ (hw _ (List.mem_of_getElem? (i := 31) rfl))) (own_selects (mvT hZ (hw _ (List.mem_of_getElem? (i := 2) rfl))) (Cond.privateMethod_at (mvP hZ (hw _ (List.mem_of_getElem? (i := 32) rfl)) (args := #[]))) (mvT hZ (hw _ (List.mem_of_getElem? (i := 31) rfl))) (by decide)) (Cond.privateMethod_at (mvP hZ (hw _ (List.mem_of_getElem? (i := 32) rfl)) (args := #[]))) (mvT hZ (hw _ (List.mem_of_getElem? (i := 33) rfl))) (by decide) (backOf (W := 0) (rmsb l Z a0 hw [] o0 (og2_v29 j1 sz) (1 : Int64) b6 4 (sb_out0 sz (j1 + (1 : Int64)) (cp2_g28 g) k1) k2 T12.heap n0 f22 f23 u12_0 ne_o0_b6 g_b6 h2) hZ (hw _ (List.mem_of_getElem? (i := 33) rfl)) (hw _ (List.mem_of_getElem? (i := 3) rfl)) (by decide) (by decide)) (g := (mkF m 82 #[.val (.ref o0), .val (.long j1), .second, .val (.int i2), .val (.long (j1 + (1 : Int64))), .second, .val (.int (og2_v13 j1)), .val (.long (og2_v29 j1 sz)), .second] [(.long (1 : Int64)), (.long (og2_v29 j1 sz)), (.ref o0)])) rfl (by rw [hml]; rfl) (Steps.refl _) (a := o0) q21 q21' (argsL := [(.long (og2_v29 j1 sz)), (.long (1 : Int64))]) (rest := []) (lenOf pd_4 rfl) rfl (by show 2 * 0 + _ ≤ _; exact Nat.le_of_eq rfl) (hb hby d3_82) (fun _ _ => ⟨rfl, rfl, (by decide : 1 + 0 ≤ _), (by decide : 4 + 0 ≤ _)⟩)
    dsimp only [Pt.U, Pt.locs, Pt.cells, Pt.slots] at X21 l21 y21 z21 st21 hQ21
    subst l21 y21 z21
    obtain ⟨rfl, N21q, K21, u21_0⟩ := hQ21
    have N21 := Fr.app N12 N21q
    obtain ⟨Lh21, X21, N21⟩ := hide X21 N21 (C := 1) (S := 4) (by decide) (by decide)
    refine Outs.to st21 ?_
    refine Outs.of (U' := T21.setTop (mkF m 90 #[.val (.ref o0), .val (.long j1), .second, .val (.int i2), .val (.long (j1 + (1 : Int64))), .second, .val (.int (og2_v13 j1)), .val (.long (og2_v29 j1 sz)), .second] [(.long ((og2_v29 j1 sz) + (1 : Int64))), (.ref o0)])) (fun t k => ?_) ?_
    · refine XS.aloadN X21.here hx rfl (hb hby d3_85) rfl rfl ?_
      refine XS.lload X21.here hx rfl (hb hby d3_86) rfl ?_
      refine XS.lconst X21.here hx rfl (hb hby d3_88) ?_
      refine XS.ladd X21.here hx rfl (hb hby d3_89) rfl ?_
      exact k
    have f25 : Exa Z T21.heap o0 "com/example/brief_locator/brieflocator/cbor/OpenContainers" := (f22.keep K21)
    have f26 : Fld Z T21.heap o0 "com/example/brief_locator/brieflocator/cbor/OpenContainers" "size" "J" (.long sz) := ((f11.keep K12 (ninS ne_o0_b6 nin0)).keep K21 (ninS ne_o0_b6 nin0))
    obtain ⟨T24, h24, X24, e24, W24, st24⟩ := putF X21 hx hZ hown (host := "") (Or.inl (hw _ (List.mem_of_getElem? (i := 27) rfl))) Via.refl rfl f26 f25 (Or.inl (hw _ (List.mem_of_getElem? (i := 28) rfl))) (hw _ (List.mem_of_getElem? (i := 2) rfl)) (ty := .long) (by decide) rfl rfl (g := (mkF m 90 #[.val (.ref o0), .val (.long j1), .second, .val (.int i2), .val (.long (j1 + (1 : Int64))), .second, .val (.int (og2_v13 j1)), .val (.long (og2_v29 j1 sz)), .second] [(.long ((og2_v29 j1 sz) + (1 : Int64))), (.ref o0)])) rfl rfl (hb hby d3_90)
    have F24 : Fld Z h24 o0 "com/example/brief_locator/brieflocator/cbor/OpenContainers" "size" "J" (.long ((og2_v29 j1 sz) + (1 : Int64))) := f26.same W24
    have N24 := Fr.snoc X24 N21 g_o0
    obtain ⟨Lh24, X24, N24⟩ := hide X24 N24 (C := 1) (S := 4) (by decide) (by decide)
    refine Outs.of st24 ?_
    have f27 : Exa Z h24 o0 "com/example/brief_locator/brieflocator/cbor/OpenContainers" := (f25.wr W24)
    have f28 : Fld Z h24 o0 "com/example/brief_locator/brieflocator/cbor/OpenContainers" "words" "[J" (.ref b6) := ((f23.keep K21 (ninS ne_o0_b6 nin0)).other W24 (Or.inr (slot_ne (Or.inl (hw _ (List.mem_of_getElem? (i := 12) rfl))) (Or.inl (hw _ (List.mem_of_getElem? (i := 28) rfl))) (by decide) (t := (.array .long)) (t' := .long) (by decide) (by decide))))
    have f29 : AJ Z h24 b6 .long 4 (sb_out0 (og2_v29 j1 sz) (1 : Int64) (sb_out0 sz (j1 + (1 : Int64)) (cp2_g28 g) k1) k2) := (u21_0.other W24 ne_o0_b6.symm)
    exact Outs.retV X24 hx hret (hb hby d3_93) hlk (by decide) (by decide) e24 ⟨b6, g_b6, sz_b6, rfl, N24, ((((((Keep.refl h0 [o0]).trans K6 all0).wr W7 (Or.inl (List.mem_of_getElem? (i := 0) rfl))).trans K12 (allS (Or.inr sz_b6) all0)).trans K21 (allS (Or.inr sz_b6) all0)).wr W24 (Or.inl (List.mem_of_getElem? (i := 0) rfl))), f27, f28, F24, (by rw [show (og2_out3 j1 i2 sz g k1 k2) = (sb_out0 (og2_v29 j1 sz) (1 : Int64) (sb_out0 sz (j1 + (1 : Int64)) (cp2_g28 g) k1) k2) from (if_neg hc75)]; exact f29)⟩
theorem ef_10 (m : MethodId) (x0 : Addr) : entryFrame m #[(.ref x0)] 9 = mkF m 0 #[.val (.ref x0), .unset, .unset, .unset, .unset, .unset, .unset, .unset, .unset] [] := by first | (simp [entryFrame, mkF, argsToLocals, Value.category]; done) | rfl
theorem d10_0 : decode prog_9_method_3_code 0 = .ok (.aload_n 0, 1) := by decide +kernel
theorem d10_1 : decode prog_9_method_3_code 1 = .ok (.getfield 19, 3) := by decide +kernel
theorem d10_4 : decode prog_9_method_3_code 4 = .ok (.lconst 1, 1) := by decide +kernel
theorem d10_5 : decode prog_9_method_3_code 5 = .ok (.lsub, 1) := by decide +kernel
theorem d10_6 : decode prog_9_method_3_code 6 = .ok (.lstore_n 1, 1) := by decide +kernel
theorem d10_7 : decode prog_9_method_3_code 7 = .ok (.aload_n 0, 1) := by decide +kernel
theorem d10_8 : decode prog_9_method_3_code 8 = .ok (.lload_n 1, 1) := by decide +kernel
theorem pd_10 : parseMethodDescriptor "(J)J" = some ⟨[.long], some .long⟩ := by decide +kernel
theorem d10_9 : decode prog_9_method_3_code 9 = .ok (.invokevirtual 35, 3) := by decide +kernel
theorem d10_12 : decode prog_9_method_3_code 12 = .ok (.lstore_n 3, 1) := by decide +kernel
theorem d10_13 : decode prog_9_method_3_code 13 = .ok (.lload_n 3, 1) := by decide +kernel
theorem d10_14 : decode prog_9_method_3_code 14 = .ok (.lload_n 1, 1) := by decide +kernel
theorem d10_15 : decode prog_9_method_3_code 15 = .ok (.lconst 1, 1) := by decide +kernel
theorem d10_16 : decode prog_9_method_3_code 16 = .ok (.lsub, 1) := by decide +kernel
theorem d10_17 : decode prog_9_method_3_code 17 = .ok (.lload_n 3, 1) := by decide +kernel
theorem d10_18 : decode prog_9_method_3_code 18 = .ok (.lsub, 1) := by decide +kernel
theorem d10_19 : decode prog_9_method_3_code 19 = .ok (.lsub, 1) := by decide +kernel
theorem d10_20 : decode prog_9_method_3_code 20 = .ok (.lstore 5, 2) := by decide +kernel
theorem d10_22 : decode prog_9_method_3_code 22 = .ok (.aload_n 0, 1) := by decide +kernel
theorem d10_23 : decode prog_9_method_3_code 23 = .ok (.lload 5, 2) := by decide +kernel
theorem d10_25 : decode prog_9_method_3_code 25 = .ok (.invokevirtual 39, 3) := by decide +kernel
theorem d10_28 : decode prog_9_method_3_code 28 = .ok (.lstore 7, 2) := by decide +kernel
theorem d10_30 : decode prog_9_method_3_code 30 = .ok (.lload 7, 2) := by decide +kernel
theorem d10_32 : decode prog_9_method_3_code 32 = .ok (.lconst 1, 1) := by decide +kernel
theorem d10_33 : decode prog_9_method_3_code 33 = .ok (.lload_n 1, 1) := by decide +kernel
theorem d10_34 : decode prog_9_method_3_code 34 = .ok (.lload 5, 2) := by decide +kernel
theorem d10_36 : decode prog_9_method_3_code 36 = .ok (.lsub, 1) := by decide +kernel
theorem d10_37 : decode prog_9_method_3_code 37 = .ok (.l2i, 1) := by decide +kernel
theorem d10_38 : decode prog_9_method_3_code 38 = .ok (.lshl, 1) := by decide +kernel
theorem d10_39 : decode prog_9_method_3_code 39 = .ok (.ldc2_w 42, 3) := by decide +kernel
theorem d10_42 : decode prog_9_method_3_code 42 = .ok (.lxor, 1) := by decide +kernel
theorem d10_43 : decode prog_9_method_3_code 43 = .ok (.land, 1) := by decide +kernel
theorem d10_44 : decode prog_9_method_3_code 44 = .ok (.lconst 1, 1) := by decide +kernel
theorem d10_45 : decode prog_9_method_3_code 45 = .ok (.lsub, 1) := by decide +kernel
theorem d10_46 : decode prog_9_method_3_code 46 = .ok (.lreturn, 1) := by decide +kernel
def cl_v12 (sz : Int64) (g : Nat → Int64) (kw : Nat) (kq : Nat) : Int64 := (F_hs (sz - (1 : Int64)) g kw kq)
def cl_v20 (sz : Int64) (g : Nat → Int64) (kw : Nat) (kq : Nat) : Int64 := ((cl_v12 sz g kw kq) - (((sz - (1 : Int64)) - (1 : Int64)) - (cl_v12 sz g kw kq)))
def cl_v28 (sz : Int64) (nl : Int32) (g : Nat → Int64) (kw : Nat) (kq : Nat) (kt : Nat) : Int64 := (F_tk (cl_v20 sz g kw kq) nl g kt)
def F_cl (sz : Int64) (nl : Int32) (g : Nat → Int64) (kw : Nat) (kq : Nat) (kt : Nat) : Int64 := (((cl_v28 sz nl g kw kq kt) &&& (((1 : Int64) <<< ((((sz - (1 : Int64)) - (cl_v20 sz g kw kq)).toInt32) &&& 0x3f).toInt64) ^^^ (-1 : Int64))) - (1 : Int64))
def Q_cl (Z : State) (o0 : Addr) (sz : Int64) (nl : Int32) (a1 : Addr) (n : Nat) (g : Nat → Int64) (kw : Nat) (kq : Nat) (kt : Nat) (h0 : Heap) (n0 : Nat) (v : Option Value) (h : Heap) (L : List Loc) : Prop := v = some (.long (F_cl sz nl g kw kq kt)) ∧ Fr n0 L ∧ Keep h0 h [o0, a1] ∧ Exa Z h o0 "com/example/brief_locator/brieflocator/cbor/OpenContainers" ∧ Fld Z h o0 "com/example/brief_locator/brieflocator/cbor/OpenContainers" "words" "[J" (.ref a1) ∧ Fld Z h o0 "com/example/brief_locator/brieflocator/cbor/OpenContainers" "size" "J" (.long (cl_v20 sz g kw kq)) ∧ AJ Z h a1 .long n (tk_out3 (cl_v20 sz g kw kq) nl g kt)
set_option maxRecDepth 65536 in
set_option maxHeartbeats 40000000 in
theorem rmcl (l : Launch) (Z : State) (a0 : Array Value) (hw : ∀ d ∈ tables_1, d.before a0 Z = true) (ws : List Jvm.Cond) (o0 : Addr) (sz : Int64) (nl : Int32) (a1 : Addr) (n : Nat) (g : Nat → Int64) (kw : Nat) (kq : Nat) (kt : Nat) (h0 : Heap) (n0 : Nat) (E_o0 : Exa Z h0 o0 "com/example/brief_locator/brieflocator/cbor/OpenContainers") (F_o0_words : Fld Z h0 o0 "com/example/brief_locator/brieflocator/cbor/OpenContainers" "words" "[J" (.ref a1)) (A_a1 : AJ Z h0 a1 .long n g) (ne_o0_a1 : o0 ≠ a1) (F_o0_size : Fld Z h0 o0 "com/example/brief_locator/brieflocator/cbor/OpenContainers" "size" "J" (.long sz)) (g_o0 : n0 ≤ o0) (g_a1 : n0 ≤ a1) (hl : nl.toInt = (n : Int)) (h1 : HsOk (sz - (1 : Int64)) g kw kq n) (h2 : TkOk (cl_v20 sz g kw kq) nl kt n) :
    MetFree l (⟨"com/example/brief_locator/brieflocator/cbor/OpenContainers", "close", "()J"⟩ : MethodName) (head1 (Jvm.Cond.code (⟨"com/example/brief_locator/brieflocator/cbor/OpenContainers", "close", "()J"⟩ : MethodName) prog_9_method_3_code 9 (some .long) :: ws) ({ frames := 3, cells := 0, slots := 0, locals := 49 } : Room)) (fun a U => a = #[(.ref o0)] ∧ Z.Warmed39 U.vm ∧ U.heap = h0) (fun _ _ _ _ _ => True) (fun _ U o U' => ∃ v L, o = .returned v ∧ Q_cl Z o0 sz nl a1 n g kw kq kt h0 n0 v U'.heap L ∧ FrameEnd U o U' L ({ frames := 3, cells := 0, slots := 0, locals := 49 } : Room).cells ({ frames := 3, cells := 0, slots := 0, locals := 49 } : Room).slots) := by
  refine MetFree.of_bodySF (plainFor_of_name pn_1) hisR ?_
  intro p e s m args below meth c s₁ Bd hml0 hP hK
  obtain ⟨rfl, hZ, hh⟩ := hP
  have hx := Bd.exec
  have hby := Bd.bytes
  have hml : c.maxLocals = 9 := hml0
  have hown : s.vm.findClass "com/example/brief_locator/brieflocator/cbor/OpenContainers" = some m.cls := findClass_of_methodNamed Bd.named
  have hnm := (name_of_methodNamed Bd.named Bd.method).1
  have hret := Bd.returns
  have hlk : meth.locks = false := BodyLoose.notSynchronized Bd
  have X0 : Stand p l e ({ frames := 3, cells := 0, slots := 0, locals := 49 } : Room) s m #[(.ref o0)] below meth c s₁ [] 0 0 := Stand.of_body Bd
  have e0 : s₁.heap = h0 := by rw [← hh, Bd.state]; rfl
  have N0 := Fr.nil n0
  show Outs p e below s (Q_cl Z o0 sz nl a1 n g kw kq kt h0 n0) _ _ _
  refine Outs.of (U' := s₁.setTop (mkF m 0 #[.val (.ref o0), .unset, .unset, .unset, .unset, .unset, .unset, .unset, .unset] [])) (fun t k => castTop (ef_10 m o0) k) ?_
  refine Outs.of (U' := s₁.setTop (mkF m 1 #[.val (.ref o0), .unset, .unset, .unset, .unset, .unset, .unset, .unset, .unset] [(.ref o0)])) (fun t k => ?_) ?_
  · refine XS.aloadN X0.here hx rfl (hb hby d10_0) rfl rfl ?_
    exact k
  obtain ⟨T1, X1, e1, st1⟩ := getF X0 hx hZ hown (host := "") (Or.inl (hw _ (List.mem_of_getElem? (i := 27) rfl))) Via.refl e0 F_o0_size (g := (mkF m 1 #[.val (.ref o0), .unset, .unset, .unset, .unset, .unset, .unset, .unset, .unset] [(.ref o0)])) rfl rfl (hb hby d10_1)
  refine Outs.of st1 ?_
  refine Outs.of (U' := T1.setTop (mkF m 9 #[.val (.ref o0), .val (.long (sz - (1 : Int64))), .second, .unset, .unset, .unset, .unset, .unset, .unset] [(.long (sz - (1 : Int64))), (.ref o0)])) (fun t k => ?_) ?_
  · refine XS.lconst X1.here hx rfl (hb hby d10_4) ?_
    refine XS.lsub X1.here hx rfl (hb hby d10_5) rfl ?_
    refine XS.lstoreN X1.here hx rfl (hb hby d10_6) rfl (l' := #[.val (.ref o0), .val (.long (sz - (1 : Int64))), .second, .unset, .unset, .unset, .unset, .unset, .unset]) rfl ?_
    refine XS.aloadN X1.here hx rfl (hb hby d10_7) rfl rfl ?_
    refine XS.lloadN X1.here hx rfl (hb hby d10_8) rfl ?_
    exact k
  obtain ⟨cq2, q2, q2'⟩ := E_o0.cell
  obtain ⟨_, _, ⟨T2, L2, k2, n2⟩, -, X2, ⟨Lc2, hQ2, l2, y2, z2⟩, st2⟩ := X1.privateBack hx (y := (⟨"com/example/brief_locator/brieflocator/cbor/OpenContainers", "highestSetBitBelow", "(J)J"⟩ : MethodName)) hown (mvT hZ (hw _ (List.mem_of_getElem? (i := 57) rfl))) (mvT hZ (hw _ (List.mem_of_getElem? (i := 58) rfl))) (own_selects (mvT hZ (hw _ (List.mem_of_getElem? (i := 2) rfl))) (Cond.privateMethod_at (mvP hZ (hw _ (List.mem_of_getElem? (i := 59) rfl)) (args := #[]))) (mvT hZ (hw _ (List.mem_of_getElem? (i := 58) rfl))) (by decide)) (Cond.privateMethod_at (mvP hZ (hw _ (List.mem_of_getElem? (i := 59) rfl)) (args := #[]))) (mvT hZ (hw _ (List.mem_of_getElem? (i := 60) rfl))) (by decide) (backOf (W := 0) (rmhs l Z a0 hw [] o0 (sz - (1 : Int64)) a1 n g kw kq h0 n0 E_o0 F_o0_words A_a1 h1) hZ (hw _ (List.mem_of_getElem? (i := 60) rfl)) (hw _ (List.mem_of_getElem? (i := 3) rfl)) (by decide) (by decide)) (g := (mkF m 9 #[.val (.ref o0), .val (.long (sz - (1 : Int64))), .second, .unset, .unset, .unset, .unset, .unset, .unset] [(.long (sz - (1 : Int64))), (.ref o0)])) rfl (by rw [hml]; rfl) (Steps.refl _) (a := o0) (by rw [e1]; exact q2) q2' (argsL := [(.long (sz - (1 : Int64)))]) (rest := []) (lenOf pd_10 rfl) rfl (by show 2 * 0 + _ ≤ _; exact Nat.le_of_eq rfl) (hb hby d10_9) (fun _ _ => ⟨rfl, e1, (by decide : 0 + 0 ≤ _), (by decide : 0 + 0 ≤ _)⟩)
  dsimp only [Pt.U, Pt.locs, Pt.cells, Pt.slots] at X2 l2 y2 z2 st2 hQ2
  subst l2 y2 z2
  obtain ⟨rfl, N2q, e2⟩ := hQ2
  have N2 := Fr.app N0 N2q
  obtain ⟨Lh2, X2, N2⟩ := hide X2 N2 (C := 0) (S := 0) (by decide) (by decide)
  refine Outs.to st2 ?_
  refine Outs.of (U' := T2.setTop (mkF m 25 #[.val (.ref o0), .val (.long (sz - (1 : Int64))), .second, .val (.long (cl_v12 sz g kw kq)), .second, .val (.long (cl_v20 sz g kw kq)), .second, .unset, .unset] [(.long (cl_v20 sz g kw kq)), (.ref o0)])) (fun t k => ?_) ?_
  · refine XS.lstoreN X2.here hx rfl (hb hby d10_12) rfl (l' := #[.val (.ref o0), .val (.long (sz - (1 : Int64))), .second, .val (.long (cl_v12 sz g kw kq)), .second, .unset, .unset, .unset, .unset]) rfl ?_
    refine XS.lloadN X2.here hx rfl (hb hby d10_13) rfl ?_
    refine XS.lloadN X2.here hx rfl (hb hby d10_14) rfl ?_
    refine XS.lconst X2.here hx rfl (hb hby d10_15) ?_
    refine XS.lsub X2.here hx rfl (hb hby d10_16) rfl ?_
    refine XS.lloadN X2.here hx rfl (hb hby d10_17) rfl ?_
    refine XS.lsub X2.here hx rfl (hb hby d10_18) rfl ?_
    refine XS.lsub X2.here hx rfl (hb hby d10_19) rfl ?_
    refine XS.lstore X2.here hx rfl (hb hby d10_20) rfl (l' := #[.val (.ref o0), .val (.long (sz - (1 : Int64))), .second, .val (.long (cl_v12 sz g kw kq)), .second, .val (.long (cl_v20 sz g kw kq)), .second, .unset, .unset]) rfl ?_
    refine XS.aloadN X2.here hx rfl (hb hby d10_22) rfl rfl ?_
    refine XS.lload X2.here hx rfl (hb hby d10_23) rfl ?_
    exact k
  obtain ⟨cq3, q3, q3'⟩ := E_o0.cell
  obtain ⟨_, _, ⟨T3, L3, k3, n3⟩, -, X3, ⟨Lc3, hQ3, l3, y3, z3⟩, st3⟩ := X2.privateBack hx (y := (⟨"com/example/brief_locator/brieflocator/cbor/OpenContainers", "take", "(J)J"⟩ : MethodName)) hown (mvT hZ (hw _ (List.mem_of_getElem? (i := 62) rfl))) (mvT hZ (hw _ (List.mem_of_getElem? (i := 63) rfl))) (own_selects (mvT hZ (hw _ (List.mem_of_getElem? (i := 2) rfl))) (Cond.privateMethod_at (mvP hZ (hw _ (List.mem_of_getElem? (i := 64) rfl)) (args := #[]))) (mvT hZ (hw _ (List.mem_of_getElem? (i := 63) rfl))) (by decide)) (Cond.privateMethod_at (mvP hZ (hw _ (List.mem_of_getElem? (i := 64) rfl)) (args := #[]))) (mvT hZ (hw _ (List.mem_of_getElem? (i := 65) rfl))) (by decide) (backOf (W := 0) (rmtk l Z a0 hw [] o0 (cl_v20 sz g kw kq) sz nl a1 n g kt h0 n0 E_o0 F_o0_words A_a1 ne_o0_a1 F_o0_size g_o0 g_a1 hl h2) hZ (hw _ (List.mem_of_getElem? (i := 65) rfl)) (hw _ (List.mem_of_getElem? (i := 3) rfl)) (by decide) (by decide)) (g := (mkF m 25 #[.val (.ref o0), .val (.long (sz - (1 : Int64))), .second, .val (.long (cl_v12 sz g kw kq)), .second, .val (.long (cl_v20 sz g kw kq)), .second, .unset, .unset] [(.long (cl_v20 sz g kw kq)), (.ref o0)])) rfl (by rw [hml]; rfl) (Steps.refl _) (a := o0) (by rw [e2]; exact q3) q3' (argsL := [(.long (cl_v20 sz g kw kq))]) (rest := []) (lenOf pd_10 rfl) rfl (by show 2 * 0 + _ ≤ _; exact Nat.le_of_eq rfl) (hb hby d10_25) (fun _ _ => ⟨rfl, e2, (by decide : 0 + 0 ≤ _), (by decide : 0 + 0 ≤ _)⟩)
  dsimp only [Pt.U, Pt.locs, Pt.cells, Pt.slots] at X3 l3 y3 z3 st3 hQ3
  subst l3 y3 z3
  obtain ⟨rfl, N3q, K3, u3_0, u3_1, u3_2, u3_3⟩ := hQ3
  have N3 := Fr.app N2 N3q
  obtain ⟨Lh3, X3, N3⟩ := hide X3 N3 (C := 0) (S := 0) (by decide) (by decide)
  refine Outs.to st3 ?_
  refine Outs.of (U' := T3.setTop (mkF m 46 #[.val (.ref o0), .val (.long (sz - (1 : Int64))), .second, .val (.long (cl_v12 sz g kw kq)), .second, .val (.long (cl_v20 sz g kw kq)), .second, .val (.long (cl_v28 sz nl g kw kq kt)), .second] [(.long (((cl_v28 sz nl g kw kq kt) &&& (((1 : Int64) <<< ((((sz - (1 : Int64)) - (cl_v20 sz g kw kq)).toInt32) &&& 0x3f).toInt64) ^^^ (-1 : Int64))) - (1 : Int64)))])) (fun t k => ?_) ?_
  · refine XS.lstore X3.here hx rfl (hb hby d10_28) rfl (l' := #[.val (.ref o0), .val (.long (sz - (1 : Int64))), .second, .val (.long (cl_v12 sz g kw kq)), .second, .val (.long (cl_v20 sz g kw kq)), .second, .val (.long (cl_v28 sz nl g kw kq kt)), .second]) rfl ?_
    refine XS.lload X3.here hx rfl (hb hby d10_30) rfl ?_
    refine XS.lconst X3.here hx rfl (hb hby d10_32) ?_
    refine XS.lloadN X3.here hx rfl (hb hby d10_33) rfl ?_
    refine XS.lload X3.here hx rfl (hb hby d10_34) rfl ?_
    refine XS.lsub X3.here hx rfl (hb hby d10_36) rfl ?_
    refine XS.l2i X3.here hx rfl (hb hby d10_37) rfl ?_
    refine XS.lshl X3.here hx rfl (hb hby d10_38) rfl ?_
    refine X3.ldc2Long hx hown (mvT hZ (hw _ (List.mem_of_getElem? (i := 61) rfl))) (g := (mkF m 39 #[.val (.ref o0), .val (.long (sz - (1 : Int64))), .second, .val (.long (cl_v12 sz g kw kq)), .second, .val (.long (cl_v20 sz g kw kq)), .second, .val (.long (cl_v28 sz nl g kw kq kt)), .second] [(.long ((1 : Int64) <<< ((((sz - (1 : Int64)) - (cl_v20 sz g kw kq)).toInt32) &&& 0x3f).toInt64)), (.long (cl_v28 sz nl g kw kq kt))])) rfl (hb hby d10_39) _ ?_
    refine XS.lxor X3.here hx rfl (hb hby d10_42) rfl ?_
    refine XS.land X3.here hx rfl (hb hby d10_43) rfl ?_
    refine XS.lconst X3.here hx rfl (hb hby d10_44) ?_
    refine XS.lsub X3.here hx rfl (hb hby d10_45) rfl ?_
    exact k
  exact Outs.retL X3 hx hret (hb hby d10_46) hlk (by decide) (by decide) rfl ⟨congrArg (fun z_ => some (Value.long z_)) (show (F_cl sz nl g kw kq kt) = (((cl_v28 sz nl g kw kq kt) &&& (((1 : Int64) <<< ((((sz - (1 : Int64)) - (cl_v20 sz g kw kq)).toInt32) &&& 0x3f).toInt64) ^^^ (-1 : Int64))) - (1 : Int64)) from rfl).symm, N3, ((Keep.refl h0 [o0, a1]).trans K3 (allS (Or.inl (List.mem_of_getElem? (i := 0) rfl)) (allS (Or.inl (List.mem_of_getElem? (i := 1) rfl)) all0))), u3_0, u3_1, u3_2, u3_3⟩
def own_w (x : Int64) : Nat := x.toInt.toNat / 64
def opG (j : Int64) (m : Int32) (sz : Int64) (g : Nat → Int64) : Nat → Int64 := op_out3 j m sz g (own_w sz) (own_w (op_v29 j sz))
def opS (j sz : Int64) : Int64 := (op_v29 j sz) + (1 : Int64)
def clS (sz : Int64) (g : Nat → Int64) : Int64 := cl_v20 sz g (own_w ((sz - (1 : Int64)) - (1 : Int64))) (own_w ((sz - (1 : Int64)) - (1 : Int64)) - 1)
def clG (sz : Int64) (nl : Int32) (g : Nat → Int64) : Nat → Int64 := tk_out3 (clS sz g) nl g (own_w (clS sz g))
def own_z : Nat → Int64 := fun _ => (0 : Int64)
theorem ef_1 (m : MethodId) (x0 : Addr) : entryFrame m #[(.ref x0)] 1 = mkF m 0 #[.val (.ref x0)] [] := by first | (simp [entryFrame, mkF, argsToLocals, Value.category]; done) | rfl
theorem d1_0 : decode prog_9_method_1_code 0 = .ok (.aload_n 0, 1) := by decide +kernel
theorem d1_1 : decode prog_9_method_1_code 1 = .ok (.invokespecial 1, 3) := by decide +kernel
theorem d1_4 : decode prog_9_method_1_code 4 = .ok (.aload_n 0, 1) := by decide +kernel
theorem d1_5 : decode prog_9_method_1_code 5 = .ok (.iconst 1, 1) := by decide +kernel
theorem d1_6 : decode prog_9_method_1_code 6 = .ok (.newarray .long, 2) := by decide +kernel
theorem d1_8 : decode prog_9_method_1_code 8 = .ok (.putfield 7, 3) := by decide +kernel
theorem d1_11 : decode prog_9_method_1_code 11 = .ok (.return_, 1) := by decide +kernel
def Q_in (Z : State) (o0 : Addr) (h0 : Heap) (n0 : Nat) (v : Option Value) (h : Heap) (L : List Loc) : Prop := ∃ b2 : Addr, n0 ≤ b2 ∧ h0.size ≤ b2 ∧ v = none ∧ Fr n0 L ∧ Keep h0 h [o0] ∧ Exa Z h o0 "com/example/brief_locator/brieflocator/cbor/OpenContainers" ∧ Fld Z h o0 "com/example/brief_locator/brieflocator/cbor/OpenContainers" "words" "[J" (.ref b2) ∧ Fld Z h o0 "com/example/brief_locator/brieflocator/cbor/OpenContainers" "size" "J" (.long (0 : Int64)) ∧ AJ Z h b2 .long 1 (own_z)
set_option maxRecDepth 65536 in
set_option maxHeartbeats 40000000 in
theorem rmin (l : Launch) (Z : State) (a0 : Array Value) (hw : ∀ d ∈ tables_1, d.before a0 Z = true) (ws : List Jvm.Cond) (o0 : Addr)  (h0 : Heap) (n0 : Nat) (Z0 : n0 ≤ h0.size) (E_o0 : Exa Z h0 o0 "com/example/brief_locator/brieflocator/cbor/OpenContainers") (F_o0_words : Fld Z h0 o0 "com/example/brief_locator/brieflocator/cbor/OpenContainers" "words" "[J" .null) (F_o0_size : Fld Z h0 o0 "com/example/brief_locator/brieflocator/cbor/OpenContainers" "size" "J" (.long (0 : Int64))) (g_o0 : n0 ≤ o0) :
    MetFree l (⟨"com/example/brief_locator/brieflocator/cbor/OpenContainers", "<init>", "()V"⟩ : MethodName) (head1 (Jvm.Cond.code (⟨"com/example/brief_locator/brieflocator/cbor/OpenContainers", "<init>", "()V"⟩ : MethodName) prog_9_method_1_code 1 none :: ws) ({ frames := 1, cells := 1, slots := 1, locals := 12 } : Room)) (fun a U => a = #[(.ref o0)] ∧ Z.Warmed39 U.vm ∧ U.heap = h0) (fun _ _ _ _ _ => True) (fun _ U o U' => ∃ v L, o = .returned v ∧ Q_in Z o0 h0 n0 v U'.heap L ∧ FrameEnd U o U' L ({ frames := 1, cells := 1, slots := 1, locals := 12 } : Room).cells ({ frames := 1, cells := 1, slots := 1, locals := 12 } : Room).slots) := by
  refine MetFree.of_bodySF (plainFor_of_name pn_1) hisR ?_
  intro p e s m args below meth c s₁ Bd hml0 hP hK
  obtain ⟨rfl, hZ, hh⟩ := hP
  have hx := Bd.exec
  have hby := Bd.bytes
  have hml : c.maxLocals = 1 := hml0
  have hown : s.vm.findClass "com/example/brief_locator/brieflocator/cbor/OpenContainers" = some m.cls := findClass_of_methodNamed Bd.named
  have hnm := (name_of_methodNamed Bd.named Bd.method).1
  have hret := Bd.returns
  have hlk : meth.locks = false := BodyLoose.notSynchronized Bd
  have X0 : Stand p l e ({ frames := 1, cells := 1, slots := 1, locals := 12 } : Room) s m #[(.ref o0)] below meth c s₁ [] 0 0 := Stand.of_body Bd
  have e0 : s₁.heap = h0 := by rw [← hh, Bd.state]; rfl
  have N0 := Fr.nil n0
  show Outs p e below s (Q_in Z o0 h0 n0) _ _ _
  refine Outs.of (U' := s₁.setTop (mkF m 0 #[.val (.ref o0)] [])) (fun t k => castTop (ef_1 m o0) k) ?_
  refine Outs.of (U' := s₁.setTop (mkF m 1 #[.val (.ref o0)] [(.ref o0)])) (fun t k => ?_) ?_
  · refine XS.aloadN X0.here hx rfl (hb hby d1_0) rfl rfl ?_
    exact k
  obtain ⟨T1, X1, e1, st1⟩ := initO X0 hx hZ hown (hw _ (List.mem_of_getElem? (i := 7) rfl)) (hw _ (List.mem_of_getElem? (i := 8) rfl)) (hw _ (List.mem_of_getElem? (i := 9) rfl)) e0 (g := (mkF m 1 #[.val (.ref o0)] [(.ref o0)])) rfl (by rw [hml]; rfl) rfl (hb hby d1_1) (by decide) (W := 0) (by show 2 * 0 + _ ≤ _; exact Nat.le_of_eq rfl) (by decide)
  refine Outs.of st1 ?_
  refine Outs.of (U' := T1.setTop (mkF m 6 #[.val (.ref o0)] [(.int (1 : Int32)), (.ref o0)])) (fun t k => ?_) ?_
  · refine XS.aloadN X1.here hx rfl (hb hby d1_4) rfl rfl ?_
    refine XS.iconst X1.here hx rfl (hb hby d1_5) ?_
    exact k
  obtain ⟨T2, h2, X2, e2, E2, A2, st2⟩ := newAF X1 hx hZ (aty := .long) (hw _ (List.mem_of_getElem? (i := 10) rfl)) e1 (f := (mkF m 6 #[.val (.ref o0)] [(.int (1 : Int32)), (.ref o0)])) rfl (hb hby d1_6) rfl (k := 1) rfl (cap := 1) (by decide) (by decide) (by decide) (by decide)
  obtain ⟨b2, g2⟩ : ∃ z, z = h0.size := ⟨_, rfl⟩
  rw [← g2] at A2 st2
  have g_b2 : n0 ≤ b2 := Nat.le_trans Z0 (Nat.le_of_eq g2.symm)
  have sz_b2 : h0.size ≤ b2 := Nat.le_trans (Keep.refl h0 [o0]).1 (Nat.le_of_eq g2.symm)
  have ne_o0_b2 : o0 ≠ b2 := Nat.ne_of_lt (Nat.lt_of_lt_of_eq E_o0.lt g2.symm)
  have V2 : AJ Z h2 b2 .long 1 (own_z) := A2
  refine Outs.of st2 ?_
  have f4 : Exa Z h2 o0 "com/example/brief_locator/brieflocator/cbor/OpenContainers" := (E_o0.ext E2)
  have f5 : Fld Z h2 o0 "com/example/brief_locator/brieflocator/cbor/OpenContainers" "words" "[J" .null := (F_o0_words.ext E2)
  obtain ⟨T3, h3, X3, e3, W3, st3⟩ := putF X2 hx hZ hown (host := "") (Or.inl (hw _ (List.mem_of_getElem? (i := 11) rfl))) Via.refl e2 f5 f4 (Or.inl (hw _ (List.mem_of_getElem? (i := 12) rfl))) (hw _ (List.mem_of_getElem? (i := 2) rfl)) (ty := (.array .long)) (by decide) rfl rfl (g := (mkF m 8 #[.val (.ref o0)] [(.ref b2), (.ref o0)])) rfl rfl (hb hby d1_8)
  have F3 : Fld Z h3 o0 "com/example/brief_locator/brieflocator/cbor/OpenContainers" "words" "[J" (.ref b2) := f5.same W3
  have N3 := Fr.snoc X3 N0 g_o0
  obtain ⟨Lh3, X3, N3⟩ := hide X3 N3 (C := 1) (S := 1) (by decide) (by decide)
  refine Outs.of st3 ?_
  have f6 : Exa Z h3 o0 "com/example/brief_locator/brieflocator/cbor/OpenContainers" := (f4.wr W3)
  have f7 : Fld Z h3 o0 "com/example/brief_locator/brieflocator/cbor/OpenContainers" "size" "J" (.long (0 : Int64)) := ((F_o0_size.ext E2).other W3 (Or.inr (slot_ne (Or.inl (hw _ (List.mem_of_getElem? (i := 28) rfl))) (Or.inl (hw _ (List.mem_of_getElem? (i := 12) rfl))) (by decide) (t := .long) (t' := (.array .long)) (by decide) (by decide))))
  have f8 : AJ Z h3 b2 .long 1 (own_z) := (V2.other W3 ne_o0_b2.symm)
  exact Outs.retV X3 hx hret (hb hby d1_11) hlk (by decide) (by decide) e3 ⟨b2, g_b2, sz_b2, rfl, N3, (((Keep.refl h0 [o0]).ext E2).wr W3 (Or.inl (List.mem_of_getElem? (i := 0) rfl))), f6, F3, f7, f8⟩
def f0_v5 (j0 : Int64) : Int64 := (j0 &&& (2147483647 : Int64))
def f0_v12 (j1 : Int64) : Int64 := (j1 &&& (2147483647 : Int64))
def f0_v20 (j2 : Int64) : Int64 := (j2 &&& (2147483647 : Int64))
def f0_26_s0 (i3 : Int32) : Int32 := (if (i3 &&& (1 : Int32)) = (0 : Int32) then (0 : Int32) else (1 : Int32))
def f0_40_s0 (i3 : Int32) : Int32 := (if (i3 &&& (2 : Int32)) = (0 : Int32) then (0 : Int32) else (1 : Int32))
def f0_54_s0 (i3 : Int32) : Int32 := (if (i3 &&& (4 : Int32)) = (0 : Int32) then (0 : Int32) else (1 : Int32))
def f0_s79 (j0 : Int64) : Int64 := (opS (f0_v5 j0) (0 : Int64))
def f0_g79 (j0 : Int64) (i3 : Int32) : Nat → Int64 := (opG (f0_v5 j0) (f0_26_s0 i3) (0 : Int64) (own_z))
def f0_s105 (j0 : Int64) (j1 : Int64) : Int64 := (opS (f0_v12 j1) (f0_s79 j0))
def f0_g105 (j0 : Int64) (j1 : Int64) (i3 : Int32) : Nat → Int64 := (opG (f0_v12 j1) (f0_40_s0 i3) (f0_s79 j0) (f0_g79 j0 i3))
def f0_s134 (j0 : Int64) (j1 : Int64) (j2 : Int64) : Int64 := (opS (f0_v20 j2) (f0_s105 j0 j1))
def f0_g134 (j0 : Int64) (j1 : Int64) (j2 : Int64) (i3 : Int32) : Nat → Int64 := (opG (f0_v20 j2) (f0_54_s0 i3) (f0_s105 j0 j1) (f0_g105 j0 j1 i3))
def f0_s159 (j0 : Int64) (j1 : Int64) (j2 : Int64) (i3 : Int32) : Int64 := (clS (f0_s134 j0 j1 j2) (f0_g134 j0 j1 j2 i3))
def f0_g159 (j0 : Int64) (j1 : Int64) (j2 : Int64) (i3 : Int32) : Nat → Int64 := (clG (f0_s134 j0 j1 j2) (1 : Int32) (f0_g134 j0 j1 j2 i3))
def f0_r159 (j0 : Int64) (j1 : Int64) (j2 : Int64) (i3 : Int32) : Int64 := (F_cl (f0_s134 j0 j1 j2) (1 : Int32) (f0_g134 j0 j1 j2 i3) (own_w (((f0_s134 j0 j1 j2) - (1 : Int64)) - (1 : Int64))) ((own_w (((f0_s134 j0 j1 j2) - (1 : Int64)) - (1 : Int64))) - 1) (own_w (clS (f0_s134 j0 j1 j2) (f0_g134 j0 j1 j2 i3))))
def f0_s185 (j0 : Int64) (j1 : Int64) (j2 : Int64) (i3 : Int32) : Int64 := (clS (f0_s159 j0 j1 j2 i3) (f0_g159 j0 j1 j2 i3))
def f0_g185 (j0 : Int64) (j1 : Int64) (j2 : Int64) (i3 : Int32) : Nat → Int64 := (clG (f0_s159 j0 j1 j2 i3) (1 : Int32) (f0_g159 j0 j1 j2 i3))
def f0_r185 (j0 : Int64) (j1 : Int64) (j2 : Int64) (i3 : Int32) : Int64 := (F_cl (f0_s159 j0 j1 j2 i3) (1 : Int32) (f0_g159 j0 j1 j2 i3) (own_w (((f0_s159 j0 j1 j2 i3) - (1 : Int64)) - (1 : Int64))) ((own_w (((f0_s159 j0 j1 j2 i3) - (1 : Int64)) - (1 : Int64))) - 1) (own_w (clS (f0_s159 j0 j1 j2 i3) (f0_g159 j0 j1 j2 i3))))
def f0_g134a (j0 : Int64) (j1 : Int64) (j2 : Int64) (i3 : Int32) : Nat → Int64 := (opG (f0_v20 j2) (f0_54_s0 i3) (f0_s105 j0 j1) (cp1_g28 (f0_g105 j0 j1 i3)))
def f0_s159a (j0 : Int64) (j1 : Int64) (j2 : Int64) (i3 : Int32) : Int64 := (clS (f0_s134 j0 j1 j2) (f0_g134a j0 j1 j2 i3))
def f0_g159a (j0 : Int64) (j1 : Int64) (j2 : Int64) (i3 : Int32) : Nat → Int64 := (clG (f0_s134 j0 j1 j2) (2 : Int32) (f0_g134a j0 j1 j2 i3))
def f0_r159a (j0 : Int64) (j1 : Int64) (j2 : Int64) (i3 : Int32) : Int64 := (F_cl (f0_s134 j0 j1 j2) (2 : Int32) (f0_g134a j0 j1 j2 i3) (own_w (((f0_s134 j0 j1 j2) - (1 : Int64)) - (1 : Int64))) ((own_w (((f0_s134 j0 j1 j2) - (1 : Int64)) - (1 : Int64))) - 1) (own_w (clS (f0_s134 j0 j1 j2) (f0_g134a j0 j1 j2 i3))))
def f0_s185a (j0 : Int64) (j1 : Int64) (j2 : Int64) (i3 : Int32) : Int64 := (clS (f0_s159a j0 j1 j2 i3) (f0_g159a j0 j1 j2 i3))
def f0_g185a (j0 : Int64) (j1 : Int64) (j2 : Int64) (i3 : Int32) : Nat → Int64 := (clG (f0_s159a j0 j1 j2 i3) (2 : Int32) (f0_g159a j0 j1 j2 i3))
def f0_r185a (j0 : Int64) (j1 : Int64) (j2 : Int64) (i3 : Int32) : Int64 := (F_cl (f0_s159a j0 j1 j2 i3) (2 : Int32) (f0_g159a j0 j1 j2 i3) (own_w (((f0_s159a j0 j1 j2 i3) - (1 : Int64)) - (1 : Int64))) ((own_w (((f0_s159a j0 j1 j2 i3) - (1 : Int64)) - (1 : Int64))) - 1) (own_w (clS (f0_s159a j0 j1 j2 i3) (f0_g159a j0 j1 j2 i3))))
def f0_g105a (j0 : Int64) (j1 : Int64) (i3 : Int32) : Nat → Int64 := (opG (f0_v12 j1) (f0_40_s0 i3) (f0_s79 j0) (cp1_g28 (f0_g79 j0 i3)))
def f0_g134b (j0 : Int64) (j1 : Int64) (j2 : Int64) (i3 : Int32) : Nat → Int64 := (opG (f0_v20 j2) (f0_54_s0 i3) (f0_s105 j0 j1) (f0_g105a j0 j1 i3))
def f0_s159b (j0 : Int64) (j1 : Int64) (j2 : Int64) (i3 : Int32) : Int64 := (clS (f0_s134 j0 j1 j2) (f0_g134b j0 j1 j2 i3))
def f0_g159b (j0 : Int64) (j1 : Int64) (j2 : Int64) (i3 : Int32) : Nat → Int64 := (clG (f0_s134 j0 j1 j2) (2 : Int32) (f0_g134b j0 j1 j2 i3))
def f0_r159b (j0 : Int64) (j1 : Int64) (j2 : Int64) (i3 : Int32) : Int64 := (F_cl (f0_s134 j0 j1 j2) (2 : Int32) (f0_g134b j0 j1 j2 i3) (own_w (((f0_s134 j0 j1 j2) - (1 : Int64)) - (1 : Int64))) ((own_w (((f0_s134 j0 j1 j2) - (1 : Int64)) - (1 : Int64))) - 1) (own_w (clS (f0_s134 j0 j1 j2) (f0_g134b j0 j1 j2 i3))))
def f0_s185b (j0 : Int64) (j1 : Int64) (j2 : Int64) (i3 : Int32) : Int64 := (clS (f0_s159b j0 j1 j2 i3) (f0_g159b j0 j1 j2 i3))
def f0_g185b (j0 : Int64) (j1 : Int64) (j2 : Int64) (i3 : Int32) : Nat → Int64 := (clG (f0_s159b j0 j1 j2 i3) (2 : Int32) (f0_g159b j0 j1 j2 i3))
def f0_r185b (j0 : Int64) (j1 : Int64) (j2 : Int64) (i3 : Int32) : Int64 := (F_cl (f0_s159b j0 j1 j2 i3) (2 : Int32) (f0_g159b j0 j1 j2 i3) (own_w (((f0_s159b j0 j1 j2 i3) - (1 : Int64)) - (1 : Int64))) ((own_w (((f0_s159b j0 j1 j2 i3) - (1 : Int64)) - (1 : Int64))) - 1) (own_w (clS (f0_s159b j0 j1 j2 i3) (f0_g159b j0 j1 j2 i3))))
def f0_g134c (j0 : Int64) (j1 : Int64) (j2 : Int64) (i3 : Int32) : Nat → Int64 := (opG (f0_v20 j2) (f0_54_s0 i3) (f0_s105 j0 j1) (cp2_g28 (f0_g105a j0 j1 i3)))
def f0_s159c (j0 : Int64) (j1 : Int64) (j2 : Int64) (i3 : Int32) : Int64 := (clS (f0_s134 j0 j1 j2) (f0_g134c j0 j1 j2 i3))
def f0_g159c (j0 : Int64) (j1 : Int64) (j2 : Int64) (i3 : Int32) : Nat → Int64 := (clG (f0_s134 j0 j1 j2) (4 : Int32) (f0_g134c j0 j1 j2 i3))
def f0_r159c (j0 : Int64) (j1 : Int64) (j2 : Int64) (i3 : Int32) : Int64 := (F_cl (f0_s134 j0 j1 j2) (4 : Int32) (f0_g134c j0 j1 j2 i3) (own_w (((f0_s134 j0 j1 j2) - (1 : Int64)) - (1 : Int64))) ((own_w (((f0_s134 j0 j1 j2) - (1 : Int64)) - (1 : Int64))) - 1) (own_w (clS (f0_s134 j0 j1 j2) (f0_g134c j0 j1 j2 i3))))
def f0_s185c (j0 : Int64) (j1 : Int64) (j2 : Int64) (i3 : Int32) : Int64 := (clS (f0_s159c j0 j1 j2 i3) (f0_g159c j0 j1 j2 i3))
def f0_g185c (j0 : Int64) (j1 : Int64) (j2 : Int64) (i3 : Int32) : Nat → Int64 := (clG (f0_s159c j0 j1 j2 i3) (4 : Int32) (f0_g159c j0 j1 j2 i3))
def f0_r185c (j0 : Int64) (j1 : Int64) (j2 : Int64) (i3 : Int32) : Int64 := (F_cl (f0_s159c j0 j1 j2 i3) (4 : Int32) (f0_g159c j0 j1 j2 i3) (own_w (((f0_s159c j0 j1 j2 i3) - (1 : Int64)) - (1 : Int64))) ((own_w (((f0_s159c j0 j1 j2 i3) - (1 : Int64)) - (1 : Int64))) - 1) (own_w (clS (f0_s159c j0 j1 j2 i3) (f0_g159c j0 j1 j2 i3))))
def bit (g : Nat → Int64) (i : Nat) : Bool := (g (i / 64)).toBitVec.getLsbD (i % 64)
theorem own_r (r : Int32) (s : Nat) (h : r.toInt = s) (hs : s < 64) : r = Int32.ofNat s := by
  apply Int32.toInt_inj.mp
  rw [h, Int32.toInt_ofNat_of_lt (by omega)]
theorem own_sh1 : ∀ s : Fin 64, (((Int32.ofNat s.val) &&& 0x3f).toInt64.toBitVec.smod 64).toNat = s.val := by decide
theorem own_sh2 : ∀ s : Fin 64, (((Int32.ofNat s.val) &&& 0x3f).toInt64.toUInt64.toNat % 64) = s.val := by decide
theorem own_shl (x : Int64) (r : Int32) (s : Nat) (h : r.toInt = s) (hs : s < 64) : (x <<< (r &&& 0x3f).toInt64).toBitVec = x.toBitVec <<< s := by
  rw [own_r r s h hs, Int64.toBitVec_shiftLeft]
  have := own_sh1 ⟨s, hs⟩
  dsimp only at this
  rw [BitVec.shiftLeft_eq', this]
theorem own_shr (x : Int64) (r : Int32) (s : Nat) (h : r.toInt = s) (hs : s < 64) : ((x.toUInt64 >>> (r &&& 0x3f).toInt64.toUInt64).toInt64).toBitVec = x.toBitVec >>> s := by
  rw [own_r r s h hs]
  have h2 := own_sh2 ⟨s, hs⟩
  dsimp only at h2
  show (x.toUInt64 >>> _).toBitVec = _
  rw [UInt64.toBitVec_shiftRight, BitVec.ushiftRight_eq']
  have h3 : ∀ u : UInt64, (u.toBitVec % 64).toNat = u.toNat % 64 := fun u => by rw [BitVec.toNat_umod]; rfl
  rw [h3, h2]
  rfl
theorem own_ext (x y : Int64) (h : x.toBitVec = y.toBitVec) : x = y := Int64.toBitVec_inj.mp h
theorem own_v5 (x : Int64) (P : Nat) (h : x.toInt = P) (hP : P < 1073741824) : (((x.toUInt64 >>> ((6 : Int32) &&& 0x3f).toInt64.toUInt64).toInt64).toInt32).toInt = ((P / 64 : Nat) : Int) := by
  have a := c_lushr x 6 6 (by decide) (by decide)
  have b := c_l2i ((x.toUInt64 >>> ((6 : Int32) &&& 0x3f).toInt64.toUInt64).toInt64)
  have c := rng32 (((x.toUInt64 >>> ((6 : Int32) &&& 0x3f).toInt64.toUInt64).toInt64).toInt32)
  omega
theorem own_v13 (x : Int64) (P : Nat) (h : x.toInt = P) : ((x &&& (63 : Int64)).toInt32).toInt = ((P % 64 : Nat) : Int) := by
  have a := c_maskL x 63 6 (by decide) (by decide)
  have b := c_l2i (x &&& (63 : Int64))
  have c := rng32 ((x &&& (63 : Int64)).toInt32)
  omega
theorem own_64 (x : Int32) (s : Nat) (h : x.toInt = s) (h0 : 0 < s) (hs : s < 64) : ((64 : Int32) - x).toInt = ((64 - s : Nat) : Int) := by
  have a := c_isub 64 x
  have c := rng32 ((64 : Int32) - x)
  have d : (64 : Int32).toInt = 64 := by decide
  omega
theorem own_pos (x : Int32) (s : Nat) (h : x.toInt = s) : (0 : Int32) < x ↔ 0 < s := by
  rw [Int32.lt_iff_toInt_lt, h]
  have d : (0 : Int32).toInt = 0 := by decide
  omega
theorem own_up1 {α : Type} (g : Nat → α) (k : Nat) (v : α) : upv g k v k = v := by simp [upv]
theorem own_up2 {α : Type} (g : Nat → α) (k j : Nat) (v : α) (h : j ≠ k) : upv g k v j = g j := by simp [upv, h]
theorem own_sbat (pos v : Int64) (g : Nat → Int64) (P : Nat) (h : pos.toInt = P) (j t : Nat) (ht : t < 64) :
    ((sb_out0 pos v g (P / 64)) j).toBitVec.getLsbD t = ((g j).toBitVec.getLsbD t || (decide (P ≤ 64 * j + t) && v.toBitVec.getLsbD (64 * j + t - P))) := by
  have h13 : (sb_v13 pos).toInt = ((P % 64 : Nat) : Int) := own_v13 pos P h
  have hs : P % 64 < 64 := Nat.mod_lt _ (by decide)
  have a28 : ∀ j t, t < 64 → (j = P / 64 ∨ v.toBitVec.getLsbD (64 * j + t - P) = false ∨ 64 * j + t < P) → ((sb_g28 pos v g (P / 64)) j).toBitVec.getLsbD t = ((g j).toBitVec.getLsbD t || (decide (P ≤ 64 * j + t) && v.toBitVec.getLsbD (64 * j + t - P))) := by
    intro j t ht hj
    unfold sb_g28
    by_cases hk : j = P / 64
    · subst hk
      rw [own_up1, Int64.toBitVec_or, own_shl v _ _ h13 hs, BitVec.getLsbD_or, BitVec.getLsbD_shiftLeft]
      by_cases hc : t < P % 64
      · rw [decide_eq_true hc, decide_eq_false (show ¬ P ≤ 64 * (P / 64) + t by omega)]; simp
      · rw [decide_eq_false hc, decide_eq_true ht, decide_eq_true (show P ≤ 64 * (P / 64) + t by omega), show 64 * (P / 64) + t - P = t - P % 64 by omega]; simp
    · rw [own_up2 _ _ _ _ hk]
      rcases hj with hj | hj | hj
      · exact absurd hj hk
      · rw [hj]; simp
      · rw [decide_eq_false (show ¬ P ≤ 64 * j + t by omega)]; simp
  have big : ∀ n, 64 ≤ n → v.toBitVec.getLsbD n = false := fun n hn => BitVec.getLsbD_of_ge _ _ hn
  unfold sb_out0
  by_cases h0 : (0 : Int32) < sb_v13 pos
  · rw [if_pos h0]
    have h0' := (own_pos _ _ h13).mp h0
    have hr := own_shr v ((64 : Int32) - sb_v13 pos) (64 - P % 64) (own_64 _ _ h13 h0' hs) (by omega)
    by_cases hz : ((v.toUInt64 >>> (((64 : Int32) - (sb_v13 pos)) &&& 0x3f).toInt64.toUInt64).toInt64) = (0 : Int64)
    · rw [if_pos hz]
      apply a28 _ _ ht
      by_cases hk : j = P / 64
      · exact .inl hk
      by_cases hk1 : j = P / 64 + 1
      · right; left
        rw [hz] at hr
        have := congrArg (fun b => b.getLsbD t) hr
        rw [show 64 * j + t - P = 64 - P % 64 + t by omega]
        simpa using this.symm
      by_cases hl : j < P / 64
      · right; right; omega
      · right; left; exact big _ (by omega)
    · rw [if_neg hz]
      unfold sb_g64
      by_cases hk1 : j = P / 64 + 1
      · subst hk1
        rw [own_up1, Int64.toBitVec_or, hr, BitVec.getLsbD_or, BitVec.getLsbD_ushiftRight]
        have : sb_g28 pos v g (P / 64) (P / 64 + 1) = g (P / 64 + 1) := own_up2 _ _ _ _ (by omega)
        rw [this, decide_eq_true (show P ≤ 64 * (P / 64 + 1) + t by omega), show 64 * (P / 64 + 1) + t - P = 64 - P % 64 + t by omega]
        simp
      · rw [own_up2 _ _ _ _ hk1]
        apply a28 _ _ ht
        by_cases hk : j = P / 64
        · exact .inl hk
        by_cases hl : j < P / 64
        · right; right; omega
        · right; left; exact big _ (by omega)
  · rw [if_neg h0]
    have h0' : ¬ 0 < P % 64 := fun q => h0 ((own_pos _ _ h13).mpr q)
    apply a28 _ _ ht
    by_cases hk : j = P / 64
    · exact .inl hk
    by_cases hl : j < P / 64
    · right; right; omega
    · right; left; exact big _ (by omega)
theorem own_sb (pos v : Int64) (g : Nat → Int64) (P : Nat) (h : pos.toInt = P) (i : Nat) :
    bit (sb_out0 pos v g (P / 64)) i = (bit g i || (decide (P ≤ i) && v.toBitVec.getLsbD (i - P))) := by
  have := own_sbat pos v g P h (i / 64) (i % 64) (Nat.mod_lt _ (by decide))
  rw [Nat.div_add_mod] at this
  exact this
/-- the call's premise: the last bit that is set lies in a word of the array -/
theorem own_sbok (pos v : Int64) (P n B : Nat) (h : pos.toInt = P) (hP : P < 1000000) (hB : ∀ t, B ≤ t → v.toBitVec.getLsbD t = false) (hn : P + B ≤ 64 * n) (hB0 : 0 < B) : SbOk pos v (P / 64) n := by
  have h13 : (sb_v13 pos).toInt = ((P % 64 : Nat) : Int) := own_v13 pos P h
  have h5 : (sb_v5 pos).toInt = ((P / 64 : Nat) : Int) := own_v5 pos P h (by omega)
  have hs : P % 64 < 64 := Nat.mod_lt _ (by decide)
  refine ⟨h5, by omega, ?_, fun h0 hz => ?_⟩
  · have a := c_iadd (sb_v5 pos) 1
    have b := rng32 (sb_v5 pos + 1)
    have d : (1 : Int32).toInt = 1 := by decide
    omega
  · have h0' := (own_pos _ _ h13).mp h0
    have hr := own_shr v ((64 : Int32) - sb_v13 pos) (64 - P % 64) (own_64 _ _ h13 h0' hs) (by omega)
    apply Classical.byContradiction
    intro hc
    apply hz
    apply own_ext
    rw [hr]
    apply BitVec.eq_of_getLsbD_eq
    intro t _
    rw [BitVec.getLsbD_ushiftRight, hB _ (by omega)]
    simp
def St (u E : Nat) (x c : Int32) (B : Nat) : Prop := ∃ e : Nat, e ≤ E ∧ x.toInt = ((u / 2 ^ e : Nat) : Int) ∧ 0 < u / 2 ^ e ∧ u / 2 ^ e < B ∧ c.toInt = 31 - (e : Int)
theorem own_stage (u E k : Nat) (x c b q m : Int32) (B : Nat) (hq : q.toBitVec.toNat % 32 = k) (h0 : 0 < k) (hb : b.toInt = ((2 ^ k : Nat) : Int)) (hm : m.toInt = - (k : Int)) (hE : E + k ≤ 32) (hB : B ≤ 2 ^ k * 2 ^ k) (hu : u < 2147483648) (h : St u E x c B) :
    St u (E + k) (if x < b then x else ((x.toUInt32 >>> (q &&& 31).toUInt32).toInt32)) (if x < b then c else c + m) (2 ^ k) := by
  obtain ⟨e, h1, h2, h3, h4, h5⟩ := h
  have hx : x < b ↔ u / 2 ^ e < 2 ^ k := by
    rw [Int32.lt_iff_toInt_lt, h2, hb]; exact Int.ofNat_lt
  by_cases hc : x < b
  · rw [if_pos hc, if_pos hc]
    exact ⟨e, by omega, h2, h3, hx.mp hc, h5⟩
  · rw [if_neg hc, if_neg hc]
    have hl : 2 ^ k ≤ u / 2 ^ e := Nat.le_of_not_lt (fun q => hc (hx.mpr q))
    have hd : u / 2 ^ e / 2 ^ k = u / 2 ^ (e + k) := by rw [Nat.div_div_eq_div_mul, Nat.pow_add]
    have hs : u / 2 ^ e ≤ u := Nat.div_le_self _ _
    refine ⟨e + k, by omega, ?_, ?_, ?_, ?_⟩
    · rw [c_iushr x q k hq h0, h2, ← hd, show ((u / 2 ^ e : Nat) : Int) % 4294967296 = ((u / 2 ^ e : Nat) : Int) by omega]; exact (Int.natCast_ediv _ _).symm
    · rw [← hd]; exact Nat.div_pos hl (Nat.two_pow_pos k)
    · rw [← hd]; exact Nat.div_lt_of_lt_mul (Nat.lt_of_lt_of_le h4 hB)
    · have a := c_iadd c m
      have r := rng32 (c + m)
      omega
theorem own_ni (i : Int32) (u : Nat) (h : i.toInt = u) (h0 : 0 < u) : ∃ e : Nat, e ≤ 30 ∧ 2 ^ e ≤ u ∧ u < 2 ^ (e + 1) ∧ (F_ni i).toInt = 31 - (e : Int) := by
  have hr := rng32 i
  have s0 : St u 0 i 31 2147483648 := ⟨0, Nat.le_refl _, by simpa using h, by simpa using h0, by simp; omega, by decide⟩
  have z : ∀ a b : Int32, (31 : Int32) + (-16 : Int32) = 15 := fun _ _ => by decide
  have s1 := own_stage u 0 16 i 31 65536 16 (-16) 2147483648 (by decide) (by decide) (by decide) (by decide) (by decide) (by decide) (by omega) s0
  rw [z 0 0] at s1
  have s2 := own_stage u 16 8 (ni_22_l0 i) (ni_22_l1 i) 256 8 (-8) _ (by decide) (by decide) (by decide) (by decide) (by decide) (by decide) (by omega) s1
  have s3 := own_stage u 24 4 (ni_37_l0 i) (ni_37_l1 i) 16 4 (-4) _ (by decide) (by decide) (by decide) (by decide) (by decide) (by decide) (by omega) s2
  have s4 := own_stage u 28 2 (ni_51_l0 i) (ni_51_l1 i) 4 2 (-2) _ (by decide) (by decide) (by decide) (by decide) (by decide) (by decide) (by omega) s3
  have s5 : St u 30 (ni_63_l0 i) (ni_63_l1 i) 4 := s4
  obtain ⟨e, h1, h2, h3, h4, h5⟩ := s5
  have hp : (0 : Int32) < i := by rw [Int32.lt_iff_toInt_lt, h]; have : (0 : Int32).toInt = 0 := by decide
                                  omega
  unfold F_ni
  rw [if_pos hp]
  have a := c_isub (ni_63_l1 i) ((((ni_63_l0 i).toUInt32 >>> ((1 : Int32) &&& 31).toUInt32).toInt32))
  have b := c_iushr (ni_63_l0 i) 1 1 (by decide) (by decide)
  have c := rng32 ((ni_63_l1 i) - ((((ni_63_l0 i).toUInt32 >>> ((1 : Int32) &&& 31).toUInt32).toInt32)))
  rw [h2] at b
  have hp2 : 0 < 2 ^ e := Nat.two_pow_pos e
  have hdm := Nat.div_add_mod u (2 ^ e)
  have hml := Nat.mod_lt u hp2
  by_cases hc : u / 2 ^ e < 2
  · refine ⟨e, h1, ?_, ?_, ?_⟩
    · exact (Nat.le_div_iff_mul_le hp2).mp h3 |> fun q => by omega
    · exact (Nat.div_lt_iff_lt_mul hp2).mp hc |> fun q => by rw [Nat.pow_succ]; omega
    · generalize u / 2 ^ e = w at *
      have : w = 1 := by omega
      subst this
      omega
  · have hu : 2 * 2 ^ e ≤ u := (Nat.le_div_iff_mul_le hp2).mp (show 2 ≤ u / 2 ^ e by omega)
    have hv : u < 4 * 2 ^ e := (Nat.div_lt_iff_lt_mul hp2).mp h4
    have he : e ≤ 29 := by
      apply Nat.le_of_not_lt; intro hq
      have : e = 30 := by omega
      subst this
      omega
    refine ⟨e + 1, by omega, by rw [Nat.pow_succ]; omega, by rw [Nat.pow_succ, Nat.pow_succ]; omega, ?_⟩
    generalize u / 2 ^ e = w at *
    omega
theorem own_hi (x : Nat) (e : Nat) (h1 : 2 ^ e ≤ x) (h2 : x < 2 ^ (e + 1)) : x.testBit e = true ∧ ∀ t, e < t → x.testBit t = false :=
  ⟨Nat.testBit_of_two_pow_le_and_two_pow_add_one_gt h1 h2, fun t ht => Nat.testBit_lt_two_pow (Nat.lt_of_lt_of_le h2 (Nat.pow_le_pow_right (by decide) ht))⟩
/-- the highest bit of an int that is not 0 -/
theorem own_ni2 (i : Int32) (h0 : i ≠ 0) : ∃ e : Nat, e ≤ 31 ∧ i.toBitVec.getLsbD e = true ∧ (∀ t, e < t → i.toBitVec.getLsbD t = false) ∧ (F_ni i).toInt = 31 - (e : Int) := by
  have hn : i.toInt ≠ 0 := fun q => h0 (Int32.toInt_inj.mp (q.trans (by decide)))
  have hr := rng32 i
  by_cases hp : 0 < i.toInt
  · obtain ⟨u, hu⟩ : ∃ u : Nat, i.toInt = u := ⟨i.toInt.toNat, by omega⟩
    obtain ⟨e, h1, h2, h3, h4⟩ := own_ni i u hu (by omega)
    have ht : i.toBitVec.toNat = u := by
      have := BitVec.toInt_eq_toNat_cond i.toBitVec
      have h7 : i.toInt = i.toBitVec.toInt := rfl
      have := i.toBitVec.isLt
      split at * <;> omega
    have hh := own_hi u e h2 h3
    rw [← ht] at hh
    exact ⟨e, by omega, hh.1, hh.2, h4⟩
  · refine ⟨31, Nat.le_refl _, ?_, fun t ht => BitVec.getLsbD_of_ge _ _ ht, ?_⟩
    · have : i.toBitVec.msb = true := by
        rw [BitVec.msb_eq_toInt]; have h7 : i.toInt = i.toBitVec.toInt := rfl
        rw [← h7]; simp; omega
      rw [BitVec.msb_eq_getLsbD_last] at this; exact this
    · unfold F_ni
      have h1 : ¬ (0 : Int32) < i := by rw [Int32.lt_iff_toInt_lt]; have : (0 : Int32).toInt = 0 := by decide
                                        omega
      rw [if_neg h1]
      unfold ni_5_s0
      rw [if_neg h0]
      decide
theorem own_nl (x : Int64) (h0 : x ≠ 0) : ∃ e : Nat, e ≤ 63 ∧ x.toBitVec.getLsbD e = true ∧ (∀ t, e < t → x.toBitVec.getLsbD t = false) ∧ (F_nl x).toInt = 63 - (e : Int) := by
  have hv : ∀ t, (nl_v5 x).toBitVec.getLsbD t = (decide (t < 32) && x.toBitVec.getLsbD (32 + t)) := by
    intro t
    unfold nl_v5
    rw [Int64.toBitVec_toInt32, own_shr x 32 32 (by decide) (by decide), BitVec.getLsbD_signExtend, BitVec.getLsbD_ushiftRight]
    by_cases ht : t < 32
    · rw [if_pos (show t < 64 by omega)]
    · rw [decide_eq_false ht]; simp
  unfold F_nl
  by_cases hz : nl_v5 x = 0
  · rw [if_pos hz]
    have hw : ∀ t, 32 ≤ t → x.toBitVec.getLsbD t = false := by
      intro t ht
      by_cases h64 : 64 ≤ t
      · exact BitVec.getLsbD_of_ge _ _ h64
      have := hv (t - 32)
      rw [hz, decide_eq_true (show t - 32 < 32 by omega), show 32 + (t - 32) = t by omega] at this
      simpa using this.symm
    have hl : ∀ t, t < 32 → x.toInt32.toBitVec.getLsbD t = x.toBitVec.getLsbD t := by
      intro t ht
      rw [Int64.toBitVec_toInt32, BitVec.getLsbD_signExtend, decide_eq_true ht, if_pos (show t < 64 by omega)]; simp
    have h1 : x.toInt32 ≠ 0 := by
      intro q
      apply h0
      apply own_ext
      apply BitVec.eq_of_getLsbD_eq
      intro t _
      by_cases h32 : t < 32
      · rw [← hl t h32, q]; simp
      · rw [hw t (by omega)]; simp
    obtain ⟨e, h2, h3, h4, h5⟩ := own_ni2 _ h1
    refine ⟨e, by omega, (hl e (by omega)) ▸ h3, fun t ht => ?_, ?_⟩
    · by_cases h32 : t < 32
      · rw [← hl t h32]; exact h4 t ht
      · exact hw t (by omega)
    · have a := c_iadd 32 (F_ni x.toInt32)
      have r := rng32 (32 + F_ni x.toInt32)
      have d : (32 : Int32).toInt = 32 := by decide
      omega
  · rw [if_neg hz]
    obtain ⟨e, h2, h3, h4, h5⟩ := own_ni2 _ hz
    refine ⟨32 + e, by omega, ?_, fun t ht => ?_, by omega⟩
    · have := hv e
      rw [h3] at this; simpa using (by simpa using this.symm : _ ∧ _).2
    · by_cases h64 : 64 ≤ t
      · exact BitVec.getLsbD_of_ge _ _ h64
      have := hv (t - 32)
      rw [h4 _ (by omega), decide_eq_true (show t - 32 < 32 by omega), show 32 + (t - 32) = t by omega] at this
      simpa using this.symm
/-- a container's record: its number's highest bit at S + L, its mark at S + 2 L + 1 -/
def Lay (g : Nat → Int64) (S L : Nat) (m : Int32) : Prop := (∀ i, S + L < i → i ≠ S + 2 * L + 1 → bit g i = false) ∧ bit g (S + L) = true ∧ bit g (S + 2 * L + 1) = decide (m ≠ 0)
theorem own_wn (x : Int64) (P : Nat) (h : x.toInt = P) : own_w x = P / 64 := by unfold own_w; rw [h]; rfl
theorem own_nat64 (x : Int64) (a : Nat) (h : x.toInt = a) : x.toBitVec.toNat = a := by
  have := BitVec.toInt_eq_toNat_cond x.toBitVec
  have h7 : x.toInt = x.toBitVec.toInt := rfl
  have := x.toBitVec.isLt
  split at * <;> omega
theorem own_op1 (j sz : Int64) (a S : Nat) (hj : j.toInt = a) (ha : a < 2147483648) (hs : sz.toInt = S) (hS : S ≤ 1000) :
    ∃ L : Nat, L ≤ 31 ∧ (j + (1 : Int64)).toBitVec.getLsbD L = true ∧ (∀ t, L < t → (j + (1 : Int64)).toBitVec.getLsbD t = false) ∧ (op_v29 j sz).toInt = ((S + 2 * L + 1 : Nat) : Int) := by
  have hv : (j + (1 : Int64)).toInt = ((a + 1 : Nat) : Int) := by
    have b := c_ladd j 1
    have r := rng64 (j + 1)
    have d : (1 : Int64).toInt = 1 := by decide
    omega
  have h0 : j + (1 : Int64) ≠ 0 := fun q => by rw [q] at hv; have d : (0 : Int64).toInt = 0 := by decide
                                               omega
  obtain ⟨e, h1, h2, h3, h4⟩ := own_nl _ h0
  have he : e ≤ 31 := by
    apply Nat.le_of_not_lt; intro hq
    have hz : (j + (1 : Int64)).toBitVec.getLsbD e = false := by
      show (j + (1 : Int64)).toBitVec.toNat.testBit e = false
      rw [own_nat64 _ _ hv]
      exact Nat.testBit_lt_two_pow (Nat.lt_of_lt_of_le (show a + 1 < 2 ^ 32 by omega) (Nat.pow_le_pow_right (by decide) hq))
    rw [hz] at h2; exact Bool.noConfusion h2
  refine ⟨e, he, h2, h3, ?_⟩
  unfold op_v29 op_v13
  generalize F_nl (j + (1 : Int64)) = f at *
  have a1 := c_isub 63 f
  have r1 := rng32 (63 - f)
  have d1 : (63 : Int32).toInt = 63 := by decide
  have d2 : (2 : Int64).toInt = 2 := by decide
  have d3 : (1 : Int64).toInt = 1 := by decide
  have a2 := c_i2l (63 - f)
  generalize (63 - f).toInt64 = y at *
  have a3 := c_lmul 2 y
  have r3 := rng64 (2 * y)
  rw [d2] at a3
  generalize 2 * y = z at *
  have a4 := c_ladd sz z
  have r4 := rng64 (sz + z)
  have a5 := c_ladd (sz + z) 1
  have r5 := rng64 (sz + z + 1)
  omega
theorem own_opG (j sz : Int64) (m : Int32) (g : Nat → Int64) (a S : Nat) (hj : j.toInt = a) (ha : a < 2147483648) (hs : sz.toInt = S) (hS : S ≤ 1000) (hg : ∀ i, S ≤ i → bit g i = false) :
    ∃ L : Nat, L ≤ 31 ∧ (op_v29 j sz).toInt = ((S + 2 * L + 1 : Nat) : Int) ∧ (opS j sz).toInt = ((S + 2 * L + 2 : Nat) : Int) ∧ Lay (opG j m sz g) S L m ∧ (∀ i, i < S → bit (opG j m sz g) i = bit g i) ∧ (∀ n, S + 2 * L + 2 ≤ 64 * n → SbOk sz (j + (1 : Int64)) (own_w sz) n ∧ SbOk (op_v29 j sz) (1 : Int64) (own_w (op_v29 j sz)) n) := by
  obtain ⟨L, hL, h1, h2, h3⟩ := own_op1 j sz a S hj ha hs hS
  have one : ∀ t, (1 : Int64).toBitVec.getLsbD t = decide (t = 0) := by
    intro t
    have : (1 : Int64).toBitVec = 1#64 := rfl
    rw [this, BitVec.getLsbD_one]; simp
  have hS' : (opS j sz).toInt = ((S + 2 * L + 2 : Nat) : Int) := by
    unfold opS
    have a5 := c_ladd (op_v29 j sz) 1
    have r5 := rng64 (op_v29 j sz + 1)
    have d3 : (1 : Int64).toInt = 1 := by decide
    omega
  have hb : ∀ i, bit (opG j m sz g) i = (bit g i || (decide (S ≤ i) && (j + (1 : Int64)).toBitVec.getLsbD (i - S)) || (decide (i = S + 2 * L + 1) && decide (m ≠ 0))) := by
    intro i
    unfold opG op_out3
    rw [own_wn _ _ hs, own_wn _ _ h3]
    by_cases hm : m = 0
    · rw [if_pos hm, own_sb _ _ _ _ hs, decide_eq_false (show ¬ m ≠ 0 from fun q => q hm)]; simp
    · rw [if_neg hm, own_sb _ _ _ _ h3, own_sb _ _ _ _ hs, one, decide_eq_true (show m ≠ 0 from hm)]
      refine congrArg (or _) ?_
      by_cases hi : i = S + 2 * L + 1
      · rw [decide_eq_true (show S + 2 * L + 1 ≤ i by omega), decide_eq_true (show i - (S + 2 * L + 1) = 0 by omega), decide_eq_true hi]
      · rw [decide_eq_false hi]
        by_cases hl : S + 2 * L + 1 ≤ i
        · rw [decide_eq_false (show ¬ i - (S + 2 * L + 1) = 0 by omega)]; simp
        · rw [decide_eq_false hl]; simp
  refine ⟨L, hL, h3, hS', ⟨fun i h4 h5 => ?_, ?_, ?_⟩, fun i hi => ?_, fun n hn => ⟨?_, ?_⟩⟩
  · rw [hb, hg i (by omega), h2 _ (by omega), decide_eq_false h5]; simp
  · rw [hb, show S + L - S = L by omega, h1, decide_eq_true (show S ≤ S + L by omega)]; simp
  · rw [hb, hg _ (by omega), h2 _ (by omega), decide_eq_true rfl]; simp
  · rw [hb, decide_eq_false (show ¬ S ≤ i by omega), decide_eq_false (show ¬ i = S + 2 * L + 1 by omega)]; simp
  · rw [own_wn _ _ hs]
    exact own_sbok _ _ S n (L + 1) hs (by omega) (fun t ht => h2 t (by omega)) (by omega) (by omega)
  · rw [own_wn _ _ h3]
    exact own_sbok _ _ (S + 2 * L + 1) n 1 h3 (by omega) (fun t ht => by rw [one, decide_eq_false (by omega)]) (by omega) (by omega)
theorem own_im (sz : Int64) (g : Nat → Int64) (s n : Nat) (m : Int32) (hs : sz.toInt = ((s + 1 : Nat) : Int)) (hb : bit g s = decide (m ≠ 0)) (hm : m = 0 ∨ m = 1) (hn : s < 64 * n) (hs2 : s < 2000) :
    F_im sz g (own_w (sz - (1 : Int64))) = m ∧ ((((sz - (1 : Int64)).toUInt64 >>> ((6 : Int32) &&& 0x3f).toInt64.toUInt64).toInt64).toInt32).toInt = ((own_w (sz - (1 : Int64)) : Nat) : Int) ∧ own_w (sz - (1 : Int64)) < n := by
  have h1 : (sz - (1 : Int64)).toInt = (s : Int) := by
    have a := c_lsub sz 1
    have r := rng64 (sz - 1)
    have d : (1 : Int64).toInt = 1 := by decide
    omega
  rw [own_wn _ _ h1]
  refine ⟨?_, own_v5 _ _ h1 (by omega), by omega⟩
  have h2 := own_v13 _ _ h1
  have h3 := own_shr (g (s / 64)) _ _ h2 (Nat.mod_lt _ (by decide))
  have h4 : ∀ y : Int64, y.toBitVec.getLsbD 0 = decide (m ≠ 0) → nar .boolean (if (y &&& (1 : Int64)) = (0 : Int64) then (0 : Int32) else (1 : Int32)) = m := by
    intro y hy
    have h5 : (y &&& (1 : Int64)) = 0 ↔ y.toBitVec.getLsbD 0 = false := by
      have e1 : (y &&& (1 : Int64)).toBitVec = y.toBitVec &&& 1#64 := rfl
      constructor
      · intro q
        have := congrArg (fun b => b.toBitVec.getLsbD 0) q
        rw [e1, BitVec.getLsbD_and] at this
        simpa using this
      · intro q
        apply own_ext
        rw [e1]
        apply BitVec.eq_of_getLsbD_eq
        intro t _
        rw [BitVec.getLsbD_and, BitVec.getLsbD_one]
        by_cases ht : t = 0
        · subst ht; rw [q]; simp
        · simp [ht]
    rcases hm with hm | hm <;> subst hm
    · rw [if_pos (h5.mpr (hy.trans (by decide)))]; rfl
    · rw [if_neg (fun q => by rw [h5.mp q] at hy; exact absurd hy (by decide))]; rfl
  unfold F_im im_28_s0
  apply h4
  rw [h3, BitVec.getLsbD_ushiftRight, Nat.add_zero]
  exact hb
theorem own_m1 (t : Nat) (ht : t < 64) : (-1 : Int64).toBitVec.getLsbD t = true := by
  have : (-1 : Int64).toBitVec = BitVec.allOnes 64 := by decide
  rw [this, BitVec.getLsbD_allOnes]; simpa using ht
theorem own_dec (x : Int32) (q : Nat) (h : x.toInt = (q : Int)) (hq : q < 1000) : (x + (-1 : Int32)).toInt = (q : Int) - 1 := by
  have a := c_iadd x (-1)
  have r := rng32 (x + -1)
  have d : (-1 : Int32).toInt = -1 := by decide
  omega
theorem own_hsF (j1 : Int64) (g : Nat → Int64) (M H n : Nat) (hj : j1.toInt = ((M + 1 : Nat) : Int)) (hM : M < 2000) (hH : H ≤ M) (hd : M < H + 64) (h1 : bit g H = true) (h2 : ∀ i, H < i → i ≤ M → bit g i = false) (hn : M < 64 * n) :
    (F_hs j1 g (M / 64) (M / 64 - 1)).toInt = (H : Int) ∧ HsOk j1 g (M / 64) (M / 64 - 1) n := by
  have hm : (j1 - (1 : Int64)).toInt = (M : Int) := by
    have a := c_lsub j1 1
    have r := rng64 (j1 - 1)
    have d : (1 : Int64).toInt = 1 := by decide
    omega
  have h9 : (hs_v9 j1).toInt = ((M / 64 : Nat) : Int) := own_v5 _ _ hm (by omega)
  have hsub : (((63 : Int64) - ((j1 - (1 : Int64)) &&& (63 : Int64))).toInt32).toInt = ((63 - M % 64 : Nat) : Int) := by
    have a := c_maskL (j1 - 1) 63 6 (by decide) (by decide)
    have b := c_lsub 63 ((j1 - (1 : Int64)) &&& (63 : Int64))
    have r := rng64 (63 - ((j1 - (1 : Int64)) &&& (63 : Int64)))
    have c := c_l2i (63 - ((j1 - (1 : Int64)) &&& (63 : Int64)))
    have r2 := rng32 (63 - ((j1 - (1 : Int64)) &&& (63 : Int64))).toInt32
    have d : (63 : Int64).toInt = 63 := by decide
    omega
  have hv : ∀ t, t < 64 → (hs_v33 j1 g (M / 64)).toBitVec.getLsbD t = ((g (M / 64)).toBitVec.getLsbD t && decide (t ≤ M % 64)) := by
    intro t ht
    unfold hs_v33
    rw [Int64.toBitVec_and, own_shr _ _ _ hsub (by omega), BitVec.getLsbD_and, BitVec.getLsbD_ushiftRight]
    by_cases hc : t ≤ M % 64
    · rw [own_m1 _ (by omega), decide_eq_true hc]
    · rw [BitVec.getLsbD_of_ge (-1 : Int64).toBitVec (63 - M % 64 + t) (by omega), decide_eq_false hc]
  have hbit : ∀ j t, t < 64 → (g j).toBitVec.getLsbD t = bit g (64 * j + t) := by
    intro j t ht
    unfold bit
    rw [show (64 * j + t) / 64 = j by omega, show (64 * j + t) % 64 = t by omega]
  have d63 : (63 : Int64).toInt = 63 := by decide
  -- the word's number and its highest bit give the place
  have fin : ∀ (w : Int32) (x : Int64) (q : Nat), w.toInt = (q : Int) → q < 100 → x.toBitVec.getLsbD (H % 64) = true → (∀ t, H % 64 < t → t < 64 → x.toBitVec.getLsbD t = false) → H / 64 = q →
      ((((w.toInt64) <<< ((6 : Int32) &&& 0x3f).toInt64) + (63 : Int64)) - ((F_nl x).toInt64)).toInt = (H : Int) := by
    intro w x q hw hq hx1 hx2 hHq
    have hx0 : x ≠ 0 := by intro z; rw [z] at hx1; simp at hx1
    obtain ⟨e, e1, e2, e3, e4⟩ := own_nl x hx0
    have he : e = H % 64 := by
      apply Classical.byContradiction; intro hne
      rcases Nat.lt_or_gt_of_ne hne with hl | hl
      · rw [e3 _ hl] at hx1; exact Bool.noConfusion hx1
      · rw [hx2 e hl (by omega)] at e2; exact Bool.noConfusion e2
    have a := c_lshl w.toInt64 6 6 (by decide)
    have b := c_i2l w
    have r := rng64 (w.toInt64 <<< ((6 : Int32) &&& 0x3f).toInt64)
    have c := c_i2l (F_nl x)
    generalize (F_nl x).toInt64 = y at *
    generalize (w.toInt64 <<< ((6 : Int32) &&& 0x3f).toInt64) = z at *
    have a2 := c_ladd z 63
    have r2 := rng64 (z + 63)
    have a3 := c_lsub (z + 63) y
    have r3 := rng64 (z + 63 - y)
    omega
  have hkn : M / 64 < n := by omega
  have hm1 : ((hs_v9 j1) + (-1 : Int32)).toInt = ((M / 64 : Nat) : Int) - 1 := own_dec _ _ h9 (by omega)
  unfold HsOk F_hs
  generalize (hs_v9 j1) + (-1 : Int32) = w1 at *
  generalize hs_v9 j1 = w0 at *
  generalize hs_v33 j1 g (M / 64) = x0 at *
  clear hsub hm hj
  by_cases hk : H / 64 = M / 64
  · have hx1 : (x0).toBitVec.getLsbD (H % 64) = true := by
      rw [hv _ (Nat.mod_lt _ (by decide)), hbit _ _ (Nat.mod_lt _ (by decide)), decide_eq_true (show H % 64 ≤ M % 64 by omega), show 64 * (M / 64) + H % 64 = H by omega, h1]; rfl
    have hz : ¬ x0 = 0 := by intro z; rw [z] at hx1; simp at hx1
    refine ⟨?_, h9, hkn, fun q => absurd q hz⟩
    rw [if_neg hz]
    apply fin _ _ _ h9 (by omega) hx1 _ hk
    intro t ht1 ht2
    rw [hv _ ht2]
    by_cases hc : t ≤ M % 64
    · rw [hbit _ _ ht2, h2 _ (by omega) (by omega)]; rfl
    · rw [decide_eq_false hc]; simp
  · have hz : x0 = 0 := by
      apply own_ext
      apply BitVec.eq_of_getLsbD_eq
      intro t ht
      rw [hv _ ht]
      by_cases hc : t ≤ M % 64
      · rw [hbit _ _ ht, h2 _ (by omega) (by omega)]; simp
      · rw [decide_eq_false hc]; simp
    have hq : w1.toInt = ((M / 64 - 1 : Nat) : Int) := by omega
    refine ⟨?_, h9, hkn, fun _ => ⟨hq, by omega⟩⟩
    rw [if_pos hz]
    apply fin _ _ _ hq (by omega) _ _ (by omega)
    · rw [hbit _ _ (Nat.mod_lt _ (by decide)), show 64 * (M / 64 - 1) + H % 64 = H by omega, h1]
    · intro t ht1 ht2
      rw [hbit _ _ ht2, h2 _ (by omega) (by omega)]
theorem own_tk (j1 : Int64) (nl : Int32) (g : Nat → Int64) (P Q n : Nat) (hj : j1.toInt = (P : Int)) (hP : P < 2000) (hl : nl.toInt = (n : Int)) (hQ : Q ≤ P + 64) (hQn : Q ≤ 64 * n) (hPn : P < 64 * n) (hz : ∀ i, Q ≤ i → bit g i = false) :
    TkOk j1 nl (P / 64) n ∧ ∀ i, bit (tk_out3 j1 nl g (P / 64)) i = (bit g i && decide (i < P)) := by
  have h5 : (tk_v5 j1).toInt = ((P / 64 : Nat) : Int) := own_v5 _ _ hj (by omega)
  have h12 : (tk_v12 j1).toInt = ((P % 64 : Nat) : Int) := own_v13 _ _ hj
  have h51 : ((tk_v5 j1) + (1 : Int32)).toInt = ((P / 64 + 1 : Nat) : Int) := by
    have a := c_iadd (tk_v5 j1) 1
    have r := rng32 (tk_v5 j1 + 1)
    have d : (1 : Int32).toInt = 1 := by decide
    omega
  have hlt : ((tk_v5 j1) + (1 : Int32)) < nl ↔ P / 64 + 1 < n := by
    rw [Int32.lt_iff_toInt_lt, h51, hl]; exact Int.ofNat_lt
  refine ⟨⟨h5, by omega, h51, fun q => hlt.mp q⟩, ?_⟩
  have h43 : ∀ j t, t < 64 → (tk_g43 j1 g (P / 64) j).toBitVec.getLsbD t = ((g j).toBitVec.getLsbD t && (decide (j ≠ P / 64) || decide (t < P % 64))) := by
    intro j t ht
    unfold tk_g43
    by_cases hk : j = P / 64
    · rw [hk, own_up1, Int64.toBitVec_and, Int64.toBitVec_xor, own_shl _ _ _ h12 (Nat.mod_lt _ (by decide)), BitVec.getLsbD_and, BitVec.getLsbD_xor, own_m1 t ht, BitVec.getLsbD_shiftLeft]
      by_cases hc : t < P % 64
      · rw [decide_eq_true hc]; simp
      · rw [decide_eq_false hc, own_m1 (t - P % 64) (by omega), decide_eq_true ht]; simp
    · rw [own_up2 _ _ _ _ hk, decide_eq_true hk]; simp
  have hbit : ∀ (f : Nat → Int64) i, bit f i = (f (i / 64)).toBitVec.getLsbD (i % 64) := fun _ _ => rfl
  -- what is left to show where the next word is not cleared
  have rest : (∀ i, i / 64 = P / 64 + 1 → bit g i = false) → ∀ i, bit (tk_g43 j1 g (P / 64)) i = (bit g i && decide (i < P)) := by
    intro hr i
    rw [hbit, h43 _ _ (Nat.mod_lt _ (by decide)), ← hbit]
    by_cases hk : i / 64 = P / 64
    · rw [decide_eq_false (show ¬ i / 64 ≠ P / 64 from fun q => q hk)]
      by_cases hc : i < P
      · rw [decide_eq_true hc, decide_eq_true (show i % 64 < P % 64 by omega)]; rfl
      · rw [decide_eq_false hc, decide_eq_false (show ¬ i % 64 < P % 64 by omega)]; rfl
    · rw [decide_eq_true (show i / 64 ≠ P / 64 from hk)]
      by_cases hc : i < P
      · rw [decide_eq_true hc]; rfl
      · have : bit g i = false := by
          by_cases h1 : i / 64 = P / 64 + 1
          · exact hr i h1
          · exact hz i (by omega)
        rw [this]; simp
  unfold tk_out3
  by_cases h0 : (0 : Int32) < tk_v12 j1
  · rw [if_pos h0]
    have h0' := (own_pos _ _ h12).mp h0
    by_cases hc : ((tk_v5 j1) + (1 : Int32)) < nl
    · rw [if_pos hc]
      intro i
      rw [hbit]
      unfold tk_g87
      by_cases h1 : i / 64 = P / 64 + 1
      · rw [h1, own_up1, decide_eq_false (show ¬ i < P by omega)]; simp
      · rw [own_up2 _ _ _ _ h1, ← hbit]
        rw [hbit, h43 _ _ (Nat.mod_lt _ (by decide)), ← hbit]
        by_cases hk : i / 64 = P / 64
        · rw [decide_eq_false (show ¬ i / 64 ≠ P / 64 from fun q => q hk)]
          by_cases hc : i < P
          · rw [decide_eq_true hc, decide_eq_true (show i % 64 < P % 64 by omega)]; rfl
          · rw [decide_eq_false hc, decide_eq_false (show ¬ i % 64 < P % 64 by omega)]; rfl
        · rw [decide_eq_true (show i / 64 ≠ P / 64 from hk)]
          by_cases hc : i < P
          · rw [decide_eq_true hc]; rfl
          · rw [hz i (by omega)]; simp
    · rw [if_neg hc]
      have hc' : ¬ P / 64 + 1 < n := fun q => hc (hlt.mpr q)
      exact rest (fun i hi => hz i (by omega))
  · rw [if_neg h0]
    have h0' : ¬ 0 < P % 64 := fun q => h0 ((own_pos _ _ h12).mpr q)
    exact rest (fun i hi => hz i (by omega))
theorem own_cl (sz : Int64) (nl : Int32) (g : Nat → Int64) (m : Int32) (S L n : Nat) (hL : L ≤ 31) (hs : sz.toInt = ((S + 2 * L + 2 : Nat) : Int)) (hS : S ≤ 1000) (hg : Lay g S L m) (hn : S + 2 * L + 2 ≤ 64 * n) (hl : nl.toInt = (n : Int)) :
    HsOk (sz - (1 : Int64)) g (own_w ((sz - (1 : Int64)) - (1 : Int64))) (own_w ((sz - (1 : Int64)) - (1 : Int64)) - 1) n ∧ TkOk (clS sz g) nl (own_w (clS sz g)) n ∧ (clS sz g).toInt = (S : Int) ∧ ∀ i, bit (clG sz nl g) i = (bit g i && decide (i < S)) := by
  have d : (1 : Int64).toInt = 1 := by decide
  have h1 : (sz - (1 : Int64)).toInt = ((S + 2 * L + 1 : Nat) : Int) := by
    have a := c_lsub sz 1
    have r := rng64 (sz - 1)
    omega
  have h2 : ((sz - (1 : Int64)) - (1 : Int64)).toInt = ((S + 2 * L : Nat) : Int) := by
    have a := c_lsub (sz - 1) 1
    have r := rng64 (sz - 1 - 1)
    omega
  obtain ⟨f1, f2⟩ := own_hsF (sz - 1) g (S + 2 * L) (S + L) n h1 (by omega) (by omega) (by omega) hg.2.1 (fun i p q => hg.1 i p (by omega)) (by omega)
  have hw := own_wn _ _ h2
  have h3 : (clS sz g).toInt = (S : Int) := by
    unfold clS cl_v20 cl_v12
    rw [hw]
    generalize F_hs (sz - 1) g ((S + 2 * L) / 64) ((S + 2 * L) / 64 - 1) = f at *
    have a := c_lsub (sz - 1 - 1) f
    have r := rng64 (sz - 1 - 1 - f)
    have a2 := c_lsub f (sz - 1 - 1 - f)
    have r2 := rng64 (f - (sz - 1 - 1 - f))
    omega
  obtain ⟨t1, t2⟩ := own_tk (clS sz g) nl g S (S + 2 * L + 2) n h3 (by omega) hl (by omega) hn (by omega) (fun i hi => hg.1 i (by omega) (by omega))
  refine ⟨?_, ?_, h3, ?_⟩
  · rw [hw]; exact f2
  · rw [own_wn _ _ h3]; exact t1
  · intro i; unfold clG; rw [own_wn _ _ h3]; exact t2 i
/-- the state's top: a container's record ends at the size -/
def Top (g : Nat → Int64) (sz : Int64) (S L : Nat) (m : Int32) : Prop := L ≤ 31 ∧ sz.toInt = ((S + 2 * L + 2 : Nat) : Int) ∧ S ≤ 1000 ∧ Lay g S L m
theorem Top.zero {g sz S L m} (h : Top g sz S L m) : ∀ i, S + 2 * L + 2 ≤ i → bit g i = false := fun i hi => h.2.2.2.1 i (by omega) (by omega)
theorem Top.cong {g g' sz S L m} (h : Top g sz S L m) (e : ∀ i, bit g' i = bit g i) : Top g' sz S L m :=
  ⟨h.1, h.2.1, h.2.2.1, fun i p q => (e i).trans (h.2.2.2.1 i p q), (e _).trans h.2.2.2.2.1, (e _).trans h.2.2.2.2.2⟩
theorem Top.im {g sz S L m} (n : Nat) (h : Top g sz S L m) (hm : m = 0 ∨ m = 1) (hn : S + 2 * L + 2 ≤ 64 * n) :
    F_im sz g (own_w (sz - (1 : Int64))) = m ∧ ((((sz - (1 : Int64)).toUInt64 >>> ((6 : Int32) &&& 0x3f).toInt64.toUInt64).toInt64).toInt32).toInt = ((own_w (sz - (1 : Int64)) : Nat) : Int) ∧ own_w (sz - (1 : Int64)) < n := by
  obtain ⟨h1, h2, h3, h4⟩ := h
  exact own_im sz g (S + 2 * L + 1) n m h2 h4.2.2 hm (by omega) (by omega)
theorem Top.close {g sz S L m gb sb S' L' m'} (n : Nat) (nl : Int32) (h : Top g sz S L m) (hn : S + 2 * L + 2 ≤ 64 * n) (hl : nl.toInt = (n : Int)) (h' : Top gb sb S' L' m') (hS : S = S' + 2 * L' + 2) (he : ∀ i, i < S → bit g i = bit gb i) :
    (HsOk (sz - (1 : Int64)) g (own_w ((sz - (1 : Int64)) - (1 : Int64))) (own_w ((sz - (1 : Int64)) - (1 : Int64)) - 1) n ∧ TkOk (clS sz g) nl (own_w (clS sz g)) n) ∧ Top (clG sz nl g) (clS sz g) S' L' m' ∧ ∀ i, bit (clG sz nl g) i = bit gb i := by
  obtain ⟨h1, h2, h3, h4⟩ := h
  obtain ⟨a, b, c, d⟩ := own_cl sz nl g m S L n h1 h2 h3 h4 hn hl
  have e : ∀ i, bit (clG sz nl g) i = bit gb i := by
    intro i
    rw [d]
    by_cases hi : i < S
    · rw [he i hi, decide_eq_true hi]; simp
    · rw [decide_eq_false hi, h'.zero i (by omega)]; simp
  have t' := h'.cong e
  exact ⟨⟨a, b⟩, ⟨t'.1, by rw [c, hS], t'.2.2.1, t'.2.2.2⟩, e⟩
theorem Top.open {g sz S L m} (j : Int64) (m' : Int32) (h : Top g sz S L m) (hj : 0 ≤ j.toInt ∧ j.toInt < 2147483648) (hS : S ≤ 500) : ∃ L' : Nat, Top (opG j m' sz g) (opS j sz) (S + 2 * L + 2) L' m' ∧ (∀ i, i < S + 2 * L + 2 → bit (opG j m' sz g) i = bit g i) ∧ (op_v29 j sz).toInt = ((S + 2 * L + 2 + 2 * L' + 1 : Nat) : Int) ∧ (∀ n, S + 2 * L + 2 + 2 * L' + 2 ≤ 64 * n → SbOk sz (j + (1 : Int64)) (own_w sz) n ∧ SbOk (op_v29 j sz) (1 : Int64) (own_w (op_v29 j sz)) n) := by
  have hb := h.1
  obtain ⟨L', a, b, c, d, e, f⟩ := own_opG j sz m' g j.toInt.toNat (S + 2 * L + 2) (by omega) (by omega) h.2.1 (by omega) h.zero
  exact ⟨L', ⟨a, c, by omega, d⟩, e, b, f⟩
theorem own_gr (x : Int64) (M n : Nat) (nl : Int64) (hx : x.toInt = (M : Int)) (hl : nl.toInt = (n : Int)) : ((x.toUInt64 >>> ((6 : Int32) &&& 0x3f).toInt64.toUInt64).toInt64) < nl ↔ M / 64 < n := by
  have a := c_lushr x 6 6 (by decide) (by decide)
  have r := rng64 x
  rw [Int64.lt_iff_toInt_lt, a, hx, hl]
  omega
theorem own_cp1 (g : Nat → Int64) (S : Nat) (h : ∀ i, S ≤ i → bit g i = false) (hS : S ≤ 64) : ∀ i, bit (cp1_g28 g) i = bit g i := by
  intro i
  by_cases hi : i / 64 < 1
  · unfold bit cp1_g28; rw [if_pos hi]
  · rw [h i (by omega)]; unfold bit cp1_g28; rw [if_neg hi]; simp
theorem own_cp2 (g : Nat → Int64) (S : Nat) (h : ∀ i, S ≤ i → bit g i = false) (hS : S ≤ 128) : ∀ i, bit (cp2_g28 g) i = bit g i := by
  intro i
  by_cases hi : i / 64 < 2
  · unfold bit cp2_g28; rw [if_pos hi]
  · rw [h i (by omega)]; unfold bit cp2_g28; rw [if_neg hi]; simp
theorem own_z0 (i : Nat) : bit own_z i = false := by unfold bit own_z; simp
theorem own_t1 (j : Int64) (m : Int32) (hj : 0 ≤ j.toInt ∧ j.toInt < 2147483648) : ∃ L : Nat, Top (opG j m (0 : Int64) own_z) (opS j (0 : Int64)) 0 L m ∧ (op_v29 j (0 : Int64)).toInt = ((2 * L + 1 : Nat) : Int) ∧ (∀ n, 2 * L + 2 ≤ 64 * n → SbOk (0 : Int64) (j + (1 : Int64)) (own_w (0 : Int64)) n ∧ SbOk (op_v29 j (0 : Int64)) (1 : Int64) (own_w (op_v29 j (0 : Int64))) n) := by
  obtain ⟨L', a, b, c, d, e, f⟩ := own_opG j 0 m own_z j.toInt.toNat 0 (by omega) (by omega) (by decide) (by omega) (fun i _ => own_z0 i)
  simp only [Nat.zero_add] at *
  refine ⟨L', ⟨a, by rw [c]; omega, by omega, ?_⟩, b, f⟩
  simpa using d
/-- what a fresh open needs and gives, at n words -/
def OpenOk (j sz : Int64) (n : Nat) : Prop := SbOk sz (j + (1 : Int64)) (own_w sz) n ∧ SbOk (op_v29 j sz) (1 : Int64) (own_w (op_v29 j sz)) n
def ImOk (sz : Int64) (g : Nat → Int64) (m : Int32) (n : Nat) : Prop := F_im sz g (own_w (sz - (1 : Int64))) = m ∧ ((((sz - (1 : Int64)).toUInt64 >>> ((6 : Int32) &&& 0x3f).toInt64.toUInt64).toInt64).toInt32).toInt = ((own_w (sz - (1 : Int64)) : Nat) : Int) ∧ own_w (sz - (1 : Int64)) < n
def ClOk (sz : Int64) (nl : Int32) (g : Nat → Int64) (n : Nat) : Prop := HsOk (sz - (1 : Int64)) g (own_w ((sz - (1 : Int64)) - (1 : Int64))) (own_w ((sz - (1 : Int64)) - (1 : Int64)) - 1) n ∧ TkOk (clS sz g) nl (own_w (clS sz g)) n
def Big (x : Int64) : Int64 := (x.toUInt64 >>> ((6 : Int32) &&& 0x3f).toInt64.toUInt64).toInt64
theorem own_L1 (a : Int64) (m1 : Int32) (ha : 0 ≤ a.toInt ∧ a.toInt < 2147483648) (hm1 : m1 = 0 ∨ m1 = 1) : OpenOk a 0 1 ∧ Big (op_v29 a 0) < (1 : Int32).toInt64 ∧ ImOk (opS a 0) (opG a m1 0 own_z) m1 1 := by
  obtain ⟨L, h1, h2, h3⟩ := own_t1 a m1 ha
  have hL := h1.1
  exact ⟨h3 1 (by omega), (own_gr _ _ 1 _ h2 (by decide)).mpr (by omega), h1.im 1 hm1 (by omega)⟩
/-- the second open: gp is the first one's words, or a wider copy of them, n words -/
theorem own_L2 (a b : Int64) (m1 m2 : Int32) (ha : 0 ≤ a.toInt ∧ a.toInt < 2147483648) (hb : 0 ≤ b.toInt ∧ b.toInt < 2147483648) (hm2 : m2 = 0 ∨ m2 = 1) (gp : Nat → Int64) (n : Nat) (hp : (gp = opG a m1 0 own_z ∧ n = 1 ∧ own_w (op_v29 b (opS a 0)) < 1) ∨ (gp = cp1_g28 (opG a m1 0 own_z) ∧ n = 2)) :
    ∃ L1 L2 : Nat, Top gp (opS a 0) 0 L1 m1 ∧ Top (opG b m2 (opS a 0) gp) (opS b (opS a 0)) (2 * L1 + 2) L2 m2 ∧ (∀ i, i < 2 * L1 + 2 → bit (opG b m2 (opS a 0) gp) i = bit gp i) ∧ (op_v29 b (opS a 0)).toInt = ((2 * L1 + 2 + 2 * L2 + 1 : Nat) : Int) ∧ 2 * L1 + 2 + 2 * L2 + 2 ≤ 64 * n ∧ OpenOk b (opS a 0) n ∧ ImOk (opS b (opS a 0)) (opG b m2 (opS a 0) gp) m2 n := by
  obtain ⟨L1, h1, h2, h3⟩ := own_t1 a m1 ha
  have hL1 := h1.1
  have hg : Top gp (opS a 0) 0 L1 m1 := by
    rcases hp with ⟨e, _⟩ | ⟨e, _⟩
    · rw [e]; exact h1
    · rw [e]; exact h1.cong (own_cp1 _ _ h1.zero (by omega))
  obtain ⟨L2, k1, k2, k3, k4⟩ := hg.open b m2 hb (by omega)
  simp only [Nat.zero_add] at *
  have hL2 := k1.1
  have hn : 2 * L1 + 2 + 2 * L2 + 2 ≤ 64 * n := by
    rcases hp with ⟨_, e, f⟩ | ⟨_, e⟩
    · rw [own_wn _ _ k3] at f; omega
    · omega
  exact ⟨L1, L2, hg, k1, k2, k3, hn, k4 n hn, k1.im n hm2 hn⟩
theorem own_L3 (a b c : Int64) (m1 m2 m3 : Int32) (ha : 0 ≤ a.toInt ∧ a.toInt < 2147483648) (hb : 0 ≤ b.toInt ∧ b.toInt < 2147483648) (hc : 0 ≤ c.toInt ∧ c.toInt < 2147483648) (hm1 : m1 = 0 ∨ m1 = 1) (hm2 : m2 = 0 ∨ m2 = 1) (hm3 : m3 = 0 ∨ m3 = 1) (gp gq : Nat → Int64) (k n : Nat) (nl : Int32) (hl : nl.toInt = (n : Int))
    (hp : (gp = opG a m1 0 own_z ∧ k = 1 ∧ own_w (op_v29 b (opS a 0)) < 1) ∨ (gp = cp1_g28 (opG a m1 0 own_z) ∧ k = 2))
    (hq : (gq = opG b m2 (opS a 0) gp ∧ n = k ∧ own_w (op_v29 c (opS b (opS a 0))) < n) ∨ (gq = cp1_g28 (opG b m2 (opS a 0) gp) ∧ k = 1 ∧ n = 2) ∨ (gq = cp2_g28 (opG b m2 (opS a 0) gp) ∧ k = 2 ∧ n = 4)) :
    (∃ M : Nat, (op_v29 c (opS b (opS a 0))).toInt = (M : Int)) ∧ OpenOk c (opS b (opS a 0)) n ∧ ImOk (opS c (opS b (opS a 0))) (opG c m3 (opS b (opS a 0)) gq) m3 n ∧
    ClOk (opS c (opS b (opS a 0))) nl (opG c m3 (opS b (opS a 0)) gq) n ∧
    ImOk (clS (opS c (opS b (opS a 0))) (opG c m3 (opS b (opS a 0)) gq)) (clG (opS c (opS b (opS a 0))) nl (opG c m3 (opS b (opS a 0)) gq)) m2 n ∧
    ClOk (clS (opS c (opS b (opS a 0))) (opG c m3 (opS b (opS a 0)) gq)) nl (clG (opS c (opS b (opS a 0))) nl (opG c m3 (opS b (opS a 0)) gq)) n ∧
    ImOk (clS (clS (opS c (opS b (opS a 0))) (opG c m3 (opS b (opS a 0)) gq)) (clG (opS c (opS b (opS a 0))) nl (opG c m3 (opS b (opS a 0)) gq))) (clG (clS (opS c (opS b (opS a 0))) (opG c m3 (opS b (opS a 0)) gq)) nl (clG (opS c (opS b (opS a 0))) nl (opG c m3 (opS b (opS a 0)) gq))) m1 n := by
  obtain ⟨L1, L2, t1, t2, b2, v2, n2, o2, i2⟩ := own_L2 a b m1 m2 ha hb hm2 gp k hp
  have hL1 := t1.1
  have hL2 := t2.1
  have hz := t2.zero
  have hg : ∀ i, bit gq i = bit (opG b m2 (opS a 0) gp) i := by
    rcases hq with ⟨e, _⟩ | ⟨e, f, _⟩ | ⟨e, f, _⟩
    · intro i; rw [e]
    · rw [e]; exact own_cp1 _ _ hz (by omega)
    · rw [e]; exact own_cp2 _ _ hz (by omega)
  have tq := t2.cong hg
  obtain ⟨L3, k1, k2, k3, k4⟩ := tq.open c m3 hc (by omega)
  have hL3 := k1.1
  have hn : 2 * L1 + 2 + 2 * L2 + 2 + 2 * L3 + 2 ≤ 64 * n := by
    rcases hq with ⟨_, e, f⟩ | ⟨_, e, f⟩ | ⟨_, e, f⟩
    · rw [own_wn _ _ k3] at f; omega
    · omega
    · omega
  obtain ⟨c1, c2, c3⟩ := k1.close n nl (by omega) hl t2 rfl (fun i hi => (k2 i hi).trans (hg i))
  obtain ⟨d1, d2, d3⟩ := c2.close n nl (by omega) hl t1 (by omega) (fun i hi => (c3 i).trans (b2 i hi))
  exact ⟨⟨_, k3⟩, k4 n hn, k1.im n hm3 hn, c1, c2.im n hm2 (by omega), d1, d2.im n hm1 (by omega)⟩
theorem own_grw (x : Int64) (M n : Nat) (nl : Int64) (hx : x.toInt = (M : Int)) (hl : nl.toInt = (n : Int)) : Big x < nl ↔ own_w x < n := by
  rw [own_wn _ _ hx]; exact own_gr x M n nl hx hl
theorem own_mk (j : Int64) : 0 ≤ (j &&& (2147483647 : Int64)).toInt ∧ (j &&& (2147483647 : Int64)).toInt < 2147483648 := by
  have a := c_maskL j 2147483647 31 (by decide) (by decide)
  omega
theorem own_f1 (i3 : Int32) : f0_26_s0 i3 = 0 ∨ f0_26_s0 i3 = 1 := by unfold f0_26_s0; split <;> simp
theorem own_f2 (i3 : Int32) : f0_40_s0 i3 = 0 ∨ f0_40_s0 i3 = 1 := by unfold f0_40_s0; split <;> simp
theorem own_f3 (i3 : Int32) : f0_54_s0 i3 = 0 ∨ f0_54_s0 i3 = 1 := by unfold f0_54_s0; split <;> simp
theorem law_o1 (j0 j1 j2 : Int64) (i3 : Int32) : OpenOk (f0_v5 j0) 0 1 ∧ Big (op_v29 (f0_v5 j0) 0) < (1 : Int32).toInt64 :=
  have h := own_L1 (f0_v5 j0) (f0_26_s0 i3) (own_mk j0) (own_f1 i3)
  ⟨h.1, h.2.1⟩
theorem law_i1 (j0 j1 j2 : Int64) (i3 : Int32) : ImOk (f0_s79 j0) (f0_g79 j0 i3) (f0_26_s0 i3) 1 :=
  (own_L1 (f0_v5 j0) (f0_26_s0 i3) (own_mk j0) (own_f1 i3)).2.2
theorem law_o2A (j0 j1 j2 : Int64) (i3 : Int32) (hg2 : own_w (op_v29 (f0_v12 j1) (f0_s79 j0)) < 1) : OpenOk (f0_v12 j1) (f0_s79 j0) 1 ∧ Big (op_v29 (f0_v12 j1) (f0_s79 j0)) < (1 : Int32).toInt64 := by
  obtain ⟨_, _, _, _, _, h4, _, h6, _⟩ := own_L2 (f0_v5 j0) (f0_v12 j1) (f0_26_s0 i3) (f0_40_s0 i3) (own_mk j0) (own_mk j1) (own_f2 i3) (f0_g79 j0 i3) 1 (.inl ⟨rfl, rfl, hg2⟩)
  exact ⟨h6, (own_grw _ _ 1 _ h4 (by decide)).mpr hg2⟩
theorem law_i2A (j0 j1 j2 : Int64) (i3 : Int32) (hg2 : own_w (op_v29 (f0_v12 j1) (f0_s79 j0)) < 1) : ImOk (f0_s105 j0 j1) (f0_g105 j0 j1 i3) (f0_40_s0 i3) 1 := by
  obtain ⟨_, _, _, _, _, _, _, _, h7⟩ := own_L2 (f0_v5 j0) (f0_v12 j1) (f0_26_s0 i3) (f0_40_s0 i3) (own_mk j0) (own_mk j1) (own_f2 i3) (f0_g79 j0 i3) 1 (.inl ⟨rfl, rfl, hg2⟩)
  exact h7
theorem law_allAA (j0 j1 j2 : Int64) (i3 : Int32) (hg2 : own_w (op_v29 (f0_v12 j1) (f0_s79 j0)) < 1) (hg3 : own_w (op_v29 (f0_v20 j2) (f0_s105 j0 j1)) < 1) : (∃ M : Nat, (op_v29 (f0_v20 j2) (f0_s105 j0 j1)).toInt = (M : Int)) ∧ OpenOk (f0_v20 j2) (f0_s105 j0 j1) 1 ∧ ImOk (f0_s134 j0 j1 j2) (f0_g134 j0 j1 j2 i3) (f0_54_s0 i3) 1 ∧ ClOk (f0_s134 j0 j1 j2) (1 : Int32) (f0_g134 j0 j1 j2 i3) 1 ∧ ImOk (f0_s159 j0 j1 j2 i3) (f0_g159 j0 j1 j2 i3) (f0_40_s0 i3) 1 ∧ ClOk (f0_s159 j0 j1 j2 i3) (1 : Int32) (f0_g159 j0 j1 j2 i3) 1 ∧ ImOk (f0_s185 j0 j1 j2 i3) (f0_g185 j0 j1 j2 i3) (f0_26_s0 i3) 1 :=
  own_L3 (f0_v5 j0) (f0_v12 j1) (f0_v20 j2) (f0_26_s0 i3) (f0_40_s0 i3) (f0_54_s0 i3) (own_mk j0) (own_mk j1) (own_mk j2) (own_f1 i3) (own_f2 i3) (own_f3 i3) (f0_g79 j0 i3) (f0_g105 j0 j1 i3) 1 1 (1 : Int32) (by decide) (.inl ⟨rfl, rfl, hg2⟩) (.inl ⟨rfl, rfl, hg3⟩)
theorem law_o3AA (j0 j1 j2 : Int64) (i3 : Int32) (hg2 : own_w (op_v29 (f0_v12 j1) (f0_s79 j0)) < 1) (hg3 : own_w (op_v29 (f0_v20 j2) (f0_s105 j0 j1)) < 1) : OpenOk (f0_v20 j2) (f0_s105 j0 j1) 1 ∧ Big (op_v29 (f0_v20 j2) (f0_s105 j0 j1)) < (1 : Int32).toInt64 := by
  obtain ⟨⟨M, hM⟩, h6, _⟩ := law_allAA j0 j1 j2 i3 hg2 hg3
  exact ⟨h6, (own_grw _ _ 1 _ hM (by decide)).mpr hg3⟩
theorem law_i3AA (j0 j1 j2 : Int64) (i3 : Int32) (hg2 : own_w (op_v29 (f0_v12 j1) (f0_s79 j0)) < 1) (hg3 : own_w (op_v29 (f0_v20 j2) (f0_s105 j0 j1)) < 1) : ImOk (f0_s134 j0 j1 j2) (f0_g134 j0 j1 j2 i3) (f0_54_s0 i3) 1 := (law_allAA j0 j1 j2 i3 hg2 hg3).2.2.1
theorem law_c1AA (j0 j1 j2 : Int64) (i3 : Int32) (hg2 : own_w (op_v29 (f0_v12 j1) (f0_s79 j0)) < 1) (hg3 : own_w (op_v29 (f0_v20 j2) (f0_s105 j0 j1)) < 1) : ClOk (f0_s134 j0 j1 j2) (1 : Int32) (f0_g134 j0 j1 j2 i3) 1 := (law_allAA j0 j1 j2 i3 hg2 hg3).2.2.2.1
theorem law_i4AA (j0 j1 j2 : Int64) (i3 : Int32) (hg2 : own_w (op_v29 (f0_v12 j1) (f0_s79 j0)) < 1) (hg3 : own_w (op_v29 (f0_v20 j2) (f0_s105 j0 j1)) < 1) : ImOk (f0_s159 j0 j1 j2 i3) (f0_g159 j0 j1 j2 i3) (f0_40_s0 i3) 1 := (law_allAA j0 j1 j2 i3 hg2 hg3).2.2.2.2.1
theorem law_c2AA (j0 j1 j2 : Int64) (i3 : Int32) (hg2 : own_w (op_v29 (f0_v12 j1) (f0_s79 j0)) < 1) (hg3 : own_w (op_v29 (f0_v20 j2) (f0_s105 j0 j1)) < 1) : ClOk (f0_s159 j0 j1 j2 i3) (1 : Int32) (f0_g159 j0 j1 j2 i3) 1 := (law_allAA j0 j1 j2 i3 hg2 hg3).2.2.2.2.2.1
theorem law_i5AA (j0 j1 j2 : Int64) (i3 : Int32) (hg2 : own_w (op_v29 (f0_v12 j1) (f0_s79 j0)) < 1) (hg3 : own_w (op_v29 (f0_v20 j2) (f0_s105 j0 j1)) < 1) : ImOk (f0_s185 j0 j1 j2 i3) (f0_g185 j0 j1 j2 i3) (f0_26_s0 i3) 1 := (law_allAA j0 j1 j2 i3 hg2 hg3).2.2.2.2.2.2
theorem law_allAB (j0 j1 j2 : Int64) (i3 : Int32) (hg2 : own_w (op_v29 (f0_v12 j1) (f0_s79 j0)) < 1) (hg3 : ¬ own_w (op_v29 (f0_v20 j2) (f0_s105 j0 j1)) < 1) : (∃ M : Nat, (op_v29 (f0_v20 j2) (f0_s105 j0 j1)).toInt = (M : Int)) ∧ OpenOk (f0_v20 j2) (f0_s105 j0 j1) 2 ∧ ImOk (f0_s134 j0 j1 j2) (f0_g134a j0 j1 j2 i3) (f0_54_s0 i3) 2 ∧ ClOk (f0_s134 j0 j1 j2) (2 : Int32) (f0_g134a j0 j1 j2 i3) 2 ∧ ImOk (f0_s159a j0 j1 j2 i3) (f0_g159a j0 j1 j2 i3) (f0_40_s0 i3) 2 ∧ ClOk (f0_s159a j0 j1 j2 i3) (2 : Int32) (f0_g159a j0 j1 j2 i3) 2 ∧ ImOk (f0_s185a j0 j1 j2 i3) (f0_g185a j0 j1 j2 i3) (f0_26_s0 i3) 2 :=
  own_L3 (f0_v5 j0) (f0_v12 j1) (f0_v20 j2) (f0_26_s0 i3) (f0_40_s0 i3) (f0_54_s0 i3) (own_mk j0) (own_mk j1) (own_mk j2) (own_f1 i3) (own_f2 i3) (own_f3 i3) (f0_g79 j0 i3) (cp1_g28 (f0_g105 j0 j1 i3)) 1 2 (2 : Int32) (by decide) (.inl ⟨rfl, rfl, hg2⟩) (.inr (.inl ⟨rfl, rfl, rfl⟩))
theorem law_o3AB (j0 j1 j2 : Int64) (i3 : Int32) (hg2 : own_w (op_v29 (f0_v12 j1) (f0_s79 j0)) < 1) (hg3 : ¬ own_w (op_v29 (f0_v20 j2) (f0_s105 j0 j1)) < 1) : OpenOk (f0_v20 j2) (f0_s105 j0 j1) 2 ∧ ¬ Big (op_v29 (f0_v20 j2) (f0_s105 j0 j1)) < (1 : Int64) := by
  obtain ⟨⟨M, hM⟩, h6, _⟩ := law_allAB j0 j1 j2 i3 hg2 hg3
  exact ⟨h6, fun q => hg3 ((own_grw _ _ 1 _ hM (by decide)).mp q)⟩
theorem law_i3AB (j0 j1 j2 : Int64) (i3 : Int32) (hg2 : own_w (op_v29 (f0_v12 j1) (f0_s79 j0)) < 1) (hg3 : ¬ own_w (op_v29 (f0_v20 j2) (f0_s105 j0 j1)) < 1) : ImOk (f0_s134 j0 j1 j2) (f0_g134a j0 j1 j2 i3) (f0_54_s0 i3) 2 := (law_allAB j0 j1 j2 i3 hg2 hg3).2.2.1
theorem law_c1AB (j0 j1 j2 : Int64) (i3 : Int32) (hg2 : own_w (op_v29 (f0_v12 j1) (f0_s79 j0)) < 1) (hg3 : ¬ own_w (op_v29 (f0_v20 j2) (f0_s105 j0 j1)) < 1) : ClOk (f0_s134 j0 j1 j2) (2 : Int32) (f0_g134a j0 j1 j2 i3) 2 := (law_allAB j0 j1 j2 i3 hg2 hg3).2.2.2.1
theorem law_i4AB (j0 j1 j2 : Int64) (i3 : Int32) (hg2 : own_w (op_v29 (f0_v12 j1) (f0_s79 j0)) < 1) (hg3 : ¬ own_w (op_v29 (f0_v20 j2) (f0_s105 j0 j1)) < 1) : ImOk (f0_s159a j0 j1 j2 i3) (f0_g159a j0 j1 j2 i3) (f0_40_s0 i3) 2 := (law_allAB j0 j1 j2 i3 hg2 hg3).2.2.2.2.1
theorem law_c2AB (j0 j1 j2 : Int64) (i3 : Int32) (hg2 : own_w (op_v29 (f0_v12 j1) (f0_s79 j0)) < 1) (hg3 : ¬ own_w (op_v29 (f0_v20 j2) (f0_s105 j0 j1)) < 1) : ClOk (f0_s159a j0 j1 j2 i3) (2 : Int32) (f0_g159a j0 j1 j2 i3) 2 := (law_allAB j0 j1 j2 i3 hg2 hg3).2.2.2.2.2.1
theorem law_i5AB (j0 j1 j2 : Int64) (i3 : Int32) (hg2 : own_w (op_v29 (f0_v12 j1) (f0_s79 j0)) < 1) (hg3 : ¬ own_w (op_v29 (f0_v20 j2) (f0_s105 j0 j1)) < 1) : ImOk (f0_s185a j0 j1 j2 i3) (f0_g185a j0 j1 j2 i3) (f0_26_s0 i3) 2 := (law_allAB j0 j1 j2 i3 hg2 hg3).2.2.2.2.2.2
theorem law_o2B (j0 j1 j2 : Int64) (i3 : Int32) (hg2 : ¬ own_w (op_v29 (f0_v12 j1) (f0_s79 j0)) < 1) : OpenOk (f0_v12 j1) (f0_s79 j0) 2 ∧ ¬ Big (op_v29 (f0_v12 j1) (f0_s79 j0)) < (1 : Int64) := by
  obtain ⟨_, _, _, _, _, h4, _, h6, _⟩ := own_L2 (f0_v5 j0) (f0_v12 j1) (f0_26_s0 i3) (f0_40_s0 i3) (own_mk j0) (own_mk j1) (own_f2 i3) (cp1_g28 (f0_g79 j0 i3)) 2 (.inr ⟨rfl, rfl⟩)
  exact ⟨h6, fun q => hg2 ((own_grw _ _ 1 _ h4 (by decide)).mp q)⟩
theorem law_i2B (j0 j1 j2 : Int64) (i3 : Int32) (hg2 : ¬ own_w (op_v29 (f0_v12 j1) (f0_s79 j0)) < 1) : ImOk (f0_s105 j0 j1) (f0_g105a j0 j1 i3) (f0_40_s0 i3) 2 := by
  obtain ⟨_, _, _, _, _, _, _, _, h7⟩ := own_L2 (f0_v5 j0) (f0_v12 j1) (f0_26_s0 i3) (f0_40_s0 i3) (own_mk j0) (own_mk j1) (own_f2 i3) (cp1_g28 (f0_g79 j0 i3)) 2 (.inr ⟨rfl, rfl⟩)
  exact h7
theorem law_allBA (j0 j1 j2 : Int64) (i3 : Int32) (hg2 : ¬ own_w (op_v29 (f0_v12 j1) (f0_s79 j0)) < 1) (hg3 : own_w (op_v29 (f0_v20 j2) (f0_s105 j0 j1)) < 2) : (∃ M : Nat, (op_v29 (f0_v20 j2) (f0_s105 j0 j1)).toInt = (M : Int)) ∧ OpenOk (f0_v20 j2) (f0_s105 j0 j1) 2 ∧ ImOk (f0_s134 j0 j1 j2) (f0_g134b j0 j1 j2 i3) (f0_54_s0 i3) 2 ∧ ClOk (f0_s134 j0 j1 j2) (2 : Int32) (f0_g134b j0 j1 j2 i3) 2 ∧ ImOk (f0_s159b j0 j1 j2 i3) (f0_g159b j0 j1 j2 i3) (f0_40_s0 i3) 2 ∧ ClOk (f0_s159b j0 j1 j2 i3) (2 : Int32) (f0_g159b j0 j1 j2 i3) 2 ∧ ImOk (f0_s185b j0 j1 j2 i3) (f0_g185b j0 j1 j2 i3) (f0_26_s0 i3) 2 :=
  own_L3 (f0_v5 j0) (f0_v12 j1) (f0_v20 j2) (f0_26_s0 i3) (f0_40_s0 i3) (f0_54_s0 i3) (own_mk j0) (own_mk j1) (own_mk j2) (own_f1 i3) (own_f2 i3) (own_f3 i3) (cp1_g28 (f0_g79 j0 i3)) (f0_g105a j0 j1 i3) 2 2 (2 : Int32) (by decide) (.inr ⟨rfl, rfl⟩) (.inl ⟨rfl, rfl, hg3⟩)
theorem law_o3BA (j0 j1 j2 : Int64) (i3 : Int32) (hg2 : ¬ own_w (op_v29 (f0_v12 j1) (f0_s79 j0)) < 1) (hg3 : own_w (op_v29 (f0_v20 j2) (f0_s105 j0 j1)) < 2) : OpenOk (f0_v20 j2) (f0_s105 j0 j1) 2 ∧ Big (op_v29 (f0_v20 j2) (f0_s105 j0 j1)) < (2 : Int32).toInt64 := by
  obtain ⟨⟨M, hM⟩, h6, _⟩ := law_allBA j0 j1 j2 i3 hg2 hg3
  exact ⟨h6, (own_grw _ _ 2 _ hM (by decide)).mpr hg3⟩
theorem law_i3BA (j0 j1 j2 : Int64) (i3 : Int32) (hg2 : ¬ own_w (op_v29 (f0_v12 j1) (f0_s79 j0)) < 1) (hg3 : own_w (op_v29 (f0_v20 j2) (f0_s105 j0 j1)) < 2) : ImOk (f0_s134 j0 j1 j2) (f0_g134b j0 j1 j2 i3) (f0_54_s0 i3) 2 := (law_allBA j0 j1 j2 i3 hg2 hg3).2.2.1
theorem law_c1BA (j0 j1 j2 : Int64) (i3 : Int32) (hg2 : ¬ own_w (op_v29 (f0_v12 j1) (f0_s79 j0)) < 1) (hg3 : own_w (op_v29 (f0_v20 j2) (f0_s105 j0 j1)) < 2) : ClOk (f0_s134 j0 j1 j2) (2 : Int32) (f0_g134b j0 j1 j2 i3) 2 := (law_allBA j0 j1 j2 i3 hg2 hg3).2.2.2.1
theorem law_i4BA (j0 j1 j2 : Int64) (i3 : Int32) (hg2 : ¬ own_w (op_v29 (f0_v12 j1) (f0_s79 j0)) < 1) (hg3 : own_w (op_v29 (f0_v20 j2) (f0_s105 j0 j1)) < 2) : ImOk (f0_s159b j0 j1 j2 i3) (f0_g159b j0 j1 j2 i3) (f0_40_s0 i3) 2 := (law_allBA j0 j1 j2 i3 hg2 hg3).2.2.2.2.1
theorem law_c2BA (j0 j1 j2 : Int64) (i3 : Int32) (hg2 : ¬ own_w (op_v29 (f0_v12 j1) (f0_s79 j0)) < 1) (hg3 : own_w (op_v29 (f0_v20 j2) (f0_s105 j0 j1)) < 2) : ClOk (f0_s159b j0 j1 j2 i3) (2 : Int32) (f0_g159b j0 j1 j2 i3) 2 := (law_allBA j0 j1 j2 i3 hg2 hg3).2.2.2.2.2.1
theorem law_i5BA (j0 j1 j2 : Int64) (i3 : Int32) (hg2 : ¬ own_w (op_v29 (f0_v12 j1) (f0_s79 j0)) < 1) (hg3 : own_w (op_v29 (f0_v20 j2) (f0_s105 j0 j1)) < 2) : ImOk (f0_s185b j0 j1 j2 i3) (f0_g185b j0 j1 j2 i3) (f0_26_s0 i3) 2 := (law_allBA j0 j1 j2 i3 hg2 hg3).2.2.2.2.2.2
theorem law_allBB (j0 j1 j2 : Int64) (i3 : Int32) (hg2 : ¬ own_w (op_v29 (f0_v12 j1) (f0_s79 j0)) < 1) (hg3 : ¬ own_w (op_v29 (f0_v20 j2) (f0_s105 j0 j1)) < 2) : (∃ M : Nat, (op_v29 (f0_v20 j2) (f0_s105 j0 j1)).toInt = (M : Int)) ∧ OpenOk (f0_v20 j2) (f0_s105 j0 j1) 4 ∧ ImOk (f0_s134 j0 j1 j2) (f0_g134c j0 j1 j2 i3) (f0_54_s0 i3) 4 ∧ ClOk (f0_s134 j0 j1 j2) (4 : Int32) (f0_g134c j0 j1 j2 i3) 4 ∧ ImOk (f0_s159c j0 j1 j2 i3) (f0_g159c j0 j1 j2 i3) (f0_40_s0 i3) 4 ∧ ClOk (f0_s159c j0 j1 j2 i3) (4 : Int32) (f0_g159c j0 j1 j2 i3) 4 ∧ ImOk (f0_s185c j0 j1 j2 i3) (f0_g185c j0 j1 j2 i3) (f0_26_s0 i3) 4 :=
  own_L3 (f0_v5 j0) (f0_v12 j1) (f0_v20 j2) (f0_26_s0 i3) (f0_40_s0 i3) (f0_54_s0 i3) (own_mk j0) (own_mk j1) (own_mk j2) (own_f1 i3) (own_f2 i3) (own_f3 i3) (cp1_g28 (f0_g79 j0 i3)) (cp2_g28 (f0_g105a j0 j1 i3)) 2 4 (4 : Int32) (by decide) (.inr ⟨rfl, rfl⟩) (.inr (.inr ⟨rfl, rfl, rfl⟩))
theorem law_o3BB (j0 j1 j2 : Int64) (i3 : Int32) (hg2 : ¬ own_w (op_v29 (f0_v12 j1) (f0_s79 j0)) < 1) (hg3 : ¬ own_w (op_v29 (f0_v20 j2) (f0_s105 j0 j1)) < 2) : OpenOk (f0_v20 j2) (f0_s105 j0 j1) 4 ∧ ¬ Big (op_v29 (f0_v20 j2) (f0_s105 j0 j1)) < (2 : Int64) := by
  obtain ⟨⟨M, hM⟩, h6, _⟩ := law_allBB j0 j1 j2 i3 hg2 hg3
  exact ⟨h6, fun q => hg3 ((own_grw _ _ 2 _ hM (by decide)).mp q)⟩
theorem law_i3BB (j0 j1 j2 : Int64) (i3 : Int32) (hg2 : ¬ own_w (op_v29 (f0_v12 j1) (f0_s79 j0)) < 1) (hg3 : ¬ own_w (op_v29 (f0_v20 j2) (f0_s105 j0 j1)) < 2) : ImOk (f0_s134 j0 j1 j2) (f0_g134c j0 j1 j2 i3) (f0_54_s0 i3) 4 := (law_allBB j0 j1 j2 i3 hg2 hg3).2.2.1
theorem law_c1BB (j0 j1 j2 : Int64) (i3 : Int32) (hg2 : ¬ own_w (op_v29 (f0_v12 j1) (f0_s79 j0)) < 1) (hg3 : ¬ own_w (op_v29 (f0_v20 j2) (f0_s105 j0 j1)) < 2) : ClOk (f0_s134 j0 j1 j2) (4 : Int32) (f0_g134c j0 j1 j2 i3) 4 := (law_allBB j0 j1 j2 i3 hg2 hg3).2.2.2.1
theorem law_i4BB (j0 j1 j2 : Int64) (i3 : Int32) (hg2 : ¬ own_w (op_v29 (f0_v12 j1) (f0_s79 j0)) < 1) (hg3 : ¬ own_w (op_v29 (f0_v20 j2) (f0_s105 j0 j1)) < 2) : ImOk (f0_s159c j0 j1 j2 i3) (f0_g159c j0 j1 j2 i3) (f0_40_s0 i3) 4 := (law_allBB j0 j1 j2 i3 hg2 hg3).2.2.2.2.1
theorem law_c2BB (j0 j1 j2 : Int64) (i3 : Int32) (hg2 : ¬ own_w (op_v29 (f0_v12 j1) (f0_s79 j0)) < 1) (hg3 : ¬ own_w (op_v29 (f0_v20 j2) (f0_s105 j0 j1)) < 2) : ClOk (f0_s159c j0 j1 j2 i3) (4 : Int32) (f0_g159c j0 j1 j2 i3) 4 := (law_allBB j0 j1 j2 i3 hg2 hg3).2.2.2.2.2.1
theorem law_i5BB (j0 j1 j2 : Int64) (i3 : Int32) (hg2 : ¬ own_w (op_v29 (f0_v12 j1) (f0_s79 j0)) < 1) (hg3 : ¬ own_w (op_v29 (f0_v20 j2) (f0_s105 j0 j1)) < 2) : ImOk (f0_s185c j0 j1 j2 i3) (f0_g185c j0 j1 j2 i3) (f0_26_s0 i3) 4 := (law_allBB j0 j1 j2 i3 hg2 hg3).2.2.2.2.2.2
theorem ef_0 (m : MethodId) (x0 : Int64) (x1 : Int64) (x2 : Int64) (x3 : Int32) : entryFrame m #[(.long x0), (.long x1), (.long x2), (.int x3)] maxLocals = mkF m 0 #[.val (.long x0), .second, .val (.long x1), .second, .val (.long x2), .second, .val (.int x3), .unset, .unset, .unset, .unset, .unset, .unset, .unset, .unset, .unset, .unset, .unset] [] := by first | (simp [entryFrame, mkF, argsToLocals, Value.category, maxLocals]; done) | rfl
theorem pd_0 : parseMethodDescriptor "()V" = some ⟨[], none⟩ := by decide +kernel
theorem pd_1 : parseMethodDescriptor "(JZ)V" = some ⟨[.long, .boolean], none⟩ := by decide +kernel
theorem pd_5 : parseMethodDescriptor "()Z" = some ⟨[], some .boolean⟩ := by decide +kernel
theorem pd_9 : parseMethodDescriptor "()J" = some ⟨[], some .long⟩ := by decide +kernel
theorem pn_0 : plainName "com/example/brief_locator/brieflocator/cbor/OpenContainersInnermostIsMapPinLaw" = true := by first | (simp [plainName, overriddenIn]; done) | decide +kernel
set_option maxRecDepth 65536 in
set_option maxHeartbeats 40000000 in
theorem rm0 (l : Launch) (Z : State) (a0 : Array Value) (hw : ∀ d ∈ tables_1, d.before a0 Z = true) (ws : List Jvm.Cond) (j0 : Int64) (j1 : Int64) (j2 : Int64) (i3 : Int32)  (h0 : Heap) (n0 : Nat) (Z0 : n0 ≤ h0.size) :
    MetFree l x (head1 (Jvm.Cond.code x code maxLocals ret :: ws) room_1) (fun a U => a = #[(.long j0), (.long j1), (.long j2), (.int i3)] ∧ Z.Warmed39 U.vm ∧ U.heap = h0) (fun _ _ _ _ _ => True) (fun _ U o U' => ∃ v L, o = .returned v ∧ QL n0 v U'.heap L ∧ FrameEnd U o U' L room_1.cells room_1.slots) := by
  refine MetFree.of_bodySF (plainFor_of_name pn_0) hisR ?_
  intro p e s m args below meth c s₁ Bd hml0 hP hK
  obtain ⟨rfl, hZ, hh⟩ := hP
  have hx := Bd.exec
  have hby := Bd.bytes
  have hml : c.maxLocals = 18 := hml0
  have hown : s.vm.findClass "com/example/brief_locator/brieflocator/cbor/OpenContainersInnermostIsMapPinLaw" = some m.cls := findClass_of_methodNamed Bd.named
  have hnm := (name_of_methodNamed Bd.named Bd.method).1
  have hret := Bd.returns
  have hlk : meth.locks = false := BodyLoose.notSynchronized Bd
  have X0 : Stand p l e room_1 s m #[(.long j0), (.long j1), (.long j2), (.int i3)] below meth c s₁ [] 0 0 := Stand.of_body Bd
  have e0 : s₁.heap = h0 := by rw [← hh, Bd.state]; rfl
  have N0 := Fr.nil n0
  show Outs p e below s (QL n0) _ _ _
  refine Outs.of (U' := s₁.setTop (mkF m 0 #[.val (.long j0), .second, .val (.long j1), .second, .val (.long j2), .second, .val (.int i3), .unset, .unset, .unset, .unset, .unset, .unset, .unset, .unset, .unset, .unset, .unset] [])) (fun t k => castTop (ef_0 m j0 j1 j2 i3) k) ?_
  refine Outs.of (U' := s₁.setTop (mkF m 34 #[.val (.long j0), .second, .val (.long j1), .second, .val (.long j2), .second, .val (.int i3), .val (.long (f0_v5 j0)), .second, .val (.long (f0_v12 j1)), .second, .val (.long (f0_v20 j2)), .second, .unset, .unset, .unset, .unset, .unset] [(.int (f0_26_s0 i3))])) (fun t k => ?_) ?_
  · refine XS.lloadN X0.here hx rfl (hb hby at_0) rfl ?_
    refine X0.ldc2Long hx hown (mvT hZ (hw _ (List.mem_of_getElem? (i := 0) rfl))) (g := (mkF m 1 #[.val (.long j0), .second, .val (.long j1), .second, .val (.long j2), .second, .val (.int i3), .unset, .unset, .unset, .unset, .unset, .unset, .unset, .unset, .unset, .unset, .unset] [(.long j0)])) rfl (hb hby at_1) _ ?_
    refine XS.land X0.here hx rfl (hb hby at_4) rfl ?_
    refine XS.lstore X0.here hx rfl (hb hby at_5) rfl (l' := #[.val (.long j0), .second, .val (.long j1), .second, .val (.long j2), .second, .val (.int i3), .val (.long (f0_v5 j0)), .second, .unset, .unset, .unset, .unset, .unset, .unset, .unset, .unset, .unset]) rfl ?_
    refine XS.lloadN X0.here hx rfl (hb hby at_7) rfl ?_
    refine X0.ldc2Long hx hown (mvT hZ (hw _ (List.mem_of_getElem? (i := 0) rfl))) (g := (mkF m 8 #[.val (.long j0), .second, .val (.long j1), .second, .val (.long j2), .second, .val (.int i3), .val (.long (f0_v5 j0)), .second, .unset, .unset, .unset, .unset, .unset, .unset, .unset, .unset, .unset] [(.long j1)])) rfl (hb hby at_8) _ ?_
    refine XS.land X0.here hx rfl (hb hby at_11) rfl ?_
    refine XS.lstore X0.here hx rfl (hb hby at_12) rfl (l' := #[.val (.long j0), .second, .val (.long j1), .second, .val (.long j2), .second, .val (.int i3), .val (.long (f0_v5 j0)), .second, .val (.long (f0_v12 j1)), .second, .unset, .unset, .unset, .unset, .unset, .unset, .unset]) rfl ?_
    refine XS.lload X0.here hx rfl (hb hby at_14) rfl ?_
    refine X0.ldc2Long hx hown (mvT hZ (hw _ (List.mem_of_getElem? (i := 0) rfl))) (g := (mkF m 16 #[.val (.long j0), .second, .val (.long j1), .second, .val (.long j2), .second, .val (.int i3), .val (.long (f0_v5 j0)), .second, .val (.long (f0_v12 j1)), .second, .unset, .unset, .unset, .unset, .unset, .unset, .unset] [(.long j2)])) rfl (hb hby at_16) _ ?_
    refine XS.land X0.here hx rfl (hb hby at_19) rfl ?_
    refine XS.lstore X0.here hx rfl (hb hby at_20) rfl (l' := #[.val (.long j0), .second, .val (.long j1), .second, .val (.long j2), .second, .val (.int i3), .val (.long (f0_v5 j0)), .second, .val (.long (f0_v12 j1)), .second, .val (.long (f0_v20 j2)), .second, .unset, .unset, .unset, .unset, .unset]) rfl ?_
    refine XS.iload X0.here hx rfl (hb hby at_22) rfl ?_
    refine XS.iconst X0.here hx rfl (hb hby at_24) ?_
    refine XS.iand X0.here hx rfl (hb hby at_25) rfl ?_
    by_cases hc26 : (i3 &&& (1 : Int32)) = (0 : Int32)
    · refine XS.ifYes X0.here hx rfl (pc0 := 26) (pc' := 33) rfl (hb hby at_26) rfl ((if0 _ _).trans (teq hc26).1) (by decide) (by decide) ?_
      refine XS.iconst X0.here hx rfl (hb hby at_33) ?_
      rw [show (f0_26_s0 i3) = (0 : Int32) from (if_pos hc26)] at k
      exact k
    · refine XS.ifNo X0.here hx rfl (hb hby at_26) rfl ((if0 _ _).trans (feq hc26).1) ?_
      refine XS.iconst X0.here hx rfl (hb hby at_29) ?_
      refine XS.goto X0.here hx rfl (pc0 := 30) (pc' := 34) rfl (hb hby at_30) (by decide) (by decide) ?_
      rw [show (f0_26_s0 i3) = (1 : Int32) from (if_neg hc26)] at k
      exact k
  refine Outs.of (U' := s₁.setTop (mkF m 48 #[.val (.long j0), .second, .val (.long j1), .second, .val (.long j2), .second, .val (.int i3), .val (.long (f0_v5 j0)), .second, .val (.long (f0_v12 j1)), .second, .val (.long (f0_v20 j2)), .second, .val (.int (f0_26_s0 i3)), .unset, .unset, .unset, .unset] [(.int (f0_40_s0 i3))])) (fun t k => ?_) ?_
  · refine XS.istore X0.here hx rfl (hb hby at_34) rfl (l' := #[.val (.long j0), .second, .val (.long j1), .second, .val (.long j2), .second, .val (.int i3), .val (.long (f0_v5 j0)), .second, .val (.long (f0_v12 j1)), .second, .val (.long (f0_v20 j2)), .second, .val (.int (f0_26_s0 i3)), .unset, .unset, .unset, .unset]) rfl ?_
    refine XS.iload X0.here hx rfl (hb hby at_36) rfl ?_
    refine XS.iconst X0.here hx rfl (hb hby at_38) ?_
    refine XS.iand X0.here hx rfl (hb hby at_39) rfl ?_
    by_cases hc40 : (i3 &&& (2 : Int32)) = (0 : Int32)
    · refine XS.ifYes X0.here hx rfl (pc0 := 40) (pc' := 47) rfl (hb hby at_40) rfl ((if0 _ _).trans (teq hc40).1) (by decide) (by decide) ?_
      refine XS.iconst X0.here hx rfl (hb hby at_47) ?_
      rw [show (f0_40_s0 i3) = (0 : Int32) from (if_pos hc40)] at k
      exact k
    · refine XS.ifNo X0.here hx rfl (hb hby at_40) rfl ((if0 _ _).trans (feq hc40).1) ?_
      refine XS.iconst X0.here hx rfl (hb hby at_43) ?_
      refine XS.goto X0.here hx rfl (pc0 := 44) (pc' := 48) rfl (hb hby at_44) (by decide) (by decide) ?_
      rw [show (f0_40_s0 i3) = (1 : Int32) from (if_neg hc40)] at k
      exact k
  refine Outs.of (U' := s₁.setTop (mkF m 62 #[.val (.long j0), .second, .val (.long j1), .second, .val (.long j2), .second, .val (.int i3), .val (.long (f0_v5 j0)), .second, .val (.long (f0_v12 j1)), .second, .val (.long (f0_v20 j2)), .second, .val (.int (f0_26_s0 i3)), .val (.int (f0_40_s0 i3)), .unset, .unset, .unset] [(.int (f0_54_s0 i3))])) (fun t k => ?_) ?_
  · refine XS.istore X0.here hx rfl (hb hby at_48) rfl (l' := #[.val (.long j0), .second, .val (.long j1), .second, .val (.long j2), .second, .val (.int i3), .val (.long (f0_v5 j0)), .second, .val (.long (f0_v12 j1)), .second, .val (.long (f0_v20 j2)), .second, .val (.int (f0_26_s0 i3)), .val (.int (f0_40_s0 i3)), .unset, .unset, .unset]) rfl ?_
    refine XS.iload X0.here hx rfl (hb hby at_50) rfl ?_
    refine XS.iconst X0.here hx rfl (hb hby at_52) ?_
    refine XS.iand X0.here hx rfl (hb hby at_53) rfl ?_
    by_cases hc54 : (i3 &&& (4 : Int32)) = (0 : Int32)
    · refine XS.ifYes X0.here hx rfl (pc0 := 54) (pc' := 61) rfl (hb hby at_54) rfl ((if0 _ _).trans (teq hc54).1) (by decide) (by decide) ?_
      refine XS.iconst X0.here hx rfl (hb hby at_61) ?_
      rw [show (f0_54_s0 i3) = (0 : Int32) from (if_pos hc54)] at k
      exact k
    · refine XS.ifNo X0.here hx rfl (hb hby at_54) rfl ((if0 _ _).trans (feq hc54).1) ?_
      refine XS.iconst X0.here hx rfl (hb hby at_57) ?_
      refine XS.goto X0.here hx rfl (pc0 := 58) (pc' := 62) rfl (hb hby at_58) (by decide) (by decide) ?_
      rw [show (f0_54_s0 i3) = (1 : Int32) from (if_neg hc54)] at k
      exact k
  refine Outs.of (U' := s₁.setTop (mkF m 64 #[.val (.long j0), .second, .val (.long j1), .second, .val (.long j2), .second, .val (.int i3), .val (.long (f0_v5 j0)), .second, .val (.long (f0_v12 j1)), .second, .val (.long (f0_v20 j2)), .second, .val (.int (f0_26_s0 i3)), .val (.int (f0_40_s0 i3)), .val (.int (f0_54_s0 i3)), .unset, .unset] [])) (fun t k => ?_) ?_
  · refine XS.istore X0.here hx rfl (hb hby at_62) rfl (l' := #[.val (.long j0), .second, .val (.long j1), .second, .val (.long j2), .second, .val (.int i3), .val (.long (f0_v5 j0)), .second, .val (.long (f0_v12 j1)), .second, .val (.long (f0_v20 j2)), .second, .val (.int (f0_26_s0 i3)), .val (.int (f0_40_s0 i3)), .val (.int (f0_54_s0 i3)), .unset, .unset]) rfl ?_
    exact k
  obtain ⟨T1, h1, X1, e1, E1, A1, D1, -, st1⟩ := newO X0 hx hZ hown (hw _ (List.mem_of_getElem? (i := 1) rfl)) (hw _ (List.mem_of_getElem? (i := 2) rfl)) (hw _ (List.mem_of_getElem? (i := 3) rfl)) e0 (g := (mkF m 64 #[.val (.long j0), .second, .val (.long j1), .second, .val (.long j2), .second, .val (.int i3), .val (.long (f0_v5 j0)), .second, .val (.long (f0_v12 j1)), .second, .val (.long (f0_v20 j2)), .second, .val (.int (f0_26_s0 i3)), .val (.int (f0_40_s0 i3)), .val (.int (f0_54_s0 i3)), .unset, .unset] [])) rfl (hb hby at_64) (by decide) (by decide)
  obtain ⟨b1, g1⟩ : ∃ z, z = h0.size := ⟨_, rfl⟩
  rw [← g1] at A1 D1 st1
  have g_b1 : n0 ≤ b1 := Nat.le_trans Z0 (Nat.le_of_eq g1.symm)
  have F1_12 : Fld Z h1 b1 "com/example/brief_locator/brieflocator/cbor/OpenContainers" "words" "[J" .null := D1 (Or.inl (hw _ (List.mem_of_getElem? (i := 12) rfl))) (ty := (.array .long)) (by decide)
  have F1_28 : Fld Z h1 b1 "com/example/brief_locator/brieflocator/cbor/OpenContainers" "size" "J" (.long (0 : Int64)) := D1 (Or.inl (hw _ (List.mem_of_getElem? (i := 28) rfl))) (ty := .long) (by decide)
  refine Outs.of st1 ?_
  refine Outs.of (U' := T1.setTop (mkF m 68 #[.val (.long j0), .second, .val (.long j1), .second, .val (.long j2), .second, .val (.int i3), .val (.long (f0_v5 j0)), .second, .val (.long (f0_v12 j1)), .second, .val (.long (f0_v20 j2)), .second, .val (.int (f0_26_s0 i3)), .val (.int (f0_40_s0 i3)), .val (.int (f0_54_s0 i3)), .unset, .unset] [(.ref b1), (.ref b1)])) (fun t k => ?_) ?_
  · refine XS.dup X1.here hx rfl (hb hby at_67) rfl rfl ?_
    exact k
  obtain ⟨_, _, ⟨T2, L2, k2, n2⟩, -, X2, ⟨Lc2, hQ2, l2, y2, z2⟩, st2⟩ := X1.specialBack hx (y := (⟨"com/example/brief_locator/brieflocator/cbor/OpenContainers", "<init>", "()V"⟩ : MethodName)) rfl hown (mvT hZ (hw _ (List.mem_of_getElem? (i := 4) rfl))) (mvT hZ (hw _ (List.mem_of_getElem? (i := 5) rfl))) (mvT hZ (hw _ (List.mem_of_getElem? (i := 6) rfl))) (by decide) (backOf (W := 1) (rmin l Z a0 hw [] b1 h1 n0 (Nat.le_trans Z0 E1.1) A1 F1_12 F1_28 g_b1) hZ (hw _ (List.mem_of_getElem? (i := 6) rfl)) (hw _ (List.mem_of_getElem? (i := 3) rfl)) (by decide) (by decide)) (g := (mkF m 68 #[.val (.long j0), .second, .val (.long j1), .second, .val (.long j2), .second, .val (.int i3), .val (.long (f0_v5 j0)), .second, .val (.long (f0_v12 j1)), .second, .val (.long (f0_v20 j2)), .second, .val (.int (f0_26_s0 i3)), .val (.int (f0_40_s0 i3)), .val (.int (f0_54_s0 i3)), .unset, .unset] [(.ref b1), (.ref b1)])) rfl (by rw [hml]; rfl) (Steps.refl _) (a := b1) (argsL := []) (rest := [(.ref b1)]) (lenOf pd_0 rfl) rfl (by show 2 * 0 + _ ≤ _; exact Nat.le_of_eq rfl) (hb hby at_68) (fun _ _ => ⟨rfl, e1, (by decide : 1 + 1 ≤ _), (by decide : 2 + 1 ≤ _)⟩)
  dsimp only [Pt.U, Pt.locs, Pt.cells, Pt.slots] at X2 l2 y2 z2 st2 hQ2
  subst l2 y2 z2
  obtain ⟨b2, g_b2, hs_b2, rfl, N2q, K2, u2_0, u2_1, u2_2, u2_3⟩ := hQ2
  have N2 := Fr.app N0 N2q
  have ne_b1_b2 : b1 ≠ b2 := Nat.ne_of_lt (Nat.lt_of_lt_of_le A1.lt hs_b2)
  obtain ⟨Lh2, X2, N2⟩ := hide X2 N2 (C := 2) (S := 3) (by decide) (by decide)
  refine Outs.to st2 ?_
  refine Outs.of (U' := T2.setTop (mkF m 79 #[.val (.long j0), .second, .val (.long j1), .second, .val (.long j2), .second, .val (.int i3), .val (.long (f0_v5 j0)), .second, .val (.long (f0_v12 j1)), .second, .val (.long (f0_v20 j2)), .second, .val (.int (f0_26_s0 i3)), .val (.int (f0_40_s0 i3)), .val (.int (f0_54_s0 i3)), .val (.ref b1), .unset] [(.int (f0_26_s0 i3)), (.long (f0_v5 j0)), (.ref b1)])) (fun t k => ?_) ?_
  · refine XS.astore X2.here hx rfl (hb hby at_71) rfl rfl (l' := #[.val (.long j0), .second, .val (.long j1), .second, .val (.long j2), .second, .val (.int i3), .val (.long (f0_v5 j0)), .second, .val (.long (f0_v12 j1)), .second, .val (.long (f0_v20 j2)), .second, .val (.int (f0_26_s0 i3)), .val (.int (f0_40_s0 i3)), .val (.int (f0_54_s0 i3)), .val (.ref b1), .unset]) rfl ?_
    refine XS.aload X2.here hx rfl (hb hby at_73) rfl rfl ?_
    refine XS.lload X2.here hx rfl (hb hby at_75) rfl ?_
    refine XS.iload X2.here hx rfl (hb hby at_77) rfl ?_
    exact k
  obtain ⟨cq3, kq3, q3a, q3b, q3c⟩ := isOf hZ rfl u2_0
  obtain ⟨_, _, ⟨T3, L3, k3, n3⟩, -, X3, ⟨Lc3, hQ3, l3, y3, z3⟩, st3⟩ := X2.virtualBack hx (y := (⟨"com/example/brief_locator/brieflocator/cbor/OpenContainers", "open", "(JZ)V"⟩ : MethodName)) (z := (⟨"com/example/brief_locator/brieflocator/cbor/OpenContainers", "open", "(JZ)V"⟩ : MethodName)) hown (mvT hZ (hw _ (List.mem_of_getElem? (i := 13) rfl))) (mvT hZ (hw _ (List.mem_of_getElem? (i := 14) rfl))) (notFace_of_selects (args := #[]) (mvT hZ (hw _ (List.mem_of_getElem? (i := 16) rfl)))) (mvT hZ (hw _ (List.mem_of_getElem? (i := 16) rfl))) (mvT hZ (hw _ (List.mem_of_getElem? (i := 15) rfl))) (by decide) (backOf (W := 0) (rmop l Z a0 hw [] b1 (f0_v5 j0) (f0_26_s0 i3) (0 : Int64) (1 : Int32) b2 1 (own_z) (own_w (0 : Int64)) (own_w (op_v29 (f0_v5 j0) (0 : Int64))) T2.heap n0 u2_0 u2_1 u2_3 ne_b1_b2 u2_2 g_b1 g_b2 rfl (law_o1 j0 j1 j2 i3 ).2 (law_o1 j0 j1 j2 i3 ).1.1 (law_o1 j0 j1 j2 i3 ).1.2) hZ (hw _ (List.mem_of_getElem? (i := 17) rfl)) (hw _ (List.mem_of_getElem? (i := 3) rfl)) (by decide) (by decide)) q3a q3c (g := (mkF m 79 #[.val (.long j0), .second, .val (.long j1), .second, .val (.long j2), .second, .val (.int i3), .val (.long (f0_v5 j0)), .second, .val (.long (f0_v12 j1)), .second, .val (.long (f0_v20 j2)), .second, .val (.int (f0_26_s0 i3)), .val (.int (f0_40_s0 i3)), .val (.int (f0_54_s0 i3)), .val (.ref b1), .unset] [(.int (f0_26_s0 i3)), (.long (f0_v5 j0)), (.ref b1)])) rfl (by rw [hml]; rfl) (Steps.refl _) (argsL := [(.long (f0_v5 j0)), (.int (f0_26_s0 i3))]) (rest := []) (lenOf pd_1 rfl) rfl (by show 2 * 0 + _ ≤ _; exact Nat.le_of_eq rfl) (hb hby at_79) (fun _ _ => ⟨rfl, rfl, (by decide : 2 + 0 ≤ _), (by decide : 3 + 0 ≤ _)⟩)
  dsimp only [Pt.U, Pt.locs, Pt.cells, Pt.slots] at X3 l3 y3 z3 st3 hQ3
  subst l3 y3 z3
  obtain ⟨rfl, N3q, K3, u3_0, u3_1, u3_2, u3_3⟩ := hQ3
  have N3 := Fr.app N2 N3q
  obtain ⟨Lh3, X3, N3⟩ := hide X3 N3 (C := 2) (S := 3) (by decide) (by decide)
  refine Outs.to st3 ?_
  refine Outs.of (U' := T3.setTop (mkF m 84 #[.val (.long j0), .second, .val (.long j1), .second, .val (.long j2), .second, .val (.int i3), .val (.long (f0_v5 j0)), .second, .val (.long (f0_v12 j1)), .second, .val (.long (f0_v20 j2)), .second, .val (.int (f0_26_s0 i3)), .val (.int (f0_40_s0 i3)), .val (.int (f0_54_s0 i3)), .val (.ref b1), .unset] [(.ref b1)])) (fun t k => ?_) ?_
  · refine XS.aload X3.here hx rfl (hb hby at_82) rfl rfl ?_
    exact k
  obtain ⟨cq4, kq4, q4a, q4b, q4c⟩ := isOf hZ rfl u3_0
  obtain ⟨_, _, ⟨T4, L4, k4, n4⟩, -, X4, ⟨Lc4, hQ4, l4, y4, z4⟩, st4⟩ := X3.virtualBack hx (y := (⟨"com/example/brief_locator/brieflocator/cbor/OpenContainers", "innermostIsMap", "()Z"⟩ : MethodName)) (z := (⟨"com/example/brief_locator/brieflocator/cbor/OpenContainers", "innermostIsMap", "()Z"⟩ : MethodName)) hown (mvT hZ (hw _ (List.mem_of_getElem? (i := 35) rfl))) (mvT hZ (hw _ (List.mem_of_getElem? (i := 36) rfl))) (notFace_of_selects (args := #[]) (mvT hZ (hw _ (List.mem_of_getElem? (i := 38) rfl)))) (mvT hZ (hw _ (List.mem_of_getElem? (i := 38) rfl))) (mvT hZ (hw _ (List.mem_of_getElem? (i := 37) rfl))) (by decide) (backOf (W := 0) (rmim l Z a0 hw [] b1 (f0_s79 j0) b2 1 (f0_g79 j0 i3) (own_w ((f0_s79 j0) - (1 : Int64))) T3.heap n0 u3_0 u3_2 u3_1 u3_3 (law_i1 j0 j1 j2 i3 ).2.1 (law_i1 j0 j1 j2 i3 ).2.2) hZ (hw _ (List.mem_of_getElem? (i := 39) rfl)) (hw _ (List.mem_of_getElem? (i := 3) rfl)) (by decide) (by decide)) q4a q4c (g := (mkF m 84 #[.val (.long j0), .second, .val (.long j1), .second, .val (.long j2), .second, .val (.int i3), .val (.long (f0_v5 j0)), .second, .val (.long (f0_v12 j1)), .second, .val (.long (f0_v20 j2)), .second, .val (.int (f0_26_s0 i3)), .val (.int (f0_40_s0 i3)), .val (.int (f0_54_s0 i3)), .val (.ref b1), .unset] [(.ref b1)])) rfl (by rw [hml]; rfl) (Steps.refl _) (argsL := []) (rest := []) (lenOf pd_5 rfl) rfl (by show 2 * 0 + _ ≤ _; exact Nat.le_of_eq rfl) (hb hby at_84) (fun _ _ => ⟨rfl, rfl, (by decide : 2 + 0 ≤ _), (by decide : 3 + 0 ≤ _)⟩)
  dsimp only [Pt.U, Pt.locs, Pt.cells, Pt.slots] at X4 l4 y4 z4 st4 hQ4
  subst l4 y4 z4
  obtain ⟨rfl, N4q, e4⟩ := hQ4
  have N4 := Fr.app N3 N4q
  obtain ⟨Lh4, X4, N4⟩ := hide X4 N4 (C := 2) (S := 3) (by decide) (by decide)
  refine Outs.to st4 ?_
  refine Outs.of (U' := T4.setTop (mkF m 99 #[.val (.long j0), .second, .val (.long j1), .second, .val (.long j2), .second, .val (.int i3), .val (.long (f0_v5 j0)), .second, .val (.long (f0_v12 j1)), .second, .val (.long (f0_v20 j2)), .second, .val (.int (f0_26_s0 i3)), .val (.int (f0_40_s0 i3)), .val (.int (f0_54_s0 i3)), .val (.ref b1), .val (.int (1 : Int32))] [])) (fun t k => ?_) ?_
  · refine XS.iload X4.here hx rfl (hb hby at_87) rfl ?_
    refine XS.icmpNo X4.here hx rfl (hb hby at_89) rfl (teq (law_i1 j0 j1 j2 i3 ).1).2 ?_
    refine XS.iconst X4.here hx rfl (hb hby at_92) ?_
    refine XS.goto X4.here hx rfl (pc0 := 93) (pc' := 97) rfl (hb hby at_93) (by decide) (by decide) ?_
    refine XS.istore X4.here hx rfl (hb hby at_97) rfl (l' := #[.val (.long j0), .second, .val (.long j1), .second, .val (.long j2), .second, .val (.int i3), .val (.long (f0_v5 j0)), .second, .val (.long (f0_v12 j1)), .second, .val (.long (f0_v20 j2)), .second, .val (.int (f0_26_s0 i3)), .val (.int (f0_40_s0 i3)), .val (.int (f0_54_s0 i3)), .val (.ref b1), .val (.int (1 : Int32))]) rfl ?_
    exact k
  by_cases hg2 : own_w (op_v29 (f0_v12 j1) (f0_s79 j0)) < 1
  · show Outs p e below s _ _ _ (T4.setTop (mkF m 99 #[.val (.long j0), .second, .val (.long j1), .second, .val (.long j2), .second, .val (.int i3), .val (.long (f0_v5 j0)), .second, .val (.long (f0_v12 j1)), .second, .val (.long (f0_v20 j2)), .second, .val (.int (f0_26_s0 i3)), .val (.int (f0_40_s0 i3)), .val (.int (f0_54_s0 i3)), .val (.ref b1), .val (.int (1 : Int32))] []))
    refine Outs.of (U' := T4.setTop (mkF m 105 #[.val (.long j0), .second, .val (.long j1), .second, .val (.long j2), .second, .val (.int i3), .val (.long (f0_v5 j0)), .second, .val (.long (f0_v12 j1)), .second, .val (.long (f0_v20 j2)), .second, .val (.int (f0_26_s0 i3)), .val (.int (f0_40_s0 i3)), .val (.int (f0_54_s0 i3)), .val (.ref b1), .val (.int (1 : Int32))] [(.int (f0_40_s0 i3)), (.long (f0_v12 j1)), (.ref b1)])) (fun t k => ?_) ?_
    · refine XS.aload X4.here hx rfl (hb hby at_99) rfl rfl ?_
      refine XS.lload X4.here hx rfl (hb hby at_101) rfl ?_
      refine XS.iload X4.here hx rfl (hb hby at_103) rfl ?_
      exact k
    obtain ⟨cq5, kq5, q5a, q5b, q5c⟩ := isOf hZ e4 u3_0
    obtain ⟨_, _, ⟨T5, L5, k5, n5⟩, -, X5, ⟨Lc5, hQ5, l5, y5, z5⟩, st5⟩ := X4.virtualBack hx (y := (⟨"com/example/brief_locator/brieflocator/cbor/OpenContainers", "open", "(JZ)V"⟩ : MethodName)) (z := (⟨"com/example/brief_locator/brieflocator/cbor/OpenContainers", "open", "(JZ)V"⟩ : MethodName)) hown (mvT hZ (hw _ (List.mem_of_getElem? (i := 13) rfl))) (mvT hZ (hw _ (List.mem_of_getElem? (i := 14) rfl))) (notFace_of_selects (args := #[]) (mvT hZ (hw _ (List.mem_of_getElem? (i := 16) rfl)))) (mvT hZ (hw _ (List.mem_of_getElem? (i := 16) rfl))) (mvT hZ (hw _ (List.mem_of_getElem? (i := 15) rfl))) (by decide) (backOf (W := 0) (rmop l Z a0 hw [] b1 (f0_v12 j1) (f0_40_s0 i3) (f0_s79 j0) (1 : Int32) b2 1 (f0_g79 j0 i3) (own_w (f0_s79 j0)) (own_w (op_v29 (f0_v12 j1) (f0_s79 j0))) T3.heap n0 u3_0 u3_1 u3_3 ne_b1_b2 u3_2 g_b1 g_b2 rfl (law_o2A j0 j1 j2 i3 hg2).2 (law_o2A j0 j1 j2 i3 hg2).1.1 (law_o2A j0 j1 j2 i3 hg2).1.2) hZ (hw _ (List.mem_of_getElem? (i := 17) rfl)) (hw _ (List.mem_of_getElem? (i := 3) rfl)) (by decide) (by decide)) q5a q5c (g := (mkF m 105 #[.val (.long j0), .second, .val (.long j1), .second, .val (.long j2), .second, .val (.int i3), .val (.long (f0_v5 j0)), .second, .val (.long (f0_v12 j1)), .second, .val (.long (f0_v20 j2)), .second, .val (.int (f0_26_s0 i3)), .val (.int (f0_40_s0 i3)), .val (.int (f0_54_s0 i3)), .val (.ref b1), .val (.int (1 : Int32))] [(.int (f0_40_s0 i3)), (.long (f0_v12 j1)), (.ref b1)])) rfl (by rw [hml]; rfl) (Steps.refl _) (argsL := [(.long (f0_v12 j1)), (.int (f0_40_s0 i3))]) (rest := []) (lenOf pd_1 rfl) rfl (by show 2 * 0 + _ ≤ _; exact Nat.le_of_eq rfl) (hb hby at_105) (fun _ _ => ⟨rfl, e4, (by decide : 2 + 0 ≤ _), (by decide : 3 + 0 ≤ _)⟩)
    dsimp only [Pt.U, Pt.locs, Pt.cells, Pt.slots] at X5 l5 y5 z5 st5 hQ5
    subst l5 y5 z5
    obtain ⟨rfl, N5q, K5, u5_0, u5_1, u5_2, u5_3⟩ := hQ5
    have N5 := Fr.app N4 N5q
    obtain ⟨Lh5, X5, N5⟩ := hide X5 N5 (C := 2) (S := 3) (by decide) (by decide)
    refine Outs.to st5 ?_
    refine Outs.of (U' := T5.setTop (mkF m 112 #[.val (.long j0), .second, .val (.long j1), .second, .val (.long j2), .second, .val (.int i3), .val (.long (f0_v5 j0)), .second, .val (.long (f0_v12 j1)), .second, .val (.long (f0_v20 j2)), .second, .val (.int (f0_26_s0 i3)), .val (.int (f0_40_s0 i3)), .val (.int (f0_54_s0 i3)), .val (.ref b1), .val (.int (1 : Int32))] [(.ref b1), (.int (1 : Int32))])) (fun t k => ?_) ?_
    · refine XS.iload X5.here hx rfl (hb hby at_108) rfl ?_
      refine XS.aload X5.here hx rfl (hb hby at_110) rfl rfl ?_
      exact k
    obtain ⟨cq6, kq6, q6a, q6b, q6c⟩ := isOf hZ rfl u5_0
    obtain ⟨_, _, ⟨T6, L6, k6, n6⟩, -, X6, ⟨Lc6, hQ6, l6, y6, z6⟩, st6⟩ := X5.virtualBack hx (y := (⟨"com/example/brief_locator/brieflocator/cbor/OpenContainers", "innermostIsMap", "()Z"⟩ : MethodName)) (z := (⟨"com/example/brief_locator/brieflocator/cbor/OpenContainers", "innermostIsMap", "()Z"⟩ : MethodName)) hown (mvT hZ (hw _ (List.mem_of_getElem? (i := 35) rfl))) (mvT hZ (hw _ (List.mem_of_getElem? (i := 36) rfl))) (notFace_of_selects (args := #[]) (mvT hZ (hw _ (List.mem_of_getElem? (i := 38) rfl)))) (mvT hZ (hw _ (List.mem_of_getElem? (i := 38) rfl))) (mvT hZ (hw _ (List.mem_of_getElem? (i := 37) rfl))) (by decide) (backOf (W := 1) (rmim l Z a0 hw [] b1 (f0_s105 j0 j1) b2 1 (f0_g105 j0 j1 i3) (own_w ((f0_s105 j0 j1) - (1 : Int64))) T5.heap n0 u5_0 u5_2 u5_1 u5_3 (law_i2A j0 j1 j2 i3 hg2).2.1 (law_i2A j0 j1 j2 i3 hg2).2.2) hZ (hw _ (List.mem_of_getElem? (i := 39) rfl)) (hw _ (List.mem_of_getElem? (i := 3) rfl)) (by decide) (by decide)) q6a q6c (g := (mkF m 112 #[.val (.long j0), .second, .val (.long j1), .second, .val (.long j2), .second, .val (.int i3), .val (.long (f0_v5 j0)), .second, .val (.long (f0_v12 j1)), .second, .val (.long (f0_v20 j2)), .second, .val (.int (f0_26_s0 i3)), .val (.int (f0_40_s0 i3)), .val (.int (f0_54_s0 i3)), .val (.ref b1), .val (.int (1 : Int32))] [(.ref b1), (.int (1 : Int32))])) rfl (by rw [hml]; rfl) (Steps.refl _) (argsL := []) (rest := [(.int (1 : Int32))]) (lenOf pd_5 rfl) rfl (by show 2 * 0 + _ ≤ _; exact Nat.le_of_eq rfl) (hb hby at_112) (fun _ _ => ⟨rfl, rfl, (by decide : 2 + 0 ≤ _), (by decide : 3 + 0 ≤ _)⟩)
    dsimp only [Pt.U, Pt.locs, Pt.cells, Pt.slots] at X6 l6 y6 z6 st6 hQ6
    subst l6 y6 z6
    obtain ⟨rfl, N6q, e6⟩ := hQ6
    have N6 := Fr.app N5 N6q
    obtain ⟨Lh6, X6, N6⟩ := hide X6 N6 (C := 2) (S := 3) (by decide) (by decide)
    refine Outs.to st6 ?_
    refine Outs.of (U' := T6.setTop (mkF m 128 #[.val (.long j0), .second, .val (.long j1), .second, .val (.long j2), .second, .val (.int i3), .val (.long (f0_v5 j0)), .second, .val (.long (f0_v12 j1)), .second, .val (.long (f0_v20 j2)), .second, .val (.int (f0_26_s0 i3)), .val (.int (f0_40_s0 i3)), .val (.int (f0_54_s0 i3)), .val (.ref b1), .val (.int (1 : Int32))] [])) (fun t k => ?_) ?_
    · refine XS.iload X6.here hx rfl (hb hby at_115) rfl ?_
      refine XS.icmpNo X6.here hx rfl (hb hby at_117) rfl (teq (law_i2A j0 j1 j2 i3 hg2).1).2 ?_
      refine XS.iconst X6.here hx rfl (hb hby at_120) ?_
      refine XS.goto X6.here hx rfl (pc0 := 121) (pc' := 125) rfl (hb hby at_121) (by decide) (by decide) ?_
      refine XS.iand X6.here hx rfl (hb hby at_125) rfl ?_
      refine XS.istore X6.here hx rfl (hb hby at_126) rfl (l' := #[.val (.long j0), .second, .val (.long j1), .second, .val (.long j2), .second, .val (.int i3), .val (.long (f0_v5 j0)), .second, .val (.long (f0_v12 j1)), .second, .val (.long (f0_v20 j2)), .second, .val (.int (f0_26_s0 i3)), .val (.int (f0_40_s0 i3)), .val (.int (f0_54_s0 i3)), .val (.ref b1), .val (.int (1 : Int32))]) rfl ?_
      exact k
    by_cases hg3 : own_w (op_v29 (f0_v20 j2) (f0_s105 j0 j1)) < 1
    · show Outs p e below s _ _ _ (T6.setTop (mkF m 128 #[.val (.long j0), .second, .val (.long j1), .second, .val (.long j2), .second, .val (.int i3), .val (.long (f0_v5 j0)), .second, .val (.long (f0_v12 j1)), .second, .val (.long (f0_v20 j2)), .second, .val (.int (f0_26_s0 i3)), .val (.int (f0_40_s0 i3)), .val (.int (f0_54_s0 i3)), .val (.ref b1), .val (.int (1 : Int32))] []))
      refine Outs.of (U' := T6.setTop (mkF m 134 #[.val (.long j0), .second, .val (.long j1), .second, .val (.long j2), .second, .val (.int i3), .val (.long (f0_v5 j0)), .second, .val (.long (f0_v12 j1)), .second, .val (.long (f0_v20 j2)), .second, .val (.int (f0_26_s0 i3)), .val (.int (f0_40_s0 i3)), .val (.int (f0_54_s0 i3)), .val (.ref b1), .val (.int (1 : Int32))] [(.int (f0_54_s0 i3)), (.long (f0_v20 j2)), (.ref b1)])) (fun t k => ?_) ?_
      · refine XS.aload X6.here hx rfl (hb hby at_128) rfl rfl ?_
        refine XS.lload X6.here hx rfl (hb hby at_130) rfl ?_
        refine XS.iload X6.here hx rfl (hb hby at_132) rfl ?_
        exact k
      obtain ⟨cq7, kq7, q7a, q7b, q7c⟩ := isOf hZ e6 u5_0
      obtain ⟨_, _, ⟨T7, L7, k7, n7⟩, -, X7, ⟨Lc7, hQ7, l7, y7, z7⟩, st7⟩ := X6.virtualBack hx (y := (⟨"com/example/brief_locator/brieflocator/cbor/OpenContainers", "open", "(JZ)V"⟩ : MethodName)) (z := (⟨"com/example/brief_locator/brieflocator/cbor/OpenContainers", "open", "(JZ)V"⟩ : MethodName)) hown (mvT hZ (hw _ (List.mem_of_getElem? (i := 13) rfl))) (mvT hZ (hw _ (List.mem_of_getElem? (i := 14) rfl))) (notFace_of_selects (args := #[]) (mvT hZ (hw _ (List.mem_of_getElem? (i := 16) rfl)))) (mvT hZ (hw _ (List.mem_of_getElem? (i := 16) rfl))) (mvT hZ (hw _ (List.mem_of_getElem? (i := 15) rfl))) (by decide) (backOf (W := 0) (rmop l Z a0 hw [] b1 (f0_v20 j2) (f0_54_s0 i3) (f0_s105 j0 j1) (1 : Int32) b2 1 (f0_g105 j0 j1 i3) (own_w (f0_s105 j0 j1)) (own_w (op_v29 (f0_v20 j2) (f0_s105 j0 j1))) T5.heap n0 u5_0 u5_1 u5_3 ne_b1_b2 u5_2 g_b1 g_b2 rfl (law_o3AA j0 j1 j2 i3 hg2 hg3).2 (law_o3AA j0 j1 j2 i3 hg2 hg3).1.1 (law_o3AA j0 j1 j2 i3 hg2 hg3).1.2) hZ (hw _ (List.mem_of_getElem? (i := 17) rfl)) (hw _ (List.mem_of_getElem? (i := 3) rfl)) (by decide) (by decide)) q7a q7c (g := (mkF m 134 #[.val (.long j0), .second, .val (.long j1), .second, .val (.long j2), .second, .val (.int i3), .val (.long (f0_v5 j0)), .second, .val (.long (f0_v12 j1)), .second, .val (.long (f0_v20 j2)), .second, .val (.int (f0_26_s0 i3)), .val (.int (f0_40_s0 i3)), .val (.int (f0_54_s0 i3)), .val (.ref b1), .val (.int (1 : Int32))] [(.int (f0_54_s0 i3)), (.long (f0_v20 j2)), (.ref b1)])) rfl (by rw [hml]; rfl) (Steps.refl _) (argsL := [(.long (f0_v20 j2)), (.int (f0_54_s0 i3))]) (rest := []) (lenOf pd_1 rfl) rfl (by show 2 * 0 + _ ≤ _; exact Nat.le_of_eq rfl) (hb hby at_134) (fun _ _ => ⟨rfl, e6, (by decide : 2 + 0 ≤ _), (by decide : 3 + 0 ≤ _)⟩)
      dsimp only [Pt.U, Pt.locs, Pt.cells, Pt.slots] at X7 l7 y7 z7 st7 hQ7
      subst l7 y7 z7
      obtain ⟨rfl, N7q, K7, u7_0, u7_1, u7_2, u7_3⟩ := hQ7
      have N7 := Fr.app N6 N7q
      obtain ⟨Lh7, X7, N7⟩ := hide X7 N7 (C := 2) (S := 3) (by decide) (by decide)
      refine Outs.to st7 ?_
      refine Outs.of (U' := T7.setTop (mkF m 141 #[.val (.long j0), .second, .val (.long j1), .second, .val (.long j2), .second, .val (.int i3), .val (.long (f0_v5 j0)), .second, .val (.long (f0_v12 j1)), .second, .val (.long (f0_v20 j2)), .second, .val (.int (f0_26_s0 i3)), .val (.int (f0_40_s0 i3)), .val (.int (f0_54_s0 i3)), .val (.ref b1), .val (.int (1 : Int32))] [(.ref b1), (.int (1 : Int32))])) (fun t k => ?_) ?_
      · refine XS.iload X7.here hx rfl (hb hby at_137) rfl ?_
        refine XS.aload X7.here hx rfl (hb hby at_139) rfl rfl ?_
        exact k
      obtain ⟨cq8, kq8, q8a, q8b, q8c⟩ := isOf hZ rfl u7_0
      obtain ⟨_, _, ⟨T8, L8, k8, n8⟩, -, X8, ⟨Lc8, hQ8, l8, y8, z8⟩, st8⟩ := X7.virtualBack hx (y := (⟨"com/example/brief_locator/brieflocator/cbor/OpenContainers", "innermostIsMap", "()Z"⟩ : MethodName)) (z := (⟨"com/example/brief_locator/brieflocator/cbor/OpenContainers", "innermostIsMap", "()Z"⟩ : MethodName)) hown (mvT hZ (hw _ (List.mem_of_getElem? (i := 35) rfl))) (mvT hZ (hw _ (List.mem_of_getElem? (i := 36) rfl))) (notFace_of_selects (args := #[]) (mvT hZ (hw _ (List.mem_of_getElem? (i := 38) rfl)))) (mvT hZ (hw _ (List.mem_of_getElem? (i := 38) rfl))) (mvT hZ (hw _ (List.mem_of_getElem? (i := 37) rfl))) (by decide) (backOf (W := 1) (rmim l Z a0 hw [] b1 (f0_s134 j0 j1 j2) b2 1 (f0_g134 j0 j1 j2 i3) (own_w ((f0_s134 j0 j1 j2) - (1 : Int64))) T7.heap n0 u7_0 u7_2 u7_1 u7_3 (law_i3AA j0 j1 j2 i3 hg2 hg3).2.1 (law_i3AA j0 j1 j2 i3 hg2 hg3).2.2) hZ (hw _ (List.mem_of_getElem? (i := 39) rfl)) (hw _ (List.mem_of_getElem? (i := 3) rfl)) (by decide) (by decide)) q8a q8c (g := (mkF m 141 #[.val (.long j0), .second, .val (.long j1), .second, .val (.long j2), .second, .val (.int i3), .val (.long (f0_v5 j0)), .second, .val (.long (f0_v12 j1)), .second, .val (.long (f0_v20 j2)), .second, .val (.int (f0_26_s0 i3)), .val (.int (f0_40_s0 i3)), .val (.int (f0_54_s0 i3)), .val (.ref b1), .val (.int (1 : Int32))] [(.ref b1), (.int (1 : Int32))])) rfl (by rw [hml]; rfl) (Steps.refl _) (argsL := []) (rest := [(.int (1 : Int32))]) (lenOf pd_5 rfl) rfl (by show 2 * 0 + _ ≤ _; exact Nat.le_of_eq rfl) (hb hby at_141) (fun _ _ => ⟨rfl, rfl, (by decide : 2 + 0 ≤ _), (by decide : 3 + 0 ≤ _)⟩)
      dsimp only [Pt.U, Pt.locs, Pt.cells, Pt.slots] at X8 l8 y8 z8 st8 hQ8
      subst l8 y8 z8
      obtain ⟨rfl, N8q, e8⟩ := hQ8
      have N8 := Fr.app N7 N8q
      obtain ⟨Lh8, X8, N8⟩ := hide X8 N8 (C := 2) (S := 3) (by decide) (by decide)
      refine Outs.to st8 ?_
      refine Outs.of (U' := T8.setTop (mkF m 159 #[.val (.long j0), .second, .val (.long j1), .second, .val (.long j2), .second, .val (.int i3), .val (.long (f0_v5 j0)), .second, .val (.long (f0_v12 j1)), .second, .val (.long (f0_v20 j2)), .second, .val (.int (f0_26_s0 i3)), .val (.int (f0_40_s0 i3)), .val (.int (f0_54_s0 i3)), .val (.ref b1), .val (.int (1 : Int32))] [(.ref b1)])) (fun t k => ?_) ?_
      · refine XS.iload X8.here hx rfl (hb hby at_144) rfl ?_
        refine XS.icmpNo X8.here hx rfl (hb hby at_146) rfl (teq (law_i3AA j0 j1 j2 i3 hg2 hg3).1).2 ?_
        refine XS.iconst X8.here hx rfl (hb hby at_149) ?_
        refine XS.goto X8.here hx rfl (pc0 := 150) (pc' := 154) rfl (hb hby at_150) (by decide) (by decide) ?_
        refine XS.iand X8.here hx rfl (hb hby at_154) rfl ?_
        refine XS.istore X8.here hx rfl (hb hby at_155) rfl (l' := #[.val (.long j0), .second, .val (.long j1), .second, .val (.long j2), .second, .val (.int i3), .val (.long (f0_v5 j0)), .second, .val (.long (f0_v12 j1)), .second, .val (.long (f0_v20 j2)), .second, .val (.int (f0_26_s0 i3)), .val (.int (f0_40_s0 i3)), .val (.int (f0_54_s0 i3)), .val (.ref b1), .val (.int (1 : Int32))]) rfl ?_
        refine XS.aload X8.here hx rfl (hb hby at_157) rfl rfl ?_
        exact k
      obtain ⟨cq9, kq9, q9a, q9b, q9c⟩ := isOf hZ e8 u7_0
      obtain ⟨_, _, ⟨T9, L9, k9, n9⟩, -, X9, ⟨Lc9, hQ9, l9, y9, z9⟩, st9⟩ := X8.virtualBack hx (y := (⟨"com/example/brief_locator/brieflocator/cbor/OpenContainers", "close", "()J"⟩ : MethodName)) (z := (⟨"com/example/brief_locator/brieflocator/cbor/OpenContainers", "close", "()J"⟩ : MethodName)) hown (mvT hZ (hw _ (List.mem_of_getElem? (i := 52) rfl))) (mvT hZ (hw _ (List.mem_of_getElem? (i := 53) rfl))) (notFace_of_selects (args := #[]) (mvT hZ (hw _ (List.mem_of_getElem? (i := 55) rfl)))) (mvT hZ (hw _ (List.mem_of_getElem? (i := 55) rfl))) (mvT hZ (hw _ (List.mem_of_getElem? (i := 54) rfl))) (by decide) (backOf (W := 0) (rmcl l Z a0 hw [] b1 (f0_s134 j0 j1 j2) (1 : Int32) b2 1 (f0_g134 j0 j1 j2 i3) (own_w (((f0_s134 j0 j1 j2) - (1 : Int64)) - (1 : Int64))) ((own_w (((f0_s134 j0 j1 j2) - (1 : Int64)) - (1 : Int64))) - 1) (own_w (clS (f0_s134 j0 j1 j2) (f0_g134 j0 j1 j2 i3))) T7.heap n0 u7_0 u7_1 u7_3 ne_b1_b2 u7_2 g_b1 g_b2 rfl (law_c1AA j0 j1 j2 i3 hg2 hg3).1 (law_c1AA j0 j1 j2 i3 hg2 hg3).2) hZ (hw _ (List.mem_of_getElem? (i := 56) rfl)) (hw _ (List.mem_of_getElem? (i := 3) rfl)) (by decide) (by decide)) q9a q9c (g := (mkF m 159 #[.val (.long j0), .second, .val (.long j1), .second, .val (.long j2), .second, .val (.int i3), .val (.long (f0_v5 j0)), .second, .val (.long (f0_v12 j1)), .second, .val (.long (f0_v20 j2)), .second, .val (.int (f0_26_s0 i3)), .val (.int (f0_40_s0 i3)), .val (.int (f0_54_s0 i3)), .val (.ref b1), .val (.int (1 : Int32))] [(.ref b1)])) rfl (by rw [hml]; rfl) (Steps.refl _) (argsL := []) (rest := []) (lenOf pd_9 rfl) rfl (by show 2 * 0 + _ ≤ _; exact Nat.le_of_eq rfl) (hb hby at_159) (fun _ _ => ⟨rfl, e8, (by decide : 2 + 0 ≤ _), (by decide : 3 + 0 ≤ _)⟩)
      dsimp only [Pt.U, Pt.locs, Pt.cells, Pt.slots] at X9 l9 y9 z9 st9 hQ9
      subst l9 y9 z9
      obtain ⟨rfl, N9q, K9, u9_0, u9_1, u9_2, u9_3⟩ := hQ9
      have N9 := Fr.app N8 N9q
      obtain ⟨Lh9, X9, N9⟩ := hide X9 N9 (C := 2) (S := 3) (by decide) (by decide)
      refine Outs.to st9 ?_
      refine Outs.of (U' := T9.setTop (mkF m 167 #[.val (.long j0), .second, .val (.long j1), .second, .val (.long j2), .second, .val (.int i3), .val (.long (f0_v5 j0)), .second, .val (.long (f0_v12 j1)), .second, .val (.long (f0_v20 j2)), .second, .val (.int (f0_26_s0 i3)), .val (.int (f0_40_s0 i3)), .val (.int (f0_54_s0 i3)), .val (.ref b1), .val (.int (1 : Int32))] [(.ref b1), (.int (1 : Int32))])) (fun t k => ?_) ?_
      · show Steps p.tables e below (T9.setTop (mkF m 162 #[.val (.long j0), .second, .val (.long j1), .second, .val (.long j2), .second, .val (.int i3), .val (.long (f0_v5 j0)), .second, .val (.long (f0_v12 j1)), .second, .val (.long (f0_v20 j2)), .second, .val (.int (f0_26_s0 i3)), .val (.int (f0_40_s0 i3)), .val (.int (f0_54_s0 i3)), .val (.ref b1), .val (.int (1 : Int32))] [(.long (f0_r159 j0 j1 j2 i3))])) _
        jvm_step X9.here [X9.here.top, hx, (hb hby at_162), Value.category]
        refine XS.iload X9.here hx rfl (hb hby at_163) rfl ?_
        refine XS.aload X9.here hx rfl (hb hby at_165) rfl rfl ?_
        exact k
      obtain ⟨cq10, kq10, q10a, q10b, q10c⟩ := isOf hZ rfl u9_0
      obtain ⟨_, _, ⟨T10, L10, k10, n10⟩, -, X10, ⟨Lc10, hQ10, l10, y10, z10⟩, st10⟩ := X9.virtualBack hx (y := (⟨"com/example/brief_locator/brieflocator/cbor/OpenContainers", "innermostIsMap", "()Z"⟩ : MethodName)) (z := (⟨"com/example/brief_locator/brieflocator/cbor/OpenContainers", "innermostIsMap", "()Z"⟩ : MethodName)) hown (mvT hZ (hw _ (List.mem_of_getElem? (i := 35) rfl))) (mvT hZ (hw _ (List.mem_of_getElem? (i := 36) rfl))) (notFace_of_selects (args := #[]) (mvT hZ (hw _ (List.mem_of_getElem? (i := 38) rfl)))) (mvT hZ (hw _ (List.mem_of_getElem? (i := 38) rfl))) (mvT hZ (hw _ (List.mem_of_getElem? (i := 37) rfl))) (by decide) (backOf (W := 1) (rmim l Z a0 hw [] b1 (f0_s159 j0 j1 j2 i3) b2 1 (f0_g159 j0 j1 j2 i3) (own_w ((f0_s159 j0 j1 j2 i3) - (1 : Int64))) T9.heap n0 u9_0 u9_2 u9_1 u9_3 (law_i4AA j0 j1 j2 i3 hg2 hg3).2.1 (law_i4AA j0 j1 j2 i3 hg2 hg3).2.2) hZ (hw _ (List.mem_of_getElem? (i := 39) rfl)) (hw _ (List.mem_of_getElem? (i := 3) rfl)) (by decide) (by decide)) q10a q10c (g := (mkF m 167 #[.val (.long j0), .second, .val (.long j1), .second, .val (.long j2), .second, .val (.int i3), .val (.long (f0_v5 j0)), .second, .val (.long (f0_v12 j1)), .second, .val (.long (f0_v20 j2)), .second, .val (.int (f0_26_s0 i3)), .val (.int (f0_40_s0 i3)), .val (.int (f0_54_s0 i3)), .val (.ref b1), .val (.int (1 : Int32))] [(.ref b1), (.int (1 : Int32))])) rfl (by rw [hml]; rfl) (Steps.refl _) (argsL := []) (rest := [(.int (1 : Int32))]) (lenOf pd_5 rfl) rfl (by show 2 * 0 + _ ≤ _; exact Nat.le_of_eq rfl) (hb hby at_167) (fun _ _ => ⟨rfl, rfl, (by decide : 2 + 0 ≤ _), (by decide : 3 + 0 ≤ _)⟩)
      dsimp only [Pt.U, Pt.locs, Pt.cells, Pt.slots] at X10 l10 y10 z10 st10 hQ10
      subst l10 y10 z10
      obtain ⟨rfl, N10q, e10⟩ := hQ10
      have N10 := Fr.app N9 N10q
      obtain ⟨Lh10, X10, N10⟩ := hide X10 N10 (C := 2) (S := 3) (by decide) (by decide)
      refine Outs.to st10 ?_
      refine Outs.of (U' := T10.setTop (mkF m 185 #[.val (.long j0), .second, .val (.long j1), .second, .val (.long j2), .second, .val (.int i3), .val (.long (f0_v5 j0)), .second, .val (.long (f0_v12 j1)), .second, .val (.long (f0_v20 j2)), .second, .val (.int (f0_26_s0 i3)), .val (.int (f0_40_s0 i3)), .val (.int (f0_54_s0 i3)), .val (.ref b1), .val (.int (1 : Int32))] [(.ref b1)])) (fun t k => ?_) ?_
      · refine XS.iload X10.here hx rfl (hb hby at_170) rfl ?_
        refine XS.icmpNo X10.here hx rfl (hb hby at_172) rfl (teq (law_i4AA j0 j1 j2 i3 hg2 hg3).1).2 ?_
        refine XS.iconst X10.here hx rfl (hb hby at_175) ?_
        refine XS.goto X10.here hx rfl (pc0 := 176) (pc' := 180) rfl (hb hby at_176) (by decide) (by decide) ?_
        refine XS.iand X10.here hx rfl (hb hby at_180) rfl ?_
        refine XS.istore X10.here hx rfl (hb hby at_181) rfl (l' := #[.val (.long j0), .second, .val (.long j1), .second, .val (.long j2), .second, .val (.int i3), .val (.long (f0_v5 j0)), .second, .val (.long (f0_v12 j1)), .second, .val (.long (f0_v20 j2)), .second, .val (.int (f0_26_s0 i3)), .val (.int (f0_40_s0 i3)), .val (.int (f0_54_s0 i3)), .val (.ref b1), .val (.int (1 : Int32))]) rfl ?_
        refine XS.aload X10.here hx rfl (hb hby at_183) rfl rfl ?_
        exact k
      obtain ⟨cq11, kq11, q11a, q11b, q11c⟩ := isOf hZ e10 u9_0
      obtain ⟨_, _, ⟨T11, L11, k11, n11⟩, -, X11, ⟨Lc11, hQ11, l11, y11, z11⟩, st11⟩ := X10.virtualBack hx (y := (⟨"com/example/brief_locator/brieflocator/cbor/OpenContainers", "close", "()J"⟩ : MethodName)) (z := (⟨"com/example/brief_locator/brieflocator/cbor/OpenContainers", "close", "()J"⟩ : MethodName)) hown (mvT hZ (hw _ (List.mem_of_getElem? (i := 52) rfl))) (mvT hZ (hw _ (List.mem_of_getElem? (i := 53) rfl))) (notFace_of_selects (args := #[]) (mvT hZ (hw _ (List.mem_of_getElem? (i := 55) rfl)))) (mvT hZ (hw _ (List.mem_of_getElem? (i := 55) rfl))) (mvT hZ (hw _ (List.mem_of_getElem? (i := 54) rfl))) (by decide) (backOf (W := 0) (rmcl l Z a0 hw [] b1 (f0_s159 j0 j1 j2 i3) (1 : Int32) b2 1 (f0_g159 j0 j1 j2 i3) (own_w (((f0_s159 j0 j1 j2 i3) - (1 : Int64)) - (1 : Int64))) ((own_w (((f0_s159 j0 j1 j2 i3) - (1 : Int64)) - (1 : Int64))) - 1) (own_w (clS (f0_s159 j0 j1 j2 i3) (f0_g159 j0 j1 j2 i3))) T9.heap n0 u9_0 u9_1 u9_3 ne_b1_b2 u9_2 g_b1 g_b2 rfl (law_c2AA j0 j1 j2 i3 hg2 hg3).1 (law_c2AA j0 j1 j2 i3 hg2 hg3).2) hZ (hw _ (List.mem_of_getElem? (i := 56) rfl)) (hw _ (List.mem_of_getElem? (i := 3) rfl)) (by decide) (by decide)) q11a q11c (g := (mkF m 185 #[.val (.long j0), .second, .val (.long j1), .second, .val (.long j2), .second, .val (.int i3), .val (.long (f0_v5 j0)), .second, .val (.long (f0_v12 j1)), .second, .val (.long (f0_v20 j2)), .second, .val (.int (f0_26_s0 i3)), .val (.int (f0_40_s0 i3)), .val (.int (f0_54_s0 i3)), .val (.ref b1), .val (.int (1 : Int32))] [(.ref b1)])) rfl (by rw [hml]; rfl) (Steps.refl _) (argsL := []) (rest := []) (lenOf pd_9 rfl) rfl (by show 2 * 0 + _ ≤ _; exact Nat.le_of_eq rfl) (hb hby at_185) (fun _ _ => ⟨rfl, e10, (by decide : 2 + 0 ≤ _), (by decide : 3 + 0 ≤ _)⟩)
      dsimp only [Pt.U, Pt.locs, Pt.cells, Pt.slots] at X11 l11 y11 z11 st11 hQ11
      subst l11 y11 z11
      obtain ⟨rfl, N11q, K11, u11_0, u11_1, u11_2, u11_3⟩ := hQ11
      have N11 := Fr.app N10 N11q
      obtain ⟨Lh11, X11, N11⟩ := hide X11 N11 (C := 2) (S := 3) (by decide) (by decide)
      refine Outs.to st11 ?_
      refine Outs.of (U' := T11.setTop (mkF m 193 #[.val (.long j0), .second, .val (.long j1), .second, .val (.long j2), .second, .val (.int i3), .val (.long (f0_v5 j0)), .second, .val (.long (f0_v12 j1)), .second, .val (.long (f0_v20 j2)), .second, .val (.int (f0_26_s0 i3)), .val (.int (f0_40_s0 i3)), .val (.int (f0_54_s0 i3)), .val (.ref b1), .val (.int (1 : Int32))] [(.ref b1), (.int (1 : Int32))])) (fun t k => ?_) ?_
      · show Steps p.tables e below (T11.setTop (mkF m 188 #[.val (.long j0), .second, .val (.long j1), .second, .val (.long j2), .second, .val (.int i3), .val (.long (f0_v5 j0)), .second, .val (.long (f0_v12 j1)), .second, .val (.long (f0_v20 j2)), .second, .val (.int (f0_26_s0 i3)), .val (.int (f0_40_s0 i3)), .val (.int (f0_54_s0 i3)), .val (.ref b1), .val (.int (1 : Int32))] [(.long (f0_r185 j0 j1 j2 i3))])) _
        jvm_step X11.here [X11.here.top, hx, (hb hby at_188), Value.category]
        refine XS.iload X11.here hx rfl (hb hby at_189) rfl ?_
        refine XS.aload X11.here hx rfl (hb hby at_191) rfl rfl ?_
        exact k
      obtain ⟨cq12, kq12, q12a, q12b, q12c⟩ := isOf hZ rfl u11_0
      obtain ⟨_, _, ⟨T12, L12, k12, n12⟩, -, X12, ⟨Lc12, hQ12, l12, y12, z12⟩, st12⟩ := X11.virtualBack hx (y := (⟨"com/example/brief_locator/brieflocator/cbor/OpenContainers", "innermostIsMap", "()Z"⟩ : MethodName)) (z := (⟨"com/example/brief_locator/brieflocator/cbor/OpenContainers", "innermostIsMap", "()Z"⟩ : MethodName)) hown (mvT hZ (hw _ (List.mem_of_getElem? (i := 35) rfl))) (mvT hZ (hw _ (List.mem_of_getElem? (i := 36) rfl))) (notFace_of_selects (args := #[]) (mvT hZ (hw _ (List.mem_of_getElem? (i := 38) rfl)))) (mvT hZ (hw _ (List.mem_of_getElem? (i := 38) rfl))) (mvT hZ (hw _ (List.mem_of_getElem? (i := 37) rfl))) (by decide) (backOf (W := 1) (rmim l Z a0 hw [] b1 (f0_s185 j0 j1 j2 i3) b2 1 (f0_g185 j0 j1 j2 i3) (own_w ((f0_s185 j0 j1 j2 i3) - (1 : Int64))) T11.heap n0 u11_0 u11_2 u11_1 u11_3 (law_i5AA j0 j1 j2 i3 hg2 hg3).2.1 (law_i5AA j0 j1 j2 i3 hg2 hg3).2.2) hZ (hw _ (List.mem_of_getElem? (i := 39) rfl)) (hw _ (List.mem_of_getElem? (i := 3) rfl)) (by decide) (by decide)) q12a q12c (g := (mkF m 193 #[.val (.long j0), .second, .val (.long j1), .second, .val (.long j2), .second, .val (.int i3), .val (.long (f0_v5 j0)), .second, .val (.long (f0_v12 j1)), .second, .val (.long (f0_v20 j2)), .second, .val (.int (f0_26_s0 i3)), .val (.int (f0_40_s0 i3)), .val (.int (f0_54_s0 i3)), .val (.ref b1), .val (.int (1 : Int32))] [(.ref b1), (.int (1 : Int32))])) rfl (by rw [hml]; rfl) (Steps.refl _) (argsL := []) (rest := [(.int (1 : Int32))]) (lenOf pd_5 rfl) rfl (by show 2 * 0 + _ ≤ _; exact Nat.le_of_eq rfl) (hb hby at_193) (fun _ _ => ⟨rfl, rfl, (by decide : 2 + 0 ≤ _), (by decide : 3 + 0 ≤ _)⟩)
      dsimp only [Pt.U, Pt.locs, Pt.cells, Pt.slots] at X12 l12 y12 z12 st12 hQ12
      subst l12 y12 z12
      obtain ⟨rfl, N12q, e12⟩ := hQ12
      have N12 := Fr.app N11 N12q
      obtain ⟨Lh12, X12, N12⟩ := hide X12 N12 (C := 2) (S := 3) (by decide) (by decide)
      refine Outs.to st12 ?_
      refine Outs.of (U' := T12.setTop (mkF m 211 #[.val (.long j0), .second, .val (.long j1), .second, .val (.long j2), .second, .val (.int i3), .val (.long (f0_v5 j0)), .second, .val (.long (f0_v12 j1)), .second, .val (.long (f0_v20 j2)), .second, .val (.int (f0_26_s0 i3)), .val (.int (f0_40_s0 i3)), .val (.int (f0_54_s0 i3)), .val (.ref b1), .val (.int (1 : Int32))] [(.int (1 : Int32))])) (fun t k => ?_) ?_
      · refine XS.iload X12.here hx rfl (hb hby at_196) rfl ?_
        refine XS.icmpNo X12.here hx rfl (hb hby at_198) rfl (teq (law_i5AA j0 j1 j2 i3 hg2 hg3).1).2 ?_
        refine XS.iconst X12.here hx rfl (hb hby at_201) ?_
        refine XS.goto X12.here hx rfl (pc0 := 202) (pc' := 206) rfl (hb hby at_202) (by decide) (by decide) ?_
        refine XS.iand X12.here hx rfl (hb hby at_206) rfl ?_
        refine XS.istore X12.here hx rfl (hb hby at_207) rfl (l' := #[.val (.long j0), .second, .val (.long j1), .second, .val (.long j2), .second, .val (.int i3), .val (.long (f0_v5 j0)), .second, .val (.long (f0_v12 j1)), .second, .val (.long (f0_v20 j2)), .second, .val (.int (f0_26_s0 i3)), .val (.int (f0_40_s0 i3)), .val (.int (f0_54_s0 i3)), .val (.ref b1), .val (.int (1 : Int32))]) rfl ?_
        refine XS.iload X12.here hx rfl (hb hby at_209) rfl ?_
        exact k
      exact Outs.retN (t := .boolean) (z := (1 : Int32)) X12 hx hret (by simp) (hb hby at_211) hlk (by decide) (by decide) e12 ⟨rfl, N12⟩
    · show Outs p e below s _ _ _ (T6.setTop (mkF m 128 #[.val (.long j0), .second, .val (.long j1), .second, .val (.long j2), .second, .val (.int i3), .val (.long (f0_v5 j0)), .second, .val (.long (f0_v12 j1)), .second, .val (.long (f0_v20 j2)), .second, .val (.int (f0_26_s0 i3)), .val (.int (f0_40_s0 i3)), .val (.int (f0_54_s0 i3)), .val (.ref b1), .val (.int (1 : Int32))] []))
      refine Outs.of (U' := T6.setTop (mkF m 134 #[.val (.long j0), .second, .val (.long j1), .second, .val (.long j2), .second, .val (.int i3), .val (.long (f0_v5 j0)), .second, .val (.long (f0_v12 j1)), .second, .val (.long (f0_v20 j2)), .second, .val (.int (f0_26_s0 i3)), .val (.int (f0_40_s0 i3)), .val (.int (f0_54_s0 i3)), .val (.ref b1), .val (.int (1 : Int32))] [(.int (f0_54_s0 i3)), (.long (f0_v20 j2)), (.ref b1)])) (fun t k => ?_) ?_
      · refine XS.aload X6.here hx rfl (hb hby at_128) rfl rfl ?_
        refine XS.lload X6.here hx rfl (hb hby at_130) rfl ?_
        refine XS.iload X6.here hx rfl (hb hby at_132) rfl ?_
        exact k
      obtain ⟨cq13, kq13, q13a, q13b, q13c⟩ := isOf hZ e6 u5_0
      obtain ⟨_, _, ⟨T13, L13, k13, n13⟩, -, X13, ⟨Lc13, hQ13, l13, y13, z13⟩, st13⟩ := X6.virtualBack hx (y := (⟨"com/example/brief_locator/brieflocator/cbor/OpenContainers", "open", "(JZ)V"⟩ : MethodName)) (z := (⟨"com/example/brief_locator/brieflocator/cbor/OpenContainers", "open", "(JZ)V"⟩ : MethodName)) hown (mvT hZ (hw _ (List.mem_of_getElem? (i := 13) rfl))) (mvT hZ (hw _ (List.mem_of_getElem? (i := 14) rfl))) (notFace_of_selects (args := #[]) (mvT hZ (hw _ (List.mem_of_getElem? (i := 16) rfl)))) (mvT hZ (hw _ (List.mem_of_getElem? (i := 16) rfl))) (mvT hZ (hw _ (List.mem_of_getElem? (i := 15) rfl))) (by decide) (backOf (W := 0) (rmog1 l Z a0 hw [] b1 (f0_v20 j2) (f0_54_s0 i3) (f0_s105 j0 j1) b2 (f0_g105 j0 j1 i3) (own_w (f0_s105 j0 j1)) (own_w (op_v29 (f0_v20 j2) (f0_s105 j0 j1))) T5.heap n0 (Nat.le_trans (Nat.le_trans (Nat.le_trans (Nat.le_trans Z0 E1.1) K2.1) K3.1) K5.1) u5_0 u5_1 u5_3 ne_b1_b2 u5_2 g_b1 (law_o3AB j0 j1 j2 i3 hg2 hg3).2 (law_o3AB j0 j1 j2 i3 hg2 hg3).1.1 (law_o3AB j0 j1 j2 i3 hg2 hg3).1.2) hZ (hw _ (List.mem_of_getElem? (i := 17) rfl)) (hw _ (List.mem_of_getElem? (i := 3) rfl)) (by decide) (by decide)) q13a q13c (g := (mkF m 134 #[.val (.long j0), .second, .val (.long j1), .second, .val (.long j2), .second, .val (.int i3), .val (.long (f0_v5 j0)), .second, .val (.long (f0_v12 j1)), .second, .val (.long (f0_v20 j2)), .second, .val (.int (f0_26_s0 i3)), .val (.int (f0_40_s0 i3)), .val (.int (f0_54_s0 i3)), .val (.ref b1), .val (.int (1 : Int32))] [(.int (f0_54_s0 i3)), (.long (f0_v20 j2)), (.ref b1)])) rfl (by rw [hml]; rfl) (Steps.refl _) (argsL := [(.long (f0_v20 j2)), (.int (f0_54_s0 i3))]) (rest := []) (lenOf pd_1 rfl) rfl (by show 2 * 0 + _ ≤ _; exact Nat.le_of_eq rfl) (hb hby at_134) (fun _ _ => ⟨rfl, e6, (by decide : 2 + 1 ≤ _), (by decide : 3 + 2 ≤ _)⟩)
      dsimp only [Pt.U, Pt.locs, Pt.cells, Pt.slots] at X13 l13 y13 z13 st13 hQ13
      subst l13 y13 z13
      obtain ⟨b13, g_b13, hs_b13, rfl, N13q, K13, u13_0, u13_1, u13_2, u13_3⟩ := hQ13
      have N13 := Fr.app N6 N13q
      have ne_b1_b13 : b1 ≠ b13 := Nat.ne_of_lt (Nat.lt_of_lt_of_le u5_0.lt hs_b13)
      have ne_b2_b13 : b2 ≠ b13 := Nat.ne_of_lt (Nat.lt_of_lt_of_le u5_3.lt hs_b13)
      obtain ⟨Lh13, X13, N13⟩ := hide X13 N13 (C := 3) (S := 5) (by decide) (by decide)
      refine Outs.to st13 ?_
      refine Outs.of (U' := T13.setTop (mkF m 141 #[.val (.long j0), .second, .val (.long j1), .second, .val (.long j2), .second, .val (.int i3), .val (.long (f0_v5 j0)), .second, .val (.long (f0_v12 j1)), .second, .val (.long (f0_v20 j2)), .second, .val (.int (f0_26_s0 i3)), .val (.int (f0_40_s0 i3)), .val (.int (f0_54_s0 i3)), .val (.ref b1), .val (.int (1 : Int32))] [(.ref b1), (.int (1 : Int32))])) (fun t k => ?_) ?_
      · refine XS.iload X13.here hx rfl (hb hby at_137) rfl ?_
        refine XS.aload X13.here hx rfl (hb hby at_139) rfl rfl ?_
        exact k
      obtain ⟨cq14, kq14, q14a, q14b, q14c⟩ := isOf hZ rfl u13_0
      obtain ⟨_, _, ⟨T14, L14, k14, n14⟩, -, X14, ⟨Lc14, hQ14, l14, y14, z14⟩, st14⟩ := X13.virtualBack hx (y := (⟨"com/example/brief_locator/brieflocator/cbor/OpenContainers", "innermostIsMap", "()Z"⟩ : MethodName)) (z := (⟨"com/example/brief_locator/brieflocator/cbor/OpenContainers", "innermostIsMap", "()Z"⟩ : MethodName)) hown (mvT hZ (hw _ (List.mem_of_getElem? (i := 35) rfl))) (mvT hZ (hw _ (List.mem_of_getElem? (i := 36) rfl))) (notFace_of_selects (args := #[]) (mvT hZ (hw _ (List.mem_of_getElem? (i := 38) rfl)))) (mvT hZ (hw _ (List.mem_of_getElem? (i := 38) rfl))) (mvT hZ (hw _ (List.mem_of_getElem? (i := 37) rfl))) (by decide) (backOf (W := 1) (rmim l Z a0 hw [] b1 (f0_s134 j0 j1 j2) b13 2 (f0_g134a j0 j1 j2 i3) (own_w ((f0_s134 j0 j1 j2) - (1 : Int64))) T13.heap n0 u13_0 u13_2 u13_1 u13_3 (law_i3AB j0 j1 j2 i3 hg2 hg3).2.1 (law_i3AB j0 j1 j2 i3 hg2 hg3).2.2) hZ (hw _ (List.mem_of_getElem? (i := 39) rfl)) (hw _ (List.mem_of_getElem? (i := 3) rfl)) (by decide) (by decide)) q14a q14c (g := (mkF m 141 #[.val (.long j0), .second, .val (.long j1), .second, .val (.long j2), .second, .val (.int i3), .val (.long (f0_v5 j0)), .second, .val (.long (f0_v12 j1)), .second, .val (.long (f0_v20 j2)), .second, .val (.int (f0_26_s0 i3)), .val (.int (f0_40_s0 i3)), .val (.int (f0_54_s0 i3)), .val (.ref b1), .val (.int (1 : Int32))] [(.ref b1), (.int (1 : Int32))])) rfl (by rw [hml]; rfl) (Steps.refl _) (argsL := []) (rest := [(.int (1 : Int32))]) (lenOf pd_5 rfl) rfl (by show 2 * 0 + _ ≤ _; exact Nat.le_of_eq rfl) (hb hby at_141) (fun _ _ => ⟨rfl, rfl, (by decide : 3 + 0 ≤ _), (by decide : 5 + 0 ≤ _)⟩)
      dsimp only [Pt.U, Pt.locs, Pt.cells, Pt.slots] at X14 l14 y14 z14 st14 hQ14
      subst l14 y14 z14
      obtain ⟨rfl, N14q, e14⟩ := hQ14
      have N14 := Fr.app N13 N14q
      obtain ⟨Lh14, X14, N14⟩ := hide X14 N14 (C := 3) (S := 5) (by decide) (by decide)
      refine Outs.to st14 ?_
      refine Outs.of (U' := T14.setTop (mkF m 159 #[.val (.long j0), .second, .val (.long j1), .second, .val (.long j2), .second, .val (.int i3), .val (.long (f0_v5 j0)), .second, .val (.long (f0_v12 j1)), .second, .val (.long (f0_v20 j2)), .second, .val (.int (f0_26_s0 i3)), .val (.int (f0_40_s0 i3)), .val (.int (f0_54_s0 i3)), .val (.ref b1), .val (.int (1 : Int32))] [(.ref b1)])) (fun t k => ?_) ?_
      · refine XS.iload X14.here hx rfl (hb hby at_144) rfl ?_
        refine XS.icmpNo X14.here hx rfl (hb hby at_146) rfl (teq (law_i3AB j0 j1 j2 i3 hg2 hg3).1).2 ?_
        refine XS.iconst X14.here hx rfl (hb hby at_149) ?_
        refine XS.goto X14.here hx rfl (pc0 := 150) (pc' := 154) rfl (hb hby at_150) (by decide) (by decide) ?_
        refine XS.iand X14.here hx rfl (hb hby at_154) rfl ?_
        refine XS.istore X14.here hx rfl (hb hby at_155) rfl (l' := #[.val (.long j0), .second, .val (.long j1), .second, .val (.long j2), .second, .val (.int i3), .val (.long (f0_v5 j0)), .second, .val (.long (f0_v12 j1)), .second, .val (.long (f0_v20 j2)), .second, .val (.int (f0_26_s0 i3)), .val (.int (f0_40_s0 i3)), .val (.int (f0_54_s0 i3)), .val (.ref b1), .val (.int (1 : Int32))]) rfl ?_
        refine XS.aload X14.here hx rfl (hb hby at_157) rfl rfl ?_
        exact k
      obtain ⟨cq15, kq15, q15a, q15b, q15c⟩ := isOf hZ e14 u13_0
      obtain ⟨_, _, ⟨T15, L15, k15, n15⟩, -, X15, ⟨Lc15, hQ15, l15, y15, z15⟩, st15⟩ := X14.virtualBack hx (y := (⟨"com/example/brief_locator/brieflocator/cbor/OpenContainers", "close", "()J"⟩ : MethodName)) (z := (⟨"com/example/brief_locator/brieflocator/cbor/OpenContainers", "close", "()J"⟩ : MethodName)) hown (mvT hZ (hw _ (List.mem_of_getElem? (i := 52) rfl))) (mvT hZ (hw _ (List.mem_of_getElem? (i := 53) rfl))) (notFace_of_selects (args := #[]) (mvT hZ (hw _ (List.mem_of_getElem? (i := 55) rfl)))) (mvT hZ (hw _ (List.mem_of_getElem? (i := 55) rfl))) (mvT hZ (hw _ (List.mem_of_getElem? (i := 54) rfl))) (by decide) (backOf (W := 0) (rmcl l Z a0 hw [] b1 (f0_s134 j0 j1 j2) (2 : Int32) b13 2 (f0_g134a j0 j1 j2 i3) (own_w (((f0_s134 j0 j1 j2) - (1 : Int64)) - (1 : Int64))) ((own_w (((f0_s134 j0 j1 j2) - (1 : Int64)) - (1 : Int64))) - 1) (own_w (clS (f0_s134 j0 j1 j2) (f0_g134a j0 j1 j2 i3))) T13.heap n0 u13_0 u13_1 u13_3 ne_b1_b13 u13_2 g_b1 g_b13 rfl (law_c1AB j0 j1 j2 i3 hg2 hg3).1 (law_c1AB j0 j1 j2 i3 hg2 hg3).2) hZ (hw _ (List.mem_of_getElem? (i := 56) rfl)) (hw _ (List.mem_of_getElem? (i := 3) rfl)) (by decide) (by decide)) q15a q15c (g := (mkF m 159 #[.val (.long j0), .second, .val (.long j1), .second, .val (.long j2), .second, .val (.int i3), .val (.long (f0_v5 j0)), .second, .val (.long (f0_v12 j1)), .second, .val (.long (f0_v20 j2)), .second, .val (.int (f0_26_s0 i3)), .val (.int (f0_40_s0 i3)), .val (.int (f0_54_s0 i3)), .val (.ref b1), .val (.int (1 : Int32))] [(.ref b1)])) rfl (by rw [hml]; rfl) (Steps.refl _) (argsL := []) (rest := []) (lenOf pd_9 rfl) rfl (by show 2 * 0 + _ ≤ _; exact Nat.le_of_eq rfl) (hb hby at_159) (fun _ _ => ⟨rfl, e14, (by decide : 3 + 0 ≤ _), (by decide : 5 + 0 ≤ _)⟩)
      dsimp only [Pt.U, Pt.locs, Pt.cells, Pt.slots] at X15 l15 y15 z15 st15 hQ15
      subst l15 y15 z15
      obtain ⟨rfl, N15q, K15, u15_0, u15_1, u15_2, u15_3⟩ := hQ15
      have N15 := Fr.app N14 N15q
      obtain ⟨Lh15, X15, N15⟩ := hide X15 N15 (C := 3) (S := 5) (by decide) (by decide)
      refine Outs.to st15 ?_
      refine Outs.of (U' := T15.setTop (mkF m 167 #[.val (.long j0), .second, .val (.long j1), .second, .val (.long j2), .second, .val (.int i3), .val (.long (f0_v5 j0)), .second, .val (.long (f0_v12 j1)), .second, .val (.long (f0_v20 j2)), .second, .val (.int (f0_26_s0 i3)), .val (.int (f0_40_s0 i3)), .val (.int (f0_54_s0 i3)), .val (.ref b1), .val (.int (1 : Int32))] [(.ref b1), (.int (1 : Int32))])) (fun t k => ?_) ?_
      · show Steps p.tables e below (T15.setTop (mkF m 162 #[.val (.long j0), .second, .val (.long j1), .second, .val (.long j2), .second, .val (.int i3), .val (.long (f0_v5 j0)), .second, .val (.long (f0_v12 j1)), .second, .val (.long (f0_v20 j2)), .second, .val (.int (f0_26_s0 i3)), .val (.int (f0_40_s0 i3)), .val (.int (f0_54_s0 i3)), .val (.ref b1), .val (.int (1 : Int32))] [(.long (f0_r159a j0 j1 j2 i3))])) _
        jvm_step X15.here [X15.here.top, hx, (hb hby at_162), Value.category]
        refine XS.iload X15.here hx rfl (hb hby at_163) rfl ?_
        refine XS.aload X15.here hx rfl (hb hby at_165) rfl rfl ?_
        exact k
      obtain ⟨cq16, kq16, q16a, q16b, q16c⟩ := isOf hZ rfl u15_0
      obtain ⟨_, _, ⟨T16, L16, k16, n16⟩, -, X16, ⟨Lc16, hQ16, l16, y16, z16⟩, st16⟩ := X15.virtualBack hx (y := (⟨"com/example/brief_locator/brieflocator/cbor/OpenContainers", "innermostIsMap", "()Z"⟩ : MethodName)) (z := (⟨"com/example/brief_locator/brieflocator/cbor/OpenContainers", "innermostIsMap", "()Z"⟩ : MethodName)) hown (mvT hZ (hw _ (List.mem_of_getElem? (i := 35) rfl))) (mvT hZ (hw _ (List.mem_of_getElem? (i := 36) rfl))) (notFace_of_selects (args := #[]) (mvT hZ (hw _ (List.mem_of_getElem? (i := 38) rfl)))) (mvT hZ (hw _ (List.mem_of_getElem? (i := 38) rfl))) (mvT hZ (hw _ (List.mem_of_getElem? (i := 37) rfl))) (by decide) (backOf (W := 1) (rmim l Z a0 hw [] b1 (f0_s159a j0 j1 j2 i3) b13 2 (f0_g159a j0 j1 j2 i3) (own_w ((f0_s159a j0 j1 j2 i3) - (1 : Int64))) T15.heap n0 u15_0 u15_2 u15_1 u15_3 (law_i4AB j0 j1 j2 i3 hg2 hg3).2.1 (law_i4AB j0 j1 j2 i3 hg2 hg3).2.2) hZ (hw _ (List.mem_of_getElem? (i := 39) rfl)) (hw _ (List.mem_of_getElem? (i := 3) rfl)) (by decide) (by decide)) q16a q16c (g := (mkF m 167 #[.val (.long j0), .second, .val (.long j1), .second, .val (.long j2), .second, .val (.int i3), .val (.long (f0_v5 j0)), .second, .val (.long (f0_v12 j1)), .second, .val (.long (f0_v20 j2)), .second, .val (.int (f0_26_s0 i3)), .val (.int (f0_40_s0 i3)), .val (.int (f0_54_s0 i3)), .val (.ref b1), .val (.int (1 : Int32))] [(.ref b1), (.int (1 : Int32))])) rfl (by rw [hml]; rfl) (Steps.refl _) (argsL := []) (rest := [(.int (1 : Int32))]) (lenOf pd_5 rfl) rfl (by show 2 * 0 + _ ≤ _; exact Nat.le_of_eq rfl) (hb hby at_167) (fun _ _ => ⟨rfl, rfl, (by decide : 3 + 0 ≤ _), (by decide : 5 + 0 ≤ _)⟩)
      dsimp only [Pt.U, Pt.locs, Pt.cells, Pt.slots] at X16 l16 y16 z16 st16 hQ16
      subst l16 y16 z16
      obtain ⟨rfl, N16q, e16⟩ := hQ16
      have N16 := Fr.app N15 N16q
      obtain ⟨Lh16, X16, N16⟩ := hide X16 N16 (C := 3) (S := 5) (by decide) (by decide)
      refine Outs.to st16 ?_
      refine Outs.of (U' := T16.setTop (mkF m 185 #[.val (.long j0), .second, .val (.long j1), .second, .val (.long j2), .second, .val (.int i3), .val (.long (f0_v5 j0)), .second, .val (.long (f0_v12 j1)), .second, .val (.long (f0_v20 j2)), .second, .val (.int (f0_26_s0 i3)), .val (.int (f0_40_s0 i3)), .val (.int (f0_54_s0 i3)), .val (.ref b1), .val (.int (1 : Int32))] [(.ref b1)])) (fun t k => ?_) ?_
      · refine XS.iload X16.here hx rfl (hb hby at_170) rfl ?_
        refine XS.icmpNo X16.here hx rfl (hb hby at_172) rfl (teq (law_i4AB j0 j1 j2 i3 hg2 hg3).1).2 ?_
        refine XS.iconst X16.here hx rfl (hb hby at_175) ?_
        refine XS.goto X16.here hx rfl (pc0 := 176) (pc' := 180) rfl (hb hby at_176) (by decide) (by decide) ?_
        refine XS.iand X16.here hx rfl (hb hby at_180) rfl ?_
        refine XS.istore X16.here hx rfl (hb hby at_181) rfl (l' := #[.val (.long j0), .second, .val (.long j1), .second, .val (.long j2), .second, .val (.int i3), .val (.long (f0_v5 j0)), .second, .val (.long (f0_v12 j1)), .second, .val (.long (f0_v20 j2)), .second, .val (.int (f0_26_s0 i3)), .val (.int (f0_40_s0 i3)), .val (.int (f0_54_s0 i3)), .val (.ref b1), .val (.int (1 : Int32))]) rfl ?_
        refine XS.aload X16.here hx rfl (hb hby at_183) rfl rfl ?_
        exact k
      obtain ⟨cq17, kq17, q17a, q17b, q17c⟩ := isOf hZ e16 u15_0
      obtain ⟨_, _, ⟨T17, L17, k17, n17⟩, -, X17, ⟨Lc17, hQ17, l17, y17, z17⟩, st17⟩ := X16.virtualBack hx (y := (⟨"com/example/brief_locator/brieflocator/cbor/OpenContainers", "close", "()J"⟩ : MethodName)) (z := (⟨"com/example/brief_locator/brieflocator/cbor/OpenContainers", "close", "()J"⟩ : MethodName)) hown (mvT hZ (hw _ (List.mem_of_getElem? (i := 52) rfl))) (mvT hZ (hw _ (List.mem_of_getElem? (i := 53) rfl))) (notFace_of_selects (args := #[]) (mvT hZ (hw _ (List.mem_of_getElem? (i := 55) rfl)))) (mvT hZ (hw _ (List.mem_of_getElem? (i := 55) rfl))) (mvT hZ (hw _ (List.mem_of_getElem? (i := 54) rfl))) (by decide) (backOf (W := 0) (rmcl l Z a0 hw [] b1 (f0_s159a j0 j1 j2 i3) (2 : Int32) b13 2 (f0_g159a j0 j1 j2 i3) (own_w (((f0_s159a j0 j1 j2 i3) - (1 : Int64)) - (1 : Int64))) ((own_w (((f0_s159a j0 j1 j2 i3) - (1 : Int64)) - (1 : Int64))) - 1) (own_w (clS (f0_s159a j0 j1 j2 i3) (f0_g159a j0 j1 j2 i3))) T15.heap n0 u15_0 u15_1 u15_3 ne_b1_b13 u15_2 g_b1 g_b13 rfl (law_c2AB j0 j1 j2 i3 hg2 hg3).1 (law_c2AB j0 j1 j2 i3 hg2 hg3).2) hZ (hw _ (List.mem_of_getElem? (i := 56) rfl)) (hw _ (List.mem_of_getElem? (i := 3) rfl)) (by decide) (by decide)) q17a q17c (g := (mkF m 185 #[.val (.long j0), .second, .val (.long j1), .second, .val (.long j2), .second, .val (.int i3), .val (.long (f0_v5 j0)), .second, .val (.long (f0_v12 j1)), .second, .val (.long (f0_v20 j2)), .second, .val (.int (f0_26_s0 i3)), .val (.int (f0_40_s0 i3)), .val (.int (f0_54_s0 i3)), .val (.ref b1), .val (.int (1 : Int32))] [(.ref b1)])) rfl (by rw [hml]; rfl) (Steps.refl _) (argsL := []) (rest := []) (lenOf pd_9 rfl) rfl (by show 2 * 0 + _ ≤ _; exact Nat.le_of_eq rfl) (hb hby at_185) (fun _ _ => ⟨rfl, e16, (by decide : 3 + 0 ≤ _), (by decide : 5 + 0 ≤ _)⟩)
      dsimp only [Pt.U, Pt.locs, Pt.cells, Pt.slots] at X17 l17 y17 z17 st17 hQ17
      subst l17 y17 z17
      obtain ⟨rfl, N17q, K17, u17_0, u17_1, u17_2, u17_3⟩ := hQ17
      have N17 := Fr.app N16 N17q
      obtain ⟨Lh17, X17, N17⟩ := hide X17 N17 (C := 3) (S := 5) (by decide) (by decide)
      refine Outs.to st17 ?_
      refine Outs.of (U' := T17.setTop (mkF m 193 #[.val (.long j0), .second, .val (.long j1), .second, .val (.long j2), .second, .val (.int i3), .val (.long (f0_v5 j0)), .second, .val (.long (f0_v12 j1)), .second, .val (.long (f0_v20 j2)), .second, .val (.int (f0_26_s0 i3)), .val (.int (f0_40_s0 i3)), .val (.int (f0_54_s0 i3)), .val (.ref b1), .val (.int (1 : Int32))] [(.ref b1), (.int (1 : Int32))])) (fun t k => ?_) ?_
      · show Steps p.tables e below (T17.setTop (mkF m 188 #[.val (.long j0), .second, .val (.long j1), .second, .val (.long j2), .second, .val (.int i3), .val (.long (f0_v5 j0)), .second, .val (.long (f0_v12 j1)), .second, .val (.long (f0_v20 j2)), .second, .val (.int (f0_26_s0 i3)), .val (.int (f0_40_s0 i3)), .val (.int (f0_54_s0 i3)), .val (.ref b1), .val (.int (1 : Int32))] [(.long (f0_r185a j0 j1 j2 i3))])) _
        jvm_step X17.here [X17.here.top, hx, (hb hby at_188), Value.category]
        refine XS.iload X17.here hx rfl (hb hby at_189) rfl ?_
        refine XS.aload X17.here hx rfl (hb hby at_191) rfl rfl ?_
        exact k
      obtain ⟨cq18, kq18, q18a, q18b, q18c⟩ := isOf hZ rfl u17_0
      obtain ⟨_, _, ⟨T18, L18, k18, n18⟩, -, X18, ⟨Lc18, hQ18, l18, y18, z18⟩, st18⟩ := X17.virtualBack hx (y := (⟨"com/example/brief_locator/brieflocator/cbor/OpenContainers", "innermostIsMap", "()Z"⟩ : MethodName)) (z := (⟨"com/example/brief_locator/brieflocator/cbor/OpenContainers", "innermostIsMap", "()Z"⟩ : MethodName)) hown (mvT hZ (hw _ (List.mem_of_getElem? (i := 35) rfl))) (mvT hZ (hw _ (List.mem_of_getElem? (i := 36) rfl))) (notFace_of_selects (args := #[]) (mvT hZ (hw _ (List.mem_of_getElem? (i := 38) rfl)))) (mvT hZ (hw _ (List.mem_of_getElem? (i := 38) rfl))) (mvT hZ (hw _ (List.mem_of_getElem? (i := 37) rfl))) (by decide) (backOf (W := 1) (rmim l Z a0 hw [] b1 (f0_s185a j0 j1 j2 i3) b13 2 (f0_g185a j0 j1 j2 i3) (own_w ((f0_s185a j0 j1 j2 i3) - (1 : Int64))) T17.heap n0 u17_0 u17_2 u17_1 u17_3 (law_i5AB j0 j1 j2 i3 hg2 hg3).2.1 (law_i5AB j0 j1 j2 i3 hg2 hg3).2.2) hZ (hw _ (List.mem_of_getElem? (i := 39) rfl)) (hw _ (List.mem_of_getElem? (i := 3) rfl)) (by decide) (by decide)) q18a q18c (g := (mkF m 193 #[.val (.long j0), .second, .val (.long j1), .second, .val (.long j2), .second, .val (.int i3), .val (.long (f0_v5 j0)), .second, .val (.long (f0_v12 j1)), .second, .val (.long (f0_v20 j2)), .second, .val (.int (f0_26_s0 i3)), .val (.int (f0_40_s0 i3)), .val (.int (f0_54_s0 i3)), .val (.ref b1), .val (.int (1 : Int32))] [(.ref b1), (.int (1 : Int32))])) rfl (by rw [hml]; rfl) (Steps.refl _) (argsL := []) (rest := [(.int (1 : Int32))]) (lenOf pd_5 rfl) rfl (by show 2 * 0 + _ ≤ _; exact Nat.le_of_eq rfl) (hb hby at_193) (fun _ _ => ⟨rfl, rfl, (by decide : 3 + 0 ≤ _), (by decide : 5 + 0 ≤ _)⟩)
      dsimp only [Pt.U, Pt.locs, Pt.cells, Pt.slots] at X18 l18 y18 z18 st18 hQ18
      subst l18 y18 z18
      obtain ⟨rfl, N18q, e18⟩ := hQ18
      have N18 := Fr.app N17 N18q
      obtain ⟨Lh18, X18, N18⟩ := hide X18 N18 (C := 3) (S := 5) (by decide) (by decide)
      refine Outs.to st18 ?_
      refine Outs.of (U' := T18.setTop (mkF m 211 #[.val (.long j0), .second, .val (.long j1), .second, .val (.long j2), .second, .val (.int i3), .val (.long (f0_v5 j0)), .second, .val (.long (f0_v12 j1)), .second, .val (.long (f0_v20 j2)), .second, .val (.int (f0_26_s0 i3)), .val (.int (f0_40_s0 i3)), .val (.int (f0_54_s0 i3)), .val (.ref b1), .val (.int (1 : Int32))] [(.int (1 : Int32))])) (fun t k => ?_) ?_
      · refine XS.iload X18.here hx rfl (hb hby at_196) rfl ?_
        refine XS.icmpNo X18.here hx rfl (hb hby at_198) rfl (teq (law_i5AB j0 j1 j2 i3 hg2 hg3).1).2 ?_
        refine XS.iconst X18.here hx rfl (hb hby at_201) ?_
        refine XS.goto X18.here hx rfl (pc0 := 202) (pc' := 206) rfl (hb hby at_202) (by decide) (by decide) ?_
        refine XS.iand X18.here hx rfl (hb hby at_206) rfl ?_
        refine XS.istore X18.here hx rfl (hb hby at_207) rfl (l' := #[.val (.long j0), .second, .val (.long j1), .second, .val (.long j2), .second, .val (.int i3), .val (.long (f0_v5 j0)), .second, .val (.long (f0_v12 j1)), .second, .val (.long (f0_v20 j2)), .second, .val (.int (f0_26_s0 i3)), .val (.int (f0_40_s0 i3)), .val (.int (f0_54_s0 i3)), .val (.ref b1), .val (.int (1 : Int32))]) rfl ?_
        refine XS.iload X18.here hx rfl (hb hby at_209) rfl ?_
        exact k
      exact Outs.retN (t := .boolean) (z := (1 : Int32)) X18 hx hret (by simp) (hb hby at_211) hlk (by decide) (by decide) e18 ⟨rfl, N18⟩
  · show Outs p e below s _ _ _ (T4.setTop (mkF m 99 #[.val (.long j0), .second, .val (.long j1), .second, .val (.long j2), .second, .val (.int i3), .val (.long (f0_v5 j0)), .second, .val (.long (f0_v12 j1)), .second, .val (.long (f0_v20 j2)), .second, .val (.int (f0_26_s0 i3)), .val (.int (f0_40_s0 i3)), .val (.int (f0_54_s0 i3)), .val (.ref b1), .val (.int (1 : Int32))] []))
    refine Outs.of (U' := T4.setTop (mkF m 105 #[.val (.long j0), .second, .val (.long j1), .second, .val (.long j2), .second, .val (.int i3), .val (.long (f0_v5 j0)), .second, .val (.long (f0_v12 j1)), .second, .val (.long (f0_v20 j2)), .second, .val (.int (f0_26_s0 i3)), .val (.int (f0_40_s0 i3)), .val (.int (f0_54_s0 i3)), .val (.ref b1), .val (.int (1 : Int32))] [(.int (f0_40_s0 i3)), (.long (f0_v12 j1)), (.ref b1)])) (fun t k => ?_) ?_
    · refine XS.aload X4.here hx rfl (hb hby at_99) rfl rfl ?_
      refine XS.lload X4.here hx rfl (hb hby at_101) rfl ?_
      refine XS.iload X4.here hx rfl (hb hby at_103) rfl ?_
      exact k
    obtain ⟨cq19, kq19, q19a, q19b, q19c⟩ := isOf hZ e4 u3_0
    obtain ⟨_, _, ⟨T19, L19, k19, n19⟩, -, X19, ⟨Lc19, hQ19, l19, y19, z19⟩, st19⟩ := X4.virtualBack hx (y := (⟨"com/example/brief_locator/brieflocator/cbor/OpenContainers", "open", "(JZ)V"⟩ : MethodName)) (z := (⟨"com/example/brief_locator/brieflocator/cbor/OpenContainers", "open", "(JZ)V"⟩ : MethodName)) hown (mvT hZ (hw _ (List.mem_of_getElem? (i := 13) rfl))) (mvT hZ (hw _ (List.mem_of_getElem? (i := 14) rfl))) (notFace_of_selects (args := #[]) (mvT hZ (hw _ (List.mem_of_getElem? (i := 16) rfl)))) (mvT hZ (hw _ (List.mem_of_getElem? (i := 16) rfl))) (mvT hZ (hw _ (List.mem_of_getElem? (i := 15) rfl))) (by decide) (backOf (W := 0) (rmog1 l Z a0 hw [] b1 (f0_v12 j1) (f0_40_s0 i3) (f0_s79 j0) b2 (f0_g79 j0 i3) (own_w (f0_s79 j0)) (own_w (op_v29 (f0_v12 j1) (f0_s79 j0))) T3.heap n0 (Nat.le_trans (Nat.le_trans (Nat.le_trans Z0 E1.1) K2.1) K3.1) u3_0 u3_1 u3_3 ne_b1_b2 u3_2 g_b1 (law_o2B j0 j1 j2 i3 hg2).2 (law_o2B j0 j1 j2 i3 hg2).1.1 (law_o2B j0 j1 j2 i3 hg2).1.2) hZ (hw _ (List.mem_of_getElem? (i := 17) rfl)) (hw _ (List.mem_of_getElem? (i := 3) rfl)) (by decide) (by decide)) q19a q19c (g := (mkF m 105 #[.val (.long j0), .second, .val (.long j1), .second, .val (.long j2), .second, .val (.int i3), .val (.long (f0_v5 j0)), .second, .val (.long (f0_v12 j1)), .second, .val (.long (f0_v20 j2)), .second, .val (.int (f0_26_s0 i3)), .val (.int (f0_40_s0 i3)), .val (.int (f0_54_s0 i3)), .val (.ref b1), .val (.int (1 : Int32))] [(.int (f0_40_s0 i3)), (.long (f0_v12 j1)), (.ref b1)])) rfl (by rw [hml]; rfl) (Steps.refl _) (argsL := [(.long (f0_v12 j1)), (.int (f0_40_s0 i3))]) (rest := []) (lenOf pd_1 rfl) rfl (by show 2 * 0 + _ ≤ _; exact Nat.le_of_eq rfl) (hb hby at_105) (fun _ _ => ⟨rfl, e4, (by decide : 2 + 1 ≤ _), (by decide : 3 + 2 ≤ _)⟩)
    dsimp only [Pt.U, Pt.locs, Pt.cells, Pt.slots] at X19 l19 y19 z19 st19 hQ19
    subst l19 y19 z19
    obtain ⟨b19, g_b19, hs_b19, rfl, N19q, K19, u19_0, u19_1, u19_2, u19_3⟩ := hQ19
    have N19 := Fr.app N4 N19q
    have ne_b1_b19 : b1 ≠ b19 := Nat.ne_of_lt (Nat.lt_of_lt_of_le u3_0.lt hs_b19)
    have ne_b2_b19 : b2 ≠ b19 := Nat.ne_of_lt (Nat.lt_of_lt_of_le u3_3.lt hs_b19)
    obtain ⟨Lh19, X19, N19⟩ := hide X19 N19 (C := 3) (S := 5) (by decide) (by decide)
    refine Outs.to st19 ?_
    refine Outs.of (U' := T19.setTop (mkF m 112 #[.val (.long j0), .second, .val (.long j1), .second, .val (.long j2), .second, .val (.int i3), .val (.long (f0_v5 j0)), .second, .val (.long (f0_v12 j1)), .second, .val (.long (f0_v20 j2)), .second, .val (.int (f0_26_s0 i3)), .val (.int (f0_40_s0 i3)), .val (.int (f0_54_s0 i3)), .val (.ref b1), .val (.int (1 : Int32))] [(.ref b1), (.int (1 : Int32))])) (fun t k => ?_) ?_
    · refine XS.iload X19.here hx rfl (hb hby at_108) rfl ?_
      refine XS.aload X19.here hx rfl (hb hby at_110) rfl rfl ?_
      exact k
    obtain ⟨cq20, kq20, q20a, q20b, q20c⟩ := isOf hZ rfl u19_0
    obtain ⟨_, _, ⟨T20, L20, k20, n20⟩, -, X20, ⟨Lc20, hQ20, l20, y20, z20⟩, st20⟩ := X19.virtualBack hx (y := (⟨"com/example/brief_locator/brieflocator/cbor/OpenContainers", "innermostIsMap", "()Z"⟩ : MethodName)) (z := (⟨"com/example/brief_locator/brieflocator/cbor/OpenContainers", "innermostIsMap", "()Z"⟩ : MethodName)) hown (mvT hZ (hw _ (List.mem_of_getElem? (i := 35) rfl))) (mvT hZ (hw _ (List.mem_of_getElem? (i := 36) rfl))) (notFace_of_selects (args := #[]) (mvT hZ (hw _ (List.mem_of_getElem? (i := 38) rfl)))) (mvT hZ (hw _ (List.mem_of_getElem? (i := 38) rfl))) (mvT hZ (hw _ (List.mem_of_getElem? (i := 37) rfl))) (by decide) (backOf (W := 1) (rmim l Z a0 hw [] b1 (f0_s105 j0 j1) b19 2 (f0_g105a j0 j1 i3) (own_w ((f0_s105 j0 j1) - (1 : Int64))) T19.heap n0 u19_0 u19_2 u19_1 u19_3 (law_i2B j0 j1 j2 i3 hg2).2.1 (law_i2B j0 j1 j2 i3 hg2).2.2) hZ (hw _ (List.mem_of_getElem? (i := 39) rfl)) (hw _ (List.mem_of_getElem? (i := 3) rfl)) (by decide) (by decide)) q20a q20c (g := (mkF m 112 #[.val (.long j0), .second, .val (.long j1), .second, .val (.long j2), .second, .val (.int i3), .val (.long (f0_v5 j0)), .second, .val (.long (f0_v12 j1)), .second, .val (.long (f0_v20 j2)), .second, .val (.int (f0_26_s0 i3)), .val (.int (f0_40_s0 i3)), .val (.int (f0_54_s0 i3)), .val (.ref b1), .val (.int (1 : Int32))] [(.ref b1), (.int (1 : Int32))])) rfl (by rw [hml]; rfl) (Steps.refl _) (argsL := []) (rest := [(.int (1 : Int32))]) (lenOf pd_5 rfl) rfl (by show 2 * 0 + _ ≤ _; exact Nat.le_of_eq rfl) (hb hby at_112) (fun _ _ => ⟨rfl, rfl, (by decide : 3 + 0 ≤ _), (by decide : 5 + 0 ≤ _)⟩)
    dsimp only [Pt.U, Pt.locs, Pt.cells, Pt.slots] at X20 l20 y20 z20 st20 hQ20
    subst l20 y20 z20
    obtain ⟨rfl, N20q, e20⟩ := hQ20
    have N20 := Fr.app N19 N20q
    obtain ⟨Lh20, X20, N20⟩ := hide X20 N20 (C := 3) (S := 5) (by decide) (by decide)
    refine Outs.to st20 ?_
    refine Outs.of (U' := T20.setTop (mkF m 128 #[.val (.long j0), .second, .val (.long j1), .second, .val (.long j2), .second, .val (.int i3), .val (.long (f0_v5 j0)), .second, .val (.long (f0_v12 j1)), .second, .val (.long (f0_v20 j2)), .second, .val (.int (f0_26_s0 i3)), .val (.int (f0_40_s0 i3)), .val (.int (f0_54_s0 i3)), .val (.ref b1), .val (.int (1 : Int32))] [])) (fun t k => ?_) ?_
    · refine XS.iload X20.here hx rfl (hb hby at_115) rfl ?_
      refine XS.icmpNo X20.here hx rfl (hb hby at_117) rfl (teq (law_i2B j0 j1 j2 i3 hg2).1).2 ?_
      refine XS.iconst X20.here hx rfl (hb hby at_120) ?_
      refine XS.goto X20.here hx rfl (pc0 := 121) (pc' := 125) rfl (hb hby at_121) (by decide) (by decide) ?_
      refine XS.iand X20.here hx rfl (hb hby at_125) rfl ?_
      refine XS.istore X20.here hx rfl (hb hby at_126) rfl (l' := #[.val (.long j0), .second, .val (.long j1), .second, .val (.long j2), .second, .val (.int i3), .val (.long (f0_v5 j0)), .second, .val (.long (f0_v12 j1)), .second, .val (.long (f0_v20 j2)), .second, .val (.int (f0_26_s0 i3)), .val (.int (f0_40_s0 i3)), .val (.int (f0_54_s0 i3)), .val (.ref b1), .val (.int (1 : Int32))]) rfl ?_
      exact k
    by_cases hg3 : own_w (op_v29 (f0_v20 j2) (f0_s105 j0 j1)) < 2
    · show Outs p e below s _ _ _ (T20.setTop (mkF m 128 #[.val (.long j0), .second, .val (.long j1), .second, .val (.long j2), .second, .val (.int i3), .val (.long (f0_v5 j0)), .second, .val (.long (f0_v12 j1)), .second, .val (.long (f0_v20 j2)), .second, .val (.int (f0_26_s0 i3)), .val (.int (f0_40_s0 i3)), .val (.int (f0_54_s0 i3)), .val (.ref b1), .val (.int (1 : Int32))] []))
      refine Outs.of (U' := T20.setTop (mkF m 134 #[.val (.long j0), .second, .val (.long j1), .second, .val (.long j2), .second, .val (.int i3), .val (.long (f0_v5 j0)), .second, .val (.long (f0_v12 j1)), .second, .val (.long (f0_v20 j2)), .second, .val (.int (f0_26_s0 i3)), .val (.int (f0_40_s0 i3)), .val (.int (f0_54_s0 i3)), .val (.ref b1), .val (.int (1 : Int32))] [(.int (f0_54_s0 i3)), (.long (f0_v20 j2)), (.ref b1)])) (fun t k => ?_) ?_
      · refine XS.aload X20.here hx rfl (hb hby at_128) rfl rfl ?_
        refine XS.lload X20.here hx rfl (hb hby at_130) rfl ?_
        refine XS.iload X20.here hx rfl (hb hby at_132) rfl ?_
        exact k
      obtain ⟨cq21, kq21, q21a, q21b, q21c⟩ := isOf hZ e20 u19_0
      obtain ⟨_, _, ⟨T21, L21, k21, n21⟩, -, X21, ⟨Lc21, hQ21, l21, y21, z21⟩, st21⟩ := X20.virtualBack hx (y := (⟨"com/example/brief_locator/brieflocator/cbor/OpenContainers", "open", "(JZ)V"⟩ : MethodName)) (z := (⟨"com/example/brief_locator/brieflocator/cbor/OpenContainers", "open", "(JZ)V"⟩ : MethodName)) hown (mvT hZ (hw _ (List.mem_of_getElem? (i := 13) rfl))) (mvT hZ (hw _ (List.mem_of_getElem? (i := 14) rfl))) (notFace_of_selects (args := #[]) (mvT hZ (hw _ (List.mem_of_getElem? (i := 16) rfl)))) (mvT hZ (hw _ (List.mem_of_getElem? (i := 16) rfl))) (mvT hZ (hw _ (List.mem_of_getElem? (i := 15) rfl))) (by decide) (backOf (W := 0) (rmop l Z a0 hw [] b1 (f0_v20 j2) (f0_54_s0 i3) (f0_s105 j0 j1) (2 : Int32) b19 2 (f0_g105a j0 j1 i3) (own_w (f0_s105 j0 j1)) (own_w (op_v29 (f0_v20 j2) (f0_s105 j0 j1))) T19.heap n0 u19_0 u19_1 u19_3 ne_b1_b19 u19_2 g_b1 g_b19 rfl (law_o3BA j0 j1 j2 i3 hg2 hg3).2 (law_o3BA j0 j1 j2 i3 hg2 hg3).1.1 (law_o3BA j0 j1 j2 i3 hg2 hg3).1.2) hZ (hw _ (List.mem_of_getElem? (i := 17) rfl)) (hw _ (List.mem_of_getElem? (i := 3) rfl)) (by decide) (by decide)) q21a q21c (g := (mkF m 134 #[.val (.long j0), .second, .val (.long j1), .second, .val (.long j2), .second, .val (.int i3), .val (.long (f0_v5 j0)), .second, .val (.long (f0_v12 j1)), .second, .val (.long (f0_v20 j2)), .second, .val (.int (f0_26_s0 i3)), .val (.int (f0_40_s0 i3)), .val (.int (f0_54_s0 i3)), .val (.ref b1), .val (.int (1 : Int32))] [(.int (f0_54_s0 i3)), (.long (f0_v20 j2)), (.ref b1)])) rfl (by rw [hml]; rfl) (Steps.refl _) (argsL := [(.long (f0_v20 j2)), (.int (f0_54_s0 i3))]) (rest := []) (lenOf pd_1 rfl) rfl (by show 2 * 0 + _ ≤ _; exact Nat.le_of_eq rfl) (hb hby at_134) (fun _ _ => ⟨rfl, e20, (by decide : 3 + 0 ≤ _), (by decide : 5 + 0 ≤ _)⟩)
      dsimp only [Pt.U, Pt.locs, Pt.cells, Pt.slots] at X21 l21 y21 z21 st21 hQ21
      subst l21 y21 z21
      obtain ⟨rfl, N21q, K21, u21_0, u21_1, u21_2, u21_3⟩ := hQ21
      have N21 := Fr.app N20 N21q
      obtain ⟨Lh21, X21, N21⟩ := hide X21 N21 (C := 3) (S := 5) (by decide) (by decide)
      refine Outs.to st21 ?_
      refine Outs.of (U' := T21.setTop (mkF m 141 #[.val (.long j0), .second, .val (.long j1), .second, .val (.long j2), .second, .val (.int i3), .val (.long (f0_v5 j0)), .second, .val (.long (f0_v12 j1)), .second, .val (.long (f0_v20 j2)), .second, .val (.int (f0_26_s0 i3)), .val (.int (f0_40_s0 i3)), .val (.int (f0_54_s0 i3)), .val (.ref b1), .val (.int (1 : Int32))] [(.ref b1), (.int (1 : Int32))])) (fun t k => ?_) ?_
      · refine XS.iload X21.here hx rfl (hb hby at_137) rfl ?_
        refine XS.aload X21.here hx rfl (hb hby at_139) rfl rfl ?_
        exact k
      obtain ⟨cq22, kq22, q22a, q22b, q22c⟩ := isOf hZ rfl u21_0
      obtain ⟨_, _, ⟨T22, L22, k22, n22⟩, -, X22, ⟨Lc22, hQ22, l22, y22, z22⟩, st22⟩ := X21.virtualBack hx (y := (⟨"com/example/brief_locator/brieflocator/cbor/OpenContainers", "innermostIsMap", "()Z"⟩ : MethodName)) (z := (⟨"com/example/brief_locator/brieflocator/cbor/OpenContainers", "innermostIsMap", "()Z"⟩ : MethodName)) hown (mvT hZ (hw _ (List.mem_of_getElem? (i := 35) rfl))) (mvT hZ (hw _ (List.mem_of_getElem? (i := 36) rfl))) (notFace_of_selects (args := #[]) (mvT hZ (hw _ (List.mem_of_getElem? (i := 38) rfl)))) (mvT hZ (hw _ (List.mem_of_getElem? (i := 38) rfl))) (mvT hZ (hw _ (List.mem_of_getElem? (i := 37) rfl))) (by decide) (backOf (W := 1) (rmim l Z a0 hw [] b1 (f0_s134 j0 j1 j2) b19 2 (f0_g134b j0 j1 j2 i3) (own_w ((f0_s134 j0 j1 j2) - (1 : Int64))) T21.heap n0 u21_0 u21_2 u21_1 u21_3 (law_i3BA j0 j1 j2 i3 hg2 hg3).2.1 (law_i3BA j0 j1 j2 i3 hg2 hg3).2.2) hZ (hw _ (List.mem_of_getElem? (i := 39) rfl)) (hw _ (List.mem_of_getElem? (i := 3) rfl)) (by decide) (by decide)) q22a q22c (g := (mkF m 141 #[.val (.long j0), .second, .val (.long j1), .second, .val (.long j2), .second, .val (.int i3), .val (.long (f0_v5 j0)), .second, .val (.long (f0_v12 j1)), .second, .val (.long (f0_v20 j2)), .second, .val (.int (f0_26_s0 i3)), .val (.int (f0_40_s0 i3)), .val (.int (f0_54_s0 i3)), .val (.ref b1), .val (.int (1 : Int32))] [(.ref b1), (.int (1 : Int32))])) rfl (by rw [hml]; rfl) (Steps.refl _) (argsL := []) (rest := [(.int (1 : Int32))]) (lenOf pd_5 rfl) rfl (by show 2 * 0 + _ ≤ _; exact Nat.le_of_eq rfl) (hb hby at_141) (fun _ _ => ⟨rfl, rfl, (by decide : 3 + 0 ≤ _), (by decide : 5 + 0 ≤ _)⟩)
      dsimp only [Pt.U, Pt.locs, Pt.cells, Pt.slots] at X22 l22 y22 z22 st22 hQ22
      subst l22 y22 z22
      obtain ⟨rfl, N22q, e22⟩ := hQ22
      have N22 := Fr.app N21 N22q
      obtain ⟨Lh22, X22, N22⟩ := hide X22 N22 (C := 3) (S := 5) (by decide) (by decide)
      refine Outs.to st22 ?_
      refine Outs.of (U' := T22.setTop (mkF m 159 #[.val (.long j0), .second, .val (.long j1), .second, .val (.long j2), .second, .val (.int i3), .val (.long (f0_v5 j0)), .second, .val (.long (f0_v12 j1)), .second, .val (.long (f0_v20 j2)), .second, .val (.int (f0_26_s0 i3)), .val (.int (f0_40_s0 i3)), .val (.int (f0_54_s0 i3)), .val (.ref b1), .val (.int (1 : Int32))] [(.ref b1)])) (fun t k => ?_) ?_
      · refine XS.iload X22.here hx rfl (hb hby at_144) rfl ?_
        refine XS.icmpNo X22.here hx rfl (hb hby at_146) rfl (teq (law_i3BA j0 j1 j2 i3 hg2 hg3).1).2 ?_
        refine XS.iconst X22.here hx rfl (hb hby at_149) ?_
        refine XS.goto X22.here hx rfl (pc0 := 150) (pc' := 154) rfl (hb hby at_150) (by decide) (by decide) ?_
        refine XS.iand X22.here hx rfl (hb hby at_154) rfl ?_
        refine XS.istore X22.here hx rfl (hb hby at_155) rfl (l' := #[.val (.long j0), .second, .val (.long j1), .second, .val (.long j2), .second, .val (.int i3), .val (.long (f0_v5 j0)), .second, .val (.long (f0_v12 j1)), .second, .val (.long (f0_v20 j2)), .second, .val (.int (f0_26_s0 i3)), .val (.int (f0_40_s0 i3)), .val (.int (f0_54_s0 i3)), .val (.ref b1), .val (.int (1 : Int32))]) rfl ?_
        refine XS.aload X22.here hx rfl (hb hby at_157) rfl rfl ?_
        exact k
      obtain ⟨cq23, kq23, q23a, q23b, q23c⟩ := isOf hZ e22 u21_0
      obtain ⟨_, _, ⟨T23, L23, k23, n23⟩, -, X23, ⟨Lc23, hQ23, l23, y23, z23⟩, st23⟩ := X22.virtualBack hx (y := (⟨"com/example/brief_locator/brieflocator/cbor/OpenContainers", "close", "()J"⟩ : MethodName)) (z := (⟨"com/example/brief_locator/brieflocator/cbor/OpenContainers", "close", "()J"⟩ : MethodName)) hown (mvT hZ (hw _ (List.mem_of_getElem? (i := 52) rfl))) (mvT hZ (hw _ (List.mem_of_getElem? (i := 53) rfl))) (notFace_of_selects (args := #[]) (mvT hZ (hw _ (List.mem_of_getElem? (i := 55) rfl)))) (mvT hZ (hw _ (List.mem_of_getElem? (i := 55) rfl))) (mvT hZ (hw _ (List.mem_of_getElem? (i := 54) rfl))) (by decide) (backOf (W := 0) (rmcl l Z a0 hw [] b1 (f0_s134 j0 j1 j2) (2 : Int32) b19 2 (f0_g134b j0 j1 j2 i3) (own_w (((f0_s134 j0 j1 j2) - (1 : Int64)) - (1 : Int64))) ((own_w (((f0_s134 j0 j1 j2) - (1 : Int64)) - (1 : Int64))) - 1) (own_w (clS (f0_s134 j0 j1 j2) (f0_g134b j0 j1 j2 i3))) T21.heap n0 u21_0 u21_1 u21_3 ne_b1_b19 u21_2 g_b1 g_b19 rfl (law_c1BA j0 j1 j2 i3 hg2 hg3).1 (law_c1BA j0 j1 j2 i3 hg2 hg3).2) hZ (hw _ (List.mem_of_getElem? (i := 56) rfl)) (hw _ (List.mem_of_getElem? (i := 3) rfl)) (by decide) (by decide)) q23a q23c (g := (mkF m 159 #[.val (.long j0), .second, .val (.long j1), .second, .val (.long j2), .second, .val (.int i3), .val (.long (f0_v5 j0)), .second, .val (.long (f0_v12 j1)), .second, .val (.long (f0_v20 j2)), .second, .val (.int (f0_26_s0 i3)), .val (.int (f0_40_s0 i3)), .val (.int (f0_54_s0 i3)), .val (.ref b1), .val (.int (1 : Int32))] [(.ref b1)])) rfl (by rw [hml]; rfl) (Steps.refl _) (argsL := []) (rest := []) (lenOf pd_9 rfl) rfl (by show 2 * 0 + _ ≤ _; exact Nat.le_of_eq rfl) (hb hby at_159) (fun _ _ => ⟨rfl, e22, (by decide : 3 + 0 ≤ _), (by decide : 5 + 0 ≤ _)⟩)
      dsimp only [Pt.U, Pt.locs, Pt.cells, Pt.slots] at X23 l23 y23 z23 st23 hQ23
      subst l23 y23 z23
      obtain ⟨rfl, N23q, K23, u23_0, u23_1, u23_2, u23_3⟩ := hQ23
      have N23 := Fr.app N22 N23q
      obtain ⟨Lh23, X23, N23⟩ := hide X23 N23 (C := 3) (S := 5) (by decide) (by decide)
      refine Outs.to st23 ?_
      refine Outs.of (U' := T23.setTop (mkF m 167 #[.val (.long j0), .second, .val (.long j1), .second, .val (.long j2), .second, .val (.int i3), .val (.long (f0_v5 j0)), .second, .val (.long (f0_v12 j1)), .second, .val (.long (f0_v20 j2)), .second, .val (.int (f0_26_s0 i3)), .val (.int (f0_40_s0 i3)), .val (.int (f0_54_s0 i3)), .val (.ref b1), .val (.int (1 : Int32))] [(.ref b1), (.int (1 : Int32))])) (fun t k => ?_) ?_
      · show Steps p.tables e below (T23.setTop (mkF m 162 #[.val (.long j0), .second, .val (.long j1), .second, .val (.long j2), .second, .val (.int i3), .val (.long (f0_v5 j0)), .second, .val (.long (f0_v12 j1)), .second, .val (.long (f0_v20 j2)), .second, .val (.int (f0_26_s0 i3)), .val (.int (f0_40_s0 i3)), .val (.int (f0_54_s0 i3)), .val (.ref b1), .val (.int (1 : Int32))] [(.long (f0_r159b j0 j1 j2 i3))])) _
        jvm_step X23.here [X23.here.top, hx, (hb hby at_162), Value.category]
        refine XS.iload X23.here hx rfl (hb hby at_163) rfl ?_
        refine XS.aload X23.here hx rfl (hb hby at_165) rfl rfl ?_
        exact k
      obtain ⟨cq24, kq24, q24a, q24b, q24c⟩ := isOf hZ rfl u23_0
      obtain ⟨_, _, ⟨T24, L24, k24, n24⟩, -, X24, ⟨Lc24, hQ24, l24, y24, z24⟩, st24⟩ := X23.virtualBack hx (y := (⟨"com/example/brief_locator/brieflocator/cbor/OpenContainers", "innermostIsMap", "()Z"⟩ : MethodName)) (z := (⟨"com/example/brief_locator/brieflocator/cbor/OpenContainers", "innermostIsMap", "()Z"⟩ : MethodName)) hown (mvT hZ (hw _ (List.mem_of_getElem? (i := 35) rfl))) (mvT hZ (hw _ (List.mem_of_getElem? (i := 36) rfl))) (notFace_of_selects (args := #[]) (mvT hZ (hw _ (List.mem_of_getElem? (i := 38) rfl)))) (mvT hZ (hw _ (List.mem_of_getElem? (i := 38) rfl))) (mvT hZ (hw _ (List.mem_of_getElem? (i := 37) rfl))) (by decide) (backOf (W := 1) (rmim l Z a0 hw [] b1 (f0_s159b j0 j1 j2 i3) b19 2 (f0_g159b j0 j1 j2 i3) (own_w ((f0_s159b j0 j1 j2 i3) - (1 : Int64))) T23.heap n0 u23_0 u23_2 u23_1 u23_3 (law_i4BA j0 j1 j2 i3 hg2 hg3).2.1 (law_i4BA j0 j1 j2 i3 hg2 hg3).2.2) hZ (hw _ (List.mem_of_getElem? (i := 39) rfl)) (hw _ (List.mem_of_getElem? (i := 3) rfl)) (by decide) (by decide)) q24a q24c (g := (mkF m 167 #[.val (.long j0), .second, .val (.long j1), .second, .val (.long j2), .second, .val (.int i3), .val (.long (f0_v5 j0)), .second, .val (.long (f0_v12 j1)), .second, .val (.long (f0_v20 j2)), .second, .val (.int (f0_26_s0 i3)), .val (.int (f0_40_s0 i3)), .val (.int (f0_54_s0 i3)), .val (.ref b1), .val (.int (1 : Int32))] [(.ref b1), (.int (1 : Int32))])) rfl (by rw [hml]; rfl) (Steps.refl _) (argsL := []) (rest := [(.int (1 : Int32))]) (lenOf pd_5 rfl) rfl (by show 2 * 0 + _ ≤ _; exact Nat.le_of_eq rfl) (hb hby at_167) (fun _ _ => ⟨rfl, rfl, (by decide : 3 + 0 ≤ _), (by decide : 5 + 0 ≤ _)⟩)
      dsimp only [Pt.U, Pt.locs, Pt.cells, Pt.slots] at X24 l24 y24 z24 st24 hQ24
      subst l24 y24 z24
      obtain ⟨rfl, N24q, e24⟩ := hQ24
      have N24 := Fr.app N23 N24q
      obtain ⟨Lh24, X24, N24⟩ := hide X24 N24 (C := 3) (S := 5) (by decide) (by decide)
      refine Outs.to st24 ?_
      refine Outs.of (U' := T24.setTop (mkF m 185 #[.val (.long j0), .second, .val (.long j1), .second, .val (.long j2), .second, .val (.int i3), .val (.long (f0_v5 j0)), .second, .val (.long (f0_v12 j1)), .second, .val (.long (f0_v20 j2)), .second, .val (.int (f0_26_s0 i3)), .val (.int (f0_40_s0 i3)), .val (.int (f0_54_s0 i3)), .val (.ref b1), .val (.int (1 : Int32))] [(.ref b1)])) (fun t k => ?_) ?_
      · refine XS.iload X24.here hx rfl (hb hby at_170) rfl ?_
        refine XS.icmpNo X24.here hx rfl (hb hby at_172) rfl (teq (law_i4BA j0 j1 j2 i3 hg2 hg3).1).2 ?_
        refine XS.iconst X24.here hx rfl (hb hby at_175) ?_
        refine XS.goto X24.here hx rfl (pc0 := 176) (pc' := 180) rfl (hb hby at_176) (by decide) (by decide) ?_
        refine XS.iand X24.here hx rfl (hb hby at_180) rfl ?_
        refine XS.istore X24.here hx rfl (hb hby at_181) rfl (l' := #[.val (.long j0), .second, .val (.long j1), .second, .val (.long j2), .second, .val (.int i3), .val (.long (f0_v5 j0)), .second, .val (.long (f0_v12 j1)), .second, .val (.long (f0_v20 j2)), .second, .val (.int (f0_26_s0 i3)), .val (.int (f0_40_s0 i3)), .val (.int (f0_54_s0 i3)), .val (.ref b1), .val (.int (1 : Int32))]) rfl ?_
        refine XS.aload X24.here hx rfl (hb hby at_183) rfl rfl ?_
        exact k
      obtain ⟨cq25, kq25, q25a, q25b, q25c⟩ := isOf hZ e24 u23_0
      obtain ⟨_, _, ⟨T25, L25, k25, n25⟩, -, X25, ⟨Lc25, hQ25, l25, y25, z25⟩, st25⟩ := X24.virtualBack hx (y := (⟨"com/example/brief_locator/brieflocator/cbor/OpenContainers", "close", "()J"⟩ : MethodName)) (z := (⟨"com/example/brief_locator/brieflocator/cbor/OpenContainers", "close", "()J"⟩ : MethodName)) hown (mvT hZ (hw _ (List.mem_of_getElem? (i := 52) rfl))) (mvT hZ (hw _ (List.mem_of_getElem? (i := 53) rfl))) (notFace_of_selects (args := #[]) (mvT hZ (hw _ (List.mem_of_getElem? (i := 55) rfl)))) (mvT hZ (hw _ (List.mem_of_getElem? (i := 55) rfl))) (mvT hZ (hw _ (List.mem_of_getElem? (i := 54) rfl))) (by decide) (backOf (W := 0) (rmcl l Z a0 hw [] b1 (f0_s159b j0 j1 j2 i3) (2 : Int32) b19 2 (f0_g159b j0 j1 j2 i3) (own_w (((f0_s159b j0 j1 j2 i3) - (1 : Int64)) - (1 : Int64))) ((own_w (((f0_s159b j0 j1 j2 i3) - (1 : Int64)) - (1 : Int64))) - 1) (own_w (clS (f0_s159b j0 j1 j2 i3) (f0_g159b j0 j1 j2 i3))) T23.heap n0 u23_0 u23_1 u23_3 ne_b1_b19 u23_2 g_b1 g_b19 rfl (law_c2BA j0 j1 j2 i3 hg2 hg3).1 (law_c2BA j0 j1 j2 i3 hg2 hg3).2) hZ (hw _ (List.mem_of_getElem? (i := 56) rfl)) (hw _ (List.mem_of_getElem? (i := 3) rfl)) (by decide) (by decide)) q25a q25c (g := (mkF m 185 #[.val (.long j0), .second, .val (.long j1), .second, .val (.long j2), .second, .val (.int i3), .val (.long (f0_v5 j0)), .second, .val (.long (f0_v12 j1)), .second, .val (.long (f0_v20 j2)), .second, .val (.int (f0_26_s0 i3)), .val (.int (f0_40_s0 i3)), .val (.int (f0_54_s0 i3)), .val (.ref b1), .val (.int (1 : Int32))] [(.ref b1)])) rfl (by rw [hml]; rfl) (Steps.refl _) (argsL := []) (rest := []) (lenOf pd_9 rfl) rfl (by show 2 * 0 + _ ≤ _; exact Nat.le_of_eq rfl) (hb hby at_185) (fun _ _ => ⟨rfl, e24, (by decide : 3 + 0 ≤ _), (by decide : 5 + 0 ≤ _)⟩)
      dsimp only [Pt.U, Pt.locs, Pt.cells, Pt.slots] at X25 l25 y25 z25 st25 hQ25
      subst l25 y25 z25
      obtain ⟨rfl, N25q, K25, u25_0, u25_1, u25_2, u25_3⟩ := hQ25
      have N25 := Fr.app N24 N25q
      obtain ⟨Lh25, X25, N25⟩ := hide X25 N25 (C := 3) (S := 5) (by decide) (by decide)
      refine Outs.to st25 ?_
      refine Outs.of (U' := T25.setTop (mkF m 193 #[.val (.long j0), .second, .val (.long j1), .second, .val (.long j2), .second, .val (.int i3), .val (.long (f0_v5 j0)), .second, .val (.long (f0_v12 j1)), .second, .val (.long (f0_v20 j2)), .second, .val (.int (f0_26_s0 i3)), .val (.int (f0_40_s0 i3)), .val (.int (f0_54_s0 i3)), .val (.ref b1), .val (.int (1 : Int32))] [(.ref b1), (.int (1 : Int32))])) (fun t k => ?_) ?_
      · show Steps p.tables e below (T25.setTop (mkF m 188 #[.val (.long j0), .second, .val (.long j1), .second, .val (.long j2), .second, .val (.int i3), .val (.long (f0_v5 j0)), .second, .val (.long (f0_v12 j1)), .second, .val (.long (f0_v20 j2)), .second, .val (.int (f0_26_s0 i3)), .val (.int (f0_40_s0 i3)), .val (.int (f0_54_s0 i3)), .val (.ref b1), .val (.int (1 : Int32))] [(.long (f0_r185b j0 j1 j2 i3))])) _
        jvm_step X25.here [X25.here.top, hx, (hb hby at_188), Value.category]
        refine XS.iload X25.here hx rfl (hb hby at_189) rfl ?_
        refine XS.aload X25.here hx rfl (hb hby at_191) rfl rfl ?_
        exact k
      obtain ⟨cq26, kq26, q26a, q26b, q26c⟩ := isOf hZ rfl u25_0
      obtain ⟨_, _, ⟨T26, L26, k26, n26⟩, -, X26, ⟨Lc26, hQ26, l26, y26, z26⟩, st26⟩ := X25.virtualBack hx (y := (⟨"com/example/brief_locator/brieflocator/cbor/OpenContainers", "innermostIsMap", "()Z"⟩ : MethodName)) (z := (⟨"com/example/brief_locator/brieflocator/cbor/OpenContainers", "innermostIsMap", "()Z"⟩ : MethodName)) hown (mvT hZ (hw _ (List.mem_of_getElem? (i := 35) rfl))) (mvT hZ (hw _ (List.mem_of_getElem? (i := 36) rfl))) (notFace_of_selects (args := #[]) (mvT hZ (hw _ (List.mem_of_getElem? (i := 38) rfl)))) (mvT hZ (hw _ (List.mem_of_getElem? (i := 38) rfl))) (mvT hZ (hw _ (List.mem_of_getElem? (i := 37) rfl))) (by decide) (backOf (W := 1) (rmim l Z a0 hw [] b1 (f0_s185b j0 j1 j2 i3) b19 2 (f0_g185b j0 j1 j2 i3) (own_w ((f0_s185b j0 j1 j2 i3) - (1 : Int64))) T25.heap n0 u25_0 u25_2 u25_1 u25_3 (law_i5BA j0 j1 j2 i3 hg2 hg3).2.1 (law_i5BA j0 j1 j2 i3 hg2 hg3).2.2) hZ (hw _ (List.mem_of_getElem? (i := 39) rfl)) (hw _ (List.mem_of_getElem? (i := 3) rfl)) (by decide) (by decide)) q26a q26c (g := (mkF m 193 #[.val (.long j0), .second, .val (.long j1), .second, .val (.long j2), .second, .val (.int i3), .val (.long (f0_v5 j0)), .second, .val (.long (f0_v12 j1)), .second, .val (.long (f0_v20 j2)), .second, .val (.int (f0_26_s0 i3)), .val (.int (f0_40_s0 i3)), .val (.int (f0_54_s0 i3)), .val (.ref b1), .val (.int (1 : Int32))] [(.ref b1), (.int (1 : Int32))])) rfl (by rw [hml]; rfl) (Steps.refl _) (argsL := []) (rest := [(.int (1 : Int32))]) (lenOf pd_5 rfl) rfl (by show 2 * 0 + _ ≤ _; exact Nat.le_of_eq rfl) (hb hby at_193) (fun _ _ => ⟨rfl, rfl, (by decide : 3 + 0 ≤ _), (by decide : 5 + 0 ≤ _)⟩)
      dsimp only [Pt.U, Pt.locs, Pt.cells, Pt.slots] at X26 l26 y26 z26 st26 hQ26
      subst l26 y26 z26
      obtain ⟨rfl, N26q, e26⟩ := hQ26
      have N26 := Fr.app N25 N26q
      obtain ⟨Lh26, X26, N26⟩ := hide X26 N26 (C := 3) (S := 5) (by decide) (by decide)
      refine Outs.to st26 ?_
      refine Outs.of (U' := T26.setTop (mkF m 211 #[.val (.long j0), .second, .val (.long j1), .second, .val (.long j2), .second, .val (.int i3), .val (.long (f0_v5 j0)), .second, .val (.long (f0_v12 j1)), .second, .val (.long (f0_v20 j2)), .second, .val (.int (f0_26_s0 i3)), .val (.int (f0_40_s0 i3)), .val (.int (f0_54_s0 i3)), .val (.ref b1), .val (.int (1 : Int32))] [(.int (1 : Int32))])) (fun t k => ?_) ?_
      · refine XS.iload X26.here hx rfl (hb hby at_196) rfl ?_
        refine XS.icmpNo X26.here hx rfl (hb hby at_198) rfl (teq (law_i5BA j0 j1 j2 i3 hg2 hg3).1).2 ?_
        refine XS.iconst X26.here hx rfl (hb hby at_201) ?_
        refine XS.goto X26.here hx rfl (pc0 := 202) (pc' := 206) rfl (hb hby at_202) (by decide) (by decide) ?_
        refine XS.iand X26.here hx rfl (hb hby at_206) rfl ?_
        refine XS.istore X26.here hx rfl (hb hby at_207) rfl (l' := #[.val (.long j0), .second, .val (.long j1), .second, .val (.long j2), .second, .val (.int i3), .val (.long (f0_v5 j0)), .second, .val (.long (f0_v12 j1)), .second, .val (.long (f0_v20 j2)), .second, .val (.int (f0_26_s0 i3)), .val (.int (f0_40_s0 i3)), .val (.int (f0_54_s0 i3)), .val (.ref b1), .val (.int (1 : Int32))]) rfl ?_
        refine XS.iload X26.here hx rfl (hb hby at_209) rfl ?_
        exact k
      exact Outs.retN (t := .boolean) (z := (1 : Int32)) X26 hx hret (by simp) (hb hby at_211) hlk (by decide) (by decide) e26 ⟨rfl, N26⟩
    · show Outs p e below s _ _ _ (T20.setTop (mkF m 128 #[.val (.long j0), .second, .val (.long j1), .second, .val (.long j2), .second, .val (.int i3), .val (.long (f0_v5 j0)), .second, .val (.long (f0_v12 j1)), .second, .val (.long (f0_v20 j2)), .second, .val (.int (f0_26_s0 i3)), .val (.int (f0_40_s0 i3)), .val (.int (f0_54_s0 i3)), .val (.ref b1), .val (.int (1 : Int32))] []))
      refine Outs.of (U' := T20.setTop (mkF m 134 #[.val (.long j0), .second, .val (.long j1), .second, .val (.long j2), .second, .val (.int i3), .val (.long (f0_v5 j0)), .second, .val (.long (f0_v12 j1)), .second, .val (.long (f0_v20 j2)), .second, .val (.int (f0_26_s0 i3)), .val (.int (f0_40_s0 i3)), .val (.int (f0_54_s0 i3)), .val (.ref b1), .val (.int (1 : Int32))] [(.int (f0_54_s0 i3)), (.long (f0_v20 j2)), (.ref b1)])) (fun t k => ?_) ?_
      · refine XS.aload X20.here hx rfl (hb hby at_128) rfl rfl ?_
        refine XS.lload X20.here hx rfl (hb hby at_130) rfl ?_
        refine XS.iload X20.here hx rfl (hb hby at_132) rfl ?_
        exact k
      have f28 : AJ Z T19.heap b2 .long 1 (f0_g79 j0 i3) := (u3_3.keep K19 (ninS ne_b1_b2.symm nin0))
      obtain ⟨cq27, kq27, q27a, q27b, q27c⟩ := isOf hZ e20 u19_0
      obtain ⟨_, _, ⟨T27, L27, k27, n27⟩, -, X27, ⟨Lc27, hQ27, l27, y27, z27⟩, st27⟩ := X20.virtualBack hx (y := (⟨"com/example/brief_locator/brieflocator/cbor/OpenContainers", "open", "(JZ)V"⟩ : MethodName)) (z := (⟨"com/example/brief_locator/brieflocator/cbor/OpenContainers", "open", "(JZ)V"⟩ : MethodName)) hown (mvT hZ (hw _ (List.mem_of_getElem? (i := 13) rfl))) (mvT hZ (hw _ (List.mem_of_getElem? (i := 14) rfl))) (notFace_of_selects (args := #[]) (mvT hZ (hw _ (List.mem_of_getElem? (i := 16) rfl)))) (mvT hZ (hw _ (List.mem_of_getElem? (i := 16) rfl))) (mvT hZ (hw _ (List.mem_of_getElem? (i := 15) rfl))) (by decide) (backOf (W := 0) (rmog2 l Z a0 hw [] b1 (f0_v20 j2) (f0_54_s0 i3) (f0_s105 j0 j1) b19 (f0_g105a j0 j1 i3) (own_w (f0_s105 j0 j1)) (own_w (op_v29 (f0_v20 j2) (f0_s105 j0 j1))) T19.heap n0 (Nat.le_trans (Nat.le_trans (Nat.le_trans (Nat.le_trans Z0 E1.1) K2.1) K3.1) K19.1) u19_0 u19_1 u19_3 ne_b1_b19 u19_2 g_b1 (law_o3BB j0 j1 j2 i3 hg2 hg3).2 (law_o3BB j0 j1 j2 i3 hg2 hg3).1.1 (law_o3BB j0 j1 j2 i3 hg2 hg3).1.2) hZ (hw _ (List.mem_of_getElem? (i := 17) rfl)) (hw _ (List.mem_of_getElem? (i := 3) rfl)) (by decide) (by decide)) q27a q27c (g := (mkF m 134 #[.val (.long j0), .second, .val (.long j1), .second, .val (.long j2), .second, .val (.int i3), .val (.long (f0_v5 j0)), .second, .val (.long (f0_v12 j1)), .second, .val (.long (f0_v20 j2)), .second, .val (.int (f0_26_s0 i3)), .val (.int (f0_40_s0 i3)), .val (.int (f0_54_s0 i3)), .val (.ref b1), .val (.int (1 : Int32))] [(.int (f0_54_s0 i3)), (.long (f0_v20 j2)), (.ref b1)])) rfl (by rw [hml]; rfl) (Steps.refl _) (argsL := [(.long (f0_v20 j2)), (.int (f0_54_s0 i3))]) (rest := []) (lenOf pd_1 rfl) rfl (by show 2 * 0 + _ ≤ _; exact Nat.le_of_eq rfl) (hb hby at_134) (fun _ _ => ⟨rfl, e20, (by decide : 3 + 1 ≤ _), (by decide : 5 + 4 ≤ _)⟩)
      dsimp only [Pt.U, Pt.locs, Pt.cells, Pt.slots] at X27 l27 y27 z27 st27 hQ27
      subst l27 y27 z27
      obtain ⟨b27, g_b27, hs_b27, rfl, N27q, K27, u27_0, u27_1, u27_2, u27_3⟩ := hQ27
      have N27 := Fr.app N20 N27q
      have ne_b1_b27 : b1 ≠ b27 := Nat.ne_of_lt (Nat.lt_of_lt_of_le u19_0.lt hs_b27)
      have ne_b2_b27 : b2 ≠ b27 := Nat.ne_of_lt (Nat.lt_of_lt_of_le f28.lt hs_b27)
      have ne_b19_b27 : b19 ≠ b27 := Nat.ne_of_lt (Nat.lt_of_lt_of_le u19_3.lt hs_b27)
      obtain ⟨Lh27, X27, N27⟩ := hide X27 N27 (C := 4) (S := 9) (by decide) (by decide)
      refine Outs.to st27 ?_
      refine Outs.of (U' := T27.setTop (mkF m 141 #[.val (.long j0), .second, .val (.long j1), .second, .val (.long j2), .second, .val (.int i3), .val (.long (f0_v5 j0)), .second, .val (.long (f0_v12 j1)), .second, .val (.long (f0_v20 j2)), .second, .val (.int (f0_26_s0 i3)), .val (.int (f0_40_s0 i3)), .val (.int (f0_54_s0 i3)), .val (.ref b1), .val (.int (1 : Int32))] [(.ref b1), (.int (1 : Int32))])) (fun t k => ?_) ?_
      · refine XS.iload X27.here hx rfl (hb hby at_137) rfl ?_
        refine XS.aload X27.here hx rfl (hb hby at_139) rfl rfl ?_
        exact k
      obtain ⟨cq29, kq29, q29a, q29b, q29c⟩ := isOf hZ rfl u27_0
      obtain ⟨_, _, ⟨T29, L29, k29, n29⟩, -, X29, ⟨Lc29, hQ29, l29, y29, z29⟩, st29⟩ := X27.virtualBack hx (y := (⟨"com/example/brief_locator/brieflocator/cbor/OpenContainers", "innermostIsMap", "()Z"⟩ : MethodName)) (z := (⟨"com/example/brief_locator/brieflocator/cbor/OpenContainers", "innermostIsMap", "()Z"⟩ : MethodName)) hown (mvT hZ (hw _ (List.mem_of_getElem? (i := 35) rfl))) (mvT hZ (hw _ (List.mem_of_getElem? (i := 36) rfl))) (notFace_of_selects (args := #[]) (mvT hZ (hw _ (List.mem_of_getElem? (i := 38) rfl)))) (mvT hZ (hw _ (List.mem_of_getElem? (i := 38) rfl))) (mvT hZ (hw _ (List.mem_of_getElem? (i := 37) rfl))) (by decide) (backOf (W := 1) (rmim l Z a0 hw [] b1 (f0_s134 j0 j1 j2) b27 4 (f0_g134c j0 j1 j2 i3) (own_w ((f0_s134 j0 j1 j2) - (1 : Int64))) T27.heap n0 u27_0 u27_2 u27_1 u27_3 (law_i3BB j0 j1 j2 i3 hg2 hg3).2.1 (law_i3BB j0 j1 j2 i3 hg2 hg3).2.2) hZ (hw _ (List.mem_of_getElem? (i := 39) rfl)) (hw _ (List.mem_of_getElem? (i := 3) rfl)) (by decide) (by decide)) q29a q29c (g := (mkF m 141 #[.val (.long j0), .second, .val (.long j1), .second, .val (.long j2), .second, .val (.int i3), .val (.long (f0_v5 j0)), .second, .val (.long (f0_v12 j1)), .second, .val (.long (f0_v20 j2)), .second, .val (.int (f0_26_s0 i3)), .val (.int (f0_40_s0 i3)), .val (.int (f0_54_s0 i3)), .val (.ref b1), .val (.int (1 : Int32))] [(.ref b1), (.int (1 : Int32))])) rfl (by rw [hml]; rfl) (Steps.refl _) (argsL := []) (rest := [(.int (1 : Int32))]) (lenOf pd_5 rfl) rfl (by show 2 * 0 + _ ≤ _; exact Nat.le_of_eq rfl) (hb hby at_141) (fun _ _ => ⟨rfl, rfl, (by decide : 4 + 0 ≤ _), (by decide : 9 + 0 ≤ _)⟩)
      dsimp only [Pt.U, Pt.locs, Pt.cells, Pt.slots] at X29 l29 y29 z29 st29 hQ29
      subst l29 y29 z29
      obtain ⟨rfl, N29q, e29⟩ := hQ29
      have N29 := Fr.app N27 N29q
      obtain ⟨Lh29, X29, N29⟩ := hide X29 N29 (C := 4) (S := 9) (by decide) (by decide)
      refine Outs.to st29 ?_
      refine Outs.of (U' := T29.setTop (mkF m 159 #[.val (.long j0), .second, .val (.long j1), .second, .val (.long j2), .second, .val (.int i3), .val (.long (f0_v5 j0)), .second, .val (.long (f0_v12 j1)), .second, .val (.long (f0_v20 j2)), .second, .val (.int (f0_26_s0 i3)), .val (.int (f0_40_s0 i3)), .val (.int (f0_54_s0 i3)), .val (.ref b1), .val (.int (1 : Int32))] [(.ref b1)])) (fun t k => ?_) ?_
      · refine XS.iload X29.here hx rfl (hb hby at_144) rfl ?_
        refine XS.icmpNo X29.here hx rfl (hb hby at_146) rfl (teq (law_i3BB j0 j1 j2 i3 hg2 hg3).1).2 ?_
        refine XS.iconst X29.here hx rfl (hb hby at_149) ?_
        refine XS.goto X29.here hx rfl (pc0 := 150) (pc' := 154) rfl (hb hby at_150) (by decide) (by decide) ?_
        refine XS.iand X29.here hx rfl (hb hby at_154) rfl ?_
        refine XS.istore X29.here hx rfl (hb hby at_155) rfl (l' := #[.val (.long j0), .second, .val (.long j1), .second, .val (.long j2), .second, .val (.int i3), .val (.long (f0_v5 j0)), .second, .val (.long (f0_v12 j1)), .second, .val (.long (f0_v20 j2)), .second, .val (.int (f0_26_s0 i3)), .val (.int (f0_40_s0 i3)), .val (.int (f0_54_s0 i3)), .val (.ref b1), .val (.int (1 : Int32))]) rfl ?_
        refine XS.aload X29.here hx rfl (hb hby at_157) rfl rfl ?_
        exact k
      obtain ⟨cq30, kq30, q30a, q30b, q30c⟩ := isOf hZ e29 u27_0
      obtain ⟨_, _, ⟨T30, L30, k30, n30⟩, -, X30, ⟨Lc30, hQ30, l30, y30, z30⟩, st30⟩ := X29.virtualBack hx (y := (⟨"com/example/brief_locator/brieflocator/cbor/OpenContainers", "close", "()J"⟩ : MethodName)) (z := (⟨"com/example/brief_locator/brieflocator/cbor/OpenContainers", "close", "()J"⟩ : MethodName)) hown (mvT hZ (hw _ (List.mem_of_getElem? (i := 52) rfl))) (mvT hZ (hw _ (List.mem_of_getElem? (i := 53) rfl))) (notFace_of_selects (args := #[]) (mvT hZ (hw _ (List.mem_of_getElem? (i := 55) rfl)))) (mvT hZ (hw _ (List.mem_of_getElem? (i := 55) rfl))) (mvT hZ (hw _ (List.mem_of_getElem? (i := 54) rfl))) (by decide) (backOf (W := 0) (rmcl l Z a0 hw [] b1 (f0_s134 j0 j1 j2) (4 : Int32) b27 4 (f0_g134c j0 j1 j2 i3) (own_w (((f0_s134 j0 j1 j2) - (1 : Int64)) - (1 : Int64))) ((own_w (((f0_s134 j0 j1 j2) - (1 : Int64)) - (1 : Int64))) - 1) (own_w (clS (f0_s134 j0 j1 j2) (f0_g134c j0 j1 j2 i3))) T27.heap n0 u27_0 u27_1 u27_3 ne_b1_b27 u27_2 g_b1 g_b27 rfl (law_c1BB j0 j1 j2 i3 hg2 hg3).1 (law_c1BB j0 j1 j2 i3 hg2 hg3).2) hZ (hw _ (List.mem_of_getElem? (i := 56) rfl)) (hw _ (List.mem_of_getElem? (i := 3) rfl)) (by decide) (by decide)) q30a q30c (g := (mkF m 159 #[.val (.long j0), .second, .val (.long j1), .second, .val (.long j2), .second, .val (.int i3), .val (.long (f0_v5 j0)), .second, .val (.long (f0_v12 j1)), .second, .val (.long (f0_v20 j2)), .second, .val (.int (f0_26_s0 i3)), .val (.int (f0_40_s0 i3)), .val (.int (f0_54_s0 i3)), .val (.ref b1), .val (.int (1 : Int32))] [(.ref b1)])) rfl (by rw [hml]; rfl) (Steps.refl _) (argsL := []) (rest := []) (lenOf pd_9 rfl) rfl (by show 2 * 0 + _ ≤ _; exact Nat.le_of_eq rfl) (hb hby at_159) (fun _ _ => ⟨rfl, e29, (by decide : 4 + 0 ≤ _), (by decide : 9 + 0 ≤ _)⟩)
      dsimp only [Pt.U, Pt.locs, Pt.cells, Pt.slots] at X30 l30 y30 z30 st30 hQ30
      subst l30 y30 z30
      obtain ⟨rfl, N30q, K30, u30_0, u30_1, u30_2, u30_3⟩ := hQ30
      have N30 := Fr.app N29 N30q
      obtain ⟨Lh30, X30, N30⟩ := hide X30 N30 (C := 4) (S := 9) (by decide) (by decide)
      refine Outs.to st30 ?_
      refine Outs.of (U' := T30.setTop (mkF m 167 #[.val (.long j0), .second, .val (.long j1), .second, .val (.long j2), .second, .val (.int i3), .val (.long (f0_v5 j0)), .second, .val (.long (f0_v12 j1)), .second, .val (.long (f0_v20 j2)), .second, .val (.int (f0_26_s0 i3)), .val (.int (f0_40_s0 i3)), .val (.int (f0_54_s0 i3)), .val (.ref b1), .val (.int (1 : Int32))] [(.ref b1), (.int (1 : Int32))])) (fun t k => ?_) ?_
      · show Steps p.tables e below (T30.setTop (mkF m 162 #[.val (.long j0), .second, .val (.long j1), .second, .val (.long j2), .second, .val (.int i3), .val (.long (f0_v5 j0)), .second, .val (.long (f0_v12 j1)), .second, .val (.long (f0_v20 j2)), .second, .val (.int (f0_26_s0 i3)), .val (.int (f0_40_s0 i3)), .val (.int (f0_54_s0 i3)), .val (.ref b1), .val (.int (1 : Int32))] [(.long (f0_r159c j0 j1 j2 i3))])) _
        jvm_step X30.here [X30.here.top, hx, (hb hby at_162), Value.category]
        refine XS.iload X30.here hx rfl (hb hby at_163) rfl ?_
        refine XS.aload X30.here hx rfl (hb hby at_165) rfl rfl ?_
        exact k
      obtain ⟨cq31, kq31, q31a, q31b, q31c⟩ := isOf hZ rfl u30_0
      obtain ⟨_, _, ⟨T31, L31, k31, n31⟩, -, X31, ⟨Lc31, hQ31, l31, y31, z31⟩, st31⟩ := X30.virtualBack hx (y := (⟨"com/example/brief_locator/brieflocator/cbor/OpenContainers", "innermostIsMap", "()Z"⟩ : MethodName)) (z := (⟨"com/example/brief_locator/brieflocator/cbor/OpenContainers", "innermostIsMap", "()Z"⟩ : MethodName)) hown (mvT hZ (hw _ (List.mem_of_getElem? (i := 35) rfl))) (mvT hZ (hw _ (List.mem_of_getElem? (i := 36) rfl))) (notFace_of_selects (args := #[]) (mvT hZ (hw _ (List.mem_of_getElem? (i := 38) rfl)))) (mvT hZ (hw _ (List.mem_of_getElem? (i := 38) rfl))) (mvT hZ (hw _ (List.mem_of_getElem? (i := 37) rfl))) (by decide) (backOf (W := 1) (rmim l Z a0 hw [] b1 (f0_s159c j0 j1 j2 i3) b27 4 (f0_g159c j0 j1 j2 i3) (own_w ((f0_s159c j0 j1 j2 i3) - (1 : Int64))) T30.heap n0 u30_0 u30_2 u30_1 u30_3 (law_i4BB j0 j1 j2 i3 hg2 hg3).2.1 (law_i4BB j0 j1 j2 i3 hg2 hg3).2.2) hZ (hw _ (List.mem_of_getElem? (i := 39) rfl)) (hw _ (List.mem_of_getElem? (i := 3) rfl)) (by decide) (by decide)) q31a q31c (g := (mkF m 167 #[.val (.long j0), .second, .val (.long j1), .second, .val (.long j2), .second, .val (.int i3), .val (.long (f0_v5 j0)), .second, .val (.long (f0_v12 j1)), .second, .val (.long (f0_v20 j2)), .second, .val (.int (f0_26_s0 i3)), .val (.int (f0_40_s0 i3)), .val (.int (f0_54_s0 i3)), .val (.ref b1), .val (.int (1 : Int32))] [(.ref b1), (.int (1 : Int32))])) rfl (by rw [hml]; rfl) (Steps.refl _) (argsL := []) (rest := [(.int (1 : Int32))]) (lenOf pd_5 rfl) rfl (by show 2 * 0 + _ ≤ _; exact Nat.le_of_eq rfl) (hb hby at_167) (fun _ _ => ⟨rfl, rfl, (by decide : 4 + 0 ≤ _), (by decide : 9 + 0 ≤ _)⟩)
      dsimp only [Pt.U, Pt.locs, Pt.cells, Pt.slots] at X31 l31 y31 z31 st31 hQ31
      subst l31 y31 z31
      obtain ⟨rfl, N31q, e31⟩ := hQ31
      have N31 := Fr.app N30 N31q
      obtain ⟨Lh31, X31, N31⟩ := hide X31 N31 (C := 4) (S := 9) (by decide) (by decide)
      refine Outs.to st31 ?_
      refine Outs.of (U' := T31.setTop (mkF m 185 #[.val (.long j0), .second, .val (.long j1), .second, .val (.long j2), .second, .val (.int i3), .val (.long (f0_v5 j0)), .second, .val (.long (f0_v12 j1)), .second, .val (.long (f0_v20 j2)), .second, .val (.int (f0_26_s0 i3)), .val (.int (f0_40_s0 i3)), .val (.int (f0_54_s0 i3)), .val (.ref b1), .val (.int (1 : Int32))] [(.ref b1)])) (fun t k => ?_) ?_
      · refine XS.iload X31.here hx rfl (hb hby at_170) rfl ?_
        refine XS.icmpNo X31.here hx rfl (hb hby at_172) rfl (teq (law_i4BB j0 j1 j2 i3 hg2 hg3).1).2 ?_
        refine XS.iconst X31.here hx rfl (hb hby at_175) ?_
        refine XS.goto X31.here hx rfl (pc0 := 176) (pc' := 180) rfl (hb hby at_176) (by decide) (by decide) ?_
        refine XS.iand X31.here hx rfl (hb hby at_180) rfl ?_
        refine XS.istore X31.here hx rfl (hb hby at_181) rfl (l' := #[.val (.long j0), .second, .val (.long j1), .second, .val (.long j2), .second, .val (.int i3), .val (.long (f0_v5 j0)), .second, .val (.long (f0_v12 j1)), .second, .val (.long (f0_v20 j2)), .second, .val (.int (f0_26_s0 i3)), .val (.int (f0_40_s0 i3)), .val (.int (f0_54_s0 i3)), .val (.ref b1), .val (.int (1 : Int32))]) rfl ?_
        refine XS.aload X31.here hx rfl (hb hby at_183) rfl rfl ?_
        exact k
      obtain ⟨cq32, kq32, q32a, q32b, q32c⟩ := isOf hZ e31 u30_0
      obtain ⟨_, _, ⟨T32, L32, k32, n32⟩, -, X32, ⟨Lc32, hQ32, l32, y32, z32⟩, st32⟩ := X31.virtualBack hx (y := (⟨"com/example/brief_locator/brieflocator/cbor/OpenContainers", "close", "()J"⟩ : MethodName)) (z := (⟨"com/example/brief_locator/brieflocator/cbor/OpenContainers", "close", "()J"⟩ : MethodName)) hown (mvT hZ (hw _ (List.mem_of_getElem? (i := 52) rfl))) (mvT hZ (hw _ (List.mem_of_getElem? (i := 53) rfl))) (notFace_of_selects (args := #[]) (mvT hZ (hw _ (List.mem_of_getElem? (i := 55) rfl)))) (mvT hZ (hw _ (List.mem_of_getElem? (i := 55) rfl))) (mvT hZ (hw _ (List.mem_of_getElem? (i := 54) rfl))) (by decide) (backOf (W := 0) (rmcl l Z a0 hw [] b1 (f0_s159c j0 j1 j2 i3) (4 : Int32) b27 4 (f0_g159c j0 j1 j2 i3) (own_w (((f0_s159c j0 j1 j2 i3) - (1 : Int64)) - (1 : Int64))) ((own_w (((f0_s159c j0 j1 j2 i3) - (1 : Int64)) - (1 : Int64))) - 1) (own_w (clS (f0_s159c j0 j1 j2 i3) (f0_g159c j0 j1 j2 i3))) T30.heap n0 u30_0 u30_1 u30_3 ne_b1_b27 u30_2 g_b1 g_b27 rfl (law_c2BB j0 j1 j2 i3 hg2 hg3).1 (law_c2BB j0 j1 j2 i3 hg2 hg3).2) hZ (hw _ (List.mem_of_getElem? (i := 56) rfl)) (hw _ (List.mem_of_getElem? (i := 3) rfl)) (by decide) (by decide)) q32a q32c (g := (mkF m 185 #[.val (.long j0), .second, .val (.long j1), .second, .val (.long j2), .second, .val (.int i3), .val (.long (f0_v5 j0)), .second, .val (.long (f0_v12 j1)), .second, .val (.long (f0_v20 j2)), .second, .val (.int (f0_26_s0 i3)), .val (.int (f0_40_s0 i3)), .val (.int (f0_54_s0 i3)), .val (.ref b1), .val (.int (1 : Int32))] [(.ref b1)])) rfl (by rw [hml]; rfl) (Steps.refl _) (argsL := []) (rest := []) (lenOf pd_9 rfl) rfl (by show 2 * 0 + _ ≤ _; exact Nat.le_of_eq rfl) (hb hby at_185) (fun _ _ => ⟨rfl, e31, (by decide : 4 + 0 ≤ _), (by decide : 9 + 0 ≤ _)⟩)
      dsimp only [Pt.U, Pt.locs, Pt.cells, Pt.slots] at X32 l32 y32 z32 st32 hQ32
      subst l32 y32 z32
      obtain ⟨rfl, N32q, K32, u32_0, u32_1, u32_2, u32_3⟩ := hQ32
      have N32 := Fr.app N31 N32q
      obtain ⟨Lh32, X32, N32⟩ := hide X32 N32 (C := 4) (S := 9) (by decide) (by decide)
      refine Outs.to st32 ?_
      refine Outs.of (U' := T32.setTop (mkF m 193 #[.val (.long j0), .second, .val (.long j1), .second, .val (.long j2), .second, .val (.int i3), .val (.long (f0_v5 j0)), .second, .val (.long (f0_v12 j1)), .second, .val (.long (f0_v20 j2)), .second, .val (.int (f0_26_s0 i3)), .val (.int (f0_40_s0 i3)), .val (.int (f0_54_s0 i3)), .val (.ref b1), .val (.int (1 : Int32))] [(.ref b1), (.int (1 : Int32))])) (fun t k => ?_) ?_
      · show Steps p.tables e below (T32.setTop (mkF m 188 #[.val (.long j0), .second, .val (.long j1), .second, .val (.long j2), .second, .val (.int i3), .val (.long (f0_v5 j0)), .second, .val (.long (f0_v12 j1)), .second, .val (.long (f0_v20 j2)), .second, .val (.int (f0_26_s0 i3)), .val (.int (f0_40_s0 i3)), .val (.int (f0_54_s0 i3)), .val (.ref b1), .val (.int (1 : Int32))] [(.long (f0_r185c j0 j1 j2 i3))])) _
        jvm_step X32.here [X32.here.top, hx, (hb hby at_188), Value.category]
        refine XS.iload X32.here hx rfl (hb hby at_189) rfl ?_
        refine XS.aload X32.here hx rfl (hb hby at_191) rfl rfl ?_
        exact k
      obtain ⟨cq33, kq33, q33a, q33b, q33c⟩ := isOf hZ rfl u32_0
      obtain ⟨_, _, ⟨T33, L33, k33, n33⟩, -, X33, ⟨Lc33, hQ33, l33, y33, z33⟩, st33⟩ := X32.virtualBack hx (y := (⟨"com/example/brief_locator/brieflocator/cbor/OpenContainers", "innermostIsMap", "()Z"⟩ : MethodName)) (z := (⟨"com/example/brief_locator/brieflocator/cbor/OpenContainers", "innermostIsMap", "()Z"⟩ : MethodName)) hown (mvT hZ (hw _ (List.mem_of_getElem? (i := 35) rfl))) (mvT hZ (hw _ (List.mem_of_getElem? (i := 36) rfl))) (notFace_of_selects (args := #[]) (mvT hZ (hw _ (List.mem_of_getElem? (i := 38) rfl)))) (mvT hZ (hw _ (List.mem_of_getElem? (i := 38) rfl))) (mvT hZ (hw _ (List.mem_of_getElem? (i := 37) rfl))) (by decide) (backOf (W := 1) (rmim l Z a0 hw [] b1 (f0_s185c j0 j1 j2 i3) b27 4 (f0_g185c j0 j1 j2 i3) (own_w ((f0_s185c j0 j1 j2 i3) - (1 : Int64))) T32.heap n0 u32_0 u32_2 u32_1 u32_3 (law_i5BB j0 j1 j2 i3 hg2 hg3).2.1 (law_i5BB j0 j1 j2 i3 hg2 hg3).2.2) hZ (hw _ (List.mem_of_getElem? (i := 39) rfl)) (hw _ (List.mem_of_getElem? (i := 3) rfl)) (by decide) (by decide)) q33a q33c (g := (mkF m 193 #[.val (.long j0), .second, .val (.long j1), .second, .val (.long j2), .second, .val (.int i3), .val (.long (f0_v5 j0)), .second, .val (.long (f0_v12 j1)), .second, .val (.long (f0_v20 j2)), .second, .val (.int (f0_26_s0 i3)), .val (.int (f0_40_s0 i3)), .val (.int (f0_54_s0 i3)), .val (.ref b1), .val (.int (1 : Int32))] [(.ref b1), (.int (1 : Int32))])) rfl (by rw [hml]; rfl) (Steps.refl _) (argsL := []) (rest := [(.int (1 : Int32))]) (lenOf pd_5 rfl) rfl (by show 2 * 0 + _ ≤ _; exact Nat.le_of_eq rfl) (hb hby at_193) (fun _ _ => ⟨rfl, rfl, (by decide : 4 + 0 ≤ _), (by decide : 9 + 0 ≤ _)⟩)
      dsimp only [Pt.U, Pt.locs, Pt.cells, Pt.slots] at X33 l33 y33 z33 st33 hQ33
      subst l33 y33 z33
      obtain ⟨rfl, N33q, e33⟩ := hQ33
      have N33 := Fr.app N32 N33q
      obtain ⟨Lh33, X33, N33⟩ := hide X33 N33 (C := 4) (S := 9) (by decide) (by decide)
      refine Outs.to st33 ?_
      refine Outs.of (U' := T33.setTop (mkF m 211 #[.val (.long j0), .second, .val (.long j1), .second, .val (.long j2), .second, .val (.int i3), .val (.long (f0_v5 j0)), .second, .val (.long (f0_v12 j1)), .second, .val (.long (f0_v20 j2)), .second, .val (.int (f0_26_s0 i3)), .val (.int (f0_40_s0 i3)), .val (.int (f0_54_s0 i3)), .val (.ref b1), .val (.int (1 : Int32))] [(.int (1 : Int32))])) (fun t k => ?_) ?_
      · refine XS.iload X33.here hx rfl (hb hby at_196) rfl ?_
        refine XS.icmpNo X33.here hx rfl (hb hby at_198) rfl (teq (law_i5BB j0 j1 j2 i3 hg2 hg3).1).2 ?_
        refine XS.iconst X33.here hx rfl (hb hby at_201) ?_
        refine XS.goto X33.here hx rfl (pc0 := 202) (pc' := 206) rfl (hb hby at_202) (by decide) (by decide) ?_
        refine XS.iand X33.here hx rfl (hb hby at_206) rfl ?_
        refine XS.istore X33.here hx rfl (hb hby at_207) rfl (l' := #[.val (.long j0), .second, .val (.long j1), .second, .val (.long j2), .second, .val (.int i3), .val (.long (f0_v5 j0)), .second, .val (.long (f0_v12 j1)), .second, .val (.long (f0_v20 j2)), .second, .val (.int (f0_26_s0 i3)), .val (.int (f0_40_s0 i3)), .val (.int (f0_54_s0 i3)), .val (.ref b1), .val (.int (1 : Int32))]) rfl ?_
        refine XS.iload X33.here hx rfl (hb hby at_209) rfl ?_
        exact k
      exact Outs.retN (t := .boolean) (z := (1 : Int32)) X33 hx hret (by simp) (hb hby at_211) hlk (by decide) (by decide) e33 ⟨rfl, N33⟩
set_option maxRecDepth 65536 in
set_option maxHeartbeats 40000000 in
theorem comes_1 {Post : Tables → Env → Array Value → State → Outcome → State → Prop} (hpost : ∀ tb e args s v u, (limb_1_1.after args s (.returned v) u = true ∧ limb_1_2.after args s (.returned v) u = true ∧ True) → FrameEnd s (.returned v) u (Jvm.fieldLocs frame_1_writes args s ++ Jvm.arrayLocs frame_1_arrays args s ++ Jvm.staticLocs frame_1_statics s) 16 128 → Post tb e args s (.returned v) u) :
    ArmFor flags0 classFile x code maxLocals ret World_1 tables_1 room_1 Calls_1 rest_1 Pre_1 Post := by
  intro l hfl _ _ p e ha hc hk s m args below hf hA hF happ hP
  obtain ⟨hcalls, hrest, hpre⟩ := hP
  obtain ⟨-, -, -, hnamed, -, -, -, hat⟩ := (Spec.applies_iff hf).mp happ
  obtain ⟨hg, hn⟩ := and_e (Cond.before_iff.mp (show (Jvm.Cond.and given_1 narrow_1).before args s = true from hpre))
  obtain ⟨g1, g2⟩ := and_e hg
  obtain ⟨g3, g4⟩ := and_e g2
  obtain ⟨g5, g6⟩ := and_e g4
  obtain ⟨g7, g8⟩ := and_e g6
  obtain ⟨w0, w1, w2, w3, rfl⟩ : ∃ w0 w1 w2 w3 : Value, args = #[w0, w1, w2, w3] := by
    have hs : args.size = 4 := by simpa [Cond.value, given_1] using g1
    obtain ⟨L⟩ := args
    match L, hs with
    | [w0, w1, w2, w3], _ => exact ⟨w0, w1, w2, w3, rfl⟩
  have hw := fun d (hd : d ∈ tables_1) => atoms_spec (ws := Jvm.Cond.code x code maxLocals ret :: tables_1) hat d (List.mem_cons_of_mem _ hd)
  obtain ⟨i0, ei0⟩ := isL_v g3
  obtain rfl : w0 = (.long i0) := Option.some.inj ei0
  obtain ⟨i1, ei1⟩ := isL_v g5
  obtain rfl : w1 = (.long i1) := Option.some.inj ei1
  obtain ⟨i2, ei2⟩ := isL_v g7
  obtain rfl : w2 = (.long i2) := Option.some.inj ei2
  obtain ⟨i3, ei3⟩ := is_v g8
  obtain rfl : w3 = (.int i3) := Option.some.inj ei3
  obtain ⟨n, o, h1, h2, h3, v, L, rfl, hQ0, hq⟩ := rm0 l s _ hw tables_1 i0 i1 i2 i3 s.heap s.heap.size (Nat.le_refl _) p e ha hc hk s m _ below hf ((Spec.applies_iff_loose hf).mp happ).1 ⟨rfl, State.Warmed39.refl s, rfl⟩ trivial
  obtain ⟨rfl, N⟩ : v = some (.int 1) ∧ Fr s.heap.size L := hQ0
  refine ⟨n, _, h1, h2, h3, hpost _ _ _ _ _ _ ⟨Cond.after_iff.mpr rfl, Cond.after_iff.mpr (eq_i res_at (Term.int_eval (1)) rfl), trivial⟩ ⟨hq.1, hq.2.1, (hq.2.2.sift fun y hy => Or.inr (N y hy)).mono (by decide) (by decide)⟩⟩
theorem main_1_1 : Claimed_1_1 := comes_1 fun _ _ _ _ _ _ h hF => ⟨h.1, hF⟩
theorem main_1_2 : Claimed_1_2 := comes_1 fun _ _ _ _ _ _ h hF => ⟨h.2.1, hF⟩
end Jvm.Pilot.@@N@@
namespace Jvm.Pilot.@@N@@
open Jvm Jvm.ClassFile Sem Op Lib Jvm.Free Jvm.Stand Jvm.Pilot.@@N@@.Jvm.D
/-! MADE BY PROGRAM (witnessworld.py) out of the Statement's table words and the real class files: 20 classes; the members and pool entries that the words name. The judged class is class 1, her method 1. -/
namespace start1
open Jvm.ClassFile
def u (s : String) : CpInfo := .utf8 (stringToUtf16 s)
/-- a pool by its gaps: so many unusable entries, then the entry; so many at the end -/
def gap : Nat → List CpInfo → List CpInfo
  | 0, r => r
  | n + 1, r => .unusable :: gap n r
def poolList (es : List (Nat × CpInfo)) (last : Nat) : List CpInfo := es.foldr (fun e r => gap e.1 (e.2 :: r)) (gap last [])
def pool (es : List (Nat × CpInfo)) (last : Nat) : Array CpInfo := ⟨poolList es last⟩
def fileOf (pool : Array CpInfo) (this : Nat) (attrs : Array Attribute := #[]) (ms : Array MethodInfo := #[]) (fl : Nat := 33) (sup : Nat := 0) (ifs : Array Nat := #[]) (fds : Array FieldInfo := #[]) : ClassFile where
  minorVersion := 0
  majorVersion := 65
  constantPool := pool
  accessFlags := fl
  thisClass := this
  superClass := sup
  interfaces := ifs
  fields := fds
  methods := ms
  attributes := attrs
def plain (name : String) (sup : Option ClassId) : Class where
  name := name
  kind := .ordinary
  loader := none
  accessFlags := 33
  super := sup
  interfaces := #[]
  cf := none
  fields := #[]
  methods := #[]
  instanceTypes := #[]
  staticTypes := #[]
  resolved := #[]
  callSites := []
  init := .initialized
  statics := none
  mirror := none

def pool0 : Array CpInfo := pool [(5, u "<init>"), (0, u "()V"), (1, .class_ 10), (1, u "java/lang/Object")] 113

def k0c0 : Code := { maxStack := 0, maxLocals := 1, code := object_method_1_code, exceptionTable := #[], attributes := #[] }
def k0m0 : Method := { name := "<init>", desc := "()V", sig := { parameters := [], returnType := none }, accessFlags := 1, code := some k0c0 }
/-- java/lang/Object -/
def k0 : Class := { plain "java/lang/Object" none with
  accessFlags := 33
  interfaces := #[]
  cf := some (fileOf pool0 8 #[] #[{ accessFlags := 1, nameIndex := 5, descriptorIndex := 6, attributes := #[] }] 33 0 #[] #[])
  fields := #[]
  methods := #[k0m0]
  instanceTypes := #[]
  staticTypes := #[]
  resolved := Array.replicate 124 none
  statics := none }

def pool1 : Array CpInfo := pool [(2, .class_ 4), (0, .nameAndType 5 6), (0, u "java/lang/Object"), (0, u "<init>"), (0, u "()V"), (0, .long 2147483647), (1, .class_ 10), (0, u "com/example/brief_locator/brieflocator/cbor/OpenContainers"), (0, .methodref 9 3), (0, .methodref 9 13), (0, .nameAndType 14 15), (0, u "open"), (0, u "(JZ)V"), (0, .methodref 9 17), (0, .nameAndType 18 19), (0, u "innermostIsMap"), (0, u "()Z"), (0, .methodref 9 21), (0, .nameAndType 22 23), (0, u "close"), (0, u "()J"), (0, .class_ 25), (0, u "com/example/brief_locator/brieflocator/cbor/OpenContainersInnermostIsMapPinLaw"), (2, u "law"), (0, u "(JJJI)Z")] 3

def k1m0 : Method := { name := "<init>", desc := "()V", sig := { parameters := [], returnType := none }, accessFlags := 1, code := none }
def k1c1 : Code := { maxStack := 4, maxLocals := 18, code := code, exceptionTable := #[], attributes := #[] }
def k1m1 : Method := { name := "law", desc := "(JJJI)Z", sig := { parameters := [.long, .long, .long, .int], returnType := some .boolean }, accessFlags := 9, code := some k1c1 }
/-- com/example/brief_locator/brieflocator/cbor/OpenContainersInnermostIsMapPinLaw -/
def k1 : Class := { plain "com/example/brief_locator/brieflocator/cbor/OpenContainersInnermostIsMapPinLaw" (some 0) with
  accessFlags := 49
  interfaces := #[]
  cf := some (fileOf pool1 24 #[] #[{ accessFlags := 1, nameIndex := 5, descriptorIndex := 6, attributes := #[] }, { accessFlags := 9, nameIndex := 28, descriptorIndex := 29, attributes := #[] }] 49 2 #[] #[])
  fields := #[]
  methods := #[k1m0, k1m1]
  instanceTypes := #[]
  staticTypes := #[]
  resolved := Array.replicate 33 none
  statics := none }

def pool2 : Array CpInfo := pool [(1, .methodref 2 3), (0, .class_ 4), (0, .nameAndType 5 6), (0, u "java/lang/Object"), (0, u "<init>"), (0, u "()V"), (0, .fieldref 8 9), (0, .class_ 10), (0, .nameAndType 11 12), (0, u "com/example/brief_locator/brieflocator/cbor/OpenContainers"), (0, u "words"), (0, u "[J"), (0, .methodref 14 15), (0, .class_ 16), (0, .nameAndType 17 18), (0, u "java/lang/Long"), (0, u "numberOfLeadingZeros"), (0, u "(J)I"), (0, .fieldref 8 20), (0, .nameAndType 21 22), (0, u "size"), (0, u "J"), (0, .long 2), (1, .methodref 26 27), (0, .class_ 28), (0, .nameAndType 29 30), (0, u "java/util/Arrays"), (0, u "copyOf"), (0, u "([JI)[J"), (0, .methodref 8 32), (0, .nameAndType 33 34), (0, u "setBits"), (0, u "(JJ)V"), (0, .methodref 8 36), (0, .nameAndType 37 38), (0, u "highestSetBitBelow"), (0, u "(J)J"), (0, .methodref 8 40), (0, .nameAndType 41 38), (0, u "take"), (0, .long 18446744073709551615), (1, .long 63), (3, u "open"), (0, u "(JZ)V"), (1, u "close"), (0, u "()J"), (1, u "()Z"), (0, u "innermostIsMap")] 2

def k2c0 : Code := { maxStack := 2, maxLocals := 1, code := prog_9_method_1_code, exceptionTable := #[], attributes := #[] }
def k2m0 : Method := { name := "<init>", desc := "()V", sig := { parameters := [], returnType := none }, accessFlags := 0, code := some k2c0 }
def k2c1 : Code := { maxStack := 6, maxLocals := 9, code := prog_9_method_2_code, exceptionTable := #[], attributes := #[] }
def k2m1 : Method := { name := "open", desc := "(JZ)V", sig := { parameters := [.long, .boolean], returnType := none }, accessFlags := 0, code := some k2c1 }
def k2c2 : Code := { maxStack := 8, maxLocals := 9, code := prog_9_method_3_code, exceptionTable := #[], attributes := #[] }
def k2m2 : Method := { name := "close", desc := "()J", sig := { parameters := [], returnType := some .long }, accessFlags := 0, code := some k2c2 }
def k2c3 : Code := { maxStack := 6, maxLocals := 3, code := prog_9_method_5_code, exceptionTable := #[], attributes := #[] }
def k2m3 : Method := { name := "innermostIsMap", desc := "()Z", sig := { parameters := [], returnType := some .boolean }, accessFlags := 0, code := some k2c3 }
def k2c4 : Code := { maxStack := 8, maxLocals := 7, code := prog_9_method_6_code, exceptionTable := #[], attributes := #[] }
def k2m4 : Method := { name := "setBits", desc := "(JJ)V", sig := { parameters := [.long, .long], returnType := none }, accessFlags := 2, code := some k2c4 }
def k2c5 : Code := { maxStack := 10, maxLocals := 8, code := prog_9_method_7_code, exceptionTable := #[], attributes := #[] }
def k2m5 : Method := { name := "highestSetBitBelow", desc := "(J)J", sig := { parameters := [.long], returnType := some .long }, accessFlags := 2, code := some k2c5 }
def k2c6 : Code := { maxStack := 8, maxLocals := 7, code := prog_9_method_8_code, exceptionTable := #[], attributes := #[] }
def k2m6 : Method := { name := "take", desc := "(J)J", sig := { parameters := [.long], returnType := some .long }, accessFlags := 2, code := some k2c6 }
/-- com/example/brief_locator/brieflocator/cbor/OpenContainers -/
def k2 : Class := { plain "com/example/brief_locator/brieflocator/cbor/OpenContainers" (some 0) with
  accessFlags := 48
  interfaces := #[]
  cf := some (fileOf pool2 8 #[] #[{ accessFlags := 0, nameIndex := 5, descriptorIndex := 6, attributes := #[] }, { accessFlags := 0, nameIndex := 48, descriptorIndex := 49, attributes := #[] }, { accessFlags := 0, nameIndex := 51, descriptorIndex := 52, attributes := #[] }, { accessFlags := 0, nameIndex := 55, descriptorIndex := 54, attributes := #[] }, { accessFlags := 2, nameIndex := 33, descriptorIndex := 34, attributes := #[] }, { accessFlags := 2, nameIndex := 37, descriptorIndex := 38, attributes := #[] }, { accessFlags := 2, nameIndex := 41, descriptorIndex := 38, attributes := #[] }] 48 2 #[] #[{ accessFlags := 2, nameIndex := 11, descriptorIndex := 12, attributes := #[] }, { accessFlags := 2, nameIndex := 21, descriptorIndex := 22, attributes := #[] }])
  fields := #[{ name := "words", type := (.array .long), accessFlags := 2, slot := 0, constantValue := 0 }, { name := "size", type := .long, accessFlags := 2, slot := 1, constantValue := 0 }]
  methods := #[k2m0, k2m1, k2m2, k2m3, k2m4, k2m5, k2m6]
  instanceTypes := #[(.array .long), .long]
  staticTypes := #[]
  resolved := Array.replicate 58 none
  statics := none }

def pool3 : Array CpInfo := pool [(1, .class_ 2), (0, u "java/io/Serializable"), (0, .class_ 4), (0, u "java/lang/Object")] 2

/-- java/io/Serializable -/
def k3 : Class := { plain "java/io/Serializable" (some 0) with
  accessFlags := 1537
  interfaces := #[]
  cf := some (fileOf pool3 1 #[] #[] 1537 3 #[] #[])
  fields := #[]
  methods := #[]
  instanceTypes := #[]
  staticTypes := #[]
  resolved := Array.replicate 7 none
  statics := none }

def pool4 : Array CpInfo := pool [(2, .class_ 4), (1, u "java/lang/Object"), (0, u "<init>"), (0, u "()V"), (1, .class_ 10), (1, u "java/lang/Number"), (2, .class_ 14), (0, u "java/io/Serializable"), (0, u "serialVersionUID"), (0, u "J")] 20

def k4m0 : Method := { name := "<init>", desc := "()V", sig := { parameters := [], returnType := none }, accessFlags := 1, code := none }
/-- java/lang/Number -/
def k4 : Class := { plain "java/lang/Number" (some 0) with
  accessFlags := 1057
  interfaces := #[3]
  cf := some (fileOf pool4 8 #[] #[{ accessFlags := 1, nameIndex := 5, descriptorIndex := 6, attributes := #[] }] 1057 2 #[13] #[{ accessFlags := 26, nameIndex := 15, descriptorIndex := 16, attributes := #[] }])
  fields := #[{ name := "serialVersionUID", type := .long, accessFlags := 26, slot := 0, constantValue := 0 }]
  methods := #[k4m0]
  instanceTypes := #[]
  staticTypes := #[.long]
  resolved := Array.replicate 37 none
  statics := none }

def pool5 : Array CpInfo := pool [(1, .class_ 2), (0, u "java/lang/Comparable"), (0, .class_ 4), (0, u "java/lang/Object")] 7

/-- java/lang/Comparable -/
def k5 : Class := { plain "java/lang/Comparable" (some 0) with
  accessFlags := 1537
  interfaces := #[]
  cf := some (fileOf pool5 1 #[] #[] 1537 3 #[] #[])
  fields := #[]
  methods := #[]
  instanceTypes := #[]
  staticTypes := #[]
  resolved := Array.replicate 12 none
  statics := none }

def pool6 : Array CpInfo := pool [(1, .class_ 2), (0, u "java/lang/constant/Constable"), (0, .class_ 4), (0, u "java/lang/Object")] 6

/-- java/lang/constant/Constable -/
def k6 : Class := { plain "java/lang/constant/Constable" (some 0) with
  accessFlags := 1537
  interfaces := #[]
  cf := some (fileOf pool6 1 #[] #[] 1537 3 #[] #[])
  fields := #[]
  methods := #[]
  instanceTypes := #[]
  staticTypes := #[]
  resolved := Array.replicate 11 none
  statics := none }

def pool7 : Array CpInfo := pool [(1, .class_ 2), (0, u "java/lang/constant/ConstantDesc"), (0, .class_ 4), (0, u "java/lang/Object")] 32

/-- java/lang/constant/ConstantDesc -/
def k7 : Class := { plain "java/lang/constant/ConstantDesc" (some 0) with
  accessFlags := 1537
  interfaces := #[]
  cf := some (fileOf pool7 1 #[] #[] 1537 3 #[] #[])
  fields := #[]
  methods := #[]
  instanceTypes := #[]
  staticTypes := #[]
  resolved := Array.replicate 37 none
  statics := none }

def pool8 : Array CpInfo := pool [(1, .class_ 2), (0, u "java/lang/Long"), (15, .class_ 20), (1, u "java/lang/Integer"), (79, u "numberOfLeadingZeros"), (0, u "(J)I"), (133, .class_ 237), (1, u "java/lang/Long$LongCache"), (33, .class_ 272), (0, u "java/lang/Number"), (2, u "value"), (0, u "J"), (31, .methodref 18 309), (0, .nameAndType 100 310), (0, u "(I)I"), (50, u "TYPE"), (0, u "Ljava/lang/Class;"), (0, .class_ 364), (0, u "java/lang/Comparable"), (0, .class_ 366), (0, u "java/lang/constant/Constable"), (0, .class_ 368), (0, u "java/lang/constant/ConstantDesc"), (0, u "MIN_VALUE"), (1, u "MAX_VALUE"), (4, u "SIZE"), (0, u "I"), (1, u "BYTES"), (1, u "serialVersionUID")] 142

def k8c0 : Code := { maxStack := 3, maxLocals := 3, code := jdk_35_method_48_code, exceptionTable := #[], attributes := #[] }
def k8m0 : Method := { name := "numberOfLeadingZeros", desc := "(J)I", sig := { parameters := [.long], returnType := some .int }, accessFlags := 9, code := some k8c0 }
/-- java/lang/Long -/
def k8 : Class := { plain "java/lang/Long" (some 4) with
  accessFlags := 49
  interfaces := #[5, 6, 7]
  cf := some (fileOf pool8 1 #[.nestMembers #[235]] #[{ accessFlags := 9, nameIndex := 100, descriptorIndex := 101, attributes := #[] }] 49 271 #[363, 365, 367] #[{ accessFlags := 25, nameIndex := 369, descriptorIndex := 276, attributes := #[] }, { accessFlags := 25, nameIndex := 371, descriptorIndex := 276, attributes := #[] }, { accessFlags := 25, nameIndex := 361, descriptorIndex := 362, attributes := #[] }, { accessFlags := 18, nameIndex := 275, descriptorIndex := 276, attributes := #[] }, { accessFlags := 25, nameIndex := 376, descriptorIndex := 377, attributes := #[] }, { accessFlags := 25, nameIndex := 379, descriptorIndex := 377, attributes := #[] }, { accessFlags := 26, nameIndex := 381, descriptorIndex := 276, attributes := #[] }])
  fields := #[{ name := "MIN_VALUE", type := .long, accessFlags := 25, slot := 0, constantValue := 0 }, { name := "MAX_VALUE", type := .long, accessFlags := 25, slot := 1, constantValue := 0 }, { name := "TYPE", type := (.object "java/lang/Class"), accessFlags := 25, slot := 2, constantValue := 0 }, { name := "value", type := .long, accessFlags := 18, slot := 0, constantValue := 0 }, { name := "SIZE", type := .int, accessFlags := 25, slot := 3, constantValue := 0 }, { name := "BYTES", type := .int, accessFlags := 25, slot := 4, constantValue := 0 }, { name := "serialVersionUID", type := .long, accessFlags := 26, slot := 5, constantValue := 0 }]
  methods := #[k8m0]
  instanceTypes := #[.long]
  staticTypes := #[.long, .long, (.object "java/lang/Class"), .int, .int, .long]
  resolved := Array.replicate 524 none
  statics := none }

def pool9 : Array CpInfo := pool [(1, .class_ 2), (0, u "java/lang/Integer"), (16, u "digits"), (0, u "[C"), (32, u "numberOfLeadingZeros"), (0, u "(I)I"), (30, u "DigitOnes"), (0, u "[B"), (2, u "DigitTens"), (99, .class_ 190), (0, u "java/lang/Integer$IntegerCache"), (3, u "I"), (8, .class_ 204), (0, u "java/lang/Number"), (2, u "value"), (56, .integer 65536), (37, u "TYPE"), (0, u "Ljava/lang/Class;"), (0, .class_ 305), (0, u "java/lang/Comparable"), (0, .class_ 307), (0, u "java/lang/constant/Constable"), (0, .class_ 309), (0, u "java/lang/constant/ConstantDesc"), (0, u "MIN_VALUE"), (1, u "MAX_VALUE"), (3, u "SIZE"), (1, u "BYTES"), (1, u "serialVersionUID"), (0, u "J")] 131

def k9c0 : Code := { maxStack := 3, maxLocals := 2, code := jdk_33_method_47_code, exceptionTable := #[], attributes := #[] }
def k9m0 : Method := { name := "numberOfLeadingZeros", desc := "(I)I", sig := { parameters := [.int], returnType := some .int }, accessFlags := 9, code := some k9c0 }
/-- java/lang/Integer -/
def k9 : Class := { plain "java/lang/Integer" (some 4) with
  accessFlags := 49
  interfaces := #[5, 6, 7]
  cf := some (fileOf pool9 1 #[.nestMembers #[189]] #[{ accessFlags := 9, nameIndex := 53, descriptorIndex := 54, attributes := #[] }] 49 203 #[304, 306, 308] #[{ accessFlags := 25, nameIndex := 310, descriptorIndex := 194, attributes := #[] }, { accessFlags := 25, nameIndex := 312, descriptorIndex := 194, attributes := #[] }, { accessFlags := 25, nameIndex := 302, descriptorIndex := 303, attributes := #[] }, { accessFlags := 24, nameIndex := 19, descriptorIndex := 20, attributes := #[] }, { accessFlags := 24, nameIndex := 89, descriptorIndex := 86, attributes := #[] }, { accessFlags := 24, nameIndex := 85, descriptorIndex := 86, attributes := #[] }, { accessFlags := 18, nameIndex := 207, descriptorIndex := 194, attributes := #[] }, { accessFlags := 25, nameIndex := 316, descriptorIndex := 194, attributes := #[] }, { accessFlags := 25, nameIndex := 318, descriptorIndex := 194, attributes := #[] }, { accessFlags := 26, nameIndex := 320, descriptorIndex := 321, attributes := #[] }])
  fields := #[{ name := "MIN_VALUE", type := .int, accessFlags := 25, slot := 0, constantValue := 0 }, { name := "MAX_VALUE", type := .int, accessFlags := 25, slot := 1, constantValue := 0 }, { name := "TYPE", type := (.object "java/lang/Class"), accessFlags := 25, slot := 2, constantValue := 0 }, { name := "digits", type := (.array .char), accessFlags := 24, slot := 3, constantValue := 0 }, { name := "DigitTens", type := (.array .byte), accessFlags := 24, slot := 4, constantValue := 0 }, { name := "DigitOnes", type := (.array .byte), accessFlags := 24, slot := 5, constantValue := 0 }, { name := "value", type := .int, accessFlags := 18, slot := 0, constantValue := 0 }, { name := "SIZE", type := .int, accessFlags := 25, slot := 6, constantValue := 0 }, { name := "BYTES", type := .int, accessFlags := 25, slot := 7, constantValue := 0 }, { name := "serialVersionUID", type := .long, accessFlags := 26, slot := 8, constantValue := 0 }]
  methods := #[k9m0]
  instanceTypes := #[.int]
  staticTypes := #[.int, .int, (.object "java/lang/Class"), (.array .char), (.array .byte), (.array .byte), .int, .int, .long]
  resolved := Array.replicate 453 none
  statics := none }

def pool10 : Array CpInfo := pool [(2, .class_ 4), (1, u "java/lang/Object"), (0, u "<init>"), (0, u "()V"), (7, .class_ 16), (1, u "java/util/Arrays"), (57, .class_ 76), (1, u "java/util/Arrays$NaturalOrder"), (36, .class_ 115), (1, u "java/util/Arrays$LegacyMergeSort"), (1, u "Z"), (32, .methodref 151 152), (0, .class_ 153), (0, .nameAndType 154 155), (0, u "java/lang/System"), (0, u "arraycopy"), (0, u "(Ljava/lang/Object;ILjava/lang/Object;II)V"), (146, u "copyOf"), (1, .methodref 305 306), (0, .class_ 307), (0, .nameAndType 308 309), (0, u "java/lang/Math"), (0, u "min"), (0, u "(II)I"), (65, .class_ 376), (0, u "java/util/Arrays$ArrayList"), (68, u "$assertionsDisabled"), (269, u "MIN_ARRAY_SORT_GRAN"), (0, u "I"), (2, u "INSERTIONSORT_THRESHOLD"), (152, u "([JI)[J"), (102, .class_ 976), (0, u "java/util/Arrays$ArrayItr")] 52

def k10m0 : Method := { name := "<init>", desc := "()V", sig := { parameters := [], returnType := none }, accessFlags := 2, code := none }
def k10c1 : Code := { maxStack := 6, maxLocals := 3, code := jdk_65_method_124_code, exceptionTable := #[], attributes := #[] }
def k10m1 : Method := { name := "copyOf", desc := "([JI)[J", sig := { parameters := [(.array .long), .int], returnType := some (.array .long) }, accessFlags := 9, code := some k10c1 }
/-- java/util/Arrays -/
def k10 : Class := { plain "java/util/Arrays" (some 0) with
  accessFlags := 49
  interfaces := #[]
  cf := some (fileOf pool10 14 #[.nestMembers #[975, 375, 113, 74]] #[{ accessFlags := 2, nameIndex := 5, descriptorIndex := 6, attributes := #[] }, { accessFlags := 9, nameIndex := 302, descriptorIndex := 872, attributes := #[] }] 49 2 #[] #[{ accessFlags := 26, nameIndex := 715, descriptorIndex := 716, attributes := #[] }, { accessFlags := 26, nameIndex := 719, descriptorIndex := 716, attributes := #[] }, { accessFlags := 4120, nameIndex := 445, descriptorIndex := 117, attributes := #[] }])
  fields := #[{ name := "MIN_ARRAY_SORT_GRAN", type := .int, accessFlags := 26, slot := 0, constantValue := 0 }, { name := "INSERTIONSORT_THRESHOLD", type := .int, accessFlags := 26, slot := 1, constantValue := 0 }, { name := "$assertionsDisabled", type := .boolean, accessFlags := 4120, slot := 2, constantValue := 0 }]
  methods := #[k10m0, k10m1]
  instanceTypes := #[]
  staticTypes := #[.int, .int, .boolean]
  resolved := Array.replicate 1029 none
  statics := none }

def pool11 : Array CpInfo := pool [(1, .class_ 2), (0, u "java/lang/Math"), (1, .class_ 6), (1, u "java/lang/Object"), (0, u "<init>"), (0, u "()V"), (89, .class_ 100), (1, u "java/lang/Math$RandomNumberGeneratorHolder"), (71, u "negativeZeroFloatBits"), (0, u "J"), (2, u "negativeZeroDoubleBits"), (24, u "min"), (43, u "$assertionsDisabled"), (0, u "Z"), (88, u "(II)I"), (2, u "twoToTheDoubleScaleDown"), (0, u "D"), (4, u "twoToTheDoubleScaleUp"), (9, u "E"), (3, u "PI"), (2, u "TAU"), (2, u "DEGREES_TO_RADIANS"), (0, u "RADIANS_TO_DEGREES")] 94

def k11m0 : Method := { name := "<init>", desc := "()V", sig := { parameters := [], returnType := none }, accessFlags := 2, code := none }
def k11c1 : Code := { maxStack := 2, maxLocals := 2, code := jdk_29_method_69_code, exceptionTable := #[], attributes := #[] }
def k11m1 : Method := { name := "min", desc := "(II)I", sig := { parameters := [.int, .int], returnType := some .int }, accessFlags := 9, code := some k11c1 }
/-- java/lang/Math -/
def k11 : Class := { plain "java/lang/Math" (some 0) with
  accessFlags := 49
  interfaces := #[]
  cf := some (fileOf pool11 1 #[.nestMembers #[98]] #[{ accessFlags := 2, nameIndex := 7, descriptorIndex := 8, attributes := #[] }, { accessFlags := 9, nameIndex := 201, descriptorIndex := 335, attributes := #[] }] 49 4 #[] #[{ accessFlags := 25, nameIndex := 354, descriptorIndex := 339, attributes := #[] }, { accessFlags := 25, nameIndex := 358, descriptorIndex := 339, attributes := #[] }, { accessFlags := 25, nameIndex := 361, descriptorIndex := 339, attributes := #[] }, { accessFlags := 26, nameIndex := 364, descriptorIndex := 339, attributes := #[] }, { accessFlags := 26, nameIndex := 365, descriptorIndex := 339, attributes := #[] }, { accessFlags := 26, nameIndex := 172, descriptorIndex := 173, attributes := #[] }, { accessFlags := 26, nameIndex := 176, descriptorIndex := 173, attributes := #[] }, { accessFlags := 8, nameIndex := 344, descriptorIndex := 339, attributes := #[] }, { accessFlags := 8, nameIndex := 338, descriptorIndex := 339, attributes := #[] }, { accessFlags := 4120, nameIndex := 245, descriptorIndex := 246, attributes := #[] }])
  fields := #[{ name := "E", type := .double, accessFlags := 25, slot := 0, constantValue := 0 }, { name := "PI", type := .double, accessFlags := 25, slot := 1, constantValue := 0 }, { name := "TAU", type := .double, accessFlags := 25, slot := 2, constantValue := 0 }, { name := "DEGREES_TO_RADIANS", type := .double, accessFlags := 26, slot := 3, constantValue := 0 }, { name := "RADIANS_TO_DEGREES", type := .double, accessFlags := 26, slot := 4, constantValue := 0 }, { name := "negativeZeroFloatBits", type := .long, accessFlags := 26, slot := 5, constantValue := 0 }, { name := "negativeZeroDoubleBits", type := .long, accessFlags := 26, slot := 6, constantValue := 0 }, { name := "twoToTheDoubleScaleUp", type := .double, accessFlags := 8, slot := 7, constantValue := 0 }, { name := "twoToTheDoubleScaleDown", type := .double, accessFlags := 8, slot := 8, constantValue := 0 }, { name := "$assertionsDisabled", type := .boolean, accessFlags := 4120, slot := 9, constantValue := 0 }]
  methods := #[k11m0, k11m1]
  instanceTypes := #[]
  staticTypes := #[.double, .double, .double, .double, .double, .long, .long, .double, .double, .boolean]
  resolved := Array.replicate 460 none
  statics := none }

def pool12 : Array CpInfo := pool [(2, .class_ 4), (1, u "java/lang/Object"), (0, u "<init>"), (0, u "()V"), (1, .class_ 10), (1, u "java/lang/System"), (0, u "allowSecurityManager"), (0, u "I"), (16, u "cons"), (0, u "Ljava/io/Console;"), (77, .class_ 110), (1, u "java/lang/System$CallersHolder"), (43, u "initialErrStream"), (0, u "Ljava/io/PrintStream;"), (19, u "security"), (0, u "Ljava/lang/SecurityManager;"), (31, .class_ 209), (0, u "java/lang/System$1"), (7, u "props"), (0, u "Ljava/util/Properties;"), (2, u "lineSeparator"), (0, u "Ljava/lang/String;"), (96, .class_ 321), (1, u "java/lang/System$LoggerFinder"), (5, .class_ 328), (0, u "java/lang/System$Logger"), (67, u "err"), (2, u "out"), (91, u "notSupportedJnuEncoding"), (15, u "in"), (17, u "initialIn"), (0, u "Ljava/io/InputStream;"), (35, u "bootLayer"), (0, u "Ljava/lang/ModuleLayer;"), (99, .class_ 664), (0, u "java/lang/System$2"), (9, u "NEVER"), (2, u "MAYBE"), (49, u "arraycopy"), (0, u "(Ljava/lang/Object;ILjava/lang/Object;II)V"), (72, .class_ 802), (0, u "java/lang/System$Logger$Level")] 31

def k12m0 : Method := { name := "<init>", desc := "()V", sig := { parameters := [], returnType := none }, accessFlags := 2, code := none }
def k12m1 : Method := { name := "arraycopy", desc := "(Ljava/lang/Object;ILjava/lang/Object;II)V", sig := { parameters := [(.object "java/lang/Object"), .int, (.object "java/lang/Object"), .int, .int], returnType := none }, accessFlags := 265, code := none }
/-- java/lang/System -/
def k12 : Class := { plain "java/lang/System" (some 0) with
  accessFlags := 49
  interfaces := #[]
  cf := some (fileOf pool12 8 #[.nestMembers #[319, 327, 801, 108, 663, 208]] #[{ accessFlags := 2, nameIndex := 5, descriptorIndex := 6, attributes := #[] }, { accessFlags := 265, nameIndex := 727, descriptorIndex := 728, attributes := #[] }] 49 2 #[] #[{ accessFlags := 25, nameIndex := 507, descriptorIndex := 526, attributes := #[] }, { accessFlags := 25, nameIndex := 399, descriptorIndex := 155, attributes := #[] }, { accessFlags := 25, nameIndex := 396, descriptorIndex := 155, attributes := #[] }, { accessFlags := 10, nameIndex := 525, descriptorIndex := 526, attributes := #[] }, { accessFlags := 26, nameIndex := 674, descriptorIndex := 12, attributes := #[] }, { accessFlags := 26, nameIndex := 677, descriptorIndex := 12, attributes := #[] }, { accessFlags := 10, nameIndex := 11, descriptorIndex := 12, attributes := #[] }, { accessFlags := 74, nameIndex := 175, descriptorIndex := 176, attributes := #[] }, { accessFlags := 10, nameIndex := 491, descriptorIndex := 222, attributes := #[] }, { accessFlags := 74, nameIndex := 29, descriptorIndex := 30, attributes := #[] }, { accessFlags := 74, nameIndex := 154, descriptorIndex := 155, attributes := #[] }, { accessFlags := 10, nameIndex := 217, descriptorIndex := 218, attributes := #[] }, { accessFlags := 10, nameIndex := 221, descriptorIndex := 222, attributes := #[] }, { accessFlags := 8, nameIndex := 562, descriptorIndex := 563, attributes := #[] }])
  fields := #[{ name := "in", type := (.object "java/io/InputStream"), accessFlags := 25, slot := 0, constantValue := 0 }, { name := "out", type := (.object "java/io/PrintStream"), accessFlags := 25, slot := 1, constantValue := 0 }, { name := "err", type := (.object "java/io/PrintStream"), accessFlags := 25, slot := 2, constantValue := 0 }, { name := "initialIn", type := (.object "java/io/InputStream"), accessFlags := 10, slot := 3, constantValue := 0 }, { name := "NEVER", type := .int, accessFlags := 26, slot := 4, constantValue := 0 }, { name := "MAYBE", type := .int, accessFlags := 26, slot := 5, constantValue := 0 }, { name := "allowSecurityManager", type := .int, accessFlags := 10, slot := 6, constantValue := 0 }, { name := "security", type := (.object "java/lang/SecurityManager"), accessFlags := 74, slot := 7, constantValue := 0 }, { name := "notSupportedJnuEncoding", type := (.object "java/lang/String"), accessFlags := 10, slot := 8, constantValue := 0 }, { name := "cons", type := (.object "java/io/Console"), accessFlags := 74, slot := 9, constantValue := 0 }, { name := "initialErrStream", type := (.object "java/io/PrintStream"), accessFlags := 74, slot := 10, constantValue := 0 }, { name := "props", type := (.object "java/util/Properties"), accessFlags := 10, slot := 11, constantValue := 0 }, { name := "lineSeparator", type := (.object "java/lang/String"), accessFlags := 10, slot := 12, constantValue := 0 }, { name := "bootLayer", type := (.object "java/lang/ModuleLayer"), accessFlags := 8, slot := 13, constantValue := 0 }]
  methods := #[k12m0, k12m1]
  instanceTypes := #[]
  staticTypes := #[(.object "java/io/InputStream"), (.object "java/io/PrintStream"), (.object "java/io/PrintStream"), (.object "java/io/InputStream"), .int, .int, .int, (.object "java/lang/SecurityManager"), (.object "java/lang/String"), (.object "java/io/Console"), (.object "java/io/PrintStream"), (.object "java/util/Properties"), (.object "java/lang/String"), (.object "java/lang/ModuleLayer")]
  resolved := Array.replicate 834 none
  statics := none }

def pool13 : Array CpInfo := pool [(1, u "java/lang/Cloneable"), (0, .class_ 1), (0, u "java/lang/Object"), (0, .class_ 3)] 3

/-- java/lang/Cloneable -/
def k13 : Class := { plain "java/lang/Cloneable" (some 0) with
  accessFlags := 1537
  interfaces := #[]
  cf := some (fileOf pool13 2 #[] #[] 1537 4 #[] #[])
  fields := #[]
  methods := #[]
  instanceTypes := #[]
  staticTypes := #[]
  resolved := Array.replicate 8 none
  statics := none }

/-- the primitive byte -/
def k14 : Class := { plain "byte" none with kind := .primitive 'B', accessFlags := 0x411 }
/-- [B -/
def k15 : Class := { plain "[B" (some 0) with kind := .array 14 .byte, interfaces := #[13, 3], accessFlags := 1041 }

/-- the primitive int -/
def k16 : Class := { plain "int" none with kind := .primitive 'I', accessFlags := 0x411 }
/-- [I -/
def k17 : Class := { plain "[I" (some 0) with kind := .array 16 .int, interfaces := #[13, 3], accessFlags := 1041 }

/-- the primitive long -/
def k18 : Class := { plain "long" none with kind := .primitive 'J', accessFlags := 0x411 }
/-- [J -/
def k19 : Class := { plain "[J" (some 0) with kind := .array 18 .long, interfaces := #[13, 3], accessFlags := 1041 }

def heap : Heap := #[]
def classes : Array Class := #[k0, k1, k2, k3, k4, k5, k6, k7, k8, k9, k10, k11, k12, k13, k14, k15, k16, k17, k18, k19]
def interned : List (Array UInt16 × Addr) := []
def slotsUsed : Nat := 0
def theMethod : MethodId := ⟨1, 1⟩
def args0 : Array Value := #[.long 3, .long 1, .long 7, .int 2]
def aboutOver (below : List Frame) : State where
  vm := { classes := classes, interned := interned.toArray }
  heap := heap
  slotsUsed := slotsUsed
  threads := #[{ frames := .invoking theMethod args0 :: below }]
def below0 : List Frame := [.native { method := ⟨0, 0⟩, args := #[] }]
def about1 : State := aboutOver below0
def p0 : Program := .bare "" "" ""
def e0 : Env := launch0.env 0 0 0
theorem w_frames : about1.frames = Frame.invoking theMethod args0 :: below0 := rfl
set_option maxRecDepth 65536 in
theorem w_args : argsFit about1.vm theMethod args0 = true := by decide +kernel
set_option maxRecDepth 65536 in
theorem w_heap : heapFits about1 = true := by decide +kernel
set_option maxRecDepth 65536 in
theorem w_runnable : about1.curStatus? = some .runnable := by decide +kernel
set_option maxRecDepth 65536 in
theorem w_alone : about1.alone = true := by decide +kernel
set_option maxRecDepth 65536 in
theorem w_named : about1.methodNamed? x = some theMethod := by decide +kernel
set_option maxRecDepth 65536 in
theorem w_hears : about1.hears theMethod below0 = true := by decide +kernel
set_option maxRecDepth 65536 in
theorem w_ripe : about1.ripe theMethod args0 below0 = true := by decide +kernel
theorem w_running : about1.status = .running := rfl
set_option maxRecDepth 65536 in
theorem w_room : about1.hasRoom e0.platform room_1 = true :=
  launch0.hasRoom_least _ room_1 (by decide +kernel) (by decide +kernel) (by decide +kernel) (by decide +kernel) (by decide +kernel) (by decide +kernel)
theorem allAtoms_all (ts : List Jvm.Cond) (a : Array Jvm.Value) (st : Jvm.State) : (allAtoms ts).before a st = ts.all (fun c => c.before a st) := by
  induction ts with
  | nil => rfl
  | cons c t ih =>
    show (Jvm.Cond.and c (allAtoms t)).before a st = _
    rw [Jvm.Cond.before_and, ih, List.all_cons]
def words1 : List Jvm.Cond := Jvm.Cond.code x code maxLocals ret :: tables_1
/-- a 'code' word, met by the world's own term for the bytes: nothing is compared byte by byte -/
theorem code_word {y : MethodName} {bytes : ByteArray} {mx : Nat} {rt : Option FieldType} {a : Array Value} {s : State} {m : MethodId} {meth : Method} {c : Code} (h1 : s.methodNamed? y = some m) (h2 : s.vm.method? m = some meth) (h3 : meth.code = some c) (h4 : c.code = bytes)
    (h5 : (c.maxLocals == mx && c.exceptionTable.isEmpty && decide (c.maxStack ≤ mostOperands) && decide (meth.sig.returnType = rt) && !meth.locks && decide (parseMethodDescriptor y.desc = some meth.sig)) = true) : (Jvm.Cond.code y bytes mx rt).before a s = true := by
  simp only [Bool.and_eq_true, beq_iff_eq, Bool.not_eq_true', decide_eq_true_eq] at h5
  obtain ⟨⟨⟨⟨⟨g1, g2⟩, g3⟩, g4⟩, g5⟩, g6⟩ := h5
  simp [Cond.before, Cond.holds, Cond.value, h1, h2, h3, h4, g1, g2, g3, g4, g5, g6]
def isCode : Jvm.Cond → Bool
  | .code _ _ _ _ => true
  | _ => false
theorem all_split {L : List Jvm.Cond} {P : Jvm.Cond → Bool} (h1 : L.all (fun c => isCode c || P c) = true) (h2 : ∀ c ∈ L.filter isCode, P c = true) : L.all P = true := by
  refine List.all_eq_true.mpr fun c hc => ?_
  have h := List.all_eq_true.mp h1 c hc
  rcases Bool.eq_false_or_eq_true (isCode c) with hi | hi
  · exact h2 c (List.mem_filter.mpr ⟨hc, hi⟩)
  · simpa [hi] using h
set_option maxRecDepth 65536 in
theorem w_c0 : (Jvm.Cond.code x code maxLocals ret).before args0 about1 = true := code_word (m := ⟨1, 1⟩) (meth := k1m1) (c := k1c1) (by decide +kernel) rfl rfl rfl (by decide +kernel)
set_option maxRecDepth 65536 in
theorem w_c1 : (Jvm.Cond.code ({ cls := "com/example/brief_locator/brieflocator/cbor/OpenContainers", name := "<init>", desc := "()V" } : Jvm.MethodName) prog_9_method_1_code (1 : Nat) (Option.none : Option Jvm.ClassFile.FieldType)).before args0 about1 = true := code_word (m := ⟨2, 0⟩) (meth := k2m0) (c := k2c0) (by decide +kernel) rfl rfl rfl (by decide +kernel)
set_option maxRecDepth 65536 in
theorem w_c2 : (Jvm.Cond.code ({ cls := "java/lang/Object", name := "<init>", desc := "()V" } : Jvm.MethodName) object_method_1_code (1 : Nat) (Option.none : Option Jvm.ClassFile.FieldType)).before args0 about1 = true := code_word (m := ⟨0, 0⟩) (meth := k0m0) (c := k0c0) (by decide +kernel) rfl rfl rfl (by decide +kernel)
set_option maxRecDepth 65536 in
theorem w_c3 : (Jvm.Cond.code ({ cls := "com/example/brief_locator/brieflocator/cbor/OpenContainers", name := "open", desc := "(JZ)V" } : Jvm.MethodName) prog_9_method_2_code (9 : Nat) (Option.none : Option Jvm.ClassFile.FieldType)).before args0 about1 = true := code_word (m := ⟨2, 1⟩) (meth := k2m1) (c := k2c1) (by decide +kernel) rfl rfl rfl (by decide +kernel)
set_option maxRecDepth 65536 in
theorem w_c4 : (Jvm.Cond.code ({ cls := "java/lang/Long", name := "numberOfLeadingZeros", desc := "(J)I" } : Jvm.MethodName) jdk_35_method_48_code (3 : Nat) (Option.some Jvm.ClassFile.FieldType.int)).before args0 about1 = true := code_word (m := ⟨8, 0⟩) (meth := k8m0) (c := k8c0) (by decide +kernel) rfl rfl rfl (by decide +kernel)
set_option maxRecDepth 65536 in
theorem w_c5 : (Jvm.Cond.code ({ cls := "java/lang/Integer", name := "numberOfLeadingZeros", desc := "(I)I" } : Jvm.MethodName) jdk_33_method_47_code (2 : Nat) (Option.some Jvm.ClassFile.FieldType.int)).before args0 about1 = true := code_word (m := ⟨9, 0⟩) (meth := k9m0) (c := k9c0) (by decide +kernel) rfl rfl rfl (by decide +kernel)
set_option maxRecDepth 65536 in
theorem w_c6 : (Jvm.Cond.code ({ cls := "com/example/brief_locator/brieflocator/cbor/OpenContainers", name := "setBits", desc := "(JJ)V" } : Jvm.MethodName) prog_9_method_6_code (7 : Nat) (Option.none : Option Jvm.ClassFile.FieldType)).before args0 about1 = true := code_word (m := ⟨2, 4⟩) (meth := k2m4) (c := k2c4) (by decide +kernel) rfl rfl rfl (by decide +kernel)
set_option maxRecDepth 65536 in
theorem w_c7 : (Jvm.Cond.code ({ cls := "com/example/brief_locator/brieflocator/cbor/OpenContainers", name := "innermostIsMap", desc := "()Z" } : Jvm.MethodName) prog_9_method_5_code (3 : Nat) (Option.some Jvm.ClassFile.FieldType.boolean)).before args0 about1 = true := code_word (m := ⟨2, 3⟩) (meth := k2m3) (c := k2c3) (by decide +kernel) rfl rfl rfl (by decide +kernel)
set_option maxRecDepth 65536 in
theorem w_c8 : (Jvm.Cond.code ({ cls := "java/util/Arrays", name := "copyOf", desc := "([JI)[J" } : Jvm.MethodName) jdk_65_method_124_code (3 : Nat) (Option.some (Jvm.ClassFile.FieldType.array Jvm.ClassFile.FieldType.long))).before args0 about1 = true := code_word (m := ⟨10, 1⟩) (meth := k10m1) (c := k10c1) (by decide +kernel) rfl rfl rfl (by decide +kernel)
set_option maxRecDepth 65536 in
theorem w_c9 : (Jvm.Cond.code ({ cls := "java/lang/Math", name := "min", desc := "(II)I" } : Jvm.MethodName) jdk_29_method_69_code (2 : Nat) (Option.some Jvm.ClassFile.FieldType.int)).before args0 about1 = true := code_word (m := ⟨11, 1⟩) (meth := k11m1) (c := k11c1) (by decide +kernel) rfl rfl rfl (by decide +kernel)
set_option maxRecDepth 65536 in
theorem w_c10 : (Jvm.Cond.code ({ cls := "com/example/brief_locator/brieflocator/cbor/OpenContainers", name := "close", desc := "()J" } : Jvm.MethodName) prog_9_method_3_code (9 : Nat) (Option.some Jvm.ClassFile.FieldType.long)).before args0 about1 = true := code_word (m := ⟨2, 2⟩) (meth := k2m2) (c := k2c2) (by decide +kernel) rfl rfl rfl (by decide +kernel)
set_option maxRecDepth 65536 in
theorem w_c11 : (Jvm.Cond.code ({ cls := "com/example/brief_locator/brieflocator/cbor/OpenContainers", name := "highestSetBitBelow", desc := "(J)J" } : Jvm.MethodName) prog_9_method_7_code (8 : Nat) (Option.some Jvm.ClassFile.FieldType.long)).before args0 about1 = true := code_word (m := ⟨2, 5⟩) (meth := k2m5) (c := k2c5) (by decide +kernel) rfl rfl rfl (by decide +kernel)
set_option maxRecDepth 65536 in
theorem w_c12 : (Jvm.Cond.code ({ cls := "com/example/brief_locator/brieflocator/cbor/OpenContainers", name := "take", desc := "(J)J" } : Jvm.MethodName) prog_9_method_8_code (7 : Nat) (Option.some Jvm.ClassFile.FieldType.long)).before args0 about1 = true := code_word (m := ⟨2, 6⟩) (meth := k2m6) (c := k2c6) (by decide +kernel) rfl rfl rfl (by decide +kernel)
def codes1 : List Jvm.Cond := [Jvm.Cond.code x code maxLocals ret, Jvm.Cond.code ({ cls := "com/example/brief_locator/brieflocator/cbor/OpenContainers", name := "<init>", desc := "()V" } : Jvm.MethodName) prog_9_method_1_code (1 : Nat) (Option.none : Option Jvm.ClassFile.FieldType), Jvm.Cond.code ({ cls := "java/lang/Object", name := "<init>", desc := "()V" } : Jvm.MethodName) object_method_1_code (1 : Nat) (Option.none : Option Jvm.ClassFile.FieldType), Jvm.Cond.code ({ cls := "com/example/brief_locator/brieflocator/cbor/OpenContainers", name := "open", desc := "(JZ)V" } : Jvm.MethodName) prog_9_method_2_code (9 : Nat) (Option.none : Option Jvm.ClassFile.FieldType), Jvm.Cond.code ({ cls := "java/lang/Long", name := "numberOfLeadingZeros", desc := "(J)I" } : Jvm.MethodName) jdk_35_method_48_code (3 : Nat) (Option.some Jvm.ClassFile.FieldType.int), Jvm.Cond.code ({ cls := "java/lang/Integer", name := "numberOfLeadingZeros", desc := "(I)I" } : Jvm.MethodName) jdk_33_method_47_code (2 : Nat) (Option.some Jvm.ClassFile.FieldType.int), Jvm.Cond.code ({ cls := "com/example/brief_locator/brieflocator/cbor/OpenContainers", name := "setBits", desc := "(JJ)V" } : Jvm.MethodName) prog_9_method_6_code (7 : Nat) (Option.none : Option Jvm.ClassFile.FieldType), Jvm.Cond.code ({ cls := "com/example/brief_locator/brieflocator/cbor/OpenContainers", name := "innermostIsMap", desc := "()Z" } : Jvm.MethodName) prog_9_method_5_code (3 : Nat) (Option.some Jvm.ClassFile.FieldType.boolean), Jvm.Cond.code ({ cls := "java/util/Arrays", name := "copyOf", desc := "([JI)[J" } : Jvm.MethodName) jdk_65_method_124_code (3 : Nat) (Option.some (Jvm.ClassFile.FieldType.array Jvm.ClassFile.FieldType.long)), Jvm.Cond.code ({ cls := "java/lang/Math", name := "min", desc := "(II)I" } : Jvm.MethodName) jdk_29_method_69_code (2 : Nat) (Option.some Jvm.ClassFile.FieldType.int), Jvm.Cond.code ({ cls := "com/example/brief_locator/brieflocator/cbor/OpenContainers", name := "close", desc := "()J" } : Jvm.MethodName) prog_9_method_3_code (9 : Nat) (Option.some Jvm.ClassFile.FieldType.long), Jvm.Cond.code ({ cls := "com/example/brief_locator/brieflocator/cbor/OpenContainers", name := "highestSetBitBelow", desc := "(J)J" } : Jvm.MethodName) prog_9_method_7_code (8 : Nat) (Option.some Jvm.ClassFile.FieldType.long), Jvm.Cond.code ({ cls := "com/example/brief_locator/brieflocator/cbor/OpenContainers", name := "take", desc := "(J)J" } : Jvm.MethodName) prog_9_method_8_code (7 : Nat) (Option.some Jvm.ClassFile.FieldType.long)]
set_option maxRecDepth 65536 in
theorem codes_eq : words1.filter isCode = codes1 := rfl
theorem w_codes : ∀ c ∈ words1.filter isCode, c.before args0 about1 = true := by
  rw [codes_eq]
  intro c hc
  simp only [codes1, List.mem_cons, List.not_mem_nil, or_false] at hc
  rcases hc with rfl | rfl | rfl | rfl | rfl | rfl | rfl | rfl | rfl | rfl | rfl | rfl | rfl
  · exact w_c0
  · exact w_c1
  · exact w_c2
  · exact w_c3
  · exact w_c4
  · exact w_c5
  · exact w_c6
  · exact w_c7
  · exact w_c8
  · exact w_c9
  · exact w_c10
  · exact w_c11
  · exact w_c12
set_option maxRecDepth 65536 in
theorem w_t1 : (words1.take 24).all (fun c => isCode c || c.before args0 about1) = true := by decide +kernel
set_option maxRecDepth 65536 in
theorem w_t2 : ((words1.drop 24).take 24).all (fun c => isCode c || c.before args0 about1) = true := by decide +kernel
set_option maxRecDepth 65536 in
theorem w_t3 : ((words1.drop 24).drop 24).all (fun c => isCode c || c.before args0 about1) = true := by decide +kernel
theorem w_tables : (allAtoms (Jvm.Cond.code x code maxLocals ret :: tables_1)).before args0 about1 = true := by
  rw [allAtoms_all]
  show words1.all (fun c => c.before args0 about1) = true
  refine all_split ?_ w_codes
  rw [← List.take_append_drop 24 words1, List.all_append, w_t1, ← List.take_append_drop 24 (words1.drop 24), List.all_append, w_t2, w_t3]
  rfl
set_option maxRecDepth 65536 in
theorem w_case : (Jvm.Cond.and given_1 narrow_1).before args0 about1 = true := by decide +kernel
theorem w_applies : (headSpec (Jvm.Cond.code x code maxLocals ret :: tables_1) room_1).applies x e0.platform about1 = true :=
  (Spec.applies_iff w_frames).mpr ⟨w_running, w_runnable, w_alone, w_named, w_hears, w_ripe, w_room, w_tables⟩
theorem atStart : AtStart classFile x code maxLocals ret World_1 tables_1 room_1 Calls_1 rest_1 Pre_1 launch0 p0 e0 about1 theMethod args0 below0 :=
  ⟨lists_1, trivial, launch0.admits_env _ _ _, launch0.least_env, fairChoices_fair.cas, fairChoices_fair.clock, w_frames, w_args, w_heap, w_applies, trivial, trivial, w_case⟩
end start1
theorem witness_1 : WitnessClaimed_1 := ⟨start1.p0, start1.e0, start1.about1, start1.theMethod, start1.args0, start1.below0, start1.atStart⟩
end Jvm.Pilot.@@N@@
