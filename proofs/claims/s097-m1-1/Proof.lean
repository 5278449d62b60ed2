import JvmDerived
import JvmDerived.Pilot.@@N@@Statement
import JvmDerived.Pilot.@@N@@Code
set_option linter.unusedVariables false
set_option linter.unusedSimpArgs false
namespace Jvm.RoadKit
open Sem ClassFile Op Lib Jvm.Stand Jvm.Free Jvm.LawKit
section Own
variable {p : Program} {l : Launch} {e : Env} {R : Room} {s : State} {m : MethodId} {args : Array Value} {below : List Frame} {meth : Method} {c : Code} {T : State} {locs : List Loc} {cells slots : Nat}
/-- from U the run ends, and Q holds of what it returns -/
def Outs (p : Program) (e : Env) (below : List Frame) (s : State) (Q : Option Value → Heap → List Loc → Prop) (C S : Nat) (U : State) : Prop :=
  ∃ s₂ o, Steps p.tables e below U s₂ ∧ s₂.status = .running ∧ Ended s₂ below o ∧ ∃ v L, o = .returned v ∧ Q v s₂.heap L ∧ FrameEnd s o s₂ L C S
variable {Q : Option Value → Heap → List Loc → Prop} {C S : Nat}
theorem Outs.of {U U' : State} (h : ∀ t, Steps p.tables e below U' t → Steps p.tables e below U t) (k : Outs p e below s Q C S U') : Outs p e below s Q C S U := by
  obtain ⟨t, o, st, r⟩ := k
  exact ⟨t, o, h t st, r⟩
theorem Outs.to {U U' : State} (h : Steps p.tables e below U U') (k : Outs p e below s Q C S U') : Outs p e below s Q C S U := by
  obtain ⟨t, o, st, r⟩ := k
  exact ⟨t, o, h.trans st, r⟩
theorem Outs.mono {U : State} {Q' : Option Value → Heap → List Loc → Prop} (k : Outs p e below s Q C S U) (h : ∀ v h L, Q v h L → Q' v h L) : Outs p e below s Q' C S U := by
  obtain ⟨t, o, st, h1, h2, v, L, h3, h4, h5⟩ := k
  exact ⟨t, o, st, h1, h2, v, L, h3, h _ _ _ h4, h5⟩
theorem Outs.ret (X : Stand p l e R s m args below meth c T locs cells slots) {g : JFrame} {v : Option Value} (hv : meth.sig.returnType = none → v = none) (hlk : meth.locks = false) (hC : cells ≤ C) (hS : slots ≤ S)
    (st : ∀ fs, (∀ (f : JFrame) (acts : List Action), f.method = m → f.locked = none → f.entered = [] → (doReturn e (T.setTop f) acts v).1 = T.setFrames fs) → Steps p.tables e below (T.setTop g) (T.setFrames fs))
    {h : Heap} (eT : T.heap = h) (q : Q v h locs) : Outs p e below s Q C S (T.setTop g) := by
  subst eT
  obtain ⟨fs, hr, hrun, hended, hW, hsame⟩ := X.leave (v := v) hv hlk
  exact ⟨_, _, st fs hr, hrun, hended, v, locs, rfl, q, ⟨_, rfl⟩, hW, hsame.mono hC hS⟩
theorem Outs.retI (X : Stand p l e R s m args below meth c T locs cells slots) (hx : p.tables.exec = Jvm.exec) {pc : Nat} {Ls : Array Slot} {z : Int32} {rest : List Value} (hret : meth.sig.returnType = some .int) (hd : decode c.code pc = .ok (.ireturn, 1)) (hlk : meth.locks = false) (hC : cells ≤ C) (hS : slots ≤ S)
    {h : Heap} (eT : T.heap = h) (q : Q (some (.int z)) h locs) : Outs p e below s Q C S (T.setTop (mkF m pc Ls (.int z :: rest))) :=
  Outs.ret X (fun h => by rw [hret] at h; cases h) hlk hC hS (fun fs hl => retOut X hx hret rfl (Or.inl ⟨rfl, Or.inl rfl, z, rfl⟩) hd hl) eT q
theorem Outs.retL (X : Stand p l e R s m args below meth c T locs cells slots) (hx : p.tables.exec = Jvm.exec) {pc : Nat} {Ls : Array Slot} {z : Int64} {rest : List Value} (hret : meth.sig.returnType = some .long) (hd : decode c.code pc = .ok (.lreturn, 1)) (hlk : meth.locks = false) (hC : cells ≤ C) (hS : slots ≤ S)
    {h : Heap} (eT : T.heap = h) (q : Q (some (.long z)) h locs) : Outs p e below s Q C S (T.setTop (mkF m pc Ls (.long z :: rest))) :=
  Outs.ret X (fun h => by rw [hret] at h; cases h) hlk hC hS (fun fs hl => retOut X hx hret rfl (Or.inr (Or.inl ⟨rfl, rfl, z, rfl⟩)) hd hl) eT q
theorem Outs.retN (X : Stand p l e R s m args below meth c T locs cells slots) (hx : p.tables.exec = Jvm.exec) {pc : Nat} {Ls : Array Slot} {z : Int32} {t : FieldType} {rest : List Value} (hret : meth.sig.returnType = some t) (ht : t = .boolean ∨ t = .byte ∨ t = .char ∨ t = .short) (hd : decode c.code pc = .ok (.ireturn, 1)) (hlk : meth.locks = false) (hC : cells ≤ C) (hS : slots ≤ S)
    {h : Heap} (eT : T.heap = h) (q : Q (some (.int (nar t z))) h locs) : Outs p e below s Q C S (T.setTop (mkF m pc Ls (.int z :: rest))) :=
  Outs.ret X (fun h => by rw [hret] at h; cases h) hlk hC hS (fun fs hl => Jvm.RoadKit.retN X hx hret ht hd hl) eT q
theorem Outs.retV (X : Stand p l e R s m args below meth c T locs cells slots) (hx : p.tables.exec = Jvm.exec) {pc : Nat} {Ls : Array Slot} (hret : meth.sig.returnType = none) (hd : decode c.code pc = .ok (.return_, 1)) (hlk : meth.locks = false) (hC : cells ≤ C) (hS : slots ≤ S)
    {h : Heap} (eT : T.heap = h) (q : Q none h locs) : Outs p e below s Q C S (T.setTop (mkF m pc Ls [])) :=
  Outs.ret X (fun _ => rfl) hlk hC hS (fun fs hl => X.returnOut hx hret hd hl) eT q
theorem Outs.retA (X : Stand p l e R s m args below meth c T locs cells slots) (hx : p.tables.exec = Jvm.exec) {pc : Nat} {Ls : Array Slot} {w : Value} {t : FieldType} {rest : List Value} (hret : meth.sig.returnType = some t) (ht : t.isReference = true) (hw : w.isRef = true) (hn : narrow t w = w) (hd : decode c.code pc = .ok (.areturn, 1)) (hlk : meth.locks = false) (hC : cells ≤ C) (hS : slots ≤ S)
    {h : Heap} (eT : T.heap = h) (q : Q (some w) h locs) : Outs p e below s Q C S (T.setTop (mkF m pc Ls (w :: rest))) :=
  Outs.ret X (fun h => by rw [hret] at h; cases h) hlk hC hS (fun fs hl => retOut X hx hret hn (Or.inr (Or.inr (Or.inr (Or.inr ⟨rfl, ht, hw⟩)))) hd hl) eT q
theorem lremM {g : JFrame} {target : State} (X : Stand p l e R s m args below meth c T locs cells slots) (hx : p.tables.exec = Jvm.exec) (hg : g.method = m) {x y : Int64} {rest : List Value} (hd : decode c.code g.pc = .ok (.lrem, 1)) (hs : g.stack = .long y :: .long x :: rest) (hy : y ≠ 0)
    (hr : Steps p.tables e below (T.setTop { g with pc := g.pc + 1, stack := .long (x % y) :: rest }) target) : Steps p.tables e below (T.setTop g) target :=
  XS.lrem X.here hx hg hd hs hy (by rw [lrem_mod]; exact hr)
/-- a body that returns v and leaves the heap as it was -/
def QR (z : Option Value) (h0 : Heap) (n0 : Nat) (v : Option Value) (h : Heap) (L : List Loc) : Prop := v = z ∧ Fr n0 L ∧ h = h0
/-- the law's own -/
def QL (n0 : Nat) (v : Option Value) (h : Heap) (L : List Loc) : Prop := v = some (.int 1) ∧ Fr n0 L
end Own
end Jvm.RoadKit
namespace Jvm.RoadKit
open Sem ClassFile Op Lib Jvm.Stand Jvm.Free Jvm.LawKit
section OwnHeap
variable {p : Program} {l : Launch} {e : Env} {R : Room} {s : State} {m : MethodId} {args : Array Value} {below : List Frame} {meth : Method} {c : Code} {T : State} {locs : List Loc} {cells slots : Nat} {Z : State} {a0 : Array Value} {h h' : Heap} {a b : Addr} {ty : FieldType} {n : Nat}
def upv {α : Type} (g : Nat → α) (k : Nat) (v : α) : Nat → α := fun j => if j = k then v else g j
theorem upv_same {α : Type} (g : Nat → α) (k : Nat) (v : α) : upv g k v k = v := if_pos rfl
theorem upv_ne {α : Type} (g : Nat → α) {k j : Nat} (v : α) (q : j ≠ k) : upv g k v j = g j := if_neg q
/-- an array of n places; place j holds f j -/
def AF (Z : State) (h : Heap) (a : Addr) (ty : FieldType) (n : Nat) (f : Nat → Value) : Prop :=
  ∃ c : Cell, Arr Z h a c ty ∧ c.slots.size = n ∧ n < 2147483648 ∧ ∀ j, j < n → c.slots[j]? = some (f j)
def AI (Z : State) (h : Heap) (a : Addr) (ty : FieldType) (n : Nat) (g : Nat → Int32) : Prop := AF Z h a ty n (fun j => .int (g j))
def AJ (Z : State) (h : Heap) (a : Addr) (ty : FieldType) (n : Nat) (g : Nat → Int64) : Prop := AF Z h a ty n (fun j => .long (g j))
theorem AF.lt {f : Nat → Value} (F : AF Z h a ty n f) : a < h.size := by obtain ⟨c, A, -⟩ := F; exact A.lt
theorem AF.ext {f : Nat → Value} (F : AF Z h a ty n f) (E : Ext h h') : AF Z h' a ty n f := by obtain ⟨c, A, r⟩ := F; exact ⟨c, A.ext E, r⟩
theorem AF.other {f : Nat → Value} {sl : Nat} {v : Value} (F : AF Z h b ty n f) (W : Wr h h' a sl v) (q : b ≠ a) : AF Z h' b ty n f := by obtain ⟨c, A, r⟩ := F; exact ⟨c, A.other W q, r⟩
theorem AF.keep {f : Nat → Value} {ws : List Addr} (F : AF Z h a ty n f) (K : Keep h h' ws) (q : a ∉ ws) : AF Z h' a ty n f := by obtain ⟨c, A, r⟩ := F; exact ⟨c, ⟨K.2.1 a c A.1 q, A.2⟩, r⟩
theorem AF.len {f : Nat → Value} (F : AF Z h a ty n f) : n < 2147483648 := by obtain ⟨c, A, -, M, -⟩ := F; exact M
theorem AF.cong {f f' : Nat → Value} (F : AF Z h a ty n f) (q : ∀ j, j < n → f j = f' j) : AF Z h a ty n f' := by
  obtain ⟨c, A, S, M, G⟩ := F
  exact ⟨c, A, S, M, fun j hj => by rw [← q j hj]; exact G j hj⟩
theorem AI.cong {g g' : Nat → Int32} (F : AI Z h a ty n g) (q : ∀ j, j < n → g j = g' j) : AI Z h a ty n g' := AF.cong F fun j hj => by rw [q j hj]
theorem AJ.cong {g g' : Nat → Int64} (F : AJ Z h a ty n g) (q : ∀ j, j < n → g j = g' j) : AJ Z h a ty n g' := AF.cong F fun j hj => by rw [q j hj]
theorem own_nat {j : Int32} {k : Nat} (hk : j.toInt = k) : j.toNatClampNeg = k := by
  show j.toInt.toNat = k
  rw [hk]; rfl
theorem own_in {cl : Cell} {j : Int32} {k : Nat} (S : cl.slots.size = n) (hk : j.toInt = k) (hn : k < n) : ¬ (j < 0 ∨ cl.slots.size ≤ j.toNatClampNeg) := by
  rw [own_nat hk, S, Int32.lt_iff_toInt_lt, hk]
  have : (0 : Int32).toInt = 0 := rfl
  omega
theorem AF.set {f : Nat → Value} {k : Nat} {v : Value} (F : AF Z h a ty n f) (W : Wr h h' a k v) : AF Z h' a ty n (upv f k v) := by
  obtain ⟨c, A, S, M, G⟩ := F
  refine ⟨c.setSlot k v, A.same W, by rw [sz_set]; exact S, M, fun j hj => ?_⟩
  have hz : j < c.slots.size := by omega
  simp only [Cell.setSlot, upv, Array.getElem?_setIfInBounds]
  by_cases q : j = k
  · subst q; simp [hz]
  · rw [if_neg (Ne.symm q), if_neg q]; exact G j hj
theorem AI.set {g : Nat → Int32} {k : Nat} {x : Int32} (F : AI Z h a ty n g) (W : Wr h h' a k (.int x)) : AI Z h' a ty n (upv g k x) :=
  AF.cong (AF.set F W) fun j _ => by simp only [upv]; split <;> rfl
theorem AJ.set {g : Nat → Int64} {k : Nat} {x : Int64} (F : AJ Z h a ty n g) (W : Wr h h' a k (.long x)) : AJ Z h' a ty n (upv g k x) :=
  AF.cong (AF.set F W) fun j _ => by simp only [upv]; split <;> rfl
theorem AF.fresh {k : ClassId} {z : Int32} {i : Nat} (A : Arr Z h a (newA k ty z) ty) (q : z.toInt = i) : AF Z h a ty i (fun _ => defaultValue ty) := by
  have S : (newA k ty z).slots.size = i := by rw [sz_new, own_nat q]
  refine ⟨_, A, S, ?_, fun j hj => ?_⟩
  · have := z.toInt_lt; omega
  · have hz : j < (newA k ty z).slots.size := by omega
    simp only [newA] at hz ⊢
    rw [Array.getElem?_eq_getElem hz]; simp
section Loads
theorem ldI (X : Stand p l e R s m args below meth c T locs cells slots) (hx : p.tables.exec = Jvm.exec) (hZ : Z.Warmed39 s.vm) (eT : T.heap = h) {g : Nat → Int32} (F : AI Z h a .int n g) {j : Int32} {k : Nat} (hk : j.toInt = k) (hn : k < n) {f : JFrame} (hg : f.method = m) {rest : List Value} (hs : f.stack = .int j :: .ref a :: rest) (hd : decode c.code f.pc = .ok (.iaload, 1)) :
    ∀ target, Steps p.tables e below (T.setTop { f with pc := f.pc + 1, stack := .int (g k) :: rest }) target → Steps p.tables e below (T.setTop f) target := by
  obtain ⟨cl, A, S, M, G⟩ := F
  intro target kt
  exact X.iaload hx (by rw [eT]; exact A.1) (State.isArrayOf_alike hZ.alike A.2.1) A.2.2 (own_in S hk hn) (by rw [own_nat hk]; exact G k hn) hg hs hd target kt
theorem ldB (X : Stand p l e R s m args below meth c T locs cells slots) (hx : p.tables.exec = Jvm.exec) (hZ : Z.Warmed39 s.vm) (eT : T.heap = h) {g : Nat → Int32} (F : AI Z h a .byte n g) {j : Int32} {k : Nat} (hk : j.toInt = k) (hn : k < n) {f : JFrame} (hg : f.method = m) {rest : List Value} (hs : f.stack = .int j :: .ref a :: rest) (hd : decode c.code f.pc = .ok (.baload, 1)) :
    ∀ target, Steps p.tables e below (T.setTop { f with pc := f.pc + 1, stack := .int (g k) :: rest }) target → Steps p.tables e below (T.setTop f) target := by
  obtain ⟨cl, A, S, M, G⟩ := F
  intro target kt
  exact X.baloadBytes hx (by rw [eT]; exact A.1) (State.isArrayOf_alike hZ.alike A.2.1) A.2.2 (own_in S hk hn) (by rw [own_nat hk]; exact G k hn) hg hs hd target kt
theorem ldJ (X : Stand p l e R s m args below meth c T locs cells slots) (hx : p.tables.exec = Jvm.exec) (hZ : Z.Warmed39 s.vm) (eT : T.heap = h) {g : Nat → Int64} (F : AJ Z h a .long n g) {j : Int32} {k : Nat} (hk : j.toInt = k) (hn : k < n) {f : JFrame} (hg : f.method = m) {rest : List Value} (hs : f.stack = .int j :: .ref a :: rest) (hd : decode c.code f.pc = .ok (.laload, 1)) :
    ∀ target, Steps p.tables e below (T.setTop { f with pc := f.pc + 1, stack := .long (g k) :: rest }) target → Steps p.tables e below (T.setTop f) target := by
  obtain ⟨cl, A, S, M, G⟩ := F
  intro target kt
  exact X.laload hx (by rw [eT]; exact A.1) (State.isArrayOf_alike hZ.alike A.2.1) A.2.2 (own_in S hk hn) (by rw [own_nat hk]; exact G k hn) hg hs hd target kt
theorem ldR (X : Stand p l e R s m args below meth c T locs cells slots) (hx : p.tables.exec = Jvm.exec) (hZ : Z.Warmed39 s.vm) (eT : T.heap = h) {g : Nat → Value} (F : AF Z h a ty n g) (hty : ty.isReference = true) {j : Int32} {k : Nat} (hk : j.toInt = k) (hn : k < n) {f : JFrame} (hg : f.method = m) {rest : List Value} (hs : f.stack = .int j :: .ref a :: rest) (hd : decode c.code f.pc = .ok (.aaload, 1)) :
    ∀ target, Steps p.tables e below (T.setTop { f with pc := f.pc + 1, stack := g k :: rest }) target → Steps p.tables e below (T.setTop f) target := by
  obtain ⟨cl, A, S, M, G⟩ := F
  intro target kt
  exact X.aaload hx (by rw [eT]; exact A.1) (State.isArrayOf_alike hZ.alike A.2.1) hty A.2.2 (own_in S hk hn) (by rw [own_nat hk]; exact G k hn) hg hs hd target kt
theorem alen (X : Stand p l e R s m args below meth c T locs cells slots) (hx : p.tables.exec = Jvm.exec) (hZ : Z.Warmed39 s.vm) (eT : T.heap = h) {g : Nat → Value} (F : AF Z h a ty n g) {z : Int32} (hz : z.toInt = n) {f : JFrame} (hg : f.method = m) {rest : List Value} (hs : f.stack = .ref a :: rest) (hd : decode c.code f.pc = .ok (.arraylength, 1)) :
    ∀ target, Steps p.tables e below (T.setTop { f with pc := f.pc + 1, stack := .int z :: rest }) target → Steps p.tables e below (T.setTop f) target := by
  obtain ⟨cl, A, S, M, G⟩ := F
  intro target kt
  have h0 : ¬ z < 0 := by
    rw [Int32.lt_iff_toInt_lt, hz]
    have : (0 : Int32).toInt = 0 := rfl
    omega
  have q : cl.slots.size.toInt32 = z := by rw [S, ← own_nat hz]; exact (back32 h0).1
  refine X.arraylength hx (by rw [eT]; exact A.1) (State.isArrayOf_alike hZ.alike A.2.1) hg hs hd target ?_
  rw [q]; exact kt
end Loads
section Stores
theorem puI (X : Stand p l e R s m args below meth c T locs cells slots) (hx : p.tables.exec = Jvm.exec) (hZ : Z.Warmed39 s.vm) (eT : T.heap = h) {g : Nat → Int32} (F : AI Z h a .int n g) {j x : Int32} {k : Nat} (hk : j.toInt = k) (hn : k < n) {f : JFrame} (hg : f.method = m) {rest : List Value} (hs : f.stack = .int x :: .int j :: .ref a :: rest) (hd : decode c.code f.pc = .ok (.iastore, 1)) :
    ∃ T' h', Stand p l e R s m args below meth c T' (locs ++ [⟨a, k⟩]) cells slots ∧ T'.heap = h' ∧ Wr h h' a k (.int x) ∧ AI Z h' a .int n (upv g k x) ∧ ∀ target, Steps p.tables e below (T'.setTop { f with pc := f.pc + 1, stack := rest }) target → Steps p.tables e below (T.setTop f) target := by
  obtain ⟨cl, A, S, M, G⟩ := id F
  obtain ⟨T', h', X', e', W, st⟩ := stI X hx hZ eT A (j := j) (own_in S hk hn) hg hs hd
  rw [own_nat hk] at X' W
  exact ⟨T', h', X', e', W, AI.set F W, st⟩
theorem puB (X : Stand p l e R s m args below meth c T locs cells slots) (hx : p.tables.exec = Jvm.exec) (hZ : Z.Warmed39 s.vm) (eT : T.heap = h) {g : Nat → Int32} (F : AI Z h a .byte n g) {j x : Int32} {k : Nat} (hk : j.toInt = k) (hn : k < n) {f : JFrame} (hg : f.method = m) {rest : List Value} (hs : f.stack = .int x :: .int j :: .ref a :: rest) (hd : decode c.code f.pc = .ok (.bastore, 1)) :
    ∃ T' h', Stand p l e R s m args below meth c T' (locs ++ [⟨a, k⟩]) cells slots ∧ T'.heap = h' ∧ Wr h h' a k (.int x.toInt8.toInt32) ∧ AI Z h' a .byte n (upv g k x.toInt8.toInt32) ∧ ∀ target, Steps p.tables e below (T'.setTop { f with pc := f.pc + 1, stack := rest }) target → Steps p.tables e below (T.setTop f) target := by
  obtain ⟨cl, A, S, M, G⟩ := id F
  obtain ⟨T', h', X', e', W, st⟩ := stB X hx hZ eT A (j := j) (own_in S hk hn) hg hs hd
  rw [own_nat hk] at X' W
  exact ⟨T', h', X', e', W, AI.set F W, st⟩
theorem puJ (X : Stand p l e R s m args below meth c T locs cells slots) (hx : p.tables.exec = Jvm.exec) (hZ : Z.Warmed39 s.vm) (eT : T.heap = h) {g : Nat → Int64} (F : AJ Z h a .long n g) {j : Int32} {x : Int64} {k : Nat} (hk : j.toInt = k) (hn : k < n) {f : JFrame} (hg : f.method = m) {rest : List Value} (hs : f.stack = .long x :: .int j :: .ref a :: rest) (hd : decode c.code f.pc = .ok (.lastore, 1)) :
    ∃ T' h', Stand p l e R s m args below meth c T' (locs ++ [⟨a, k⟩]) cells slots ∧ T'.heap = h' ∧ Wr h h' a k (.long x) ∧ AJ Z h' a .long n (upv g k x) ∧ ∀ target, Steps p.tables e below (T'.setTop { f with pc := f.pc + 1, stack := rest }) target → Steps p.tables e below (T.setTop f) target := by
  obtain ⟨cl, A, S, M, G⟩ := id F
  obtain ⟨T', h', X', e', W, st⟩ := stJ X hx hZ eT A (j := j) (own_in S hk hn) hg hs hd
  rw [own_nat hk] at X' W
  exact ⟨T', h', X', e', W, AJ.set F W, st⟩
theorem puR (X : Stand p l e R s m args below meth c T locs cells slots) (hx : p.tables.exec = Jvm.exec) (hZ : Z.Warmed39 s.vm) (eT : T.heap = h) {g : Nat → Value} (F : AF Z h a ty n g) (hty : ty.isReference = true) {j : Int32} {x : Value} (O : Sto Z h a x) {k : Nat} (hk : j.toInt = k) (hn : k < n) {f : JFrame} (hg : f.method = m) {rest : List Value} (hs : f.stack = x :: .int j :: .ref a :: rest) (hd : decode c.code f.pc = .ok (.aastore, 1)) :
    ∃ T' h', Stand p l e R s m args below meth c T' (locs ++ [⟨a, k⟩]) cells slots ∧ T'.heap = h' ∧ Wr h h' a k x ∧ AF Z h' a ty n (upv g k x) ∧ ∀ target, Steps p.tables e below (T'.setTop { f with pc := f.pc + 1, stack := rest }) target → Steps p.tables e below (T.setTop f) target := by
  obtain ⟨cl, A, S, M, G⟩ := id F
  obtain ⟨T', h', X', e', W, st⟩ := stR X hx hZ eT A (j := j) (own_in S hk hn) hty O hg hs hd
  rw [own_nat hk] at X' W
  exact ⟨T', h', X', e', W, AF.set F W, st⟩
theorem newAF (X : Stand p l e R s m args below meth c T locs cells slots) (hx : p.tables.exec = Jvm.exec) (hZ : Z.Warmed39 s.vm) {aty : ArrayType} (w : (Cond.arrayClass (newarray.typeOf aty)).before a0 Z = true) (eT : T.heap = h) {f : JFrame} (hg : f.method = m) (hd : decode c.code f.pc = .ok (.newarray aty, 2)) {z : Int32} {rest : List Value} (hs : f.stack = .int z :: rest)
    {k : Nat} (hk : z.toInt = k) {cap : Nat} (hcap : k ≤ cap) (hb : cap * 8 ≤ 536870912) (hc : cells + 1 ≤ R.cells) (hl : slots + cap ≤ R.slots) :
    ∃ T' h', Stand p l e R s m args below meth c T' locs (cells + 1) (slots + cap) ∧ T'.heap = h' ∧ Ext h h' ∧ AF Z h' h.size (newarray.typeOf aty) k (fun _ => defaultValue (newarray.typeOf aty)) ∧
      ∀ target, Steps p.tables e below (T'.setTop { f with pc := f.pc + 2, stack := .ref h.size :: rest }) target → Steps p.tables e below (T.setTop f) target := by
  have h0 : ¬ z < 0 := by
    rw [Int32.lt_iff_toInt_lt, hk]
    have : (0 : Int32).toInt = 0 := rfl
    omega
  obtain ⟨T', h', cA, X', e', E, A, st⟩ := newP X hx hZ w eT hg hd hs h0 (cap := cap) (by rw [own_nat hk]; exact hcap) hb hc hl
  exact ⟨T', h', X', e', E, AF.fresh A hk, st⟩
end Stores
theorem hide (X : Stand p l e R s m args below meth c T locs cells slots) {n0 : Nat} (N : Fr n0 locs) {C S : Nat} (hc : cells ≤ C) (hs : slots ≤ S) : ∃ L, Stand p l e R s m args below meth c T L C S ∧ Fr n0 L := ⟨locs, X.more hc hs, N⟩
theorem own_selects {args' : Array Value} {U : State} {y : MethodName} {k : Nat} (wi : (Cond.instantiable y.cls k).before args' U = true) (hpriv : U.PrivateAt y) (hinst : (Cond.instanceMethod y).before args' U = true) (hy : y.cls ≠ "java/lang/invoke/MethodHandle" ∧ y.cls ≠ "java/lang/invoke/VarHandle") : (Cond.selects y.cls y y).before args' U = true := by
  obtain ⟨c1, k1, i1, i2, -, i3, -⟩ := Cond.instantiable_spec wi
  have hni : k1.isInterface = false := by cases q : k1.isInterface <;> simp [q] at i3 ⊢
  exact Jvm.Stand.selects_self_of_private i1 i2 hni hpriv hinst hy
theorem isRef_cat {w : Value} (q : w.isRef = true) : w.category = 1 := by
  rcases ref_cases q with rfl | ⟨x, rfl⟩ <;> rfl
theorem mem1 {α : Type} (x : α) (L : List α) : x ∈ x :: L := List.mem_cons_self
theorem mem2 {α : Type} (x y : α) (L : List α) : x ∈ y :: x :: L := List.mem_cons_of_mem _ List.mem_cons_self
end OwnHeap
end Jvm.RoadKit
namespace Jvm.Pilot.@@N@@
open Jvm Jvm.ClassFile Sem Op Lib Jvm.Free Jvm.Stand Jvm.LawKit Jvm.RoadKit Bundle Jvm.Pilot.@@N@@.Jvm.D
theorem own_ixa {i c : Int32} {k d : Nat} (hk : i.toInt = k) (hc : c.toInt = d) (hb : k + d < 2147483648) : (i + c).toInt = ((k + d : Nat) : Int) := by
  have a := c_iadd i c
  have r := rng32 (i + c)
  omega
def nat (j : Int32) : Nat := j.toInt.toNat
theorem own_hk {j : Int32} (h : 0 ≤ j.toInt) : j.toInt = (nat j : Int) := by unfold nat; omega
theorem own_hn {j : Int32} {n : Nat} (h : 0 ≤ j.toInt) (h2 : j.toInt < n) : nat j < n := by unfold nat; omega
theorem ef_1 (m : MethodId) (x0 : Addr) (x1 : Int32) : entryFrame m #[(.ref x0), (.int x1)] 5 = mkF m 0 #[.val (.ref x0), .val (.int x1), .unset, .unset, .unset] [] := by first | (simp [entryFrame, mkF, argsToLocals, Value.category]; done) | rfl
theorem d1_0 : decode prog_2_method_4_code 0 = .ok (.lconst 0, 1) := by decide +kernel
theorem d1_1 : decode prog_2_method_4_code 1 = .ok (.lstore_n 2, 1) := by decide +kernel
theorem d1_2 : decode prog_2_method_4_code 2 = .ok (.iconst 0, 1) := by decide +kernel
theorem d1_3 : decode prog_2_method_4_code 3 = .ok (.istore 4, 2) := by decide +kernel
theorem d1_5 : decode prog_2_method_4_code 5 = .ok (.iload 4, 2) := by decide +kernel
theorem d1_7 : decode prog_2_method_4_code 7 = .ok (.bipush 8, 2) := by decide +kernel
theorem d1_9 : decode prog_2_method_4_code 9 = .ok (.if_icmp .ge 26, 3) := by decide +kernel
theorem d1_12 : decode prog_2_method_4_code 12 = .ok (.lload_n 2, 1) := by decide +kernel
theorem d1_13 : decode prog_2_method_4_code 13 = .ok (.bipush 8, 2) := by decide +kernel
theorem d1_15 : decode prog_2_method_4_code 15 = .ok (.lshl, 1) := by decide +kernel
theorem d1_16 : decode prog_2_method_4_code 16 = .ok (.aload_n 0, 1) := by decide +kernel
theorem d1_17 : decode prog_2_method_4_code 17 = .ok (.iload_n 1, 1) := by decide +kernel
theorem d1_18 : decode prog_2_method_4_code 18 = .ok (.iload 4, 2) := by decide +kernel
theorem d1_20 : decode prog_2_method_4_code 20 = .ok (.iadd, 1) := by decide +kernel
theorem d1_21 : decode prog_2_method_4_code 21 = .ok (.baload, 1) := by decide +kernel
theorem d1_22 : decode prog_2_method_4_code 22 = .ok (.sipush 255, 3) := by decide +kernel
theorem d1_25 : decode prog_2_method_4_code 25 = .ok (.iand, 1) := by decide +kernel
theorem d1_26 : decode prog_2_method_4_code 26 = .ok (.i2l, 1) := by decide +kernel
theorem d1_27 : decode prog_2_method_4_code 27 = .ok (.lor, 1) := by decide +kernel
theorem d1_28 : decode prog_2_method_4_code 28 = .ok (.lstore_n 2, 1) := by decide +kernel
theorem d1_29 : decode prog_2_method_4_code 29 = .ok (.iinc 4 1, 3) := by decide +kernel
theorem d1_32 : decode prog_2_method_4_code 32 = .ok (.goto (-27), 3) := by decide +kernel
theorem d1_35 : decode prog_2_method_4_code 35 = .ok (.lload_n 2, 1) := by decide +kernel
theorem d1_36 : decode prog_2_method_4_code 36 = .ok (.lreturn, 1) := by decide +kernel
theorem pn_1 : plainName "com/example/penelope/penelope/Codec" = true := by first | (simp [plainName, overriddenIn]; done) | decide +kernel
def f1_v28 (i1 : Int32) (kx : Nat) (g : Nat → Int32) : Int64 := (((0 : Int64) <<< ((8 : Int32) &&& 0x3f).toInt64) ||| (((g ((kx + 0))) &&& (255 : Int32)).toInt64))
def f1_v28a (i1 : Int32) (kx : Nat) (g : Nat → Int32) : Int64 := (((f1_v28 i1 kx g) <<< ((8 : Int32) &&& 0x3f).toInt64) ||| (((g ((kx + 1))) &&& (255 : Int32)).toInt64))
def f1_v28b (i1 : Int32) (kx : Nat) (g : Nat → Int32) : Int64 := (((f1_v28a i1 kx g) <<< ((8 : Int32) &&& 0x3f).toInt64) ||| (((g ((kx + 2))) &&& (255 : Int32)).toInt64))
def f1_v28c (i1 : Int32) (kx : Nat) (g : Nat → Int32) : Int64 := (((f1_v28b i1 kx g) <<< ((8 : Int32) &&& 0x3f).toInt64) ||| (((g ((kx + 3))) &&& (255 : Int32)).toInt64))
def f1_v28d (i1 : Int32) (kx : Nat) (g : Nat → Int32) : Int64 := (((f1_v28c i1 kx g) <<< ((8 : Int32) &&& 0x3f).toInt64) ||| (((g ((kx + 4))) &&& (255 : Int32)).toInt64))
def f1_v28e (i1 : Int32) (kx : Nat) (g : Nat → Int32) : Int64 := (((f1_v28d i1 kx g) <<< ((8 : Int32) &&& 0x3f).toInt64) ||| (((g ((kx + 5))) &&& (255 : Int32)).toInt64))
def f1_v28f (i1 : Int32) (kx : Nat) (g : Nat → Int32) : Int64 := (((f1_v28e i1 kx g) <<< ((8 : Int32) &&& 0x3f).toInt64) ||| (((g ((kx + 6))) &&& (255 : Int32)).toInt64))
def f1_v28g (i1 : Int32) (kx : Nat) (g : Nat → Int32) : Int64 := (((f1_v28f i1 kx g) <<< ((8 : Int32) &&& 0x3f).toInt64) ||| (((g ((kx + 7))) &&& (255 : Int32)).toInt64))
def F_f1 (i1 : Int32) (kx : Nat) (g : Nat → Int32) : Int64 := (f1_v28g i1 kx g)
set_option maxRecDepth 65536 in
set_option maxHeartbeats 40000000 in
theorem rm1 (l : Launch) (Z : State) (a0 : Array Value) (hw : ∀ d ∈ tables_1, d.before a0 Z = true) (ws : List Jvm.Cond) (o0 : Addr) (i1 : Int32) (n : Nat) (kx : Nat) (g : Nat → Int32) (h0 : Heap) (n0 : Nat) (A_o0 : AI Z h0 o0 .byte n g) (hk : i1.toInt = (kx : Int)) (hbx : kx + 8 ≤ n) :
    MetFree l (⟨"com/example/penelope/penelope/Codec", "getLong", "([BI)J"⟩ : MethodName) (head1 (Jvm.Cond.code (⟨"com/example/penelope/penelope/Codec", "getLong", "([BI)J"⟩ : MethodName) prog_2_method_4_code 5 (some .long) :: ws) ({ frames := 0, cells := 0, slots := 0, locals := 0 } : Room)) (fun a U => a = #[(.ref o0), (.int i1)] ∧ Z.Warmed39 U.vm ∧ U.heap = h0) (fun _ _ _ _ _ => True) (fun _ U o U' => ∃ v L, o = .returned v ∧ QR (some (.long (F_f1 i1 kx g))) h0 n0 v U'.heap L ∧ FrameEnd U o U' L ({ frames := 0, cells := 0, slots := 0, locals := 0 } : Room).cells ({ frames := 0, cells := 0, slots := 0, locals := 0 } : Room).slots) := by
  refine MetFree.of_bodySF (plainFor_of_name pn_1) hisR ?_
  intro p e s m args below meth c s₁ Bd hml0 hP hK
  obtain ⟨rfl, hZ, hh⟩ := hP
  have hx := Bd.exec
  have hby := Bd.bytes
  have hml : c.maxLocals = 5 := hml0
  have hown : s.vm.findClass "com/example/penelope/penelope/Codec" = some m.cls := findClass_of_methodNamed Bd.named
  have hnm := (name_of_methodNamed Bd.named Bd.method).1
  have hret := Bd.returns
  have hlk : meth.locks = false := BodyLoose.notSynchronized Bd
  have X0 : Stand p l e ({ frames := 0, cells := 0, slots := 0, locals := 0 } : Room) s m #[(.ref o0), (.int i1)] below meth c s₁ [] 0 0 := Stand.of_body Bd
  have e0 : s₁.heap = h0 := by rw [← hh, Bd.state]; rfl
  have N0 := Fr.nil n0
  show Outs p e below s (QR (some (.long (F_f1 i1 kx g))) h0 n0) _ _ _
  refine Outs.of (U' := s₁.setTop (mkF m 0 #[.val (.ref o0), .val (.int i1), .unset, .unset, .unset] [])) (fun t k => castTop (ef_1 m o0 i1) k) ?_
  refine Outs.of (U' := s₁.setTop (mkF m 21 #[.val (.ref o0), .val (.int i1), .val (.long (0 : Int64)), .second, .val (.int (0 : Int32))] [(.int (i1 + (0 : Int32))), (.ref o0), (.long ((0 : Int64) <<< ((8 : Int32) &&& 0x3f).toInt64))])) (fun t k => ?_) ?_
  · refine XS.lconst X0.here hx rfl (hb hby d1_0) ?_
    show Steps p.tables e below (s₁.setTop (mkF m 1 #[.val (.ref o0), .val (.int i1), .unset, .unset, .unset] [(.long (0 : Int64))])) _
    refine XS.lstoreN X0.here hx rfl (hb hby d1_1) rfl (l' := #[.val (.ref o0), .val (.int i1), .val (.long (0 : Int64)), .second, .unset]) rfl ?_
    show Steps p.tables e below (s₁.setTop (mkF m 2 #[.val (.ref o0), .val (.int i1), .val (.long (0 : Int64)), .second, .unset] [])) _
    refine XS.iconst X0.here hx rfl (hb hby d1_2) ?_
    show Steps p.tables e below (s₁.setTop (mkF m 3 #[.val (.ref o0), .val (.int i1), .val (.long (0 : Int64)), .second, .unset] [(.int (0 : Int32))])) _
    refine XS.istore X0.here hx rfl (hb hby d1_3) rfl (l' := #[.val (.ref o0), .val (.int i1), .val (.long (0 : Int64)), .second, .val (.int (0 : Int32))]) rfl ?_
    show Steps p.tables e below (s₁.setTop (mkF m 5 #[.val (.ref o0), .val (.int i1), .val (.long (0 : Int64)), .second, .val (.int (0 : Int32))] [])) _
    refine XS.iload X0.here hx rfl (hb hby d1_5) rfl ?_
    show Steps p.tables e below (s₁.setTop (mkF m 7 #[.val (.ref o0), .val (.int i1), .val (.long (0 : Int64)), .second, .val (.int (0 : Int32))] [(.int (0 : Int32))])) _
    refine XS.bipush X0.here hx rfl (hb hby d1_7) ?_
    show Steps p.tables e below (s₁.setTop (mkF m 9 #[.val (.ref o0), .val (.int i1), .val (.long (0 : Int64)), .second, .val (.int (0 : Int32))] [(.int (8 : Int32)), (.int (0 : Int32))])) _
    refine XS.icmpNo X0.here hx rfl (hb hby d1_9) rfl (tlt (by decide)).2.1 ?_
    show Steps p.tables e below (s₁.setTop (mkF m 12 #[.val (.ref o0), .val (.int i1), .val (.long (0 : Int64)), .second, .val (.int (0 : Int32))] [])) _
    refine XS.lloadN X0.here hx rfl (hb hby d1_12) rfl ?_
    show Steps p.tables e below (s₁.setTop (mkF m 13 #[.val (.ref o0), .val (.int i1), .val (.long (0 : Int64)), .second, .val (.int (0 : Int32))] [(.long (0 : Int64))])) _
    refine XS.bipush X0.here hx rfl (hb hby d1_13) ?_
    show Steps p.tables e below (s₁.setTop (mkF m 15 #[.val (.ref o0), .val (.int i1), .val (.long (0 : Int64)), .second, .val (.int (0 : Int32))] [(.int (8 : Int32)), (.long (0 : Int64))])) _
    refine XS.lshl X0.here hx rfl (hb hby d1_15) rfl ?_
    show Steps p.tables e below (s₁.setTop (mkF m 16 #[.val (.ref o0), .val (.int i1), .val (.long (0 : Int64)), .second, .val (.int (0 : Int32))] [(.long ((0 : Int64) <<< ((8 : Int32) &&& 0x3f).toInt64))])) _
    refine XS.aloadN X0.here hx rfl (hb hby d1_16) rfl rfl ?_
    show Steps p.tables e below (s₁.setTop (mkF m 17 #[.val (.ref o0), .val (.int i1), .val (.long (0 : Int64)), .second, .val (.int (0 : Int32))] [(.ref o0), (.long ((0 : Int64) <<< ((8 : Int32) &&& 0x3f).toInt64))])) _
    refine XS.iloadN X0.here hx rfl (hb hby d1_17) rfl ?_
    show Steps p.tables e below (s₁.setTop (mkF m 18 #[.val (.ref o0), .val (.int i1), .val (.long (0 : Int64)), .second, .val (.int (0 : Int32))] [(.int i1), (.ref o0), (.long ((0 : Int64) <<< ((8 : Int32) &&& 0x3f).toInt64))])) _
    refine XS.iload X0.here hx rfl (hb hby d1_18) rfl ?_
    show Steps p.tables e below (s₁.setTop (mkF m 20 #[.val (.ref o0), .val (.int i1), .val (.long (0 : Int64)), .second, .val (.int (0 : Int32))] [(.int (0 : Int32)), (.int i1), (.ref o0), (.long ((0 : Int64) <<< ((8 : Int32) &&& 0x3f).toInt64))])) _
    refine XS.iadd X0.here hx rfl (hb hby d1_20) rfl ?_
    show Steps p.tables e below (s₁.setTop (mkF m 21 #[.val (.ref o0), .val (.int i1), .val (.long (0 : Int64)), .second, .val (.int (0 : Int32))] [(.int (i1 + (0 : Int32))), (.ref o0), (.long ((0 : Int64) <<< ((8 : Int32) &&& 0x3f).toInt64))])) _
    exact k
  refine Outs.of (ldB X0 hx hZ e0 A_o0 (j := (i1 + (0 : Int32))) (k := (kx + 0)) (own_ixa hk rfl (by have := AF.len A_o0; omega)) (by omega) (f := (mkF m 21 #[.val (.ref o0), .val (.int i1), .val (.long (0 : Int64)), .second, .val (.int (0 : Int32))] [(.int (i1 + (0 : Int32))), (.ref o0), (.long ((0 : Int64) <<< ((8 : Int32) &&& 0x3f).toInt64))])) rfl rfl (hb hby d1_21)) ?_
  show Outs p e below s _ _ _ (s₁.setTop (mkF m 22 #[.val (.ref o0), .val (.int i1), .val (.long (0 : Int64)), .second, .val (.int (0 : Int32))] [(.int (g ((kx + 0)))), (.long ((0 : Int64) <<< ((8 : Int32) &&& 0x3f).toInt64))]))
  refine Outs.of (U' := s₁.setTop (mkF m 21 #[.val (.ref o0), .val (.int i1), .val (.long (f1_v28 i1 kx g)), .second, .val (.int (1 : Int32))] [(.int (i1 + (1 : Int32))), (.ref o0), (.long ((f1_v28 i1 kx g) <<< ((8 : Int32) &&& 0x3f).toInt64))])) (fun t k => ?_) ?_
  · refine XS.sipush X0.here hx rfl (hb hby d1_22) ?_
    show Steps p.tables e below (s₁.setTop (mkF m 25 #[.val (.ref o0), .val (.int i1), .val (.long (0 : Int64)), .second, .val (.int (0 : Int32))] [(.int (255 : Int32)), (.int (g ((kx + 0)))), (.long ((0 : Int64) <<< ((8 : Int32) &&& 0x3f).toInt64))])) _
    refine XS.iand X0.here hx rfl (hb hby d1_25) rfl ?_
    show Steps p.tables e below (s₁.setTop (mkF m 26 #[.val (.ref o0), .val (.int i1), .val (.long (0 : Int64)), .second, .val (.int (0 : Int32))] [(.int ((g ((kx + 0))) &&& (255 : Int32))), (.long ((0 : Int64) <<< ((8 : Int32) &&& 0x3f).toInt64))])) _
    refine XS.i2l X0.here hx rfl (hb hby d1_26) rfl ?_
    show Steps p.tables e below (s₁.setTop (mkF m 27 #[.val (.ref o0), .val (.int i1), .val (.long (0 : Int64)), .second, .val (.int (0 : Int32))] [(.long (((g ((kx + 0))) &&& (255 : Int32)).toInt64)), (.long ((0 : Int64) <<< ((8 : Int32) &&& 0x3f).toInt64))])) _
    refine XS.lor X0.here hx rfl (hb hby d1_27) rfl ?_
    show Steps p.tables e below (s₁.setTop (mkF m 28 #[.val (.ref o0), .val (.int i1), .val (.long (0 : Int64)), .second, .val (.int (0 : Int32))] [(.long (((0 : Int64) <<< ((8 : Int32) &&& 0x3f).toInt64) ||| (((g ((kx + 0))) &&& (255 : Int32)).toInt64)))])) _
    refine XS.lstoreN X0.here hx rfl (hb hby d1_28) rfl (l' := #[.val (.ref o0), .val (.int i1), .val (.long (f1_v28 i1 kx g)), .second, .val (.int (0 : Int32))]) rfl ?_
    show Steps p.tables e below (s₁.setTop (mkF m 29 #[.val (.ref o0), .val (.int i1), .val (.long (f1_v28 i1 kx g)), .second, .val (.int (0 : Int32))] [])) _
    refine XS.iinc X0.here hx rfl (hb hby d1_29) rfl (l' := #[.val (.ref o0), .val (.int i1), .val (.long (f1_v28 i1 kx g)), .second, .val (.int (1 : Int32))]) rfl ?_
    show Steps p.tables e below (s₁.setTop (mkF m 32 #[.val (.ref o0), .val (.int i1), .val (.long (f1_v28 i1 kx g)), .second, .val (.int (1 : Int32))] [])) _
    refine XS.goto X0.here hx rfl (pc0 := 32) (pc' := 5) rfl (hb hby d1_32) (by decide) (by decide) ?_
    show Steps p.tables e below (s₁.setTop (mkF m 5 #[.val (.ref o0), .val (.int i1), .val (.long (f1_v28 i1 kx g)), .second, .val (.int (1 : Int32))] [])) _
    refine XS.iload X0.here hx rfl (hb hby d1_5) rfl ?_
    show Steps p.tables e below (s₁.setTop (mkF m 7 #[.val (.ref o0), .val (.int i1), .val (.long (f1_v28 i1 kx g)), .second, .val (.int (1 : Int32))] [(.int (1 : Int32))])) _
    refine XS.bipush X0.here hx rfl (hb hby d1_7) ?_
    show Steps p.tables e below (s₁.setTop (mkF m 9 #[.val (.ref o0), .val (.int i1), .val (.long (f1_v28 i1 kx g)), .second, .val (.int (1 : Int32))] [(.int (8 : Int32)), (.int (1 : Int32))])) _
    refine XS.icmpNo X0.here hx rfl (hb hby d1_9) rfl (tlt (by decide)).2.1 ?_
    show Steps p.tables e below (s₁.setTop (mkF m 12 #[.val (.ref o0), .val (.int i1), .val (.long (f1_v28 i1 kx g)), .second, .val (.int (1 : Int32))] [])) _
    refine XS.lloadN X0.here hx rfl (hb hby d1_12) rfl ?_
    show Steps p.tables e below (s₁.setTop (mkF m 13 #[.val (.ref o0), .val (.int i1), .val (.long (f1_v28 i1 kx g)), .second, .val (.int (1 : Int32))] [(.long (f1_v28 i1 kx g))])) _
    refine XS.bipush X0.here hx rfl (hb hby d1_13) ?_
    show Steps p.tables e below (s₁.setTop (mkF m 15 #[.val (.ref o0), .val (.int i1), .val (.long (f1_v28 i1 kx g)), .second, .val (.int (1 : Int32))] [(.int (8 : Int32)), (.long (f1_v28 i1 kx g))])) _
    refine XS.lshl X0.here hx rfl (hb hby d1_15) rfl ?_
    show Steps p.tables e below (s₁.setTop (mkF m 16 #[.val (.ref o0), .val (.int i1), .val (.long (f1_v28 i1 kx g)), .second, .val (.int (1 : Int32))] [(.long ((f1_v28 i1 kx g) <<< ((8 : Int32) &&& 0x3f).toInt64))])) _
    refine XS.aloadN X0.here hx rfl (hb hby d1_16) rfl rfl ?_
    show Steps p.tables e below (s₁.setTop (mkF m 17 #[.val (.ref o0), .val (.int i1), .val (.long (f1_v28 i1 kx g)), .second, .val (.int (1 : Int32))] [(.ref o0), (.long ((f1_v28 i1 kx g) <<< ((8 : Int32) &&& 0x3f).toInt64))])) _
    refine XS.iloadN X0.here hx rfl (hb hby d1_17) rfl ?_
    show Steps p.tables e below (s₁.setTop (mkF m 18 #[.val (.ref o0), .val (.int i1), .val (.long (f1_v28 i1 kx g)), .second, .val (.int (1 : Int32))] [(.int i1), (.ref o0), (.long ((f1_v28 i1 kx g) <<< ((8 : Int32) &&& 0x3f).toInt64))])) _
    refine XS.iload X0.here hx rfl (hb hby d1_18) rfl ?_
    show Steps p.tables e below (s₁.setTop (mkF m 20 #[.val (.ref o0), .val (.int i1), .val (.long (f1_v28 i1 kx g)), .second, .val (.int (1 : Int32))] [(.int (1 : Int32)), (.int i1), (.ref o0), (.long ((f1_v28 i1 kx g) <<< ((8 : Int32) &&& 0x3f).toInt64))])) _
    refine XS.iadd X0.here hx rfl (hb hby d1_20) rfl ?_
    show Steps p.tables e below (s₁.setTop (mkF m 21 #[.val (.ref o0), .val (.int i1), .val (.long (f1_v28 i1 kx g)), .second, .val (.int (1 : Int32))] [(.int (i1 + (1 : Int32))), (.ref o0), (.long ((f1_v28 i1 kx g) <<< ((8 : Int32) &&& 0x3f).toInt64))])) _
    exact k
  refine Outs.of (ldB X0 hx hZ e0 A_o0 (j := (i1 + (1 : Int32))) (k := (kx + 1)) (own_ixa hk rfl (by have := AF.len A_o0; omega)) (by omega) (f := (mkF m 21 #[.val (.ref o0), .val (.int i1), .val (.long (f1_v28 i1 kx g)), .second, .val (.int (1 : Int32))] [(.int (i1 + (1 : Int32))), (.ref o0), (.long ((f1_v28 i1 kx g) <<< ((8 : Int32) &&& 0x3f).toInt64))])) rfl rfl (hb hby d1_21)) ?_
  show Outs p e below s _ _ _ (s₁.setTop (mkF m 22 #[.val (.ref o0), .val (.int i1), .val (.long (f1_v28 i1 kx g)), .second, .val (.int (1 : Int32))] [(.int (g ((kx + 1)))), (.long ((f1_v28 i1 kx g) <<< ((8 : Int32) &&& 0x3f).toInt64))]))
  refine Outs.of (U' := s₁.setTop (mkF m 21 #[.val (.ref o0), .val (.int i1), .val (.long (f1_v28a i1 kx g)), .second, .val (.int (2 : Int32))] [(.int (i1 + (2 : Int32))), (.ref o0), (.long ((f1_v28a i1 kx g) <<< ((8 : Int32) &&& 0x3f).toInt64))])) (fun t k => ?_) ?_
  · refine XS.sipush X0.here hx rfl (hb hby d1_22) ?_
    show Steps p.tables e below (s₁.setTop (mkF m 25 #[.val (.ref o0), .val (.int i1), .val (.long (f1_v28 i1 kx g)), .second, .val (.int (1 : Int32))] [(.int (255 : Int32)), (.int (g ((kx + 1)))), (.long ((f1_v28 i1 kx g) <<< ((8 : Int32) &&& 0x3f).toInt64))])) _
    refine XS.iand X0.here hx rfl (hb hby d1_25) rfl ?_
    show Steps p.tables e below (s₁.setTop (mkF m 26 #[.val (.ref o0), .val (.int i1), .val (.long (f1_v28 i1 kx g)), .second, .val (.int (1 : Int32))] [(.int ((g ((kx + 1))) &&& (255 : Int32))), (.long ((f1_v28 i1 kx g) <<< ((8 : Int32) &&& 0x3f).toInt64))])) _
    refine XS.i2l X0.here hx rfl (hb hby d1_26) rfl ?_
    show Steps p.tables e below (s₁.setTop (mkF m 27 #[.val (.ref o0), .val (.int i1), .val (.long (f1_v28 i1 kx g)), .second, .val (.int (1 : Int32))] [(.long (((g ((kx + 1))) &&& (255 : Int32)).toInt64)), (.long ((f1_v28 i1 kx g) <<< ((8 : Int32) &&& 0x3f).toInt64))])) _
    refine XS.lor X0.here hx rfl (hb hby d1_27) rfl ?_
    show Steps p.tables e below (s₁.setTop (mkF m 28 #[.val (.ref o0), .val (.int i1), .val (.long (f1_v28 i1 kx g)), .second, .val (.int (1 : Int32))] [(.long (((f1_v28 i1 kx g) <<< ((8 : Int32) &&& 0x3f).toInt64) ||| (((g ((kx + 1))) &&& (255 : Int32)).toInt64)))])) _
    refine XS.lstoreN X0.here hx rfl (hb hby d1_28) rfl (l' := #[.val (.ref o0), .val (.int i1), .val (.long (f1_v28a i1 kx g)), .second, .val (.int (1 : Int32))]) rfl ?_
    show Steps p.tables e below (s₁.setTop (mkF m 29 #[.val (.ref o0), .val (.int i1), .val (.long (f1_v28a i1 kx g)), .second, .val (.int (1 : Int32))] [])) _
    refine XS.iinc X0.here hx rfl (hb hby d1_29) rfl (l' := #[.val (.ref o0), .val (.int i1), .val (.long (f1_v28a i1 kx g)), .second, .val (.int (2 : Int32))]) rfl ?_
    show Steps p.tables e below (s₁.setTop (mkF m 32 #[.val (.ref o0), .val (.int i1), .val (.long (f1_v28a i1 kx g)), .second, .val (.int (2 : Int32))] [])) _
    refine XS.goto X0.here hx rfl (pc0 := 32) (pc' := 5) rfl (hb hby d1_32) (by decide) (by decide) ?_
    show Steps p.tables e below (s₁.setTop (mkF m 5 #[.val (.ref o0), .val (.int i1), .val (.long (f1_v28a i1 kx g)), .second, .val (.int (2 : Int32))] [])) _
    refine XS.iload X0.here hx rfl (hb hby d1_5) rfl ?_
    show Steps p.tables e below (s₁.setTop (mkF m 7 #[.val (.ref o0), .val (.int i1), .val (.long (f1_v28a i1 kx g)), .second, .val (.int (2 : Int32))] [(.int (2 : Int32))])) _
    refine XS.bipush X0.here hx rfl (hb hby d1_7) ?_
    show Steps p.tables e below (s₁.setTop (mkF m 9 #[.val (.ref o0), .val (.int i1), .val (.long (f1_v28a i1 kx g)), .second, .val (.int (2 : Int32))] [(.int (8 : Int32)), (.int (2 : Int32))])) _
    refine XS.icmpNo X0.here hx rfl (hb hby d1_9) rfl (tlt (by decide)).2.1 ?_
    show Steps p.tables e below (s₁.setTop (mkF m 12 #[.val (.ref o0), .val (.int i1), .val (.long (f1_v28a i1 kx g)), .second, .val (.int (2 : Int32))] [])) _
    refine XS.lloadN X0.here hx rfl (hb hby d1_12) rfl ?_
    show Steps p.tables e below (s₁.setTop (mkF m 13 #[.val (.ref o0), .val (.int i1), .val (.long (f1_v28a i1 kx g)), .second, .val (.int (2 : Int32))] [(.long (f1_v28a i1 kx g))])) _
    refine XS.bipush X0.here hx rfl (hb hby d1_13) ?_
    show Steps p.tables e below (s₁.setTop (mkF m 15 #[.val (.ref o0), .val (.int i1), .val (.long (f1_v28a i1 kx g)), .second, .val (.int (2 : Int32))] [(.int (8 : Int32)), (.long (f1_v28a i1 kx g))])) _
    refine XS.lshl X0.here hx rfl (hb hby d1_15) rfl ?_
    show Steps p.tables e below (s₁.setTop (mkF m 16 #[.val (.ref o0), .val (.int i1), .val (.long (f1_v28a i1 kx g)), .second, .val (.int (2 : Int32))] [(.long ((f1_v28a i1 kx g) <<< ((8 : Int32) &&& 0x3f).toInt64))])) _
    refine XS.aloadN X0.here hx rfl (hb hby d1_16) rfl rfl ?_
    show Steps p.tables e below (s₁.setTop (mkF m 17 #[.val (.ref o0), .val (.int i1), .val (.long (f1_v28a i1 kx g)), .second, .val (.int (2 : Int32))] [(.ref o0), (.long ((f1_v28a i1 kx g) <<< ((8 : Int32) &&& 0x3f).toInt64))])) _
    refine XS.iloadN X0.here hx rfl (hb hby d1_17) rfl ?_
    show Steps p.tables e below (s₁.setTop (mkF m 18 #[.val (.ref o0), .val (.int i1), .val (.long (f1_v28a i1 kx g)), .second, .val (.int (2 : Int32))] [(.int i1), (.ref o0), (.long ((f1_v28a i1 kx g) <<< ((8 : Int32) &&& 0x3f).toInt64))])) _
    refine XS.iload X0.here hx rfl (hb hby d1_18) rfl ?_
    show Steps p.tables e below (s₁.setTop (mkF m 20 #[.val (.ref o0), .val (.int i1), .val (.long (f1_v28a i1 kx g)), .second, .val (.int (2 : Int32))] [(.int (2 : Int32)), (.int i1), (.ref o0), (.long ((f1_v28a i1 kx g) <<< ((8 : Int32) &&& 0x3f).toInt64))])) _
    refine XS.iadd X0.here hx rfl (hb hby d1_20) rfl ?_
    show Steps p.tables e below (s₁.setTop (mkF m 21 #[.val (.ref o0), .val (.int i1), .val (.long (f1_v28a i1 kx g)), .second, .val (.int (2 : Int32))] [(.int (i1 + (2 : Int32))), (.ref o0), (.long ((f1_v28a i1 kx g) <<< ((8 : Int32) &&& 0x3f).toInt64))])) _
    exact k
  refine Outs.of (ldB X0 hx hZ e0 A_o0 (j := (i1 + (2 : Int32))) (k := (kx + 2)) (own_ixa hk rfl (by have := AF.len A_o0; omega)) (by omega) (f := (mkF m 21 #[.val (.ref o0), .val (.int i1), .val (.long (f1_v28a i1 kx g)), .second, .val (.int (2 : Int32))] [(.int (i1 + (2 : Int32))), (.ref o0), (.long ((f1_v28a i1 kx g) <<< ((8 : Int32) &&& 0x3f).toInt64))])) rfl rfl (hb hby d1_21)) ?_
  show Outs p e below s _ _ _ (s₁.setTop (mkF m 22 #[.val (.ref o0), .val (.int i1), .val (.long (f1_v28a i1 kx g)), .second, .val (.int (2 : Int32))] [(.int (g ((kx + 2)))), (.long ((f1_v28a i1 kx g) <<< ((8 : Int32) &&& 0x3f).toInt64))]))
  refine Outs.of (U' := s₁.setTop (mkF m 21 #[.val (.ref o0), .val (.int i1), .val (.long (f1_v28b i1 kx g)), .second, .val (.int (3 : Int32))] [(.int (i1 + (3 : Int32))), (.ref o0), (.long ((f1_v28b i1 kx g) <<< ((8 : Int32) &&& 0x3f).toInt64))])) (fun t k => ?_) ?_
  · refine XS.sipush X0.here hx rfl (hb hby d1_22) ?_
    show Steps p.tables e below (s₁.setTop (mkF m 25 #[.val (.ref o0), .val (.int i1), .val (.long (f1_v28a i1 kx g)), .second, .val (.int (2 : Int32))] [(.int (255 : Int32)), (.int (g ((kx + 2)))), (.long ((f1_v28a i1 kx g) <<< ((8 : Int32) &&& 0x3f).toInt64))])) _
    refine XS.iand X0.here hx rfl (hb hby d1_25) rfl ?_
    show Steps p.tables e below (s₁.setTop (mkF m 26 #[.val (.ref o0), .val (.int i1), .val (.long (f1_v28a i1 kx g)), .second, .val (.int (2 : Int32))] [(.int ((g ((kx + 2))) &&& (255 : Int32))), (.long ((f1_v28a i1 kx g) <<< ((8 : Int32) &&& 0x3f).toInt64))])) _
    refine XS.i2l X0.here hx rfl (hb hby d1_26) rfl ?_
    show Steps p.tables e below (s₁.setTop (mkF m 27 #[.val (.ref o0), .val (.int i1), .val (.long (f1_v28a i1 kx g)), .second, .val (.int (2 : Int32))] [(.long (((g ((kx + 2))) &&& (255 : Int32)).toInt64)), (.long ((f1_v28a i1 kx g) <<< ((8 : Int32) &&& 0x3f).toInt64))])) _
    refine XS.lor X0.here hx rfl (hb hby d1_27) rfl ?_
    show Steps p.tables e below (s₁.setTop (mkF m 28 #[.val (.ref o0), .val (.int i1), .val (.long (f1_v28a i1 kx g)), .second, .val (.int (2 : Int32))] [(.long (((f1_v28a i1 kx g) <<< ((8 : Int32) &&& 0x3f).toInt64) ||| (((g ((kx + 2))) &&& (255 : Int32)).toInt64)))])) _
    refine XS.lstoreN X0.here hx rfl (hb hby d1_28) rfl (l' := #[.val (.ref o0), .val (.int i1), .val (.long (f1_v28b i1 kx g)), .second, .val (.int (2 : Int32))]) rfl ?_
    show Steps p.tables e below (s₁.setTop (mkF m 29 #[.val (.ref o0), .val (.int i1), .val (.long (f1_v28b i1 kx g)), .second, .val (.int (2 : Int32))] [])) _
    refine XS.iinc X0.here hx rfl (hb hby d1_29) rfl (l' := #[.val (.ref o0), .val (.int i1), .val (.long (f1_v28b i1 kx g)), .second, .val (.int (3 : Int32))]) rfl ?_
    show Steps p.tables e below (s₁.setTop (mkF m 32 #[.val (.ref o0), .val (.int i1), .val (.long (f1_v28b i1 kx g)), .second, .val (.int (3 : Int32))] [])) _
    refine XS.goto X0.here hx rfl (pc0 := 32) (pc' := 5) rfl (hb hby d1_32) (by decide) (by decide) ?_
    show Steps p.tables e below (s₁.setTop (mkF m 5 #[.val (.ref o0), .val (.int i1), .val (.long (f1_v28b i1 kx g)), .second, .val (.int (3 : Int32))] [])) _
    refine XS.iload X0.here hx rfl (hb hby d1_5) rfl ?_
    show Steps p.tables e below (s₁.setTop (mkF m 7 #[.val (.ref o0), .val (.int i1), .val (.long (f1_v28b i1 kx g)), .second, .val (.int (3 : Int32))] [(.int (3 : Int32))])) _
    refine XS.bipush X0.here hx rfl (hb hby d1_7) ?_
    show Steps p.tables e below (s₁.setTop (mkF m 9 #[.val (.ref o0), .val (.int i1), .val (.long (f1_v28b i1 kx g)), .second, .val (.int (3 : Int32))] [(.int (8 : Int32)), (.int (3 : Int32))])) _
    refine XS.icmpNo X0.here hx rfl (hb hby d1_9) rfl (tlt (by decide)).2.1 ?_
    show Steps p.tables e below (s₁.setTop (mkF m 12 #[.val (.ref o0), .val (.int i1), .val (.long (f1_v28b i1 kx g)), .second, .val (.int (3 : Int32))] [])) _
    refine XS.lloadN X0.here hx rfl (hb hby d1_12) rfl ?_
    show Steps p.tables e below (s₁.setTop (mkF m 13 #[.val (.ref o0), .val (.int i1), .val (.long (f1_v28b i1 kx g)), .second, .val (.int (3 : Int32))] [(.long (f1_v28b i1 kx g))])) _
    refine XS.bipush X0.here hx rfl (hb hby d1_13) ?_
    show Steps p.tables e below (s₁.setTop (mkF m 15 #[.val (.ref o0), .val (.int i1), .val (.long (f1_v28b i1 kx g)), .second, .val (.int (3 : Int32))] [(.int (8 : Int32)), (.long (f1_v28b i1 kx g))])) _
    refine XS.lshl X0.here hx rfl (hb hby d1_15) rfl ?_
    show Steps p.tables e below (s₁.setTop (mkF m 16 #[.val (.ref o0), .val (.int i1), .val (.long (f1_v28b i1 kx g)), .second, .val (.int (3 : Int32))] [(.long ((f1_v28b i1 kx g) <<< ((8 : Int32) &&& 0x3f).toInt64))])) _
    refine XS.aloadN X0.here hx rfl (hb hby d1_16) rfl rfl ?_
    show Steps p.tables e below (s₁.setTop (mkF m 17 #[.val (.ref o0), .val (.int i1), .val (.long (f1_v28b i1 kx g)), .second, .val (.int (3 : Int32))] [(.ref o0), (.long ((f1_v28b i1 kx g) <<< ((8 : Int32) &&& 0x3f).toInt64))])) _
    refine XS.iloadN X0.here hx rfl (hb hby d1_17) rfl ?_
    show Steps p.tables e below (s₁.setTop (mkF m 18 #[.val (.ref o0), .val (.int i1), .val (.long (f1_v28b i1 kx g)), .second, .val (.int (3 : Int32))] [(.int i1), (.ref o0), (.long ((f1_v28b i1 kx g) <<< ((8 : Int32) &&& 0x3f).toInt64))])) _
    refine XS.iload X0.here hx rfl (hb hby d1_18) rfl ?_
    show Steps p.tables e below (s₁.setTop (mkF m 20 #[.val (.ref o0), .val (.int i1), .val (.long (f1_v28b i1 kx g)), .second, .val (.int (3 : Int32))] [(.int (3 : Int32)), (.int i1), (.ref o0), (.long ((f1_v28b i1 kx g) <<< ((8 : Int32) &&& 0x3f).toInt64))])) _
    refine XS.iadd X0.here hx rfl (hb hby d1_20) rfl ?_
    show Steps p.tables e below (s₁.setTop (mkF m 21 #[.val (.ref o0), .val (.int i1), .val (.long (f1_v28b i1 kx g)), .second, .val (.int (3 : Int32))] [(.int (i1 + (3 : Int32))), (.ref o0), (.long ((f1_v28b i1 kx g) <<< ((8 : Int32) &&& 0x3f).toInt64))])) _
    exact k
  refine Outs.of (ldB X0 hx hZ e0 A_o0 (j := (i1 + (3 : Int32))) (k := (kx + 3)) (own_ixa hk rfl (by have := AF.len A_o0; omega)) (by omega) (f := (mkF m 21 #[.val (.ref o0), .val (.int i1), .val (.long (f1_v28b i1 kx g)), .second, .val (.int (3 : Int32))] [(.int (i1 + (3 : Int32))), (.ref o0), (.long ((f1_v28b i1 kx g) <<< ((8 : Int32) &&& 0x3f).toInt64))])) rfl rfl (hb hby d1_21)) ?_
  show Outs p e below s _ _ _ (s₁.setTop (mkF m 22 #[.val (.ref o0), .val (.int i1), .val (.long (f1_v28b i1 kx g)), .second, .val (.int (3 : Int32))] [(.int (g ((kx + 3)))), (.long ((f1_v28b i1 kx g) <<< ((8 : Int32) &&& 0x3f).toInt64))]))
  refine Outs.of (U' := s₁.setTop (mkF m 21 #[.val (.ref o0), .val (.int i1), .val (.long (f1_v28c i1 kx g)), .second, .val (.int (4 : Int32))] [(.int (i1 + (4 : Int32))), (.ref o0), (.long ((f1_v28c i1 kx g) <<< ((8 : Int32) &&& 0x3f).toInt64))])) (fun t k => ?_) ?_
  · refine XS.sipush X0.here hx rfl (hb hby d1_22) ?_
    show Steps p.tables e below (s₁.setTop (mkF m 25 #[.val (.ref o0), .val (.int i1), .val (.long (f1_v28b i1 kx g)), .second, .val (.int (3 : Int32))] [(.int (255 : Int32)), (.int (g ((kx + 3)))), (.long ((f1_v28b i1 kx g) <<< ((8 : Int32) &&& 0x3f).toInt64))])) _
    refine XS.iand X0.here hx rfl (hb hby d1_25) rfl ?_
    show Steps p.tables e below (s₁.setTop (mkF m 26 #[.val (.ref o0), .val (.int i1), .val (.long (f1_v28b i1 kx g)), .second, .val (.int (3 : Int32))] [(.int ((g ((kx + 3))) &&& (255 : Int32))), (.long ((f1_v28b i1 kx g) <<< ((8 : Int32) &&& 0x3f).toInt64))])) _
    refine XS.i2l X0.here hx rfl (hb hby d1_26) rfl ?_
    show Steps p.tables e below (s₁.setTop (mkF m 27 #[.val (.ref o0), .val (.int i1), .val (.long (f1_v28b i1 kx g)), .second, .val (.int (3 : Int32))] [(.long (((g ((kx + 3))) &&& (255 : Int32)).toInt64)), (.long ((f1_v28b i1 kx g) <<< ((8 : Int32) &&& 0x3f).toInt64))])) _
    refine XS.lor X0.here hx rfl (hb hby d1_27) rfl ?_
    show Steps p.tables e below (s₁.setTop (mkF m 28 #[.val (.ref o0), .val (.int i1), .val (.long (f1_v28b i1 kx g)), .second, .val (.int (3 : Int32))] [(.long (((f1_v28b i1 kx g) <<< ((8 : Int32) &&& 0x3f).toInt64) ||| (((g ((kx + 3))) &&& (255 : Int32)).toInt64)))])) _
    refine XS.lstoreN X0.here hx rfl (hb hby d1_28) rfl (l' := #[.val (.ref o0), .val (.int i1), .val (.long (f1_v28c i1 kx g)), .second, .val (.int (3 : Int32))]) rfl ?_
    show Steps p.tables e below (s₁.setTop (mkF m 29 #[.val (.ref o0), .val (.int i1), .val (.long (f1_v28c i1 kx g)), .second, .val (.int (3 : Int32))] [])) _
    refine XS.iinc X0.here hx rfl (hb hby d1_29) rfl (l' := #[.val (.ref o0), .val (.int i1), .val (.long (f1_v28c i1 kx g)), .second, .val (.int (4 : Int32))]) rfl ?_
    show Steps p.tables e below (s₁.setTop (mkF m 32 #[.val (.ref o0), .val (.int i1), .val (.long (f1_v28c i1 kx g)), .second, .val (.int (4 : Int32))] [])) _
    refine XS.goto X0.here hx rfl (pc0 := 32) (pc' := 5) rfl (hb hby d1_32) (by decide) (by decide) ?_
    show Steps p.tables e below (s₁.setTop (mkF m 5 #[.val (.ref o0), .val (.int i1), .val (.long (f1_v28c i1 kx g)), .second, .val (.int (4 : Int32))] [])) _
    refine XS.iload X0.here hx rfl (hb hby d1_5) rfl ?_
    show Steps p.tables e below (s₁.setTop (mkF m 7 #[.val (.ref o0), .val (.int i1), .val (.long (f1_v28c i1 kx g)), .second, .val (.int (4 : Int32))] [(.int (4 : Int32))])) _
    refine XS.bipush X0.here hx rfl (hb hby d1_7) ?_
    show Steps p.tables e below (s₁.setTop (mkF m 9 #[.val (.ref o0), .val (.int i1), .val (.long (f1_v28c i1 kx g)), .second, .val (.int (4 : Int32))] [(.int (8 : Int32)), (.int (4 : Int32))])) _
    refine XS.icmpNo X0.here hx rfl (hb hby d1_9) rfl (tlt (by decide)).2.1 ?_
    show Steps p.tables e below (s₁.setTop (mkF m 12 #[.val (.ref o0), .val (.int i1), .val (.long (f1_v28c i1 kx g)), .second, .val (.int (4 : Int32))] [])) _
    refine XS.lloadN X0.here hx rfl (hb hby d1_12) rfl ?_
    show Steps p.tables e below (s₁.setTop (mkF m 13 #[.val (.ref o0), .val (.int i1), .val (.long (f1_v28c i1 kx g)), .second, .val (.int (4 : Int32))] [(.long (f1_v28c i1 kx g))])) _
    refine XS.bipush X0.here hx rfl (hb hby d1_13) ?_
    show Steps p.tables e below (s₁.setTop (mkF m 15 #[.val (.ref o0), .val (.int i1), .val (.long (f1_v28c i1 kx g)), .second, .val (.int (4 : Int32))] [(.int (8 : Int32)), (.long (f1_v28c i1 kx g))])) _
    refine XS.lshl X0.here hx rfl (hb hby d1_15) rfl ?_
    show Steps p.tables e below (s₁.setTop (mkF m 16 #[.val (.ref o0), .val (.int i1), .val (.long (f1_v28c i1 kx g)), .second, .val (.int (4 : Int32))] [(.long ((f1_v28c i1 kx g) <<< ((8 : Int32) &&& 0x3f).toInt64))])) _
    refine XS.aloadN X0.here hx rfl (hb hby d1_16) rfl rfl ?_
    show Steps p.tables e below (s₁.setTop (mkF m 17 #[.val (.ref o0), .val (.int i1), .val (.long (f1_v28c i1 kx g)), .second, .val (.int (4 : Int32))] [(.ref o0), (.long ((f1_v28c i1 kx g) <<< ((8 : Int32) &&& 0x3f).toInt64))])) _
    refine XS.iloadN X0.here hx rfl (hb hby d1_17) rfl ?_
    show Steps p.tables e below (s₁.setTop (mkF m 18 #[.val (.ref o0), .val (.int i1), .val (.long (f1_v28c i1 kx g)), .second, .val (.int (4 : Int32))] [(.int i1), (.ref o0), (.long ((f1_v28c i1 kx g) <<< ((8 : Int32) &&& 0x3f).toInt64))])) _
    refine XS.iload X0.here hx rfl (hb hby d1_18) rfl ?_
    show Steps p.tables e below (s₁.setTop (mkF m 20 #[.val (.ref o0), .val (.int i1), .val (.long (f1_v28c i1 kx g)), .second, .val (.int (4 : Int32))] [(.int (4 : Int32)), (.int i1), (.ref o0), (.long ((f1_v28c i1 kx g) <<< ((8 : Int32) &&& 0x3f).toInt64))])) _
    refine XS.iadd X0.here hx rfl (hb hby d1_20) rfl ?_
    show Steps p.tables e below (s₁.setTop (mkF m 21 #[.val (.ref o0), .val (.int i1), .val (.long (f1_v28c i1 kx g)), .second, .val (.int (4 : Int32))] [(.int (i1 + (4 : Int32))), (.ref o0), (.long ((f1_v28c i1 kx g) <<< ((8 : Int32) &&& 0x3f).toInt64))])) _
    exact k
  refine Outs.of (ldB X0 hx hZ e0 A_o0 (j := (i1 + (4 : Int32))) (k := (kx + 4)) (own_ixa hk rfl (by have := AF.len A_o0; omega)) (by omega) (f := (mkF m 21 #[.val (.ref o0), .val (.int i1), .val (.long (f1_v28c i1 kx g)), .second, .val (.int (4 : Int32))] [(.int (i1 + (4 : Int32))), (.ref o0), (.long ((f1_v28c i1 kx g) <<< ((8 : Int32) &&& 0x3f).toInt64))])) rfl rfl (hb hby d1_21)) ?_
  show Outs p e below s _ _ _ (s₁.setTop (mkF m 22 #[.val (.ref o0), .val (.int i1), .val (.long (f1_v28c i1 kx g)), .second, .val (.int (4 : Int32))] [(.int (g ((kx + 4)))), (.long ((f1_v28c i1 kx g) <<< ((8 : Int32) &&& 0x3f).toInt64))]))
  refine Outs.of (U' := s₁.setTop (mkF m 21 #[.val (.ref o0), .val (.int i1), .val (.long (f1_v28d i1 kx g)), .second, .val (.int (5 : Int32))] [(.int (i1 + (5 : Int32))), (.ref o0), (.long ((f1_v28d i1 kx g) <<< ((8 : Int32) &&& 0x3f).toInt64))])) (fun t k => ?_) ?_
  · refine XS.sipush X0.here hx rfl (hb hby d1_22) ?_
    show Steps p.tables e below (s₁.setTop (mkF m 25 #[.val (.ref o0), .val (.int i1), .val (.long (f1_v28c i1 kx g)), .second, .val (.int (4 : Int32))] [(.int (255 : Int32)), (.int (g ((kx + 4)))), (.long ((f1_v28c i1 kx g) <<< ((8 : Int32) &&& 0x3f).toInt64))])) _
    refine XS.iand X0.here hx rfl (hb hby d1_25) rfl ?_
    show Steps p.tables e below (s₁.setTop (mkF m 26 #[.val (.ref o0), .val (.int i1), .val (.long (f1_v28c i1 kx g)), .second, .val (.int (4 : Int32))] [(.int ((g ((kx + 4))) &&& (255 : Int32))), (.long ((f1_v28c i1 kx g) <<< ((8 : Int32) &&& 0x3f).toInt64))])) _
    refine XS.i2l X0.here hx rfl (hb hby d1_26) rfl ?_
    show Steps p.tables e below (s₁.setTop (mkF m 27 #[.val (.ref o0), .val (.int i1), .val (.long (f1_v28c i1 kx g)), .second, .val (.int (4 : Int32))] [(.long (((g ((kx + 4))) &&& (255 : Int32)).toInt64)), (.long ((f1_v28c i1 kx g) <<< ((8 : Int32) &&& 0x3f).toInt64))])) _
    refine XS.lor X0.here hx rfl (hb hby d1_27) rfl ?_
    show Steps p.tables e below (s₁.setTop (mkF m 28 #[.val (.ref o0), .val (.int i1), .val (.long (f1_v28c i1 kx g)), .second, .val (.int (4 : Int32))] [(.long (((f1_v28c i1 kx g) <<< ((8 : Int32) &&& 0x3f).toInt64) ||| (((g ((kx + 4))) &&& (255 : Int32)).toInt64)))])) _
    refine XS.lstoreN X0.here hx rfl (hb hby d1_28) rfl (l' := #[.val (.ref o0), .val (.int i1), .val (.long (f1_v28d i1 kx g)), .second, .val (.int (4 : Int32))]) rfl ?_
    show Steps p.tables e below (s₁.setTop (mkF m 29 #[.val (.ref o0), .val (.int i1), .val (.long (f1_v28d i1 kx g)), .second, .val (.int (4 : Int32))] [])) _
    refine XS.iinc X0.here hx rfl (hb hby d1_29) rfl (l' := #[.val (.ref o0), .val (.int i1), .val (.long (f1_v28d i1 kx g)), .second, .val (.int (5 : Int32))]) rfl ?_
    show Steps p.tables e below (s₁.setTop (mkF m 32 #[.val (.ref o0), .val (.int i1), .val (.long (f1_v28d i1 kx g)), .second, .val (.int (5 : Int32))] [])) _
    refine XS.goto X0.here hx rfl (pc0 := 32) (pc' := 5) rfl (hb hby d1_32) (by decide) (by decide) ?_
    show Steps p.tables e below (s₁.setTop (mkF m 5 #[.val (.ref o0), .val (.int i1), .val (.long (f1_v28d i1 kx g)), .second, .val (.int (5 : Int32))] [])) _
    refine XS.iload X0.here hx rfl (hb hby d1_5) rfl ?_
    show Steps p.tables e below (s₁.setTop (mkF m 7 #[.val (.ref o0), .val (.int i1), .val (.long (f1_v28d i1 kx g)), .second, .val (.int (5 : Int32))] [(.int (5 : Int32))])) _
    refine XS.bipush X0.here hx rfl (hb hby d1_7) ?_
    show Steps p.tables e below (s₁.setTop (mkF m 9 #[.val (.ref o0), .val (.int i1), .val (.long (f1_v28d i1 kx g)), .second, .val (.int (5 : Int32))] [(.int (8 : Int32)), (.int (5 : Int32))])) _
    refine XS.icmpNo X0.here hx rfl (hb hby d1_9) rfl (tlt (by decide)).2.1 ?_
    show Steps p.tables e below (s₁.setTop (mkF m 12 #[.val (.ref o0), .val (.int i1), .val (.long (f1_v28d i1 kx g)), .second, .val (.int (5 : Int32))] [])) _
    refine XS.lloadN X0.here hx rfl (hb hby d1_12) rfl ?_
    show Steps p.tables e below (s₁.setTop (mkF m 13 #[.val (.ref o0), .val (.int i1), .val (.long (f1_v28d i1 kx g)), .second, .val (.int (5 : Int32))] [(.long (f1_v28d i1 kx g))])) _
    refine XS.bipush X0.here hx rfl (hb hby d1_13) ?_
    show Steps p.tables e below (s₁.setTop (mkF m 15 #[.val (.ref o0), .val (.int i1), .val (.long (f1_v28d i1 kx g)), .second, .val (.int (5 : Int32))] [(.int (8 : Int32)), (.long (f1_v28d i1 kx g))])) _
    refine XS.lshl X0.here hx rfl (hb hby d1_15) rfl ?_
    show Steps p.tables e below (s₁.setTop (mkF m 16 #[.val (.ref o0), .val (.int i1), .val (.long (f1_v28d i1 kx g)), .second, .val (.int (5 : Int32))] [(.long ((f1_v28d i1 kx g) <<< ((8 : Int32) &&& 0x3f).toInt64))])) _
    refine XS.aloadN X0.here hx rfl (hb hby d1_16) rfl rfl ?_
    show Steps p.tables e below (s₁.setTop (mkF m 17 #[.val (.ref o0), .val (.int i1), .val (.long (f1_v28d i1 kx g)), .second, .val (.int (5 : Int32))] [(.ref o0), (.long ((f1_v28d i1 kx g) <<< ((8 : Int32) &&& 0x3f).toInt64))])) _
    refine XS.iloadN X0.here hx rfl (hb hby d1_17) rfl ?_
    show Steps p.tables e below (s₁.setTop (mkF m 18 #[.val (.ref o0), .val (.int i1), .val (.long (f1_v28d i1 kx g)), .second, .val (.int (5 : Int32))] [(.int i1), (.ref o0), (.long ((f1_v28d i1 kx g) <<< ((8 : Int32) &&& 0x3f).toInt64))])) _
    refine XS.iload X0.here hx rfl (hb hby d1_18) rfl ?_
    show Steps p.tables e below (s₁.setTop (mkF m 20 #[.val (.ref o0), .val (.int i1), .val (.long (f1_v28d i1 kx g)), .second, .val (.int (5 : Int32))] [(.int (5 : Int32)), (.int i1), (.ref o0), (.long ((f1_v28d i1 kx g) <<< ((8 : Int32) &&& 0x3f).toInt64))])) _
    refine XS.iadd X0.here hx rfl (hb hby d1_20) rfl ?_
    show Steps p.tables e below (s₁.setTop (mkF m 21 #[.val (.ref o0), .val (.int i1), .val (.long (f1_v28d i1 kx g)), .second, .val (.int (5 : Int32))] [(.int (i1 + (5 : Int32))), (.ref o0), (.long ((f1_v28d i1 kx g) <<< ((8 : Int32) &&& 0x3f).toInt64))])) _
    exact k
  refine Outs.of (ldB X0 hx hZ e0 A_o0 (j := (i1 + (5 : Int32))) (k := (kx + 5)) (own_ixa hk rfl (by have := AF.len A_o0; omega)) (by omega) (f := (mkF m 21 #[.val (.ref o0), .val (.int i1), .val (.long (f1_v28d i1 kx g)), .second, .val (.int (5 : Int32))] [(.int (i1 + (5 : Int32))), (.ref o0), (.long ((f1_v28d i1 kx g) <<< ((8 : Int32) &&& 0x3f).toInt64))])) rfl rfl (hb hby d1_21)) ?_
  show Outs p e below s _ _ _ (s₁.setTop (mkF m 22 #[.val (.ref o0), .val (.int i1), .val (.long (f1_v28d i1 kx g)), .second, .val (.int (5 : Int32))] [(.int (g ((kx + 5)))), (.long ((f1_v28d i1 kx g) <<< ((8 : Int32) &&& 0x3f).toInt64))]))
  refine Outs.of (U' := s₁.setTop (mkF m 21 #[.val (.ref o0), .val (.int i1), .val (.long (f1_v28e i1 kx g)), .second, .val (.int (6 : Int32))] [(.int (i1 + (6 : Int32))), (.ref o0), (.long ((f1_v28e i1 kx g) <<< ((8 : Int32) &&& 0x3f).toInt64))])) (fun t k => ?_) ?_
  · refine XS.sipush X0.here hx rfl (hb hby d1_22) ?_
    show Steps p.tables e below (s₁.setTop (mkF m 25 #[.val (.ref o0), .val (.int i1), .val (.long (f1_v28d i1 kx g)), .second, .val (.int (5 : Int32))] [(.int (255 : Int32)), (.int (g ((kx + 5)))), (.long ((f1_v28d i1 kx g) <<< ((8 : Int32) &&& 0x3f).toInt64))])) _
    refine XS.iand X0.here hx rfl (hb hby d1_25) rfl ?_
    show Steps p.tables e below (s₁.setTop (mkF m 26 #[.val (.ref o0), .val (.int i1), .val (.long (f1_v28d i1 kx g)), .second, .val (.int (5 : Int32))] [(.int ((g ((kx + 5))) &&& (255 : Int32))), (.long ((f1_v28d i1 kx g) <<< ((8 : Int32) &&& 0x3f).toInt64))])) _
    refine XS.i2l X0.here hx rfl (hb hby d1_26) rfl ?_
    show Steps p.tables e below (s₁.setTop (mkF m 27 #[.val (.ref o0), .val (.int i1), .val (.long (f1_v28d i1 kx g)), .second, .val (.int (5 : Int32))] [(.long (((g ((kx + 5))) &&& (255 : Int32)).toInt64)), (.long ((f1_v28d i1 kx g) <<< ((8 : Int32) &&& 0x3f).toInt64))])) _
    refine XS.lor X0.here hx rfl (hb hby d1_27) rfl ?_
    show Steps p.tables e below (s₁.setTop (mkF m 28 #[.val (.ref o0), .val (.int i1), .val (.long (f1_v28d i1 kx g)), .second, .val (.int (5 : Int32))] [(.long (((f1_v28d i1 kx g) <<< ((8 : Int32) &&& 0x3f).toInt64) ||| (((g ((kx + 5))) &&& (255 : Int32)).toInt64)))])) _
    refine XS.lstoreN X0.here hx rfl (hb hby d1_28) rfl (l' := #[.val (.ref o0), .val (.int i1), .val (.long (f1_v28e i1 kx g)), .second, .val (.int (5 : Int32))]) rfl ?_
    show Steps p.tables e below (s₁.setTop (mkF m 29 #[.val (.ref o0), .val (.int i1), .val (.long (f1_v28e i1 kx g)), .second, .val (.int (5 : Int32))] [])) _
    refine XS.iinc X0.here hx rfl (hb hby d1_29) rfl (l' := #[.val (.ref o0), .val (.int i1), .val (.long (f1_v28e i1 kx g)), .second, .val (.int (6 : Int32))]) rfl ?_
    show Steps p.tables e below (s₁.setTop (mkF m 32 #[.val (.ref o0), .val (.int i1), .val (.long (f1_v28e i1 kx g)), .second, .val (.int (6 : Int32))] [])) _
    refine XS.goto X0.here hx rfl (pc0 := 32) (pc' := 5) rfl (hb hby d1_32) (by decide) (by decide) ?_
    show Steps p.tables e below (s₁.setTop (mkF m 5 #[.val (.ref o0), .val (.int i1), .val (.long (f1_v28e i1 kx g)), .second, .val (.int (6 : Int32))] [])) _
    refine XS.iload X0.here hx rfl (hb hby d1_5) rfl ?_
    show Steps p.tables e below (s₁.setTop (mkF m 7 #[.val (.ref o0), .val (.int i1), .val (.long (f1_v28e i1 kx g)), .second, .val (.int (6 : Int32))] [(.int (6 : Int32))])) _
    refine XS.bipush X0.here hx rfl (hb hby d1_7) ?_
    show Steps p.tables e below (s₁.setTop (mkF m 9 #[.val (.ref o0), .val (.int i1), .val (.long (f1_v28e i1 kx g)), .second, .val (.int (6 : Int32))] [(.int (8 : Int32)), (.int (6 : Int32))])) _
    refine XS.icmpNo X0.here hx rfl (hb hby d1_9) rfl (tlt (by decide)).2.1 ?_
    show Steps p.tables e below (s₁.setTop (mkF m 12 #[.val (.ref o0), .val (.int i1), .val (.long (f1_v28e i1 kx g)), .second, .val (.int (6 : Int32))] [])) _
    refine XS.lloadN X0.here hx rfl (hb hby d1_12) rfl ?_
    show Steps p.tables e below (s₁.setTop (mkF m 13 #[.val (.ref o0), .val (.int i1), .val (.long (f1_v28e i1 kx g)), .second, .val (.int (6 : Int32))] [(.long (f1_v28e i1 kx g))])) _
    refine XS.bipush X0.here hx rfl (hb hby d1_13) ?_
    show Steps p.tables e below (s₁.setTop (mkF m 15 #[.val (.ref o0), .val (.int i1), .val (.long (f1_v28e i1 kx g)), .second, .val (.int (6 : Int32))] [(.int (8 : Int32)), (.long (f1_v28e i1 kx g))])) _
    refine XS.lshl X0.here hx rfl (hb hby d1_15) rfl ?_
    show Steps p.tables e below (s₁.setTop (mkF m 16 #[.val (.ref o0), .val (.int i1), .val (.long (f1_v28e i1 kx g)), .second, .val (.int (6 : Int32))] [(.long ((f1_v28e i1 kx g) <<< ((8 : Int32) &&& 0x3f).toInt64))])) _
    refine XS.aloadN X0.here hx rfl (hb hby d1_16) rfl rfl ?_
    show Steps p.tables e below (s₁.setTop (mkF m 17 #[.val (.ref o0), .val (.int i1), .val (.long (f1_v28e i1 kx g)), .second, .val (.int (6 : Int32))] [(.ref o0), (.long ((f1_v28e i1 kx g) <<< ((8 : Int32) &&& 0x3f).toInt64))])) _
    refine XS.iloadN X0.here hx rfl (hb hby d1_17) rfl ?_
    show Steps p.tables e below (s₁.setTop (mkF m 18 #[.val (.ref o0), .val (.int i1), .val (.long (f1_v28e i1 kx g)), .second, .val (.int (6 : Int32))] [(.int i1), (.ref o0), (.long ((f1_v28e i1 kx g) <<< ((8 : Int32) &&& 0x3f).toInt64))])) _
    refine XS.iload X0.here hx rfl (hb hby d1_18) rfl ?_
    show Steps p.tables e below (s₁.setTop (mkF m 20 #[.val (.ref o0), .val (.int i1), .val (.long (f1_v28e i1 kx g)), .second, .val (.int (6 : Int32))] [(.int (6 : Int32)), (.int i1), (.ref o0), (.long ((f1_v28e i1 kx g) <<< ((8 : Int32) &&& 0x3f).toInt64))])) _
    refine XS.iadd X0.here hx rfl (hb hby d1_20) rfl ?_
    show Steps p.tables e below (s₁.setTop (mkF m 21 #[.val (.ref o0), .val (.int i1), .val (.long (f1_v28e i1 kx g)), .second, .val (.int (6 : Int32))] [(.int (i1 + (6 : Int32))), (.ref o0), (.long ((f1_v28e i1 kx g) <<< ((8 : Int32) &&& 0x3f).toInt64))])) _
    exact k
  refine Outs.of (ldB X0 hx hZ e0 A_o0 (j := (i1 + (6 : Int32))) (k := (kx + 6)) (own_ixa hk rfl (by have := AF.len A_o0; omega)) (by omega) (f := (mkF m 21 #[.val (.ref o0), .val (.int i1), .val (.long (f1_v28e i1 kx g)), .second, .val (.int (6 : Int32))] [(.int (i1 + (6 : Int32))), (.ref o0), (.long ((f1_v28e i1 kx g) <<< ((8 : Int32) &&& 0x3f).toInt64))])) rfl rfl (hb hby d1_21)) ?_
  show Outs p e below s _ _ _ (s₁.setTop (mkF m 22 #[.val (.ref o0), .val (.int i1), .val (.long (f1_v28e i1 kx g)), .second, .val (.int (6 : Int32))] [(.int (g ((kx + 6)))), (.long ((f1_v28e i1 kx g) <<< ((8 : Int32) &&& 0x3f).toInt64))]))
  refine Outs.of (U' := s₁.setTop (mkF m 21 #[.val (.ref o0), .val (.int i1), .val (.long (f1_v28f i1 kx g)), .second, .val (.int (7 : Int32))] [(.int (i1 + (7 : Int32))), (.ref o0), (.long ((f1_v28f i1 kx g) <<< ((8 : Int32) &&& 0x3f).toInt64))])) (fun t k => ?_) ?_
  · refine XS.sipush X0.here hx rfl (hb hby d1_22) ?_
    show Steps p.tables e below (s₁.setTop (mkF m 25 #[.val (.ref o0), .val (.int i1), .val (.long (f1_v28e i1 kx g)), .second, .val (.int (6 : Int32))] [(.int (255 : Int32)), (.int (g ((kx + 6)))), (.long ((f1_v28e i1 kx g) <<< ((8 : Int32) &&& 0x3f).toInt64))])) _
    refine XS.iand X0.here hx rfl (hb hby d1_25) rfl ?_
    show Steps p.tables e below (s₁.setTop (mkF m 26 #[.val (.ref o0), .val (.int i1), .val (.long (f1_v28e i1 kx g)), .second, .val (.int (6 : Int32))] [(.int ((g ((kx + 6))) &&& (255 : Int32))), (.long ((f1_v28e i1 kx g) <<< ((8 : Int32) &&& 0x3f).toInt64))])) _
    refine XS.i2l X0.here hx rfl (hb hby d1_26) rfl ?_
    show Steps p.tables e below (s₁.setTop (mkF m 27 #[.val (.ref o0), .val (.int i1), .val (.long (f1_v28e i1 kx g)), .second, .val (.int (6 : Int32))] [(.long (((g ((kx + 6))) &&& (255 : Int32)).toInt64)), (.long ((f1_v28e i1 kx g) <<< ((8 : Int32) &&& 0x3f).toInt64))])) _
    refine XS.lor X0.here hx rfl (hb hby d1_27) rfl ?_
    show Steps p.tables e below (s₁.setTop (mkF m 28 #[.val (.ref o0), .val (.int i1), .val (.long (f1_v28e i1 kx g)), .second, .val (.int (6 : Int32))] [(.long (((f1_v28e i1 kx g) <<< ((8 : Int32) &&& 0x3f).toInt64) ||| (((g ((kx + 6))) &&& (255 : Int32)).toInt64)))])) _
    refine XS.lstoreN X0.here hx rfl (hb hby d1_28) rfl (l' := #[.val (.ref o0), .val (.int i1), .val (.long (f1_v28f i1 kx g)), .second, .val (.int (6 : Int32))]) rfl ?_
    show Steps p.tables e below (s₁.setTop (mkF m 29 #[.val (.ref o0), .val (.int i1), .val (.long (f1_v28f i1 kx g)), .second, .val (.int (6 : Int32))] [])) _
    refine XS.iinc X0.here hx rfl (hb hby d1_29) rfl (l' := #[.val (.ref o0), .val (.int i1), .val (.long (f1_v28f i1 kx g)), .second, .val (.int (7 : Int32))]) rfl ?_
    show Steps p.tables e below (s₁.setTop (mkF m 32 #[.val (.ref o0), .val (.int i1), .val (.long (f1_v28f i1 kx g)), .second, .val (.int (7 : Int32))] [])) _
    refine XS.goto X0.here hx rfl (pc0 := 32) (pc' := 5) rfl (hb hby d1_32) (by decide) (by decide) ?_
    show Steps p.tables e below (s₁.setTop (mkF m 5 #[.val (.ref o0), .val (.int i1), .val (.long (f1_v28f i1 kx g)), .second, .val (.int (7 : Int32))] [])) _
    refine XS.iload X0.here hx rfl (hb hby d1_5) rfl ?_
    show Steps p.tables e below (s₁.setTop (mkF m 7 #[.val (.ref o0), .val (.int i1), .val (.long (f1_v28f i1 kx g)), .second, .val (.int (7 : Int32))] [(.int (7 : Int32))])) _
    refine XS.bipush X0.here hx rfl (hb hby d1_7) ?_
    show Steps p.tables e below (s₁.setTop (mkF m 9 #[.val (.ref o0), .val (.int i1), .val (.long (f1_v28f i1 kx g)), .second, .val (.int (7 : Int32))] [(.int (8 : Int32)), (.int (7 : Int32))])) _
    refine XS.icmpNo X0.here hx rfl (hb hby d1_9) rfl (tlt (by decide)).2.1 ?_
    show Steps p.tables e below (s₁.setTop (mkF m 12 #[.val (.ref o0), .val (.int i1), .val (.long (f1_v28f i1 kx g)), .second, .val (.int (7 : Int32))] [])) _
    refine XS.lloadN X0.here hx rfl (hb hby d1_12) rfl ?_
    show Steps p.tables e below (s₁.setTop (mkF m 13 #[.val (.ref o0), .val (.int i1), .val (.long (f1_v28f i1 kx g)), .second, .val (.int (7 : Int32))] [(.long (f1_v28f i1 kx g))])) _
    refine XS.bipush X0.here hx rfl (hb hby d1_13) ?_
    show Steps p.tables e below (s₁.setTop (mkF m 15 #[.val (.ref o0), .val (.int i1), .val (.long (f1_v28f i1 kx g)), .second, .val (.int (7 : Int32))] [(.int (8 : Int32)), (.long (f1_v28f i1 kx g))])) _
    refine XS.lshl X0.here hx rfl (hb hby d1_15) rfl ?_
    show Steps p.tables e below (s₁.setTop (mkF m 16 #[.val (.ref o0), .val (.int i1), .val (.long (f1_v28f i1 kx g)), .second, .val (.int (7 : Int32))] [(.long ((f1_v28f i1 kx g) <<< ((8 : Int32) &&& 0x3f).toInt64))])) _
    refine XS.aloadN X0.here hx rfl (hb hby d1_16) rfl rfl ?_
    show Steps p.tables e below (s₁.setTop (mkF m 17 #[.val (.ref o0), .val (.int i1), .val (.long (f1_v28f i1 kx g)), .second, .val (.int (7 : Int32))] [(.ref o0), (.long ((f1_v28f i1 kx g) <<< ((8 : Int32) &&& 0x3f).toInt64))])) _
    refine XS.iloadN X0.here hx rfl (hb hby d1_17) rfl ?_
    show Steps p.tables e below (s₁.setTop (mkF m 18 #[.val (.ref o0), .val (.int i1), .val (.long (f1_v28f i1 kx g)), .second, .val (.int (7 : Int32))] [(.int i1), (.ref o0), (.long ((f1_v28f i1 kx g) <<< ((8 : Int32) &&& 0x3f).toInt64))])) _
    refine XS.iload X0.here hx rfl (hb hby d1_18) rfl ?_
    show Steps p.tables e below (s₁.setTop (mkF m 20 #[.val (.ref o0), .val (.int i1), .val (.long (f1_v28f i1 kx g)), .second, .val (.int (7 : Int32))] [(.int (7 : Int32)), (.int i1), (.ref o0), (.long ((f1_v28f i1 kx g) <<< ((8 : Int32) &&& 0x3f).toInt64))])) _
    refine XS.iadd X0.here hx rfl (hb hby d1_20) rfl ?_
    show Steps p.tables e below (s₁.setTop (mkF m 21 #[.val (.ref o0), .val (.int i1), .val (.long (f1_v28f i1 kx g)), .second, .val (.int (7 : Int32))] [(.int (i1 + (7 : Int32))), (.ref o0), (.long ((f1_v28f i1 kx g) <<< ((8 : Int32) &&& 0x3f).toInt64))])) _
    exact k
  refine Outs.of (ldB X0 hx hZ e0 A_o0 (j := (i1 + (7 : Int32))) (k := (kx + 7)) (own_ixa hk rfl (by have := AF.len A_o0; omega)) (by omega) (f := (mkF m 21 #[.val (.ref o0), .val (.int i1), .val (.long (f1_v28f i1 kx g)), .second, .val (.int (7 : Int32))] [(.int (i1 + (7 : Int32))), (.ref o0), (.long ((f1_v28f i1 kx g) <<< ((8 : Int32) &&& 0x3f).toInt64))])) rfl rfl (hb hby d1_21)) ?_
  show Outs p e below s _ _ _ (s₁.setTop (mkF m 22 #[.val (.ref o0), .val (.int i1), .val (.long (f1_v28f i1 kx g)), .second, .val (.int (7 : Int32))] [(.int (g ((kx + 7)))), (.long ((f1_v28f i1 kx g) <<< ((8 : Int32) &&& 0x3f).toInt64))]))
  refine Outs.of (U' := s₁.setTop (mkF m 36 #[.val (.ref o0), .val (.int i1), .val (.long (f1_v28g i1 kx g)), .second, .val (.int (8 : Int32))] [(.long (f1_v28g i1 kx g))])) (fun t k => ?_) ?_
  · refine XS.sipush X0.here hx rfl (hb hby d1_22) ?_
    show Steps p.tables e below (s₁.setTop (mkF m 25 #[.val (.ref o0), .val (.int i1), .val (.long (f1_v28f i1 kx g)), .second, .val (.int (7 : Int32))] [(.int (255 : Int32)), (.int (g ((kx + 7)))), (.long ((f1_v28f i1 kx g) <<< ((8 : Int32) &&& 0x3f).toInt64))])) _
    refine XS.iand X0.here hx rfl (hb hby d1_25) rfl ?_
    show Steps p.tables e below (s₁.setTop (mkF m 26 #[.val (.ref o0), .val (.int i1), .val (.long (f1_v28f i1 kx g)), .second, .val (.int (7 : Int32))] [(.int ((g ((kx + 7))) &&& (255 : Int32))), (.long ((f1_v28f i1 kx g) <<< ((8 : Int32) &&& 0x3f).toInt64))])) _
    refine XS.i2l X0.here hx rfl (hb hby d1_26) rfl ?_
    show Steps p.tables e below (s₁.setTop (mkF m 27 #[.val (.ref o0), .val (.int i1), .val (.long (f1_v28f i1 kx g)), .second, .val (.int (7 : Int32))] [(.long (((g ((kx + 7))) &&& (255 : Int32)).toInt64)), (.long ((f1_v28f i1 kx g) <<< ((8 : Int32) &&& 0x3f).toInt64))])) _
    refine XS.lor X0.here hx rfl (hb hby d1_27) rfl ?_
    show Steps p.tables e below (s₁.setTop (mkF m 28 #[.val (.ref o0), .val (.int i1), .val (.long (f1_v28f i1 kx g)), .second, .val (.int (7 : Int32))] [(.long (((f1_v28f i1 kx g) <<< ((8 : Int32) &&& 0x3f).toInt64) ||| (((g ((kx + 7))) &&& (255 : Int32)).toInt64)))])) _
    refine XS.lstoreN X0.here hx rfl (hb hby d1_28) rfl (l' := #[.val (.ref o0), .val (.int i1), .val (.long (f1_v28g i1 kx g)), .second, .val (.int (7 : Int32))]) rfl ?_
    show Steps p.tables e below (s₁.setTop (mkF m 29 #[.val (.ref o0), .val (.int i1), .val (.long (f1_v28g i1 kx g)), .second, .val (.int (7 : Int32))] [])) _
    refine XS.iinc X0.here hx rfl (hb hby d1_29) rfl (l' := #[.val (.ref o0), .val (.int i1), .val (.long (f1_v28g i1 kx g)), .second, .val (.int (8 : Int32))]) rfl ?_
    show Steps p.tables e below (s₁.setTop (mkF m 32 #[.val (.ref o0), .val (.int i1), .val (.long (f1_v28g i1 kx g)), .second, .val (.int (8 : Int32))] [])) _
    refine XS.goto X0.here hx rfl (pc0 := 32) (pc' := 5) rfl (hb hby d1_32) (by decide) (by decide) ?_
    show Steps p.tables e below (s₁.setTop (mkF m 5 #[.val (.ref o0), .val (.int i1), .val (.long (f1_v28g i1 kx g)), .second, .val (.int (8 : Int32))] [])) _
    refine XS.iload X0.here hx rfl (hb hby d1_5) rfl ?_
    show Steps p.tables e below (s₁.setTop (mkF m 7 #[.val (.ref o0), .val (.int i1), .val (.long (f1_v28g i1 kx g)), .second, .val (.int (8 : Int32))] [(.int (8 : Int32))])) _
    refine XS.bipush X0.here hx rfl (hb hby d1_7) ?_
    show Steps p.tables e below (s₁.setTop (mkF m 9 #[.val (.ref o0), .val (.int i1), .val (.long (f1_v28g i1 kx g)), .second, .val (.int (8 : Int32))] [(.int (8 : Int32)), (.int (8 : Int32))])) _
    refine XS.icmpYes X0.here hx rfl (pc0 := 9) (pc' := 35) rfl (hb hby d1_9) rfl (flt (by decide)).2.1 (by decide) (by decide) ?_
    show Steps p.tables e below (s₁.setTop (mkF m 35 #[.val (.ref o0), .val (.int i1), .val (.long (f1_v28g i1 kx g)), .second, .val (.int (8 : Int32))] [])) _
    refine XS.lloadN X0.here hx rfl (hb hby d1_35) rfl ?_
    show Steps p.tables e below (s₁.setTop (mkF m 36 #[.val (.ref o0), .val (.int i1), .val (.long (f1_v28g i1 kx g)), .second, .val (.int (8 : Int32))] [(.long (f1_v28g i1 kx g))])) _
    exact k
  exact Outs.retL X0 hx hret (hb hby d1_36) hlk (by decide) (by decide) e0 ⟨congrArg (fun z_ => some (Value.long z_)) (show (F_f1 i1 kx g) = (f1_v28g i1 kx g) from rfl).symm, N0, rfl⟩
theorem ef_3 (m : MethodId) (x0 : Addr) (x1 : Int32) (x2 : Int64) : entryFrame m #[(.ref x0), (.int x1), (.long x2)] 5 = mkF m 0 #[.val (.ref x0), .val (.int x1), .val (.long x2), .second, .unset] [] := by first | (simp [entryFrame, mkF, argsToLocals, Value.category]; done) | rfl
theorem d3_0 : decode prog_2_method_3_code 0 = .ok (.bipush 7, 2) := by decide +kernel
theorem d3_2 : decode prog_2_method_3_code 2 = .ok (.istore 4, 2) := by decide +kernel
theorem d3_4 : decode prog_2_method_3_code 4 = .ok (.iload 4, 2) := by decide +kernel
theorem d3_6 : decode prog_2_method_3_code 6 = .ok (.ifCond .lt 23, 3) := by decide +kernel
theorem d3_9 : decode prog_2_method_3_code 9 = .ok (.aload_n 0, 1) := by decide +kernel
theorem d3_10 : decode prog_2_method_3_code 10 = .ok (.iload_n 1, 1) := by decide +kernel
theorem d3_11 : decode prog_2_method_3_code 11 = .ok (.iload 4, 2) := by decide +kernel
theorem d3_13 : decode prog_2_method_3_code 13 = .ok (.iadd, 1) := by decide +kernel
theorem d3_14 : decode prog_2_method_3_code 14 = .ok (.lload_n 2, 1) := by decide +kernel
theorem d3_15 : decode prog_2_method_3_code 15 = .ok (.l2i, 1) := by decide +kernel
theorem d3_16 : decode prog_2_method_3_code 16 = .ok (.i2b, 1) := by decide +kernel
theorem d3_17 : decode prog_2_method_3_code 17 = .ok (.bastore, 1) := by decide +kernel
theorem d3_18 : decode prog_2_method_3_code 18 = .ok (.lload_n 2, 1) := by decide +kernel
theorem d3_19 : decode prog_2_method_3_code 19 = .ok (.bipush 8, 2) := by decide +kernel
theorem d3_21 : decode prog_2_method_3_code 21 = .ok (.lushr, 1) := by decide +kernel
theorem d3_22 : decode prog_2_method_3_code 22 = .ok (.lstore_n 2, 1) := by decide +kernel
theorem d3_23 : decode prog_2_method_3_code 23 = .ok (.iinc 4 (-1), 3) := by decide +kernel
theorem d3_26 : decode prog_2_method_3_code 26 = .ok (.goto (-22), 3) := by decide +kernel
theorem d3_29 : decode prog_2_method_3_code 29 = .ok (.return_, 1) := by decide +kernel
def f3_g17 (i1 : Int32) (j2 : Int64) (kx : Nat) (g : Nat → Int32) : Nat → Int32 := (upv g ((kx + 7)) (((j2.toInt32).toInt8.toInt32).toInt8.toInt32))
def f3_v22 (i1 : Int32) (j2 : Int64) (kx : Nat) (g : Nat → Int32) : Int64 := ((j2.toUInt64 >>> ((8 : Int32) &&& 0x3f).toInt64.toUInt64).toInt64)
def f3_g17a (i1 : Int32) (j2 : Int64) (kx : Nat) (g : Nat → Int32) : Nat → Int32 := (upv (f3_g17 i1 j2 kx g) ((kx + 6)) ((((f3_v22 i1 j2 kx g).toInt32).toInt8.toInt32).toInt8.toInt32))
def f3_v22a (i1 : Int32) (j2 : Int64) (kx : Nat) (g : Nat → Int32) : Int64 := (((f3_v22 i1 j2 kx g).toUInt64 >>> ((8 : Int32) &&& 0x3f).toInt64.toUInt64).toInt64)
def f3_g17b (i1 : Int32) (j2 : Int64) (kx : Nat) (g : Nat → Int32) : Nat → Int32 := (upv (f3_g17a i1 j2 kx g) ((kx + 5)) ((((f3_v22a i1 j2 kx g).toInt32).toInt8.toInt32).toInt8.toInt32))
def f3_v22b (i1 : Int32) (j2 : Int64) (kx : Nat) (g : Nat → Int32) : Int64 := (((f3_v22a i1 j2 kx g).toUInt64 >>> ((8 : Int32) &&& 0x3f).toInt64.toUInt64).toInt64)
def f3_g17c (i1 : Int32) (j2 : Int64) (kx : Nat) (g : Nat → Int32) : Nat → Int32 := (upv (f3_g17b i1 j2 kx g) ((kx + 4)) ((((f3_v22b i1 j2 kx g).toInt32).toInt8.toInt32).toInt8.toInt32))
def f3_v22c (i1 : Int32) (j2 : Int64) (kx : Nat) (g : Nat → Int32) : Int64 := (((f3_v22b i1 j2 kx g).toUInt64 >>> ((8 : Int32) &&& 0x3f).toInt64.toUInt64).toInt64)
def f3_g17d (i1 : Int32) (j2 : Int64) (kx : Nat) (g : Nat → Int32) : Nat → Int32 := (upv (f3_g17c i1 j2 kx g) ((kx + 3)) ((((f3_v22c i1 j2 kx g).toInt32).toInt8.toInt32).toInt8.toInt32))
def f3_v22d (i1 : Int32) (j2 : Int64) (kx : Nat) (g : Nat → Int32) : Int64 := (((f3_v22c i1 j2 kx g).toUInt64 >>> ((8 : Int32) &&& 0x3f).toInt64.toUInt64).toInt64)
def f3_g17e (i1 : Int32) (j2 : Int64) (kx : Nat) (g : Nat → Int32) : Nat → Int32 := (upv (f3_g17d i1 j2 kx g) ((kx + 2)) ((((f3_v22d i1 j2 kx g).toInt32).toInt8.toInt32).toInt8.toInt32))
def f3_v22e (i1 : Int32) (j2 : Int64) (kx : Nat) (g : Nat → Int32) : Int64 := (((f3_v22d i1 j2 kx g).toUInt64 >>> ((8 : Int32) &&& 0x3f).toInt64.toUInt64).toInt64)
def f3_g17f (i1 : Int32) (j2 : Int64) (kx : Nat) (g : Nat → Int32) : Nat → Int32 := (upv (f3_g17e i1 j2 kx g) ((kx + 1)) ((((f3_v22e i1 j2 kx g).toInt32).toInt8.toInt32).toInt8.toInt32))
def f3_v22f (i1 : Int32) (j2 : Int64) (kx : Nat) (g : Nat → Int32) : Int64 := (((f3_v22e i1 j2 kx g).toUInt64 >>> ((8 : Int32) &&& 0x3f).toInt64.toUInt64).toInt64)
def f3_g17g (i1 : Int32) (j2 : Int64) (kx : Nat) (g : Nat → Int32) : Nat → Int32 := (upv (f3_g17f i1 j2 kx g) ((kx + 0)) ((((f3_v22f i1 j2 kx g).toInt32).toInt8.toInt32).toInt8.toInt32))
def f3_v22g (i1 : Int32) (j2 : Int64) (kx : Nat) (g : Nat → Int32) : Int64 := (((f3_v22f i1 j2 kx g).toUInt64 >>> ((8 : Int32) &&& 0x3f).toInt64.toUInt64).toInt64)
def Q_f3 (Z : State) (o0 : Addr) (i1 : Int32) (j2 : Int64) (n : Nat) (kx : Nat) (g : Nat → Int32) (h0 : Heap) (n0 : Nat) (v : Option Value) (h : Heap) (L : List Loc) : Prop := v = none ∧ Fr n0 L ∧ Keep h0 h [o0] ∧ AI Z h o0 .byte n (f3_g17g i1 j2 kx g)
set_option maxRecDepth 65536 in
set_option maxHeartbeats 40000000 in
theorem rm3 (l : Launch) (Z : State) (a0 : Array Value) (hw : ∀ d ∈ tables_1, d.before a0 Z = true) (ws : List Jvm.Cond) (o0 : Addr) (i1 : Int32) (j2 : Int64) (n : Nat) (kx : Nat) (g : Nat → Int32) (h0 : Heap) (n0 : Nat) (A_o0 : AI Z h0 o0 .byte n g) (hk : i1.toInt = (kx : Int)) (hbx : kx + 8 ≤ n) (g_o0 : n0 ≤ o0) :
    MetFree l (⟨"com/example/penelope/penelope/Codec", "putLong", "([BIJ)V"⟩ : MethodName) (head1 (Jvm.Cond.code (⟨"com/example/penelope/penelope/Codec", "putLong", "([BIJ)V"⟩ : MethodName) prog_2_method_3_code 5 none :: ws) ({ frames := 0, cells := 0, slots := 0, locals := 0 } : Room)) (fun a U => a = #[(.ref o0), (.int i1), (.long j2)] ∧ Z.Warmed39 U.vm ∧ U.heap = h0) (fun _ _ _ _ _ => True) (fun _ U o U' => ∃ v L, o = .returned v ∧ Q_f3 Z o0 i1 j2 n kx g h0 n0 v U'.heap L ∧ FrameEnd U o U' L ({ frames := 0, cells := 0, slots := 0, locals := 0 } : Room).cells ({ frames := 0, cells := 0, slots := 0, locals := 0 } : Room).slots) := by
  refine MetFree.of_bodySF (plainFor_of_name pn_1) hisR ?_
  intro p e s m args below meth c s₁ Bd hml0 hP hK
  obtain ⟨rfl, hZ, hh⟩ := hP
  have hx := Bd.exec
  have hby := Bd.bytes
  have hml : c.maxLocals = 5 := hml0
  have hown : s.vm.findClass "com/example/penelope/penelope/Codec" = some m.cls := findClass_of_methodNamed Bd.named
  have hnm := (name_of_methodNamed Bd.named Bd.method).1
  have hret := Bd.returns
  have hlk : meth.locks = false := BodyLoose.notSynchronized Bd
  have X0 : Stand p l e ({ frames := 0, cells := 0, slots := 0, locals := 0 } : Room) s m #[(.ref o0), (.int i1), (.long j2)] below meth c s₁ [] 0 0 := Stand.of_body Bd
  have e0 : s₁.heap = h0 := by rw [← hh, Bd.state]; rfl
  have N0 := Fr.nil n0
  show Outs p e below s (Q_f3 Z o0 i1 j2 n kx g h0 n0) _ _ _
  refine Outs.of (U' := s₁.setTop (mkF m 0 #[.val (.ref o0), .val (.int i1), .val (.long j2), .second, .unset] [])) (fun t k => castTop (ef_3 m o0 i1 j2) k) ?_
  refine Outs.of (U' := s₁.setTop (mkF m 17 #[.val (.ref o0), .val (.int i1), .val (.long j2), .second, .val (.int (7 : Int32))] [(.int ((j2.toInt32).toInt8.toInt32)), (.int (i1 + (7 : Int32))), (.ref o0)])) (fun t k => ?_) ?_
  · refine XS.bipush X0.here hx rfl (hb hby d3_0) ?_
    show Steps p.tables e below (s₁.setTop (mkF m 2 #[.val (.ref o0), .val (.int i1), .val (.long j2), .second, .unset] [(.int (7 : Int32))])) _
    refine XS.istore X0.here hx rfl (hb hby d3_2) rfl (l' := #[.val (.ref o0), .val (.int i1), .val (.long j2), .second, .val (.int (7 : Int32))]) rfl ?_
    show Steps p.tables e below (s₁.setTop (mkF m 4 #[.val (.ref o0), .val (.int i1), .val (.long j2), .second, .val (.int (7 : Int32))] [])) _
    refine XS.iload X0.here hx rfl (hb hby d3_4) rfl ?_
    show Steps p.tables e below (s₁.setTop (mkF m 6 #[.val (.ref o0), .val (.int i1), .val (.long j2), .second, .val (.int (7 : Int32))] [(.int (7 : Int32))])) _
    refine XS.ifNo X0.here hx rfl (hb hby d3_6) rfl ((if0 _ _).trans (flt (by decide)).1) ?_
    show Steps p.tables e below (s₁.setTop (mkF m 9 #[.val (.ref o0), .val (.int i1), .val (.long j2), .second, .val (.int (7 : Int32))] [])) _
    refine XS.aloadN X0.here hx rfl (hb hby d3_9) rfl rfl ?_
    show Steps p.tables e below (s₁.setTop (mkF m 10 #[.val (.ref o0), .val (.int i1), .val (.long j2), .second, .val (.int (7 : Int32))] [(.ref o0)])) _
    refine XS.iloadN X0.here hx rfl (hb hby d3_10) rfl ?_
    show Steps p.tables e below (s₁.setTop (mkF m 11 #[.val (.ref o0), .val (.int i1), .val (.long j2), .second, .val (.int (7 : Int32))] [(.int i1), (.ref o0)])) _
    refine XS.iload X0.here hx rfl (hb hby d3_11) rfl ?_
    show Steps p.tables e below (s₁.setTop (mkF m 13 #[.val (.ref o0), .val (.int i1), .val (.long j2), .second, .val (.int (7 : Int32))] [(.int (7 : Int32)), (.int i1), (.ref o0)])) _
    refine XS.iadd X0.here hx rfl (hb hby d3_13) rfl ?_
    show Steps p.tables e below (s₁.setTop (mkF m 14 #[.val (.ref o0), .val (.int i1), .val (.long j2), .second, .val (.int (7 : Int32))] [(.int (i1 + (7 : Int32))), (.ref o0)])) _
    refine XS.lloadN X0.here hx rfl (hb hby d3_14) rfl ?_
    show Steps p.tables e below (s₁.setTop (mkF m 15 #[.val (.ref o0), .val (.int i1), .val (.long j2), .second, .val (.int (7 : Int32))] [(.long j2), (.int (i1 + (7 : Int32))), (.ref o0)])) _
    refine XS.l2i X0.here hx rfl (hb hby d3_15) rfl ?_
    show Steps p.tables e below (s₁.setTop (mkF m 16 #[.val (.ref o0), .val (.int i1), .val (.long j2), .second, .val (.int (7 : Int32))] [(.int (j2.toInt32)), (.int (i1 + (7 : Int32))), (.ref o0)])) _
    refine XS.i2b X0.here hx rfl (hb hby d3_16) rfl ?_
    show Steps p.tables e below (s₁.setTop (mkF m 17 #[.val (.ref o0), .val (.int i1), .val (.long j2), .second, .val (.int (7 : Int32))] [(.int ((j2.toInt32).toInt8.toInt32)), (.int (i1 + (7 : Int32))), (.ref o0)])) _
    exact k
  obtain ⟨T1, h1, X1, e1, W1, V1, st1⟩ := puB X0 hx hZ e0 A_o0 (j := (i1 + (7 : Int32))) (x := ((j2.toInt32).toInt8.toInt32)) (k := (kx + 7)) (own_ixa hk rfl (by have := AF.len A_o0; omega)) (by omega) (f := (mkF m 17 #[.val (.ref o0), .val (.int i1), .val (.long j2), .second, .val (.int (7 : Int32))] [(.int ((j2.toInt32).toInt8.toInt32)), (.int (i1 + (7 : Int32))), (.ref o0)])) rfl rfl (hb hby d3_17)
  replace V1 : AI Z h1 o0 .byte n (f3_g17 i1 j2 kx g) := V1
  have N1 := Fr.snoc X1 N0 g_o0
  obtain ⟨Lh1, X1, N1⟩ := hide X1 N1 (C := 0) (S := 0) (by decide) (by decide)
  refine Outs.of st1 ?_
  show Outs p e below s _ _ _ (T1.setTop (mkF m 18 #[.val (.ref o0), .val (.int i1), .val (.long j2), .second, .val (.int (7 : Int32))] []))
  refine Outs.of (U' := T1.setTop (mkF m 17 #[.val (.ref o0), .val (.int i1), .val (.long (f3_v22 i1 j2 kx g)), .second, .val (.int (6 : Int32))] [(.int (((f3_v22 i1 j2 kx g).toInt32).toInt8.toInt32)), (.int (i1 + (6 : Int32))), (.ref o0)])) (fun t k => ?_) ?_
  · refine XS.lloadN X1.here hx rfl (hb hby d3_18) rfl ?_
    show Steps p.tables e below (T1.setTop (mkF m 19 #[.val (.ref o0), .val (.int i1), .val (.long j2), .second, .val (.int (7 : Int32))] [(.long j2)])) _
    refine XS.bipush X1.here hx rfl (hb hby d3_19) ?_
    show Steps p.tables e below (T1.setTop (mkF m 21 #[.val (.ref o0), .val (.int i1), .val (.long j2), .second, .val (.int (7 : Int32))] [(.int (8 : Int32)), (.long j2)])) _
    refine XS.lushr X1.here hx rfl (hb hby d3_21) rfl ?_
    show Steps p.tables e below (T1.setTop (mkF m 22 #[.val (.ref o0), .val (.int i1), .val (.long j2), .second, .val (.int (7 : Int32))] [(.long ((j2.toUInt64 >>> ((8 : Int32) &&& 0x3f).toInt64.toUInt64).toInt64))])) _
    refine XS.lstoreN X1.here hx rfl (hb hby d3_22) rfl (l' := #[.val (.ref o0), .val (.int i1), .val (.long (f3_v22 i1 j2 kx g)), .second, .val (.int (7 : Int32))]) rfl ?_
    show Steps p.tables e below (T1.setTop (mkF m 23 #[.val (.ref o0), .val (.int i1), .val (.long (f3_v22 i1 j2 kx g)), .second, .val (.int (7 : Int32))] [])) _
    refine XS.iinc X1.here hx rfl (hb hby d3_23) rfl (l' := #[.val (.ref o0), .val (.int i1), .val (.long (f3_v22 i1 j2 kx g)), .second, .val (.int (6 : Int32))]) rfl ?_
    show Steps p.tables e below (T1.setTop (mkF m 26 #[.val (.ref o0), .val (.int i1), .val (.long (f3_v22 i1 j2 kx g)), .second, .val (.int (6 : Int32))] [])) _
    refine XS.goto X1.here hx rfl (pc0 := 26) (pc' := 4) rfl (hb hby d3_26) (by decide) (by decide) ?_
    show Steps p.tables e below (T1.setTop (mkF m 4 #[.val (.ref o0), .val (.int i1), .val (.long (f3_v22 i1 j2 kx g)), .second, .val (.int (6 : Int32))] [])) _
    refine XS.iload X1.here hx rfl (hb hby d3_4) rfl ?_
    show Steps p.tables e below (T1.setTop (mkF m 6 #[.val (.ref o0), .val (.int i1), .val (.long (f3_v22 i1 j2 kx g)), .second, .val (.int (6 : Int32))] [(.int (6 : Int32))])) _
    refine XS.ifNo X1.here hx rfl (hb hby d3_6) rfl ((if0 _ _).trans (flt (by decide)).1) ?_
    show Steps p.tables e below (T1.setTop (mkF m 9 #[.val (.ref o0), .val (.int i1), .val (.long (f3_v22 i1 j2 kx g)), .second, .val (.int (6 : Int32))] [])) _
    refine XS.aloadN X1.here hx rfl (hb hby d3_9) rfl rfl ?_
    show Steps p.tables e below (T1.setTop (mkF m 10 #[.val (.ref o0), .val (.int i1), .val (.long (f3_v22 i1 j2 kx g)), .second, .val (.int (6 : Int32))] [(.ref o0)])) _
    refine XS.iloadN X1.here hx rfl (hb hby d3_10) rfl ?_
    show Steps p.tables e below (T1.setTop (mkF m 11 #[.val (.ref o0), .val (.int i1), .val (.long (f3_v22 i1 j2 kx g)), .second, .val (.int (6 : Int32))] [(.int i1), (.ref o0)])) _
    refine XS.iload X1.here hx rfl (hb hby d3_11) rfl ?_
    show Steps p.tables e below (T1.setTop (mkF m 13 #[.val (.ref o0), .val (.int i1), .val (.long (f3_v22 i1 j2 kx g)), .second, .val (.int (6 : Int32))] [(.int (6 : Int32)), (.int i1), (.ref o0)])) _
    refine XS.iadd X1.here hx rfl (hb hby d3_13) rfl ?_
    show Steps p.tables e below (T1.setTop (mkF m 14 #[.val (.ref o0), .val (.int i1), .val (.long (f3_v22 i1 j2 kx g)), .second, .val (.int (6 : Int32))] [(.int (i1 + (6 : Int32))), (.ref o0)])) _
    refine XS.lloadN X1.here hx rfl (hb hby d3_14) rfl ?_
    show Steps p.tables e below (T1.setTop (mkF m 15 #[.val (.ref o0), .val (.int i1), .val (.long (f3_v22 i1 j2 kx g)), .second, .val (.int (6 : Int32))] [(.long (f3_v22 i1 j2 kx g)), (.int (i1 + (6 : Int32))), (.ref o0)])) _
    refine XS.l2i X1.here hx rfl (hb hby d3_15) rfl ?_
    show Steps p.tables e below (T1.setTop (mkF m 16 #[.val (.ref o0), .val (.int i1), .val (.long (f3_v22 i1 j2 kx g)), .second, .val (.int (6 : Int32))] [(.int ((f3_v22 i1 j2 kx g).toInt32)), (.int (i1 + (6 : Int32))), (.ref o0)])) _
    refine XS.i2b X1.here hx rfl (hb hby d3_16) rfl ?_
    show Steps p.tables e below (T1.setTop (mkF m 17 #[.val (.ref o0), .val (.int i1), .val (.long (f3_v22 i1 j2 kx g)), .second, .val (.int (6 : Int32))] [(.int (((f3_v22 i1 j2 kx g).toInt32).toInt8.toInt32)), (.int (i1 + (6 : Int32))), (.ref o0)])) _
    exact k
  obtain ⟨T2, h2, X2, e2, W2, V2, st2⟩ := puB X1 hx hZ e1 V1 (j := (i1 + (6 : Int32))) (x := (((f3_v22 i1 j2 kx g).toInt32).toInt8.toInt32)) (k := (kx + 6)) (own_ixa hk rfl (by have := AF.len A_o0; omega)) (by omega) (f := (mkF m 17 #[.val (.ref o0), .val (.int i1), .val (.long (f3_v22 i1 j2 kx g)), .second, .val (.int (6 : Int32))] [(.int (((f3_v22 i1 j2 kx g).toInt32).toInt8.toInt32)), (.int (i1 + (6 : Int32))), (.ref o0)])) rfl rfl (hb hby d3_17)
  replace V2 : AI Z h2 o0 .byte n (f3_g17a i1 j2 kx g) := V2
  have N2 := Fr.snoc X2 N1 g_o0
  obtain ⟨Lh2, X2, N2⟩ := hide X2 N2 (C := 0) (S := 0) (by decide) (by decide)
  refine Outs.of st2 ?_
  show Outs p e below s _ _ _ (T2.setTop (mkF m 18 #[.val (.ref o0), .val (.int i1), .val (.long (f3_v22 i1 j2 kx g)), .second, .val (.int (6 : Int32))] []))
  refine Outs.of (U' := T2.setTop (mkF m 17 #[.val (.ref o0), .val (.int i1), .val (.long (f3_v22a i1 j2 kx g)), .second, .val (.int (5 : Int32))] [(.int (((f3_v22a i1 j2 kx g).toInt32).toInt8.toInt32)), (.int (i1 + (5 : Int32))), (.ref o0)])) (fun t k => ?_) ?_
  · refine XS.lloadN X2.here hx rfl (hb hby d3_18) rfl ?_
    show Steps p.tables e below (T2.setTop (mkF m 19 #[.val (.ref o0), .val (.int i1), .val (.long (f3_v22 i1 j2 kx g)), .second, .val (.int (6 : Int32))] [(.long (f3_v22 i1 j2 kx g))])) _
    refine XS.bipush X2.here hx rfl (hb hby d3_19) ?_
    show Steps p.tables e below (T2.setTop (mkF m 21 #[.val (.ref o0), .val (.int i1), .val (.long (f3_v22 i1 j2 kx g)), .second, .val (.int (6 : Int32))] [(.int (8 : Int32)), (.long (f3_v22 i1 j2 kx g))])) _
    refine XS.lushr X2.here hx rfl (hb hby d3_21) rfl ?_
    show Steps p.tables e below (T2.setTop (mkF m 22 #[.val (.ref o0), .val (.int i1), .val (.long (f3_v22 i1 j2 kx g)), .second, .val (.int (6 : Int32))] [(.long (((f3_v22 i1 j2 kx g).toUInt64 >>> ((8 : Int32) &&& 0x3f).toInt64.toUInt64).toInt64))])) _
    refine XS.lstoreN X2.here hx rfl (hb hby d3_22) rfl (l' := #[.val (.ref o0), .val (.int i1), .val (.long (f3_v22a i1 j2 kx g)), .second, .val (.int (6 : Int32))]) rfl ?_
    show Steps p.tables e below (T2.setTop (mkF m 23 #[.val (.ref o0), .val (.int i1), .val (.long (f3_v22a i1 j2 kx g)), .second, .val (.int (6 : Int32))] [])) _
    refine XS.iinc X2.here hx rfl (hb hby d3_23) rfl (l' := #[.val (.ref o0), .val (.int i1), .val (.long (f3_v22a i1 j2 kx g)), .second, .val (.int (5 : Int32))]) rfl ?_
    show Steps p.tables e below (T2.setTop (mkF m 26 #[.val (.ref o0), .val (.int i1), .val (.long (f3_v22a i1 j2 kx g)), .second, .val (.int (5 : Int32))] [])) _
    refine XS.goto X2.here hx rfl (pc0 := 26) (pc' := 4) rfl (hb hby d3_26) (by decide) (by decide) ?_
    show Steps p.tables e below (T2.setTop (mkF m 4 #[.val (.ref o0), .val (.int i1), .val (.long (f3_v22a i1 j2 kx g)), .second, .val (.int (5 : Int32))] [])) _
    refine XS.iload X2.here hx rfl (hb hby d3_4) rfl ?_
    show Steps p.tables e below (T2.setTop (mkF m 6 #[.val (.ref o0), .val (.int i1), .val (.long (f3_v22a i1 j2 kx g)), .second, .val (.int (5 : Int32))] [(.int (5 : Int32))])) _
    refine XS.ifNo X2.here hx rfl (hb hby d3_6) rfl ((if0 _ _).trans (flt (by decide)).1) ?_
    show Steps p.tables e below (T2.setTop (mkF m 9 #[.val (.ref o0), .val (.int i1), .val (.long (f3_v22a i1 j2 kx g)), .second, .val (.int (5 : Int32))] [])) _
    refine XS.aloadN X2.here hx rfl (hb hby d3_9) rfl rfl ?_
    show Steps p.tables e below (T2.setTop (mkF m 10 #[.val (.ref o0), .val (.int i1), .val (.long (f3_v22a i1 j2 kx g)), .second, .val (.int (5 : Int32))] [(.ref o0)])) _
    refine XS.iloadN X2.here hx rfl (hb hby d3_10) rfl ?_
    show Steps p.tables e below (T2.setTop (mkF m 11 #[.val (.ref o0), .val (.int i1), .val (.long (f3_v22a i1 j2 kx g)), .second, .val (.int (5 : Int32))] [(.int i1), (.ref o0)])) _
    refine XS.iload X2.here hx rfl (hb hby d3_11) rfl ?_
    show Steps p.tables e below (T2.setTop (mkF m 13 #[.val (.ref o0), .val (.int i1), .val (.long (f3_v22a i1 j2 kx g)), .second, .val (.int (5 : Int32))] [(.int (5 : Int32)), (.int i1), (.ref o0)])) _
    refine XS.iadd X2.here hx rfl (hb hby d3_13) rfl ?_
    show Steps p.tables e below (T2.setTop (mkF m 14 #[.val (.ref o0), .val (.int i1), .val (.long (f3_v22a i1 j2 kx g)), .second, .val (.int (5 : Int32))] [(.int (i1 + (5 : Int32))), (.ref o0)])) _
    refine XS.lloadN X2.here hx rfl (hb hby d3_14) rfl ?_
    show Steps p.tables e below (T2.setTop (mkF m 15 #[.val (.ref o0), .val (.int i1), .val (.long (f3_v22a i1 j2 kx g)), .second, .val (.int (5 : Int32))] [(.long (f3_v22a i1 j2 kx g)), (.int (i1 + (5 : Int32))), (.ref o0)])) _
    refine XS.l2i X2.here hx rfl (hb hby d3_15) rfl ?_
    show Steps p.tables e below (T2.setTop (mkF m 16 #[.val (.ref o0), .val (.int i1), .val (.long (f3_v22a i1 j2 kx g)), .second, .val (.int (5 : Int32))] [(.int ((f3_v22a i1 j2 kx g).toInt32)), (.int (i1 + (5 : Int32))), (.ref o0)])) _
    refine XS.i2b X2.here hx rfl (hb hby d3_16) rfl ?_
    show Steps p.tables e below (T2.setTop (mkF m 17 #[.val (.ref o0), .val (.int i1), .val (.long (f3_v22a i1 j2 kx g)), .second, .val (.int (5 : Int32))] [(.int (((f3_v22a i1 j2 kx g).toInt32).toInt8.toInt32)), (.int (i1 + (5 : Int32))), (.ref o0)])) _
    exact k
  obtain ⟨T3, h3, X3, e3, W3, V3, st3⟩ := puB X2 hx hZ e2 V2 (j := (i1 + (5 : Int32))) (x := (((f3_v22a i1 j2 kx g).toInt32).toInt8.toInt32)) (k := (kx + 5)) (own_ixa hk rfl (by have := AF.len A_o0; omega)) (by omega) (f := (mkF m 17 #[.val (.ref o0), .val (.int i1), .val (.long (f3_v22a i1 j2 kx g)), .second, .val (.int (5 : Int32))] [(.int (((f3_v22a i1 j2 kx g).toInt32).toInt8.toInt32)), (.int (i1 + (5 : Int32))), (.ref o0)])) rfl rfl (hb hby d3_17)
  replace V3 : AI Z h3 o0 .byte n (f3_g17b i1 j2 kx g) := V3
  have N3 := Fr.snoc X3 N2 g_o0
  obtain ⟨Lh3, X3, N3⟩ := hide X3 N3 (C := 0) (S := 0) (by decide) (by decide)
  refine Outs.of st3 ?_
  show Outs p e below s _ _ _ (T3.setTop (mkF m 18 #[.val (.ref o0), .val (.int i1), .val (.long (f3_v22a i1 j2 kx g)), .second, .val (.int (5 : Int32))] []))
  refine Outs.of (U' := T3.setTop (mkF m 17 #[.val (.ref o0), .val (.int i1), .val (.long (f3_v22b i1 j2 kx g)), .second, .val (.int (4 : Int32))] [(.int (((f3_v22b i1 j2 kx g).toInt32).toInt8.toInt32)), (.int (i1 + (4 : Int32))), (.ref o0)])) (fun t k => ?_) ?_
  · refine XS.lloadN X3.here hx rfl (hb hby d3_18) rfl ?_
    show Steps p.tables e below (T3.setTop (mkF m 19 #[.val (.ref o0), .val (.int i1), .val (.long (f3_v22a i1 j2 kx g)), .second, .val (.int (5 : Int32))] [(.long (f3_v22a i1 j2 kx g))])) _
    refine XS.bipush X3.here hx rfl (hb hby d3_19) ?_
    show Steps p.tables e below (T3.setTop (mkF m 21 #[.val (.ref o0), .val (.int i1), .val (.long (f3_v22a i1 j2 kx g)), .second, .val (.int (5 : Int32))] [(.int (8 : Int32)), (.long (f3_v22a i1 j2 kx g))])) _
    refine XS.lushr X3.here hx rfl (hb hby d3_21) rfl ?_
    show Steps p.tables e below (T3.setTop (mkF m 22 #[.val (.ref o0), .val (.int i1), .val (.long (f3_v22a i1 j2 kx g)), .second, .val (.int (5 : Int32))] [(.long (((f3_v22a i1 j2 kx g).toUInt64 >>> ((8 : Int32) &&& 0x3f).toInt64.toUInt64).toInt64))])) _
    refine XS.lstoreN X3.here hx rfl (hb hby d3_22) rfl (l' := #[.val (.ref o0), .val (.int i1), .val (.long (f3_v22b i1 j2 kx g)), .second, .val (.int (5 : Int32))]) rfl ?_
    show Steps p.tables e below (T3.setTop (mkF m 23 #[.val (.ref o0), .val (.int i1), .val (.long (f3_v22b i1 j2 kx g)), .second, .val (.int (5 : Int32))] [])) _
    refine XS.iinc X3.here hx rfl (hb hby d3_23) rfl (l' := #[.val (.ref o0), .val (.int i1), .val (.long (f3_v22b i1 j2 kx g)), .second, .val (.int (4 : Int32))]) rfl ?_
    show Steps p.tables e below (T3.setTop (mkF m 26 #[.val (.ref o0), .val (.int i1), .val (.long (f3_v22b i1 j2 kx g)), .second, .val (.int (4 : Int32))] [])) _
    refine XS.goto X3.here hx rfl (pc0 := 26) (pc' := 4) rfl (hb hby d3_26) (by decide) (by decide) ?_
    show Steps p.tables e below (T3.setTop (mkF m 4 #[.val (.ref o0), .val (.int i1), .val (.long (f3_v22b i1 j2 kx g)), .second, .val (.int (4 : Int32))] [])) _
    refine XS.iload X3.here hx rfl (hb hby d3_4) rfl ?_
    show Steps p.tables e below (T3.setTop (mkF m 6 #[.val (.ref o0), .val (.int i1), .val (.long (f3_v22b i1 j2 kx g)), .second, .val (.int (4 : Int32))] [(.int (4 : Int32))])) _
    refine XS.ifNo X3.here hx rfl (hb hby d3_6) rfl ((if0 _ _).trans (flt (by decide)).1) ?_
    show Steps p.tables e below (T3.setTop (mkF m 9 #[.val (.ref o0), .val (.int i1), .val (.long (f3_v22b i1 j2 kx g)), .second, .val (.int (4 : Int32))] [])) _
    refine XS.aloadN X3.here hx rfl (hb hby d3_9) rfl rfl ?_
    show Steps p.tables e below (T3.setTop (mkF m 10 #[.val (.ref o0), .val (.int i1), .val (.long (f3_v22b i1 j2 kx g)), .second, .val (.int (4 : Int32))] [(.ref o0)])) _
    refine XS.iloadN X3.here hx rfl (hb hby d3_10) rfl ?_
    show Steps p.tables e below (T3.setTop (mkF m 11 #[.val (.ref o0), .val (.int i1), .val (.long (f3_v22b i1 j2 kx g)), .second, .val (.int (4 : Int32))] [(.int i1), (.ref o0)])) _
    refine XS.iload X3.here hx rfl (hb hby d3_11) rfl ?_
    show Steps p.tables e below (T3.setTop (mkF m 13 #[.val (.ref o0), .val (.int i1), .val (.long (f3_v22b i1 j2 kx g)), .second, .val (.int (4 : Int32))] [(.int (4 : Int32)), (.int i1), (.ref o0)])) _
    refine XS.iadd X3.here hx rfl (hb hby d3_13) rfl ?_
    show Steps p.tables e below (T3.setTop (mkF m 14 #[.val (.ref o0), .val (.int i1), .val (.long (f3_v22b i1 j2 kx g)), .second, .val (.int (4 : Int32))] [(.int (i1 + (4 : Int32))), (.ref o0)])) _
    refine XS.lloadN X3.here hx rfl (hb hby d3_14) rfl ?_
    show Steps p.tables e below (T3.setTop (mkF m 15 #[.val (.ref o0), .val (.int i1), .val (.long (f3_v22b i1 j2 kx g)), .second, .val (.int (4 : Int32))] [(.long (f3_v22b i1 j2 kx g)), (.int (i1 + (4 : Int32))), (.ref o0)])) _
    refine XS.l2i X3.here hx rfl (hb hby d3_15) rfl ?_
    show Steps p.tables e below (T3.setTop (mkF m 16 #[.val (.ref o0), .val (.int i1), .val (.long (f3_v22b i1 j2 kx g)), .second, .val (.int (4 : Int32))] [(.int ((f3_v22b i1 j2 kx g).toInt32)), (.int (i1 + (4 : Int32))), (.ref o0)])) _
    refine XS.i2b X3.here hx rfl (hb hby d3_16) rfl ?_
    show Steps p.tables e below (T3.setTop (mkF m 17 #[.val (.ref o0), .val (.int i1), .val (.long (f3_v22b i1 j2 kx g)), .second, .val (.int (4 : Int32))] [(.int (((f3_v22b i1 j2 kx g).toInt32).toInt8.toInt32)), (.int (i1 + (4 : Int32))), (.ref o0)])) _
    exact k
  obtain ⟨T4, h4, X4, e4, W4, V4, st4⟩ := puB X3 hx hZ e3 V3 (j := (i1 + (4 : Int32))) (x := (((f3_v22b i1 j2 kx g).toInt32).toInt8.toInt32)) (k := (kx + 4)) (own_ixa hk rfl (by have := AF.len A_o0; omega)) (by omega) (f := (mkF m 17 #[.val (.ref o0), .val (.int i1), .val (.long (f3_v22b i1 j2 kx g)), .second, .val (.int (4 : Int32))] [(.int (((f3_v22b i1 j2 kx g).toInt32).toInt8.toInt32)), (.int (i1 + (4 : Int32))), (.ref o0)])) rfl rfl (hb hby d3_17)
  replace V4 : AI Z h4 o0 .byte n (f3_g17c i1 j2 kx g) := V4
  have N4 := Fr.snoc X4 N3 g_o0
  obtain ⟨Lh4, X4, N4⟩ := hide X4 N4 (C := 0) (S := 0) (by decide) (by decide)
  refine Outs.of st4 ?_
  show Outs p e below s _ _ _ (T4.setTop (mkF m 18 #[.val (.ref o0), .val (.int i1), .val (.long (f3_v22b i1 j2 kx g)), .second, .val (.int (4 : Int32))] []))
  refine Outs.of (U' := T4.setTop (mkF m 17 #[.val (.ref o0), .val (.int i1), .val (.long (f3_v22c i1 j2 kx g)), .second, .val (.int (3 : Int32))] [(.int (((f3_v22c i1 j2 kx g).toInt32).toInt8.toInt32)), (.int (i1 + (3 : Int32))), (.ref o0)])) (fun t k => ?_) ?_
  · refine XS.lloadN X4.here hx rfl (hb hby d3_18) rfl ?_
    show Steps p.tables e below (T4.setTop (mkF m 19 #[.val (.ref o0), .val (.int i1), .val (.long (f3_v22b i1 j2 kx g)), .second, .val (.int (4 : Int32))] [(.long (f3_v22b i1 j2 kx g))])) _
    refine XS.bipush X4.here hx rfl (hb hby d3_19) ?_
    show Steps p.tables e below (T4.setTop (mkF m 21 #[.val (.ref o0), .val (.int i1), .val (.long (f3_v22b i1 j2 kx g)), .second, .val (.int (4 : Int32))] [(.int (8 : Int32)), (.long (f3_v22b i1 j2 kx g))])) _
    refine XS.lushr X4.here hx rfl (hb hby d3_21) rfl ?_
    show Steps p.tables e below (T4.setTop (mkF m 22 #[.val (.ref o0), .val (.int i1), .val (.long (f3_v22b i1 j2 kx g)), .second, .val (.int (4 : Int32))] [(.long (((f3_v22b i1 j2 kx g).toUInt64 >>> ((8 : Int32) &&& 0x3f).toInt64.toUInt64).toInt64))])) _
    refine XS.lstoreN X4.here hx rfl (hb hby d3_22) rfl (l' := #[.val (.ref o0), .val (.int i1), .val (.long (f3_v22c i1 j2 kx g)), .second, .val (.int (4 : Int32))]) rfl ?_
    show Steps p.tables e below (T4.setTop (mkF m 23 #[.val (.ref o0), .val (.int i1), .val (.long (f3_v22c i1 j2 kx g)), .second, .val (.int (4 : Int32))] [])) _
    refine XS.iinc X4.here hx rfl (hb hby d3_23) rfl (l' := #[.val (.ref o0), .val (.int i1), .val (.long (f3_v22c i1 j2 kx g)), .second, .val (.int (3 : Int32))]) rfl ?_
    show Steps p.tables e below (T4.setTop (mkF m 26 #[.val (.ref o0), .val (.int i1), .val (.long (f3_v22c i1 j2 kx g)), .second, .val (.int (3 : Int32))] [])) _
    refine XS.goto X4.here hx rfl (pc0 := 26) (pc' := 4) rfl (hb hby d3_26) (by decide) (by decide) ?_
    show Steps p.tables e below (T4.setTop (mkF m 4 #[.val (.ref o0), .val (.int i1), .val (.long (f3_v22c i1 j2 kx g)), .second, .val (.int (3 : Int32))] [])) _
    refine XS.iload X4.here hx rfl (hb hby d3_4) rfl ?_
    show Steps p.tables e below (T4.setTop (mkF m 6 #[.val (.ref o0), .val (.int i1), .val (.long (f3_v22c i1 j2 kx g)), .second, .val (.int (3 : Int32))] [(.int (3 : Int32))])) _
    refine XS.ifNo X4.here hx rfl (hb hby d3_6) rfl ((if0 _ _).trans (flt (by decide)).1) ?_
    show Steps p.tables e below (T4.setTop (mkF m 9 #[.val (.ref o0), .val (.int i1), .val (.long (f3_v22c i1 j2 kx g)), .second, .val (.int (3 : Int32))] [])) _
    refine XS.aloadN X4.here hx rfl (hb hby d3_9) rfl rfl ?_
    show Steps p.tables e below (T4.setTop (mkF m 10 #[.val (.ref o0), .val (.int i1), .val (.long (f3_v22c i1 j2 kx g)), .second, .val (.int (3 : Int32))] [(.ref o0)])) _
    refine XS.iloadN X4.here hx rfl (hb hby d3_10) rfl ?_
    show Steps p.tables e below (T4.setTop (mkF m 11 #[.val (.ref o0), .val (.int i1), .val (.long (f3_v22c i1 j2 kx g)), .second, .val (.int (3 : Int32))] [(.int i1), (.ref o0)])) _
    refine XS.iload X4.here hx rfl (hb hby d3_11) rfl ?_
    show Steps p.tables e below (T4.setTop (mkF m 13 #[.val (.ref o0), .val (.int i1), .val (.long (f3_v22c i1 j2 kx g)), .second, .val (.int (3 : Int32))] [(.int (3 : Int32)), (.int i1), (.ref o0)])) _
    refine XS.iadd X4.here hx rfl (hb hby d3_13) rfl ?_
    show Steps p.tables e below (T4.setTop (mkF m 14 #[.val (.ref o0), .val (.int i1), .val (.long (f3_v22c i1 j2 kx g)), .second, .val (.int (3 : Int32))] [(.int (i1 + (3 : Int32))), (.ref o0)])) _
    refine XS.lloadN X4.here hx rfl (hb hby d3_14) rfl ?_
    show Steps p.tables e below (T4.setTop (mkF m 15 #[.val (.ref o0), .val (.int i1), .val (.long (f3_v22c i1 j2 kx g)), .second, .val (.int (3 : Int32))] [(.long (f3_v22c i1 j2 kx g)), (.int (i1 + (3 : Int32))), (.ref o0)])) _
    refine XS.l2i X4.here hx rfl (hb hby d3_15) rfl ?_
    show Steps p.tables e below (T4.setTop (mkF m 16 #[.val (.ref o0), .val (.int i1), .val (.long (f3_v22c i1 j2 kx g)), .second, .val (.int (3 : Int32))] [(.int ((f3_v22c i1 j2 kx g).toInt32)), (.int (i1 + (3 : Int32))), (.ref o0)])) _
    refine XS.i2b X4.here hx rfl (hb hby d3_16) rfl ?_
    show Steps p.tables e below (T4.setTop (mkF m 17 #[.val (.ref o0), .val (.int i1), .val (.long (f3_v22c i1 j2 kx g)), .second, .val (.int (3 : Int32))] [(.int (((f3_v22c i1 j2 kx g).toInt32).toInt8.toInt32)), (.int (i1 + (3 : Int32))), (.ref o0)])) _
    exact k
  obtain ⟨T5, h5, X5, e5, W5, V5, st5⟩ := puB X4 hx hZ e4 V4 (j := (i1 + (3 : Int32))) (x := (((f3_v22c i1 j2 kx g).toInt32).toInt8.toInt32)) (k := (kx + 3)) (own_ixa hk rfl (by have := AF.len A_o0; omega)) (by omega) (f := (mkF m 17 #[.val (.ref o0), .val (.int i1), .val (.long (f3_v22c i1 j2 kx g)), .second, .val (.int (3 : Int32))] [(.int (((f3_v22c i1 j2 kx g).toInt32).toInt8.toInt32)), (.int (i1 + (3 : Int32))), (.ref o0)])) rfl rfl (hb hby d3_17)
  replace V5 : AI Z h5 o0 .byte n (f3_g17d i1 j2 kx g) := V5
  have N5 := Fr.snoc X5 N4 g_o0
  obtain ⟨Lh5, X5, N5⟩ := hide X5 N5 (C := 0) (S := 0) (by decide) (by decide)
  refine Outs.of st5 ?_
  show Outs p e below s _ _ _ (T5.setTop (mkF m 18 #[.val (.ref o0), .val (.int i1), .val (.long (f3_v22c i1 j2 kx g)), .second, .val (.int (3 : Int32))] []))
  refine Outs.of (U' := T5.setTop (mkF m 17 #[.val (.ref o0), .val (.int i1), .val (.long (f3_v22d i1 j2 kx g)), .second, .val (.int (2 : Int32))] [(.int (((f3_v22d i1 j2 kx g).toInt32).toInt8.toInt32)), (.int (i1 + (2 : Int32))), (.ref o0)])) (fun t k => ?_) ?_
  · refine XS.lloadN X5.here hx rfl (hb hby d3_18) rfl ?_
    show Steps p.tables e below (T5.setTop (mkF m 19 #[.val (.ref o0), .val (.int i1), .val (.long (f3_v22c i1 j2 kx g)), .second, .val (.int (3 : Int32))] [(.long (f3_v22c i1 j2 kx g))])) _
    refine XS.bipush X5.here hx rfl (hb hby d3_19) ?_
    show Steps p.tables e below (T5.setTop (mkF m 21 #[.val (.ref o0), .val (.int i1), .val (.long (f3_v22c i1 j2 kx g)), .second, .val (.int (3 : Int32))] [(.int (8 : Int32)), (.long (f3_v22c i1 j2 kx g))])) _
    refine XS.lushr X5.here hx rfl (hb hby d3_21) rfl ?_
    show Steps p.tables e below (T5.setTop (mkF m 22 #[.val (.ref o0), .val (.int i1), .val (.long (f3_v22c i1 j2 kx g)), .second, .val (.int (3 : Int32))] [(.long (((f3_v22c i1 j2 kx g).toUInt64 >>> ((8 : Int32) &&& 0x3f).toInt64.toUInt64).toInt64))])) _
    refine XS.lstoreN X5.here hx rfl (hb hby d3_22) rfl (l' := #[.val (.ref o0), .val (.int i1), .val (.long (f3_v22d i1 j2 kx g)), .second, .val (.int (3 : Int32))]) rfl ?_
    show Steps p.tables e below (T5.setTop (mkF m 23 #[.val (.ref o0), .val (.int i1), .val (.long (f3_v22d i1 j2 kx g)), .second, .val (.int (3 : Int32))] [])) _
    refine XS.iinc X5.here hx rfl (hb hby d3_23) rfl (l' := #[.val (.ref o0), .val (.int i1), .val (.long (f3_v22d i1 j2 kx g)), .second, .val (.int (2 : Int32))]) rfl ?_
    show Steps p.tables e below (T5.setTop (mkF m 26 #[.val (.ref o0), .val (.int i1), .val (.long (f3_v22d i1 j2 kx g)), .second, .val (.int (2 : Int32))] [])) _
    refine XS.goto X5.here hx rfl (pc0 := 26) (pc' := 4) rfl (hb hby d3_26) (by decide) (by decide) ?_
    show Steps p.tables e below (T5.setTop (mkF m 4 #[.val (.ref o0), .val (.int i1), .val (.long (f3_v22d i1 j2 kx g)), .second, .val (.int (2 : Int32))] [])) _
    refine XS.iload X5.here hx rfl (hb hby d3_4) rfl ?_
    show Steps p.tables e below (T5.setTop (mkF m 6 #[.val (.ref o0), .val (.int i1), .val (.long (f3_v22d i1 j2 kx g)), .second, .val (.int (2 : Int32))] [(.int (2 : Int32))])) _
    refine XS.ifNo X5.here hx rfl (hb hby d3_6) rfl ((if0 _ _).trans (flt (by decide)).1) ?_
    show Steps p.tables e below (T5.setTop (mkF m 9 #[.val (.ref o0), .val (.int i1), .val (.long (f3_v22d i1 j2 kx g)), .second, .val (.int (2 : Int32))] [])) _
    refine XS.aloadN X5.here hx rfl (hb hby d3_9) rfl rfl ?_
    show Steps p.tables e below (T5.setTop (mkF m 10 #[.val (.ref o0), .val (.int i1), .val (.long (f3_v22d i1 j2 kx g)), .second, .val (.int (2 : Int32))] [(.ref o0)])) _
    refine XS.iloadN X5.here hx rfl (hb hby d3_10) rfl ?_
    show Steps p.tables e below (T5.setTop (mkF m 11 #[.val (.ref o0), .val (.int i1), .val (.long (f3_v22d i1 j2 kx g)), .second, .val (.int (2 : Int32))] [(.int i1), (.ref o0)])) _
    refine XS.iload X5.here hx rfl (hb hby d3_11) rfl ?_
    show Steps p.tables e below (T5.setTop (mkF m 13 #[.val (.ref o0), .val (.int i1), .val (.long (f3_v22d i1 j2 kx g)), .second, .val (.int (2 : Int32))] [(.int (2 : Int32)), (.int i1), (.ref o0)])) _
    refine XS.iadd X5.here hx rfl (hb hby d3_13) rfl ?_
    show Steps p.tables e below (T5.setTop (mkF m 14 #[.val (.ref o0), .val (.int i1), .val (.long (f3_v22d i1 j2 kx g)), .second, .val (.int (2 : Int32))] [(.int (i1 + (2 : Int32))), (.ref o0)])) _
    refine XS.lloadN X5.here hx rfl (hb hby d3_14) rfl ?_
    show Steps p.tables e below (T5.setTop (mkF m 15 #[.val (.ref o0), .val (.int i1), .val (.long (f3_v22d i1 j2 kx g)), .second, .val (.int (2 : Int32))] [(.long (f3_v22d i1 j2 kx g)), (.int (i1 + (2 : Int32))), (.ref o0)])) _
    refine XS.l2i X5.here hx rfl (hb hby d3_15) rfl ?_
    show Steps p.tables e below (T5.setTop (mkF m 16 #[.val (.ref o0), .val (.int i1), .val (.long (f3_v22d i1 j2 kx g)), .second, .val (.int (2 : Int32))] [(.int ((f3_v22d i1 j2 kx g).toInt32)), (.int (i1 + (2 : Int32))), (.ref o0)])) _
    refine XS.i2b X5.here hx rfl (hb hby d3_16) rfl ?_
    show Steps p.tables e below (T5.setTop (mkF m 17 #[.val (.ref o0), .val (.int i1), .val (.long (f3_v22d i1 j2 kx g)), .second, .val (.int (2 : Int32))] [(.int (((f3_v22d i1 j2 kx g).toInt32).toInt8.toInt32)), (.int (i1 + (2 : Int32))), (.ref o0)])) _
    exact k
  obtain ⟨T6, h6, X6, e6, W6, V6, st6⟩ := puB X5 hx hZ e5 V5 (j := (i1 + (2 : Int32))) (x := (((f3_v22d i1 j2 kx g).toInt32).toInt8.toInt32)) (k := (kx + 2)) (own_ixa hk rfl (by have := AF.len A_o0; omega)) (by omega) (f := (mkF m 17 #[.val (.ref o0), .val (.int i1), .val (.long (f3_v22d i1 j2 kx g)), .second, .val (.int (2 : Int32))] [(.int (((f3_v22d i1 j2 kx g).toInt32).toInt8.toInt32)), (.int (i1 + (2 : Int32))), (.ref o0)])) rfl rfl (hb hby d3_17)
  replace V6 : AI Z h6 o0 .byte n (f3_g17e i1 j2 kx g) := V6
  have N6 := Fr.snoc X6 N5 g_o0
  obtain ⟨Lh6, X6, N6⟩ := hide X6 N6 (C := 0) (S := 0) (by decide) (by decide)
  refine Outs.of st6 ?_
  show Outs p e below s _ _ _ (T6.setTop (mkF m 18 #[.val (.ref o0), .val (.int i1), .val (.long (f3_v22d i1 j2 kx g)), .second, .val (.int (2 : Int32))] []))
  refine Outs.of (U' := T6.setTop (mkF m 17 #[.val (.ref o0), .val (.int i1), .val (.long (f3_v22e i1 j2 kx g)), .second, .val (.int (1 : Int32))] [(.int (((f3_v22e i1 j2 kx g).toInt32).toInt8.toInt32)), (.int (i1 + (1 : Int32))), (.ref o0)])) (fun t k => ?_) ?_
  · refine XS.lloadN X6.here hx rfl (hb hby d3_18) rfl ?_
    show Steps p.tables e below (T6.setTop (mkF m 19 #[.val (.ref o0), .val (.int i1), .val (.long (f3_v22d i1 j2 kx g)), .second, .val (.int (2 : Int32))] [(.long (f3_v22d i1 j2 kx g))])) _
    refine XS.bipush X6.here hx rfl (hb hby d3_19) ?_
    show Steps p.tables e below (T6.setTop (mkF m 21 #[.val (.ref o0), .val (.int i1), .val (.long (f3_v22d i1 j2 kx g)), .second, .val (.int (2 : Int32))] [(.int (8 : Int32)), (.long (f3_v22d i1 j2 kx g))])) _
    refine XS.lushr X6.here hx rfl (hb hby d3_21) rfl ?_
    show Steps p.tables e below (T6.setTop (mkF m 22 #[.val (.ref o0), .val (.int i1), .val (.long (f3_v22d i1 j2 kx g)), .second, .val (.int (2 : Int32))] [(.long (((f3_v22d i1 j2 kx g).toUInt64 >>> ((8 : Int32) &&& 0x3f).toInt64.toUInt64).toInt64))])) _
    refine XS.lstoreN X6.here hx rfl (hb hby d3_22) rfl (l' := #[.val (.ref o0), .val (.int i1), .val (.long (f3_v22e i1 j2 kx g)), .second, .val (.int (2 : Int32))]) rfl ?_
    show Steps p.tables e below (T6.setTop (mkF m 23 #[.val (.ref o0), .val (.int i1), .val (.long (f3_v22e i1 j2 kx g)), .second, .val (.int (2 : Int32))] [])) _
    refine XS.iinc X6.here hx rfl (hb hby d3_23) rfl (l' := #[.val (.ref o0), .val (.int i1), .val (.long (f3_v22e i1 j2 kx g)), .second, .val (.int (1 : Int32))]) rfl ?_
    show Steps p.tables e below (T6.setTop (mkF m 26 #[.val (.ref o0), .val (.int i1), .val (.long (f3_v22e i1 j2 kx g)), .second, .val (.int (1 : Int32))] [])) _
    refine XS.goto X6.here hx rfl (pc0 := 26) (pc' := 4) rfl (hb hby d3_26) (by decide) (by decide) ?_
    show Steps p.tables e below (T6.setTop (mkF m 4 #[.val (.ref o0), .val (.int i1), .val (.long (f3_v22e i1 j2 kx g)), .second, .val (.int (1 : Int32))] [])) _
    refine XS.iload X6.here hx rfl (hb hby d3_4) rfl ?_
    show Steps p.tables e below (T6.setTop (mkF m 6 #[.val (.ref o0), .val (.int i1), .val (.long (f3_v22e i1 j2 kx g)), .second, .val (.int (1 : Int32))] [(.int (1 : Int32))])) _
    refine XS.ifNo X6.here hx rfl (hb hby d3_6) rfl ((if0 _ _).trans (flt (by decide)).1) ?_
    show Steps p.tables e below (T6.setTop (mkF m 9 #[.val (.ref o0), .val (.int i1), .val (.long (f3_v22e i1 j2 kx g)), .second, .val (.int (1 : Int32))] [])) _
    refine XS.aloadN X6.here hx rfl (hb hby d3_9) rfl rfl ?_
    show Steps p.tables e below (T6.setTop (mkF m 10 #[.val (.ref o0), .val (.int i1), .val (.long (f3_v22e i1 j2 kx g)), .second, .val (.int (1 : Int32))] [(.ref o0)])) _
    refine XS.iloadN X6.here hx rfl (hb hby d3_10) rfl ?_
    show Steps p.tables e below (T6.setTop (mkF m 11 #[.val (.ref o0), .val (.int i1), .val (.long (f3_v22e i1 j2 kx g)), .second, .val (.int (1 : Int32))] [(.int i1), (.ref o0)])) _
    refine XS.iload X6.here hx rfl (hb hby d3_11) rfl ?_
    show Steps p.tables e below (T6.setTop (mkF m 13 #[.val (.ref o0), .val (.int i1), .val (.long (f3_v22e i1 j2 kx g)), .second, .val (.int (1 : Int32))] [(.int (1 : Int32)), (.int i1), (.ref o0)])) _
    refine XS.iadd X6.here hx rfl (hb hby d3_13) rfl ?_
    show Steps p.tables e below (T6.setTop (mkF m 14 #[.val (.ref o0), .val (.int i1), .val (.long (f3_v22e i1 j2 kx g)), .second, .val (.int (1 : Int32))] [(.int (i1 + (1 : Int32))), (.ref o0)])) _
    refine XS.lloadN X6.here hx rfl (hb hby d3_14) rfl ?_
    show Steps p.tables e below (T6.setTop (mkF m 15 #[.val (.ref o0), .val (.int i1), .val (.long (f3_v22e i1 j2 kx g)), .second, .val (.int (1 : Int32))] [(.long (f3_v22e i1 j2 kx g)), (.int (i1 + (1 : Int32))), (.ref o0)])) _
    refine XS.l2i X6.here hx rfl (hb hby d3_15) rfl ?_
    show Steps p.tables e below (T6.setTop (mkF m 16 #[.val (.ref o0), .val (.int i1), .val (.long (f3_v22e i1 j2 kx g)), .second, .val (.int (1 : Int32))] [(.int ((f3_v22e i1 j2 kx g).toInt32)), (.int (i1 + (1 : Int32))), (.ref o0)])) _
    refine XS.i2b X6.here hx rfl (hb hby d3_16) rfl ?_
    show Steps p.tables e below (T6.setTop (mkF m 17 #[.val (.ref o0), .val (.int i1), .val (.long (f3_v22e i1 j2 kx g)), .second, .val (.int (1 : Int32))] [(.int (((f3_v22e i1 j2 kx g).toInt32).toInt8.toInt32)), (.int (i1 + (1 : Int32))), (.ref o0)])) _
    exact k
  obtain ⟨T7, h7, X7, e7, W7, V7, st7⟩ := puB X6 hx hZ e6 V6 (j := (i1 + (1 : Int32))) (x := (((f3_v22e i1 j2 kx g).toInt32).toInt8.toInt32)) (k := (kx + 1)) (own_ixa hk rfl (by have := AF.len A_o0; omega)) (by omega) (f := (mkF m 17 #[.val (.ref o0), .val (.int i1), .val (.long (f3_v22e i1 j2 kx g)), .second, .val (.int (1 : Int32))] [(.int (((f3_v22e i1 j2 kx g).toInt32).toInt8.toInt32)), (.int (i1 + (1 : Int32))), (.ref o0)])) rfl rfl (hb hby d3_17)
  replace V7 : AI Z h7 o0 .byte n (f3_g17f i1 j2 kx g) := V7
  have N7 := Fr.snoc X7 N6 g_o0
  obtain ⟨Lh7, X7, N7⟩ := hide X7 N7 (C := 0) (S := 0) (by decide) (by decide)
  refine Outs.of st7 ?_
  show Outs p e below s _ _ _ (T7.setTop (mkF m 18 #[.val (.ref o0), .val (.int i1), .val (.long (f3_v22e i1 j2 kx g)), .second, .val (.int (1 : Int32))] []))
  refine Outs.of (U' := T7.setTop (mkF m 17 #[.val (.ref o0), .val (.int i1), .val (.long (f3_v22f i1 j2 kx g)), .second, .val (.int (0 : Int32))] [(.int (((f3_v22f i1 j2 kx g).toInt32).toInt8.toInt32)), (.int (i1 + (0 : Int32))), (.ref o0)])) (fun t k => ?_) ?_
  · refine XS.lloadN X7.here hx rfl (hb hby d3_18) rfl ?_
    show Steps p.tables e below (T7.setTop (mkF m 19 #[.val (.ref o0), .val (.int i1), .val (.long (f3_v22e i1 j2 kx g)), .second, .val (.int (1 : Int32))] [(.long (f3_v22e i1 j2 kx g))])) _
    refine XS.bipush X7.here hx rfl (hb hby d3_19) ?_
    show Steps p.tables e below (T7.setTop (mkF m 21 #[.val (.ref o0), .val (.int i1), .val (.long (f3_v22e i1 j2 kx g)), .second, .val (.int (1 : Int32))] [(.int (8 : Int32)), (.long (f3_v22e i1 j2 kx g))])) _
    refine XS.lushr X7.here hx rfl (hb hby d3_21) rfl ?_
    show Steps p.tables e below (T7.setTop (mkF m 22 #[.val (.ref o0), .val (.int i1), .val (.long (f3_v22e i1 j2 kx g)), .second, .val (.int (1 : Int32))] [(.long (((f3_v22e i1 j2 kx g).toUInt64 >>> ((8 : Int32) &&& 0x3f).toInt64.toUInt64).toInt64))])) _
    refine XS.lstoreN X7.here hx rfl (hb hby d3_22) rfl (l' := #[.val (.ref o0), .val (.int i1), .val (.long (f3_v22f i1 j2 kx g)), .second, .val (.int (1 : Int32))]) rfl ?_
    show Steps p.tables e below (T7.setTop (mkF m 23 #[.val (.ref o0), .val (.int i1), .val (.long (f3_v22f i1 j2 kx g)), .second, .val (.int (1 : Int32))] [])) _
    refine XS.iinc X7.here hx rfl (hb hby d3_23) rfl (l' := #[.val (.ref o0), .val (.int i1), .val (.long (f3_v22f i1 j2 kx g)), .second, .val (.int (0 : Int32))]) rfl ?_
    show Steps p.tables e below (T7.setTop (mkF m 26 #[.val (.ref o0), .val (.int i1), .val (.long (f3_v22f i1 j2 kx g)), .second, .val (.int (0 : Int32))] [])) _
    refine XS.goto X7.here hx rfl (pc0 := 26) (pc' := 4) rfl (hb hby d3_26) (by decide) (by decide) ?_
    show Steps p.tables e below (T7.setTop (mkF m 4 #[.val (.ref o0), .val (.int i1), .val (.long (f3_v22f i1 j2 kx g)), .second, .val (.int (0 : Int32))] [])) _
    refine XS.iload X7.here hx rfl (hb hby d3_4) rfl ?_
    show Steps p.tables e below (T7.setTop (mkF m 6 #[.val (.ref o0), .val (.int i1), .val (.long (f3_v22f i1 j2 kx g)), .second, .val (.int (0 : Int32))] [(.int (0 : Int32))])) _
    refine XS.ifNo X7.here hx rfl (hb hby d3_6) rfl ((if0 _ _).trans (flt (by decide)).1) ?_
    show Steps p.tables e below (T7.setTop (mkF m 9 #[.val (.ref o0), .val (.int i1), .val (.long (f3_v22f i1 j2 kx g)), .second, .val (.int (0 : Int32))] [])) _
    refine XS.aloadN X7.here hx rfl (hb hby d3_9) rfl rfl ?_
    show Steps p.tables e below (T7.setTop (mkF m 10 #[.val (.ref o0), .val (.int i1), .val (.long (f3_v22f i1 j2 kx g)), .second, .val (.int (0 : Int32))] [(.ref o0)])) _
    refine XS.iloadN X7.here hx rfl (hb hby d3_10) rfl ?_
    show Steps p.tables e below (T7.setTop (mkF m 11 #[.val (.ref o0), .val (.int i1), .val (.long (f3_v22f i1 j2 kx g)), .second, .val (.int (0 : Int32))] [(.int i1), (.ref o0)])) _
    refine XS.iload X7.here hx rfl (hb hby d3_11) rfl ?_
    show Steps p.tables e below (T7.setTop (mkF m 13 #[.val (.ref o0), .val (.int i1), .val (.long (f3_v22f i1 j2 kx g)), .second, .val (.int (0 : Int32))] [(.int (0 : Int32)), (.int i1), (.ref o0)])) _
    refine XS.iadd X7.here hx rfl (hb hby d3_13) rfl ?_
    show Steps p.tables e below (T7.setTop (mkF m 14 #[.val (.ref o0), .val (.int i1), .val (.long (f3_v22f i1 j2 kx g)), .second, .val (.int (0 : Int32))] [(.int (i1 + (0 : Int32))), (.ref o0)])) _
    refine XS.lloadN X7.here hx rfl (hb hby d3_14) rfl ?_
    show Steps p.tables e below (T7.setTop (mkF m 15 #[.val (.ref o0), .val (.int i1), .val (.long (f3_v22f i1 j2 kx g)), .second, .val (.int (0 : Int32))] [(.long (f3_v22f i1 j2 kx g)), (.int (i1 + (0 : Int32))), (.ref o0)])) _
    refine XS.l2i X7.here hx rfl (hb hby d3_15) rfl ?_
    show Steps p.tables e below (T7.setTop (mkF m 16 #[.val (.ref o0), .val (.int i1), .val (.long (f3_v22f i1 j2 kx g)), .second, .val (.int (0 : Int32))] [(.int ((f3_v22f i1 j2 kx g).toInt32)), (.int (i1 + (0 : Int32))), (.ref o0)])) _
    refine XS.i2b X7.here hx rfl (hb hby d3_16) rfl ?_
    show Steps p.tables e below (T7.setTop (mkF m 17 #[.val (.ref o0), .val (.int i1), .val (.long (f3_v22f i1 j2 kx g)), .second, .val (.int (0 : Int32))] [(.int (((f3_v22f i1 j2 kx g).toInt32).toInt8.toInt32)), (.int (i1 + (0 : Int32))), (.ref o0)])) _
    exact k
  obtain ⟨T8, h8, X8, e8, W8, V8, st8⟩ := puB X7 hx hZ e7 V7 (j := (i1 + (0 : Int32))) (x := (((f3_v22f i1 j2 kx g).toInt32).toInt8.toInt32)) (k := (kx + 0)) (own_ixa hk rfl (by have := AF.len A_o0; omega)) (by omega) (f := (mkF m 17 #[.val (.ref o0), .val (.int i1), .val (.long (f3_v22f i1 j2 kx g)), .second, .val (.int (0 : Int32))] [(.int (((f3_v22f i1 j2 kx g).toInt32).toInt8.toInt32)), (.int (i1 + (0 : Int32))), (.ref o0)])) rfl rfl (hb hby d3_17)
  replace V8 : AI Z h8 o0 .byte n (f3_g17g i1 j2 kx g) := V8
  have N8 := Fr.snoc X8 N7 g_o0
  obtain ⟨Lh8, X8, N8⟩ := hide X8 N8 (C := 0) (S := 0) (by decide) (by decide)
  refine Outs.of st8 ?_
  show Outs p e below s _ _ _ (T8.setTop (mkF m 18 #[.val (.ref o0), .val (.int i1), .val (.long (f3_v22f i1 j2 kx g)), .second, .val (.int (0 : Int32))] []))
  refine Outs.of (U' := T8.setTop (mkF m 29 #[.val (.ref o0), .val (.int i1), .val (.long (f3_v22g i1 j2 kx g)), .second, .val (.int (-1 : Int32))] [])) (fun t k => ?_) ?_
  · refine XS.lloadN X8.here hx rfl (hb hby d3_18) rfl ?_
    show Steps p.tables e below (T8.setTop (mkF m 19 #[.val (.ref o0), .val (.int i1), .val (.long (f3_v22f i1 j2 kx g)), .second, .val (.int (0 : Int32))] [(.long (f3_v22f i1 j2 kx g))])) _
    refine XS.bipush X8.here hx rfl (hb hby d3_19) ?_
    show Steps p.tables e below (T8.setTop (mkF m 21 #[.val (.ref o0), .val (.int i1), .val (.long (f3_v22f i1 j2 kx g)), .second, .val (.int (0 : Int32))] [(.int (8 : Int32)), (.long (f3_v22f i1 j2 kx g))])) _
    refine XS.lushr X8.here hx rfl (hb hby d3_21) rfl ?_
    show Steps p.tables e below (T8.setTop (mkF m 22 #[.val (.ref o0), .val (.int i1), .val (.long (f3_v22f i1 j2 kx g)), .second, .val (.int (0 : Int32))] [(.long (((f3_v22f i1 j2 kx g).toUInt64 >>> ((8 : Int32) &&& 0x3f).toInt64.toUInt64).toInt64))])) _
    refine XS.lstoreN X8.here hx rfl (hb hby d3_22) rfl (l' := #[.val (.ref o0), .val (.int i1), .val (.long (f3_v22g i1 j2 kx g)), .second, .val (.int (0 : Int32))]) rfl ?_
    show Steps p.tables e below (T8.setTop (mkF m 23 #[.val (.ref o0), .val (.int i1), .val (.long (f3_v22g i1 j2 kx g)), .second, .val (.int (0 : Int32))] [])) _
    refine XS.iinc X8.here hx rfl (hb hby d3_23) rfl (l' := #[.val (.ref o0), .val (.int i1), .val (.long (f3_v22g i1 j2 kx g)), .second, .val (.int (-1 : Int32))]) rfl ?_
    show Steps p.tables e below (T8.setTop (mkF m 26 #[.val (.ref o0), .val (.int i1), .val (.long (f3_v22g i1 j2 kx g)), .second, .val (.int (-1 : Int32))] [])) _
    refine XS.goto X8.here hx rfl (pc0 := 26) (pc' := 4) rfl (hb hby d3_26) (by decide) (by decide) ?_
    show Steps p.tables e below (T8.setTop (mkF m 4 #[.val (.ref o0), .val (.int i1), .val (.long (f3_v22g i1 j2 kx g)), .second, .val (.int (-1 : Int32))] [])) _
    refine XS.iload X8.here hx rfl (hb hby d3_4) rfl ?_
    show Steps p.tables e below (T8.setTop (mkF m 6 #[.val (.ref o0), .val (.int i1), .val (.long (f3_v22g i1 j2 kx g)), .second, .val (.int (-1 : Int32))] [(.int (-1 : Int32))])) _
    refine XS.ifYes X8.here hx rfl (pc0 := 6) (pc' := 29) rfl (hb hby d3_6) rfl ((if0 _ _).trans (tlt (by decide)).1) (by decide) (by decide) ?_
    show Steps p.tables e below (T8.setTop (mkF m 29 #[.val (.ref o0), .val (.int i1), .val (.long (f3_v22g i1 j2 kx g)), .second, .val (.int (-1 : Int32))] [])) _
    exact k
  exact Outs.retV X8 hx hret (hb hby d3_29) hlk (by decide) (by decide) e8 ⟨rfl, N8, (((((((((Keep.refl h0 [o0]).wr W1 (Or.inl (List.mem_of_getElem? (i := 0) rfl))).wr W2 (Or.inl (List.mem_of_getElem? (i := 0) rfl))).wr W3 (Or.inl (List.mem_of_getElem? (i := 0) rfl))).wr W4 (Or.inl (List.mem_of_getElem? (i := 0) rfl))).wr W5 (Or.inl (List.mem_of_getElem? (i := 0) rfl))).wr W6 (Or.inl (List.mem_of_getElem? (i := 0) rfl))).wr W7 (Or.inl (List.mem_of_getElem? (i := 0) rfl))).wr W8 (Or.inl (List.mem_of_getElem? (i := 0) rfl))), V8⟩
theorem ef_2 (m : MethodId) (x0 : Int64) : entryFrame m #[(.long x0)] 3 = mkF m 0 #[.val (.long x0), .second, .unset] [] := by first | (simp [entryFrame, mkF, argsToLocals, Value.category]; done) | rfl
theorem d2_0 : decode prog_2_method_2_code 0 = .ok (.bipush 8, 2) := by decide +kernel
theorem d2_2 : decode prog_2_method_2_code 2 = .ok (.newarray .byte, 2) := by decide +kernel
theorem d2_4 : decode prog_2_method_2_code 4 = .ok (.astore_n 2, 1) := by decide +kernel
theorem d2_5 : decode prog_2_method_2_code 5 = .ok (.aload_n 2, 1) := by decide +kernel
theorem d2_6 : decode prog_2_method_2_code 6 = .ok (.iconst 0, 1) := by decide +kernel
theorem d2_7 : decode prog_2_method_2_code 7 = .ok (.lload_n 0, 1) := by decide +kernel
theorem pd_2 : parseMethodDescriptor "([BIJ)V" = some ⟨[(.array .byte), .int, .long], none⟩ := by decide +kernel
theorem d2_8 : decode prog_2_method_2_code 8 = .ok (.invokestatic 9, 3) := by decide +kernel
theorem d2_11 : decode prog_2_method_2_code 11 = .ok (.aload_n 2, 1) := by decide +kernel
theorem d2_12 : decode prog_2_method_2_code 12 = .ok (.areturn, 1) := by decide +kernel
def Q_f2 (Z : State) (j0 : Int64) (h0 : Heap) (n0 : Nat) (v : Option Value) (h : Heap) (L : List Loc) : Prop := ∃ b1 : Addr, n0 ≤ b1 ∧ h0.size ≤ b1 ∧ v = some (.ref b1) ∧ Fr n0 L ∧ Keep h0 h [] ∧ AI Z h b1 .byte 8 (f3_g17g (0 : Int32) j0 0 (fun _ => (0 : Int32)))
set_option maxRecDepth 65536 in
set_option maxHeartbeats 40000000 in
theorem rm2 (l : Launch) (Z : State) (a0 : Array Value) (hw : ∀ d ∈ tables_1, d.before a0 Z = true) (ws : List Jvm.Cond) (j0 : Int64)  (h0 : Heap) (n0 : Nat) (Z0 : n0 ≤ h0.size) :
    MetFree l (⟨"com/example/penelope/penelope/Codec", "longBytes", "(J)[B"⟩ : MethodName) (head1 (Jvm.Cond.code (⟨"com/example/penelope/penelope/Codec", "longBytes", "(J)[B"⟩ : MethodName) prog_2_method_2_code 3 (some (.array .byte)) :: ws) ({ frames := 1, cells := 1, slots := 8, locals := 16 } : Room)) (fun a U => a = #[(.long j0)] ∧ Z.Warmed39 U.vm ∧ U.heap = h0) (fun _ _ _ _ _ => True) (fun _ U o U' => ∃ v L, o = .returned v ∧ Q_f2 Z j0 h0 n0 v U'.heap L ∧ FrameEnd U o U' L ({ frames := 1, cells := 1, slots := 8, locals := 16 } : Room).cells ({ frames := 1, cells := 1, slots := 8, locals := 16 } : Room).slots) := by
  refine MetFree.of_bodySF (plainFor_of_name pn_1) hisR ?_
  intro p e s m args below meth c s₁ Bd hml0 hP hK
  obtain ⟨rfl, hZ, hh⟩ := hP
  have hx := Bd.exec
  have hby := Bd.bytes
  have hml : c.maxLocals = 3 := hml0
  have hown : s.vm.findClass "com/example/penelope/penelope/Codec" = some m.cls := findClass_of_methodNamed Bd.named
  have hnm := (name_of_methodNamed Bd.named Bd.method).1
  have hret := Bd.returns
  have hlk : meth.locks = false := BodyLoose.notSynchronized Bd
  have X0 : Stand p l e ({ frames := 1, cells := 1, slots := 8, locals := 16 } : Room) s m #[(.long j0)] below meth c s₁ [] 0 0 := Stand.of_body Bd
  have e0 : s₁.heap = h0 := by rw [← hh, Bd.state]; rfl
  have N0 := Fr.nil n0
  show Outs p e below s (Q_f2 Z j0 h0 n0) _ _ _
  refine Outs.of (U' := s₁.setTop (mkF m 0 #[.val (.long j0), .second, .unset] [])) (fun t k => castTop (ef_2 m j0) k) ?_
  refine Outs.of (U' := s₁.setTop (mkF m 2 #[.val (.long j0), .second, .unset] [(.int (8 : Int32))])) (fun t k => ?_) ?_
  · refine XS.bipush X0.here hx rfl (hb hby d2_0) ?_
    show Steps p.tables e below (s₁.setTop (mkF m 2 #[.val (.long j0), .second, .unset] [(.int (8 : Int32))])) _
    exact k
  obtain ⟨T1, h1, X1, e1, E1, A1, st1⟩ := newAF X0 hx hZ (aty := .byte) (hw _ (List.mem_of_getElem? (i := 0) rfl)) e0 (f := (mkF m 2 #[.val (.long j0), .second, .unset] [(.int (8 : Int32))])) rfl (hb hby d2_2) rfl (k := 8) rfl (cap := 8) (by decide) (by decide) (by decide) (by decide)
  obtain ⟨b1, g1⟩ : ∃ z, z = h0.size := ⟨_, rfl⟩
  rw [← g1] at A1 st1
  have g_b1 : n0 ≤ b1 := Nat.le_trans Z0 (Nat.le_of_eq g1.symm)
  have sz_b1 : h0.size ≤ b1 := Nat.le_trans (Keep.refl h0 []).1 (Nat.le_of_eq g1.symm)
  have V1 : AI Z h1 b1 .byte 8 (fun _ => (0 : Int32)) := A1
  refine Outs.of st1 ?_
  show Outs p e below s _ _ _ (T1.setTop (mkF m 4 #[.val (.long j0), .second, .unset] [(.ref b1)]))
  refine Outs.of (U' := T1.setTop (mkF m 8 #[.val (.long j0), .second, .val (.ref b1)] [(.long j0), (.int (0 : Int32)), (.ref b1)])) (fun t k => ?_) ?_
  · refine XS.astoreN X1.here hx rfl (hb hby d2_4) rfl rfl (l' := #[.val (.long j0), .second, .val (.ref b1)]) rfl ?_
    show Steps p.tables e below (T1.setTop (mkF m 5 #[.val (.long j0), .second, .val (.ref b1)] [])) _
    refine XS.aloadN X1.here hx rfl (hb hby d2_5) rfl rfl ?_
    show Steps p.tables e below (T1.setTop (mkF m 6 #[.val (.long j0), .second, .val (.ref b1)] [(.ref b1)])) _
    refine XS.iconst X1.here hx rfl (hb hby d2_6) ?_
    show Steps p.tables e below (T1.setTop (mkF m 7 #[.val (.long j0), .second, .val (.ref b1)] [(.int (0 : Int32)), (.ref b1)])) _
    refine XS.lloadN X1.here hx rfl (hb hby d2_7) rfl ?_
    show Steps p.tables e below (T1.setTop (mkF m 8 #[.val (.long j0), .second, .val (.ref b1)] [(.long j0), (.int (0 : Int32)), (.ref b1)])) _
    exact k
  obtain ⟨_, _, ⟨T2, L2, k2, n2⟩, -, X2, ⟨Lc2, hQ2, l2, y2, z2⟩, st2⟩ := Jvm.LawKit.callS X1 hx (y := (⟨"com/example/penelope/penelope/Codec", "putLong", "([BIJ)V"⟩ : MethodName)) hown (mvT hZ (hw _ (List.mem_of_getElem? (i := 9) rfl))) (mvT hZ (hw _ (List.mem_of_getElem? (i := 10) rfl))) (mvT hZ (hw _ (List.mem_of_getElem? (i := 4) rfl))) (mvT hZ (hw _ (List.mem_of_getElem? (i := 11) rfl))) (by decide) (backOf (W := 0) (rm3 l Z a0 hw [] b1 (0 : Int32) j0 8 0 (fun _ => (0 : Int32)) h1 n0 V1 rfl (by decide) g_b1) hZ (hw _ (List.mem_of_getElem? (i := 11) rfl)) (hw _ (List.mem_of_getElem? (i := 4) rfl)) (by decide) (by decide)) (g := (mkF m 8 #[.val (.long j0), .second, .val (.ref b1)] [(.long j0), (.int (0 : Int32)), (.ref b1)])) rfl (by rw [hml]; rfl) (argsL := [(.ref b1), (.int (0 : Int32)), (.long j0)]) (rest := []) (lenOf pd_2 rfl) rfl (by show 2 * 0 + _ ≤ _; exact Nat.le_of_eq rfl) (hb hby d2_8) (fun _ _ => ⟨rfl, e1, (by decide : 1 + 0 ≤ _), (by decide : 8 + 0 ≤ _)⟩)
  dsimp only [Pt.U, Pt.locs, Pt.cells, Pt.slots] at X2 l2 y2 z2 st2 hQ2
  subst l2 y2 z2
  obtain ⟨rfl, N2q, K2, u2_0⟩ := hQ2
  have N2 := Fr.app N0 N2q
  obtain ⟨Lh2, X2, N2⟩ := hide X2 N2 (C := 1) (S := 8) (by decide) (by decide)
  refine Outs.of st2 ?_
  show Outs p e below s _ _ _ (T2.setTop (mkF m 11 #[.val (.long j0), .second, .val (.ref b1)] []))
  refine Outs.of (U' := T2.setTop (mkF m 12 #[.val (.long j0), .second, .val (.ref b1)] [(.ref b1)])) (fun t k => ?_) ?_
  · refine XS.aloadN X2.here hx rfl (hb hby d2_11) rfl rfl ?_
    show Steps p.tables e below (T2.setTop (mkF m 12 #[.val (.long j0), .second, .val (.ref b1)] [(.ref b1)])) _
    exact k
  exact Outs.retA (w := (.ref b1)) X2 hx hret rfl rfl rfl (hb hby d2_12) hlk (by decide) (by decide) rfl ⟨b1, g_b1, sz_b1, rfl, N2, (((Keep.refl h0 []).ext E1).trans K2 (allS (Or.inr sz_b1) all0)), u2_0⟩
def own_at (i1 : Int32) : Nat := nat (i1 &&& 3)
def f0_g17 (j0 : Int64) (i1 : Int32) (j2 : Int64) : Nat → Int32 := (upv (fun _ => (0 : Int32)) 0 (((j2.toInt32).toInt8.toInt32).toInt8.toInt32))
def f0_g27 (j0 : Int64) (i1 : Int32) (j2 : Int64) : Nat → Int32 := (upv (f0_g17 j0 i1 j2) 1 (((((j2.toUInt64 >>> ((8 : Int32) &&& 0x3f).toInt64.toUInt64).toInt64).toInt32).toInt8.toInt32).toInt8.toInt32))
def f0_g37 (j0 : Int64) (i1 : Int32) (j2 : Int64) : Nat → Int32 := (upv (f0_g27 j0 i1 j2) 2 (((((j2.toUInt64 >>> ((16 : Int32) &&& 0x3f).toInt64.toUInt64).toInt64).toInt32).toInt8.toInt32).toInt8.toInt32))
def f0_g47 (j0 : Int64) (i1 : Int32) (j2 : Int64) : Nat → Int32 := (upv (f0_g37 j0 i1 j2) 3 (((((j2.toUInt64 >>> ((24 : Int32) &&& 0x3f).toInt64.toUInt64).toInt64).toInt32).toInt8.toInt32).toInt8.toInt32))
def f0_g57 (j0 : Int64) (i1 : Int32) (j2 : Int64) : Nat → Int32 := (upv (f0_g47 j0 i1 j2) 4 (((((j2.toUInt64 >>> ((32 : Int32) &&& 0x3f).toInt64.toUInt64).toInt64).toInt32).toInt8.toInt32).toInt8.toInt32))
def f0_g67 (j0 : Int64) (i1 : Int32) (j2 : Int64) : Nat → Int32 := (upv (f0_g57 j0 i1 j2) 5 (((((j2.toUInt64 >>> ((40 : Int32) &&& 0x3f).toInt64.toUInt64).toInt64).toInt32).toInt8.toInt32).toInt8.toInt32))
def f0_g78 (j0 : Int64) (i1 : Int32) (j2 : Int64) : Nat → Int32 := (upv (f0_g67 j0 i1 j2) 6 (((((j2.toUInt64 >>> ((48 : Int32) &&& 0x3f).toInt64.toUInt64).toInt64).toInt32).toInt8.toInt32).toInt8.toInt32))
def f0_g89 (j0 : Int64) (i1 : Int32) (j2 : Int64) : Nat → Int32 := (upv (f0_g78 j0 i1 j2) 7 (((((j2.toUInt64 >>> ((56 : Int32) &&& 0x3f).toInt64.toUInt64).toInt64).toInt32).toInt8.toInt32).toInt8.toInt32))
def f0_g101 (j0 : Int64) (i1 : Int32) (j2 : Int64) : Nat → Int32 := (upv (f0_g89 j0 i1 j2) 8 ((((j2 ^^^ (-1 : Int64)).toInt32).toInt8.toInt32).toInt8.toInt32))
def f0_g116 (j0 : Int64) (i1 : Int32) (j2 : Int64) : Nat → Int32 := (upv (f0_g101 j0 i1 j2) 9 ((((((j2 ^^^ (-1 : Int64)).toUInt64 >>> ((8 : Int32) &&& 0x3f).toInt64.toUInt64).toInt64).toInt32).toInt8.toInt32).toInt8.toInt32))
def f0_g131 (j0 : Int64) (i1 : Int32) (j2 : Int64) : Nat → Int32 := (upv (f0_g116 j0 i1 j2) 10 ((((((j2 ^^^ (-1 : Int64)).toUInt64 >>> ((16 : Int32) &&& 0x3f).toInt64.toUInt64).toInt64).toInt32).toInt8.toInt32).toInt8.toInt32))
def f0_g146 (j0 : Int64) (i1 : Int32) (j2 : Int64) : Nat → Int32 := (upv (f0_g131 j0 i1 j2) 11 ((((((j2 ^^^ (-1 : Int64)).toUInt64 >>> ((24 : Int32) &&& 0x3f).toInt64.toUInt64).toInt64).toInt32).toInt8.toInt32).toInt8.toInt32))
def f0_g157 (j0 : Int64) (i1 : Int32) (j2 : Int64) : Nat → Int32 := (upv (f0_g146 j0 i1 j2) ((own_at i1)) (((((j0.toUInt64 >>> ((56 : Int32) &&& 0x3f).toInt64.toUInt64).toInt64).toInt32).toInt8.toInt32).toInt8.toInt32))
def f0_g170 (j0 : Int64) (i1 : Int32) (j2 : Int64) : Nat → Int32 := (upv (f0_g157 j0 i1 j2) ((own_at i1 + 1)) (((((j0.toUInt64 >>> ((48 : Int32) &&& 0x3f).toInt64.toUInt64).toInt64).toInt32).toInt8.toInt32).toInt8.toInt32))
def f0_g183 (j0 : Int64) (i1 : Int32) (j2 : Int64) : Nat → Int32 := (upv (f0_g170 j0 i1 j2) ((own_at i1 + 2)) (((((j0.toUInt64 >>> ((40 : Int32) &&& 0x3f).toInt64.toUInt64).toInt64).toInt32).toInt8.toInt32).toInt8.toInt32))
def f0_g196 (j0 : Int64) (i1 : Int32) (j2 : Int64) : Nat → Int32 := (upv (f0_g183 j0 i1 j2) ((own_at i1 + 3)) (((((j0.toUInt64 >>> ((32 : Int32) &&& 0x3f).toInt64.toUInt64).toInt64).toInt32).toInt8.toInt32).toInt8.toInt32))
def f0_g209 (j0 : Int64) (i1 : Int32) (j2 : Int64) : Nat → Int32 := (upv (f0_g196 j0 i1 j2) ((own_at i1 + 4)) (((((j0.toUInt64 >>> ((24 : Int32) &&& 0x3f).toInt64.toUInt64).toInt64).toInt32).toInt8.toInt32).toInt8.toInt32))
def f0_g222 (j0 : Int64) (i1 : Int32) (j2 : Int64) : Nat → Int32 := (upv (f0_g209 j0 i1 j2) ((own_at i1 + 5)) (((((j0.toUInt64 >>> ((16 : Int32) &&& 0x3f).toInt64.toUInt64).toInt64).toInt32).toInt8.toInt32).toInt8.toInt32))
def f0_g236 (j0 : Int64) (i1 : Int32) (j2 : Int64) : Nat → Int32 := (upv (f0_g222 j0 i1 j2) ((own_at i1 + 6)) (((((j0.toUInt64 >>> ((8 : Int32) &&& 0x3f).toInt64.toUInt64).toInt64).toInt32).toInt8.toInt32).toInt8.toInt32))
def f0_g247 (j0 : Int64) (i1 : Int32) (j2 : Int64) : Nat → Int32 := (upv (f0_g236 j0 i1 j2) ((own_at i1 + 7)) (((j0.toInt32).toInt8.toInt32).toInt8.toInt32))
def f0_257_s0 (j0 : Int64) (i1 : Int32) (j2 : Int64) : Int32 := (if (F_f1 (i1 &&& (3 : Int32)) (own_at i1) (f0_g247 j0 i1 j2)) = j0 then (1 : Int32) else (0 : Int32))
def f0_277_s0 (j0 : Int64) (i1 : Int32) (j2 : Int64) : Int32 := (if (F_f1 (0 : Int32) 0 (f3_g17g (0 : Int32) j0 0 (fun _ => (0 : Int32)))) = j0 then (1 : Int32) else (0 : Int32))
def f0_289_s0 (j0 : Int64) (i1 : Int32) (j2 : Int64) : Int32 := (if (f0_257_s0 j0 i1 j2) = (0 : Int32) then (0 : Int32) else (if (f0_277_s0 j0 i1 j2) = (0 : Int32) then (0 : Int32) else (1 : Int32)))
theorem own_atr (i1 : Int32) : 0 ≤ (i1 &&& (3 : Int32)).toInt ∧ (i1 &&& (3 : Int32)).toInt < 4 := by
  have a := c_mask i1 3 2 (by decide) (by decide)
  omega
theorem own_atk (i1 : Int32) : (i1 &&& (3 : Int32)).toInt = (own_at i1 : Int) := own_hk (own_atr i1).1
theorem own_atb (i1 : Int32) (d : Nat) (hd : d < 8) : own_at i1 + d < 12 := by
  have a := own_atr i1
  have b := own_atk i1
  omega
theorem own_atl (i1 : Int32) (d : Nat) (hd : d < 8) : own_at i1 + d < 2147483648 := by
  have a := own_atb i1 d hd
  omega
theorem own_at8 (i1 : Int32) : own_at i1 + 8 ≤ 12 := by
  have a := own_atb i1 7 (by decide)
  omega
theorem own_bb (x : Int32) : x.toInt8.toInt32.toInt8.toInt32 = x.toInt8.toInt32 := by
  apply Int32.toInt_inj.mp
  have a := c_i2b x
  have b := c_i2b x.toInt8.toInt32
  omega
/-- one turn: what lay so far times 256, and the byte -/
theorem own_turn (acc : Int64) (b : Int32) (A B : Int) (hA : acc.toInt = A) (h0 : 0 ≤ A) (h1 : A < 72057594037927936) (hb : b.toInt % 256 = B) :
    ((acc <<< ((8 : Int32) &&& 0x3f).toInt64) ||| ((b &&& (255 : Int32)).toInt64)).toInt = (A * 256 + B + 9223372036854775808) % 18446744073709551616 - 9223372036854775808 := by
  have m := c_mask b 255 8 (by decide) (by decide)
  have l := c_lshl acc 8 8 (by decide)
  have e := c_i2l (b &&& 255)
  have r := rng64 (acc <<< ((8 : Int32) &&& 0x3f).toInt64)
  have o := c_orL (acc <<< ((8 : Int32) &&& 0x3f).toInt64) ((b &&& (255 : Int32)).toInt64) 8 (by decide) 256 (by decide) (by omega) (by omega) (by omega)
  have r2 := rng64 ((acc <<< ((8 : Int32) &&& 0x3f).toInt64) ||| ((b &&& (255 : Int32)).toInt64))
  omega
set_option maxHeartbeats 40000000 in
theorem own_get (i1 : Int32) (kx : Nat) (g : Nat → Int32) (v : Int64) (u : Int) (hu : u = v.toInt % 18446744073709551616)
    (h0 : (g (kx + 0)).toInt % 256 = u / 72057594037927936 % 256) (h1 : (g (kx + 1)).toInt % 256 = u / 281474976710656 % 256) (h2 : (g (kx + 2)).toInt % 256 = u / 1099511627776 % 256) (h3 : (g (kx + 3)).toInt % 256 = u / 4294967296 % 256)
    (h4 : (g (kx + 4)).toInt % 256 = u / 16777216 % 256) (h5 : (g (kx + 5)).toInt % 256 = u / 65536 % 256) (h6 : (g (kx + 6)).toInt % 256 = u / 256 % 256) (h7 : (g (kx + 7)).toInt % 256 = u % 256) : F_f1 i1 kx g = v := by
  have hr : 0 ≤ u ∧ u < 18446744073709551616 := by omega
  have t0 : (f1_v28 i1 kx g).toInt = u / 72057594037927936 := by
    have := own_turn 0 (g (kx + 0)) 0 _ (by decide) (by decide) (by decide) h0
    have q : f1_v28 i1 kx g = (((0 : Int64) <<< ((8 : Int32) &&& 0x3f).toInt64) ||| ((g (kx + 0) &&& (255 : Int32)).toInt64)) := rfl
    rw [q, this]; omega
  have t1 : (f1_v28a i1 kx g).toInt = u / 281474976710656 := by
    have := own_turn (f1_v28 i1 kx g) (g (kx + 1)) _ _ t0 (by omega) (by omega) h1
    have q : f1_v28a i1 kx g = (((f1_v28 i1 kx g) <<< ((8 : Int32) &&& 0x3f).toInt64) ||| ((g (kx + 1) &&& (255 : Int32)).toInt64)) := rfl
    rw [q, this]; omega
  have t2 : (f1_v28b i1 kx g).toInt = u / 1099511627776 := by
    have := own_turn (f1_v28a i1 kx g) (g (kx + 2)) _ _ t1 (by omega) (by omega) h2
    have q : f1_v28b i1 kx g = (((f1_v28a i1 kx g) <<< ((8 : Int32) &&& 0x3f).toInt64) ||| ((g (kx + 2) &&& (255 : Int32)).toInt64)) := rfl
    rw [q, this]; omega
  have t3 : (f1_v28c i1 kx g).toInt = u / 4294967296 := by
    have := own_turn (f1_v28b i1 kx g) (g (kx + 3)) _ _ t2 (by omega) (by omega) h3
    have q : f1_v28c i1 kx g = (((f1_v28b i1 kx g) <<< ((8 : Int32) &&& 0x3f).toInt64) ||| ((g (kx + 3) &&& (255 : Int32)).toInt64)) := rfl
    rw [q, this]; omega
  have t4 : (f1_v28d i1 kx g).toInt = u / 16777216 := by
    have := own_turn (f1_v28c i1 kx g) (g (kx + 4)) _ _ t3 (by omega) (by omega) h4
    have q : f1_v28d i1 kx g = (((f1_v28c i1 kx g) <<< ((8 : Int32) &&& 0x3f).toInt64) ||| ((g (kx + 4) &&& (255 : Int32)).toInt64)) := rfl
    rw [q, this]; omega
  have t5 : (f1_v28e i1 kx g).toInt = u / 65536 := by
    have := own_turn (f1_v28d i1 kx g) (g (kx + 5)) _ _ t4 (by omega) (by omega) h5
    have q : f1_v28e i1 kx g = (((f1_v28d i1 kx g) <<< ((8 : Int32) &&& 0x3f).toInt64) ||| ((g (kx + 5) &&& (255 : Int32)).toInt64)) := rfl
    rw [q, this]; omega
  have t6 : (f1_v28f i1 kx g).toInt = u / 256 := by
    have := own_turn (f1_v28e i1 kx g) (g (kx + 6)) _ _ t5 (by omega) (by omega) h6
    have q : f1_v28f i1 kx g = (((f1_v28e i1 kx g) <<< ((8 : Int32) &&& 0x3f).toInt64) ||| ((g (kx + 6) &&& (255 : Int32)).toInt64)) := rfl
    rw [q, this]; omega
  have t7 := own_turn (f1_v28f i1 kx g) (g (kx + 7)) _ _ t6 (by omega) (by omega) h7
  have q : F_f1 i1 kx g = (((f1_v28f i1 kx g) <<< ((8 : Int32) &&& 0x3f).toInt64) ||| ((g (kx + 7) &&& (255 : Int32)).toInt64)) := rfl
  apply Int64.toInt_inj.mp
  have rv := rng64 v
  rw [q, t7]; omega
theorem own_b (x : Int64) : x.toInt32.toInt8.toInt32.toInt8.toInt32.toInt % 256 = x.toInt % 256 := by
  rw [own_bb]
  have a := c_i2b x.toInt32
  have c := c_l2i x
  omega
theorem own_bs (x : Int64) (q : Int32) (k : Nat) (hk : q.toBitVec.toNat % 64 = k) (h0 : 0 < k) (P : Int) (hP : ((2 ^ k : Nat) : Int) = P) : ((x.toUInt64 >>> (q &&& 0x3f).toInt64.toUInt64).toInt64).toInt32.toInt8.toInt32.toInt8.toInt32.toInt % 256 = (x.toInt % 18446744073709551616) / P % 256 := by
  rw [own_b, c_lushr x q k hk h0, hP]
theorem own_v (i1 : Int32) (j2 : Int64) (kx : Nat) (g : Nat → Int32) :
    (f3_v22 i1 j2 kx g).toInt = (j2.toInt % 18446744073709551616) / 256 ∧
    (f3_v22a i1 j2 kx g).toInt = (j2.toInt % 18446744073709551616) / 65536 ∧
    (f3_v22b i1 j2 kx g).toInt = (j2.toInt % 18446744073709551616) / 16777216 ∧
    (f3_v22c i1 j2 kx g).toInt = (j2.toInt % 18446744073709551616) / 4294967296 ∧
    (f3_v22d i1 j2 kx g).toInt = (j2.toInt % 18446744073709551616) / 1099511627776 ∧
    (f3_v22e i1 j2 kx g).toInt = (j2.toInt % 18446744073709551616) / 281474976710656 ∧
    (f3_v22f i1 j2 kx g).toInt = (j2.toInt % 18446744073709551616) / 72057594037927936 := by
  have h1 : (f3_v22 i1 j2 kx g).toInt = (j2.toInt % 18446744073709551616) / 256 := c_lushr j2 8 8 (by decide) (by decide)
  have h2 : (f3_v22a i1 j2 kx g).toInt = ((f3_v22 i1 j2 kx g).toInt % 18446744073709551616) / 256 := c_lushr _ 8 8 (by decide) (by decide)
  have h3 : (f3_v22b i1 j2 kx g).toInt = ((f3_v22a i1 j2 kx g).toInt % 18446744073709551616) / 256 := c_lushr _ 8 8 (by decide) (by decide)
  have h4 : (f3_v22c i1 j2 kx g).toInt = ((f3_v22b i1 j2 kx g).toInt % 18446744073709551616) / 256 := c_lushr _ 8 8 (by decide) (by decide)
  have h5 : (f3_v22d i1 j2 kx g).toInt = ((f3_v22c i1 j2 kx g).toInt % 18446744073709551616) / 256 := c_lushr _ 8 8 (by decide) (by decide)
  have h6 : (f3_v22e i1 j2 kx g).toInt = ((f3_v22d i1 j2 kx g).toInt % 18446744073709551616) / 256 := c_lushr _ 8 8 (by decide) (by decide)
  have h7 : (f3_v22f i1 j2 kx g).toInt = ((f3_v22e i1 j2 kx g).toInt % 18446744073709551616) / 256 := c_lushr _ 8 8 (by decide) (by decide)
  have hu : 0 ≤ j2.toInt % 18446744073709551616 ∧ j2.toInt % 18446744073709551616 < 18446744073709551616 := by omega
  generalize j2.toInt % 18446744073709551616 = u at *
  have k2 : (f3_v22a i1 j2 kx g).toInt = u / 65536 := by omega
  have k3 : (f3_v22b i1 j2 kx g).toInt = u / 16777216 := by omega
  have k4 : (f3_v22c i1 j2 kx g).toInt = u / 4294967296 := by omega
  have k5 : (f3_v22d i1 j2 kx g).toInt = u / 1099511627776 := by omega
  have k6 : (f3_v22e i1 j2 kx g).toInt = u / 281474976710656 := by omega
  have k7 : (f3_v22f i1 j2 kx g).toInt = u / 72057594037927936 := by omega
  exact ⟨h1, k2, k3, k4, k5, k6, k7⟩
theorem own_window (j0 : Int64) (i1 : Int32) (j2 : Int64) : F_f1 (i1 &&& (3 : Int32)) (own_at i1) (f0_g247 j0 i1 j2) = j0 := by
  refine own_get _ _ _ j0 _ rfl ?_ ?_ ?_ ?_ ?_ ?_ ?_ ?_
  · unfold f0_g247 f0_g236 f0_g222 f0_g209 f0_g196 f0_g183 f0_g170 f0_g157 upv
    rw [if_neg (by omega), if_neg (by omega), if_neg (by omega), if_neg (by omega), if_neg (by omega), if_neg (by omega), if_neg (by omega), if_pos (by omega)]
    exact own_bs j0 56 56 (by decide) (by decide) _ rfl
  · unfold f0_g247 f0_g236 f0_g222 f0_g209 f0_g196 f0_g183 f0_g170 upv
    rw [if_neg (by omega), if_neg (by omega), if_neg (by omega), if_neg (by omega), if_neg (by omega), if_neg (by omega), if_pos (by omega)]
    exact own_bs j0 48 48 (by decide) (by decide) _ rfl
  · unfold f0_g247 f0_g236 f0_g222 f0_g209 f0_g196 f0_g183 upv
    rw [if_neg (by omega), if_neg (by omega), if_neg (by omega), if_neg (by omega), if_neg (by omega), if_pos (by omega)]
    exact own_bs j0 40 40 (by decide) (by decide) _ rfl
  · unfold f0_g247 f0_g236 f0_g222 f0_g209 f0_g196 upv
    rw [if_neg (by omega), if_neg (by omega), if_neg (by omega), if_neg (by omega), if_pos (by omega)]
    exact own_bs j0 32 32 (by decide) (by decide) _ rfl
  · unfold f0_g247 f0_g236 f0_g222 f0_g209 upv
    rw [if_neg (by omega), if_neg (by omega), if_neg (by omega), if_pos (by omega)]
    exact own_bs j0 24 24 (by decide) (by decide) _ rfl
  · unfold f0_g247 f0_g236 f0_g222 upv
    rw [if_neg (by omega), if_neg (by omega), if_pos (by omega)]
    exact own_bs j0 16 16 (by decide) (by decide) _ rfl
  · unfold f0_g247 f0_g236 upv
    rw [if_neg (by omega), if_pos (by omega)]
    exact own_bs j0 8 8 (by decide) (by decide) _ rfl
  · unfold f0_g247 upv
    rw [if_pos (by omega)]
    rw [own_b]; omega
theorem own_trip (j0 : Int64) : F_f1 (0 : Int32) 0 (f3_g17g (0 : Int32) j0 0 (fun _ => (0 : Int32))) = j0 := by
  have hv := own_v 0 j0 0 (fun _ => (0 : Int32))
  refine own_get _ _ _ j0 _ rfl ?_ ?_ ?_ ?_ ?_ ?_ ?_ ?_
  · unfold f3_g17g upv
    rw [if_pos (by omega)]
    rw [own_b, hv.2.2.2.2.2.2]
  · unfold f3_g17g f3_g17f upv
    rw [if_neg (by omega), if_pos (by omega)]
    rw [own_b, hv.2.2.2.2.2.1]
  · unfold f3_g17g f3_g17f f3_g17e upv
    rw [if_neg (by omega), if_neg (by omega), if_pos (by omega)]
    rw [own_b, hv.2.2.2.2.1]
  · unfold f3_g17g f3_g17f f3_g17e f3_g17d upv
    rw [if_neg (by omega), if_neg (by omega), if_neg (by omega), if_pos (by omega)]
    rw [own_b, hv.2.2.2.1]
  · unfold f3_g17g f3_g17f f3_g17e f3_g17d f3_g17c upv
    rw [if_neg (by omega), if_neg (by omega), if_neg (by omega), if_neg (by omega), if_pos (by omega)]
    rw [own_b, hv.2.2.1]
  · unfold f3_g17g f3_g17f f3_g17e f3_g17d f3_g17c f3_g17b upv
    rw [if_neg (by omega), if_neg (by omega), if_neg (by omega), if_neg (by omega), if_neg (by omega), if_pos (by omega)]
    rw [own_b, hv.2.1]
  · unfold f3_g17g f3_g17f f3_g17e f3_g17d f3_g17c f3_g17b f3_g17a upv
    rw [if_neg (by omega), if_neg (by omega), if_neg (by omega), if_neg (by omega), if_neg (by omega), if_neg (by omega), if_pos (by omega)]
    rw [own_b, hv.1]
  · unfold f3_g17g f3_g17f f3_g17e f3_g17d f3_g17c f3_g17b f3_g17a f3_g17 upv
    rw [if_neg (by omega), if_neg (by omega), if_neg (by omega), if_neg (by omega), if_neg (by omega), if_neg (by omega), if_neg (by omega), if_pos (by omega)]
    rw [own_b]; omega
theorem law_true (j0 : Int64) (i1 : Int32) (j2 : Int64) : nar .boolean (f0_289_s0 j0 i1 j2) = 1 := by
  have e1 : f0_257_s0 j0 i1 j2 = 1 := by unfold f0_257_s0; rw [if_pos (own_window j0 i1 j2)]
  have e2 : f0_277_s0 j0 i1 j2 = 1 := by unfold f0_277_s0; rw [if_pos (own_trip j0)]
  unfold f0_289_s0
  rw [e1, e2]; rfl
theorem ef_0 (m : MethodId) (x0 : Int64) (x1 : Int32) (x2 : Int64) : entryFrame m #[(.long x0), (.int x1), (.long x2)] maxLocals = mkF m 0 #[.val (.long x0), .second, .val (.int x1), .val (.long x2), .second, .unset, .unset, .unset, .unset] [] := by first | (simp [entryFrame, mkF, argsToLocals, Value.category, maxLocals]; done) | rfl
theorem pd_0 : parseMethodDescriptor "([BI)J" = some ⟨[(.array .byte), .int], some .long⟩ := by decide +kernel
theorem pd_1 : parseMethodDescriptor "(J)[B" = some ⟨[.long], some (.array .byte)⟩ := by decide +kernel
theorem pn_0 : plainName "com/example/penelope/penelope/CodecGetLongPinLaw" = true := by first | (simp [plainName, overriddenIn]; done) | decide +kernel
set_option maxRecDepth 65536 in
set_option maxHeartbeats 40000000 in
theorem rm0 (l : Launch) (Z : State) (a0 : Array Value) (hw : ∀ d ∈ tables_1, d.before a0 Z = true) (ws : List Jvm.Cond) (j0 : Int64) (i1 : Int32) (j2 : Int64)  (h0 : Heap) (n0 : Nat) (Z0 : n0 ≤ h0.size) :
    MetFree l x (head1 (Jvm.Cond.code x code maxLocals ret :: ws) room_1) (fun a U => a = #[(.long j0), (.int i1), (.long j2)] ∧ Z.Warmed39 U.vm ∧ U.heap = h0) (fun _ _ _ _ _ => True) (fun _ U o U' => ∃ v L, o = .returned v ∧ QL n0 v U'.heap L ∧ FrameEnd U o U' L room_1.cells room_1.slots) := by
  refine MetFree.of_bodySF (plainFor_of_name pn_0) hisR ?_
  intro p e s m args below meth c s₁ Bd hml0 hP hK
  obtain ⟨rfl, hZ, hh⟩ := hP
  have hx := Bd.exec
  have hby := Bd.bytes
  have hml : c.maxLocals = 9 := hml0
  have hown : s.vm.findClass "com/example/penelope/penelope/CodecGetLongPinLaw" = some m.cls := findClass_of_methodNamed Bd.named
  have hnm := (name_of_methodNamed Bd.named Bd.method).1
  have hret := Bd.returns
  have hlk : meth.locks = false := BodyLoose.notSynchronized Bd
  have X0 : Stand p l e room_1 s m #[(.long j0), (.int i1), (.long j2)] below meth c s₁ [] 0 0 := Stand.of_body Bd
  have e0 : s₁.heap = h0 := by rw [← hh, Bd.state]; rfl
  have N0 := Fr.nil n0
  show Outs p e below s (QL n0) _ _ _
  refine Outs.of (U' := s₁.setTop (mkF m 0 #[.val (.long j0), .second, .val (.int i1), .val (.long j2), .second, .unset, .unset, .unset, .unset] [])) (fun t k => castTop (ef_0 m j0 i1 j2) k) ?_
  refine Outs.of (U' := s₁.setTop (mkF m 7 #[.val (.long j0), .second, .val (.int i1), .val (.long j2), .second, .val (.int (i1 &&& (3 : Int32))), .unset, .unset, .unset] [(.int (12 : Int32))])) (fun t k => ?_) ?_
  · refine XS.iloadN X0.here hx rfl (hb hby at_0) rfl ?_
    show Steps p.tables e below (s₁.setTop (mkF m 1 #[.val (.long j0), .second, .val (.int i1), .val (.long j2), .second, .unset, .unset, .unset, .unset] [(.int i1)])) _
    refine XS.iconst X0.here hx rfl (hb hby at_1) ?_
    show Steps p.tables e below (s₁.setTop (mkF m 2 #[.val (.long j0), .second, .val (.int i1), .val (.long j2), .second, .unset, .unset, .unset, .unset] [(.int (3 : Int32)), (.int i1)])) _
    refine XS.iand X0.here hx rfl (hb hby at_2) rfl ?_
    show Steps p.tables e below (s₁.setTop (mkF m 3 #[.val (.long j0), .second, .val (.int i1), .val (.long j2), .second, .unset, .unset, .unset, .unset] [(.int (i1 &&& (3 : Int32)))])) _
    refine XS.istore X0.here hx rfl (hb hby at_3) rfl (l' := #[.val (.long j0), .second, .val (.int i1), .val (.long j2), .second, .val (.int (i1 &&& (3 : Int32))), .unset, .unset, .unset]) rfl ?_
    show Steps p.tables e below (s₁.setTop (mkF m 5 #[.val (.long j0), .second, .val (.int i1), .val (.long j2), .second, .val (.int (i1 &&& (3 : Int32))), .unset, .unset, .unset] [])) _
    refine XS.bipush X0.here hx rfl (hb hby at_5) ?_
    show Steps p.tables e below (s₁.setTop (mkF m 7 #[.val (.long j0), .second, .val (.int i1), .val (.long j2), .second, .val (.int (i1 &&& (3 : Int32))), .unset, .unset, .unset] [(.int (12 : Int32))])) _
    exact k
  obtain ⟨T1, h1, X1, e1, E1, A1, st1⟩ := newAF X0 hx hZ (aty := .byte) (hw _ (List.mem_of_getElem? (i := 0) rfl)) e0 (f := (mkF m 7 #[.val (.long j0), .second, .val (.int i1), .val (.long j2), .second, .val (.int (i1 &&& (3 : Int32))), .unset, .unset, .unset] [(.int (12 : Int32))])) rfl (hb hby at_7) rfl (k := 12) rfl (cap := 12) (by decide) (by decide) (by decide) (by decide)
  obtain ⟨b1, g1⟩ : ∃ z, z = h0.size := ⟨_, rfl⟩
  rw [← g1] at A1 st1
  have g_b1 : n0 ≤ b1 := Nat.le_trans Z0 (Nat.le_of_eq g1.symm)
  have V1 : AI Z h1 b1 .byte 12 (fun _ => (0 : Int32)) := A1
  refine Outs.of st1 ?_
  show Outs p e below s _ _ _ (T1.setTop (mkF m 9 #[.val (.long j0), .second, .val (.int i1), .val (.long j2), .second, .val (.int (i1 &&& (3 : Int32))), .unset, .unset, .unset] [(.ref b1)]))
  refine Outs.of (U' := T1.setTop (mkF m 17 #[.val (.long j0), .second, .val (.int i1), .val (.long j2), .second, .val (.int (i1 &&& (3 : Int32))), .val (.ref b1), .unset, .unset] [(.int ((j2.toInt32).toInt8.toInt32)), (.int (0 : Int32)), (.ref b1)])) (fun t k => ?_) ?_
  · refine XS.astore X1.here hx rfl (hb hby at_9) rfl rfl (l' := #[.val (.long j0), .second, .val (.int i1), .val (.long j2), .second, .val (.int (i1 &&& (3 : Int32))), .val (.ref b1), .unset, .unset]) rfl ?_
    show Steps p.tables e below (T1.setTop (mkF m 11 #[.val (.long j0), .second, .val (.int i1), .val (.long j2), .second, .val (.int (i1 &&& (3 : Int32))), .val (.ref b1), .unset, .unset] [])) _
    refine XS.aload X1.here hx rfl (hb hby at_11) rfl rfl ?_
    show Steps p.tables e below (T1.setTop (mkF m 13 #[.val (.long j0), .second, .val (.int i1), .val (.long j2), .second, .val (.int (i1 &&& (3 : Int32))), .val (.ref b1), .unset, .unset] [(.ref b1)])) _
    refine XS.iconst X1.here hx rfl (hb hby at_13) ?_
    show Steps p.tables e below (T1.setTop (mkF m 14 #[.val (.long j0), .second, .val (.int i1), .val (.long j2), .second, .val (.int (i1 &&& (3 : Int32))), .val (.ref b1), .unset, .unset] [(.int (0 : Int32)), (.ref b1)])) _
    refine XS.lloadN X1.here hx rfl (hb hby at_14) rfl ?_
    show Steps p.tables e below (T1.setTop (mkF m 15 #[.val (.long j0), .second, .val (.int i1), .val (.long j2), .second, .val (.int (i1 &&& (3 : Int32))), .val (.ref b1), .unset, .unset] [(.long j2), (.int (0 : Int32)), (.ref b1)])) _
    refine XS.l2i X1.here hx rfl (hb hby at_15) rfl ?_
    show Steps p.tables e below (T1.setTop (mkF m 16 #[.val (.long j0), .second, .val (.int i1), .val (.long j2), .second, .val (.int (i1 &&& (3 : Int32))), .val (.ref b1), .unset, .unset] [(.int (j2.toInt32)), (.int (0 : Int32)), (.ref b1)])) _
    refine XS.i2b X1.here hx rfl (hb hby at_16) rfl ?_
    show Steps p.tables e below (T1.setTop (mkF m 17 #[.val (.long j0), .second, .val (.int i1), .val (.long j2), .second, .val (.int (i1 &&& (3 : Int32))), .val (.ref b1), .unset, .unset] [(.int ((j2.toInt32).toInt8.toInt32)), (.int (0 : Int32)), (.ref b1)])) _
    exact k
  obtain ⟨T2, h2, X2, e2, W2, V2, st2⟩ := puB X1 hx hZ e1 V1 (j := (0 : Int32)) (x := ((j2.toInt32).toInt8.toInt32)) (k := 0) rfl (by decide) (f := (mkF m 17 #[.val (.long j0), .second, .val (.int i1), .val (.long j2), .second, .val (.int (i1 &&& (3 : Int32))), .val (.ref b1), .unset, .unset] [(.int ((j2.toInt32).toInt8.toInt32)), (.int (0 : Int32)), (.ref b1)])) rfl rfl (hb hby at_17)
  replace V2 : AI Z h2 b1 .byte 12 (f0_g17 j0 i1 j2) := V2
  have N2 := Fr.snoc X2 N0 g_b1
  obtain ⟨Lh2, X2, N2⟩ := hide X2 N2 (C := 1) (S := 12) (by decide) (by decide)
  refine Outs.of st2 ?_
  show Outs p e below s _ _ _ (T2.setTop (mkF m 18 #[.val (.long j0), .second, .val (.int i1), .val (.long j2), .second, .val (.int (i1 &&& (3 : Int32))), .val (.ref b1), .unset, .unset] []))
  refine Outs.of (U' := T2.setTop (mkF m 27 #[.val (.long j0), .second, .val (.int i1), .val (.long j2), .second, .val (.int (i1 &&& (3 : Int32))), .val (.ref b1), .unset, .unset] [(.int ((((j2.toUInt64 >>> ((8 : Int32) &&& 0x3f).toInt64.toUInt64).toInt64).toInt32).toInt8.toInt32)), (.int (1 : Int32)), (.ref b1)])) (fun t k => ?_) ?_
  · refine XS.aload X2.here hx rfl (hb hby at_18) rfl rfl ?_
    show Steps p.tables e below (T2.setTop (mkF m 20 #[.val (.long j0), .second, .val (.int i1), .val (.long j2), .second, .val (.int (i1 &&& (3 : Int32))), .val (.ref b1), .unset, .unset] [(.ref b1)])) _
    refine XS.iconst X2.here hx rfl (hb hby at_20) ?_
    show Steps p.tables e below (T2.setTop (mkF m 21 #[.val (.long j0), .second, .val (.int i1), .val (.long j2), .second, .val (.int (i1 &&& (3 : Int32))), .val (.ref b1), .unset, .unset] [(.int (1 : Int32)), (.ref b1)])) _
    refine XS.lloadN X2.here hx rfl (hb hby at_21) rfl ?_
    show Steps p.tables e below (T2.setTop (mkF m 22 #[.val (.long j0), .second, .val (.int i1), .val (.long j2), .second, .val (.int (i1 &&& (3 : Int32))), .val (.ref b1), .unset, .unset] [(.long j2), (.int (1 : Int32)), (.ref b1)])) _
    refine XS.bipush X2.here hx rfl (hb hby at_22) ?_
    show Steps p.tables e below (T2.setTop (mkF m 24 #[.val (.long j0), .second, .val (.int i1), .val (.long j2), .second, .val (.int (i1 &&& (3 : Int32))), .val (.ref b1), .unset, .unset] [(.int (8 : Int32)), (.long j2), (.int (1 : Int32)), (.ref b1)])) _
    refine XS.lushr X2.here hx rfl (hb hby at_24) rfl ?_
    show Steps p.tables e below (T2.setTop (mkF m 25 #[.val (.long j0), .second, .val (.int i1), .val (.long j2), .second, .val (.int (i1 &&& (3 : Int32))), .val (.ref b1), .unset, .unset] [(.long ((j2.toUInt64 >>> ((8 : Int32) &&& 0x3f).toInt64.toUInt64).toInt64)), (.int (1 : Int32)), (.ref b1)])) _
    refine XS.l2i X2.here hx rfl (hb hby at_25) rfl ?_
    show Steps p.tables e below (T2.setTop (mkF m 26 #[.val (.long j0), .second, .val (.int i1), .val (.long j2), .second, .val (.int (i1 &&& (3 : Int32))), .val (.ref b1), .unset, .unset] [(.int (((j2.toUInt64 >>> ((8 : Int32) &&& 0x3f).toInt64.toUInt64).toInt64).toInt32)), (.int (1 : Int32)), (.ref b1)])) _
    refine XS.i2b X2.here hx rfl (hb hby at_26) rfl ?_
    show Steps p.tables e below (T2.setTop (mkF m 27 #[.val (.long j0), .second, .val (.int i1), .val (.long j2), .second, .val (.int (i1 &&& (3 : Int32))), .val (.ref b1), .unset, .unset] [(.int ((((j2.toUInt64 >>> ((8 : Int32) &&& 0x3f).toInt64.toUInt64).toInt64).toInt32).toInt8.toInt32)), (.int (1 : Int32)), (.ref b1)])) _
    exact k
  obtain ⟨T3, h3, X3, e3, W3, V3, st3⟩ := puB X2 hx hZ e2 V2 (j := (1 : Int32)) (x := ((((j2.toUInt64 >>> ((8 : Int32) &&& 0x3f).toInt64.toUInt64).toInt64).toInt32).toInt8.toInt32)) (k := 1) rfl (by decide) (f := (mkF m 27 #[.val (.long j0), .second, .val (.int i1), .val (.long j2), .second, .val (.int (i1 &&& (3 : Int32))), .val (.ref b1), .unset, .unset] [(.int ((((j2.toUInt64 >>> ((8 : Int32) &&& 0x3f).toInt64.toUInt64).toInt64).toInt32).toInt8.toInt32)), (.int (1 : Int32)), (.ref b1)])) rfl rfl (hb hby at_27)
  replace V3 : AI Z h3 b1 .byte 12 (f0_g27 j0 i1 j2) := V3
  have N3 := Fr.snoc X3 N2 g_b1
  obtain ⟨Lh3, X3, N3⟩ := hide X3 N3 (C := 1) (S := 12) (by decide) (by decide)
  refine Outs.of st3 ?_
  show Outs p e below s _ _ _ (T3.setTop (mkF m 28 #[.val (.long j0), .second, .val (.int i1), .val (.long j2), .second, .val (.int (i1 &&& (3 : Int32))), .val (.ref b1), .unset, .unset] []))
  refine Outs.of (U' := T3.setTop (mkF m 37 #[.val (.long j0), .second, .val (.int i1), .val (.long j2), .second, .val (.int (i1 &&& (3 : Int32))), .val (.ref b1), .unset, .unset] [(.int ((((j2.toUInt64 >>> ((16 : Int32) &&& 0x3f).toInt64.toUInt64).toInt64).toInt32).toInt8.toInt32)), (.int (2 : Int32)), (.ref b1)])) (fun t k => ?_) ?_
  · refine XS.aload X3.here hx rfl (hb hby at_28) rfl rfl ?_
    show Steps p.tables e below (T3.setTop (mkF m 30 #[.val (.long j0), .second, .val (.int i1), .val (.long j2), .second, .val (.int (i1 &&& (3 : Int32))), .val (.ref b1), .unset, .unset] [(.ref b1)])) _
    refine XS.iconst X3.here hx rfl (hb hby at_30) ?_
    show Steps p.tables e below (T3.setTop (mkF m 31 #[.val (.long j0), .second, .val (.int i1), .val (.long j2), .second, .val (.int (i1 &&& (3 : Int32))), .val (.ref b1), .unset, .unset] [(.int (2 : Int32)), (.ref b1)])) _
    refine XS.lloadN X3.here hx rfl (hb hby at_31) rfl ?_
    show Steps p.tables e below (T3.setTop (mkF m 32 #[.val (.long j0), .second, .val (.int i1), .val (.long j2), .second, .val (.int (i1 &&& (3 : Int32))), .val (.ref b1), .unset, .unset] [(.long j2), (.int (2 : Int32)), (.ref b1)])) _
    refine XS.bipush X3.here hx rfl (hb hby at_32) ?_
    show Steps p.tables e below (T3.setTop (mkF m 34 #[.val (.long j0), .second, .val (.int i1), .val (.long j2), .second, .val (.int (i1 &&& (3 : Int32))), .val (.ref b1), .unset, .unset] [(.int (16 : Int32)), (.long j2), (.int (2 : Int32)), (.ref b1)])) _
    refine XS.lushr X3.here hx rfl (hb hby at_34) rfl ?_
    show Steps p.tables e below (T3.setTop (mkF m 35 #[.val (.long j0), .second, .val (.int i1), .val (.long j2), .second, .val (.int (i1 &&& (3 : Int32))), .val (.ref b1), .unset, .unset] [(.long ((j2.toUInt64 >>> ((16 : Int32) &&& 0x3f).toInt64.toUInt64).toInt64)), (.int (2 : Int32)), (.ref b1)])) _
    refine XS.l2i X3.here hx rfl (hb hby at_35) rfl ?_
    show Steps p.tables e below (T3.setTop (mkF m 36 #[.val (.long j0), .second, .val (.int i1), .val (.long j2), .second, .val (.int (i1 &&& (3 : Int32))), .val (.ref b1), .unset, .unset] [(.int (((j2.toUInt64 >>> ((16 : Int32) &&& 0x3f).toInt64.toUInt64).toInt64).toInt32)), (.int (2 : Int32)), (.ref b1)])) _
    refine XS.i2b X3.here hx rfl (hb hby at_36) rfl ?_
    show Steps p.tables e below (T3.setTop (mkF m 37 #[.val (.long j0), .second, .val (.int i1), .val (.long j2), .second, .val (.int (i1 &&& (3 : Int32))), .val (.ref b1), .unset, .unset] [(.int ((((j2.toUInt64 >>> ((16 : Int32) &&& 0x3f).toInt64.toUInt64).toInt64).toInt32).toInt8.toInt32)), (.int (2 : Int32)), (.ref b1)])) _
    exact k
  obtain ⟨T4, h4, X4, e4, W4, V4, st4⟩ := puB X3 hx hZ e3 V3 (j := (2 : Int32)) (x := ((((j2.toUInt64 >>> ((16 : Int32) &&& 0x3f).toInt64.toUInt64).toInt64).toInt32).toInt8.toInt32)) (k := 2) rfl (by decide) (f := (mkF m 37 #[.val (.long j0), .second, .val (.int i1), .val (.long j2), .second, .val (.int (i1 &&& (3 : Int32))), .val (.ref b1), .unset, .unset] [(.int ((((j2.toUInt64 >>> ((16 : Int32) &&& 0x3f).toInt64.toUInt64).toInt64).toInt32).toInt8.toInt32)), (.int (2 : Int32)), (.ref b1)])) rfl rfl (hb hby at_37)
  replace V4 : AI Z h4 b1 .byte 12 (f0_g37 j0 i1 j2) := V4
  have N4 := Fr.snoc X4 N3 g_b1
  obtain ⟨Lh4, X4, N4⟩ := hide X4 N4 (C := 1) (S := 12) (by decide) (by decide)
  refine Outs.of st4 ?_
  show Outs p e below s _ _ _ (T4.setTop (mkF m 38 #[.val (.long j0), .second, .val (.int i1), .val (.long j2), .second, .val (.int (i1 &&& (3 : Int32))), .val (.ref b1), .unset, .unset] []))
  refine Outs.of (U' := T4.setTop (mkF m 47 #[.val (.long j0), .second, .val (.int i1), .val (.long j2), .second, .val (.int (i1 &&& (3 : Int32))), .val (.ref b1), .unset, .unset] [(.int ((((j2.toUInt64 >>> ((24 : Int32) &&& 0x3f).toInt64.toUInt64).toInt64).toInt32).toInt8.toInt32)), (.int (3 : Int32)), (.ref b1)])) (fun t k => ?_) ?_
  · refine XS.aload X4.here hx rfl (hb hby at_38) rfl rfl ?_
    show Steps p.tables e below (T4.setTop (mkF m 40 #[.val (.long j0), .second, .val (.int i1), .val (.long j2), .second, .val (.int (i1 &&& (3 : Int32))), .val (.ref b1), .unset, .unset] [(.ref b1)])) _
    refine XS.iconst X4.here hx rfl (hb hby at_40) ?_
    show Steps p.tables e below (T4.setTop (mkF m 41 #[.val (.long j0), .second, .val (.int i1), .val (.long j2), .second, .val (.int (i1 &&& (3 : Int32))), .val (.ref b1), .unset, .unset] [(.int (3 : Int32)), (.ref b1)])) _
    refine XS.lloadN X4.here hx rfl (hb hby at_41) rfl ?_
    show Steps p.tables e below (T4.setTop (mkF m 42 #[.val (.long j0), .second, .val (.int i1), .val (.long j2), .second, .val (.int (i1 &&& (3 : Int32))), .val (.ref b1), .unset, .unset] [(.long j2), (.int (3 : Int32)), (.ref b1)])) _
    refine XS.bipush X4.here hx rfl (hb hby at_42) ?_
    show Steps p.tables e below (T4.setTop (mkF m 44 #[.val (.long j0), .second, .val (.int i1), .val (.long j2), .second, .val (.int (i1 &&& (3 : Int32))), .val (.ref b1), .unset, .unset] [(.int (24 : Int32)), (.long j2), (.int (3 : Int32)), (.ref b1)])) _
    refine XS.lushr X4.here hx rfl (hb hby at_44) rfl ?_
    show Steps p.tables e below (T4.setTop (mkF m 45 #[.val (.long j0), .second, .val (.int i1), .val (.long j2), .second, .val (.int (i1 &&& (3 : Int32))), .val (.ref b1), .unset, .unset] [(.long ((j2.toUInt64 >>> ((24 : Int32) &&& 0x3f).toInt64.toUInt64).toInt64)), (.int (3 : Int32)), (.ref b1)])) _
    refine XS.l2i X4.here hx rfl (hb hby at_45) rfl ?_
    show Steps p.tables e below (T4.setTop (mkF m 46 #[.val (.long j0), .second, .val (.int i1), .val (.long j2), .second, .val (.int (i1 &&& (3 : Int32))), .val (.ref b1), .unset, .unset] [(.int (((j2.toUInt64 >>> ((24 : Int32) &&& 0x3f).toInt64.toUInt64).toInt64).toInt32)), (.int (3 : Int32)), (.ref b1)])) _
    refine XS.i2b X4.here hx rfl (hb hby at_46) rfl ?_
    show Steps p.tables e below (T4.setTop (mkF m 47 #[.val (.long j0), .second, .val (.int i1), .val (.long j2), .second, .val (.int (i1 &&& (3 : Int32))), .val (.ref b1), .unset, .unset] [(.int ((((j2.toUInt64 >>> ((24 : Int32) &&& 0x3f).toInt64.toUInt64).toInt64).toInt32).toInt8.toInt32)), (.int (3 : Int32)), (.ref b1)])) _
    exact k
  obtain ⟨T5, h5, X5, e5, W5, V5, st5⟩ := puB X4 hx hZ e4 V4 (j := (3 : Int32)) (x := ((((j2.toUInt64 >>> ((24 : Int32) &&& 0x3f).toInt64.toUInt64).toInt64).toInt32).toInt8.toInt32)) (k := 3) rfl (by decide) (f := (mkF m 47 #[.val (.long j0), .second, .val (.int i1), .val (.long j2), .second, .val (.int (i1 &&& (3 : Int32))), .val (.ref b1), .unset, .unset] [(.int ((((j2.toUInt64 >>> ((24 : Int32) &&& 0x3f).toInt64.toUInt64).toInt64).toInt32).toInt8.toInt32)), (.int (3 : Int32)), (.ref b1)])) rfl rfl (hb hby at_47)
  replace V5 : AI Z h5 b1 .byte 12 (f0_g47 j0 i1 j2) := V5
  have N5 := Fr.snoc X5 N4 g_b1
  obtain ⟨Lh5, X5, N5⟩ := hide X5 N5 (C := 1) (S := 12) (by decide) (by decide)
  refine Outs.of st5 ?_
  show Outs p e below s _ _ _ (T5.setTop (mkF m 48 #[.val (.long j0), .second, .val (.int i1), .val (.long j2), .second, .val (.int (i1 &&& (3 : Int32))), .val (.ref b1), .unset, .unset] []))
  refine Outs.of (U' := T5.setTop (mkF m 57 #[.val (.long j0), .second, .val (.int i1), .val (.long j2), .second, .val (.int (i1 &&& (3 : Int32))), .val (.ref b1), .unset, .unset] [(.int ((((j2.toUInt64 >>> ((32 : Int32) &&& 0x3f).toInt64.toUInt64).toInt64).toInt32).toInt8.toInt32)), (.int (4 : Int32)), (.ref b1)])) (fun t k => ?_) ?_
  · refine XS.aload X5.here hx rfl (hb hby at_48) rfl rfl ?_
    show Steps p.tables e below (T5.setTop (mkF m 50 #[.val (.long j0), .second, .val (.int i1), .val (.long j2), .second, .val (.int (i1 &&& (3 : Int32))), .val (.ref b1), .unset, .unset] [(.ref b1)])) _
    refine XS.iconst X5.here hx rfl (hb hby at_50) ?_
    show Steps p.tables e below (T5.setTop (mkF m 51 #[.val (.long j0), .second, .val (.int i1), .val (.long j2), .second, .val (.int (i1 &&& (3 : Int32))), .val (.ref b1), .unset, .unset] [(.int (4 : Int32)), (.ref b1)])) _
    refine XS.lloadN X5.here hx rfl (hb hby at_51) rfl ?_
    show Steps p.tables e below (T5.setTop (mkF m 52 #[.val (.long j0), .second, .val (.int i1), .val (.long j2), .second, .val (.int (i1 &&& (3 : Int32))), .val (.ref b1), .unset, .unset] [(.long j2), (.int (4 : Int32)), (.ref b1)])) _
    refine XS.bipush X5.here hx rfl (hb hby at_52) ?_
    show Steps p.tables e below (T5.setTop (mkF m 54 #[.val (.long j0), .second, .val (.int i1), .val (.long j2), .second, .val (.int (i1 &&& (3 : Int32))), .val (.ref b1), .unset, .unset] [(.int (32 : Int32)), (.long j2), (.int (4 : Int32)), (.ref b1)])) _
    refine XS.lushr X5.here hx rfl (hb hby at_54) rfl ?_
    show Steps p.tables e below (T5.setTop (mkF m 55 #[.val (.long j0), .second, .val (.int i1), .val (.long j2), .second, .val (.int (i1 &&& (3 : Int32))), .val (.ref b1), .unset, .unset] [(.long ((j2.toUInt64 >>> ((32 : Int32) &&& 0x3f).toInt64.toUInt64).toInt64)), (.int (4 : Int32)), (.ref b1)])) _
    refine XS.l2i X5.here hx rfl (hb hby at_55) rfl ?_
    show Steps p.tables e below (T5.setTop (mkF m 56 #[.val (.long j0), .second, .val (.int i1), .val (.long j2), .second, .val (.int (i1 &&& (3 : Int32))), .val (.ref b1), .unset, .unset] [(.int (((j2.toUInt64 >>> ((32 : Int32) &&& 0x3f).toInt64.toUInt64).toInt64).toInt32)), (.int (4 : Int32)), (.ref b1)])) _
    refine XS.i2b X5.here hx rfl (hb hby at_56) rfl ?_
    show Steps p.tables e below (T5.setTop (mkF m 57 #[.val (.long j0), .second, .val (.int i1), .val (.long j2), .second, .val (.int (i1 &&& (3 : Int32))), .val (.ref b1), .unset, .unset] [(.int ((((j2.toUInt64 >>> ((32 : Int32) &&& 0x3f).toInt64.toUInt64).toInt64).toInt32).toInt8.toInt32)), (.int (4 : Int32)), (.ref b1)])) _
    exact k
  obtain ⟨T6, h6, X6, e6, W6, V6, st6⟩ := puB X5 hx hZ e5 V5 (j := (4 : Int32)) (x := ((((j2.toUInt64 >>> ((32 : Int32) &&& 0x3f).toInt64.toUInt64).toInt64).toInt32).toInt8.toInt32)) (k := 4) rfl (by decide) (f := (mkF m 57 #[.val (.long j0), .second, .val (.int i1), .val (.long j2), .second, .val (.int (i1 &&& (3 : Int32))), .val (.ref b1), .unset, .unset] [(.int ((((j2.toUInt64 >>> ((32 : Int32) &&& 0x3f).toInt64.toUInt64).toInt64).toInt32).toInt8.toInt32)), (.int (4 : Int32)), (.ref b1)])) rfl rfl (hb hby at_57)
  replace V6 : AI Z h6 b1 .byte 12 (f0_g57 j0 i1 j2) := V6
  have N6 := Fr.snoc X6 N5 g_b1
  obtain ⟨Lh6, X6, N6⟩ := hide X6 N6 (C := 1) (S := 12) (by decide) (by decide)
  refine Outs.of st6 ?_
  show Outs p e below s _ _ _ (T6.setTop (mkF m 58 #[.val (.long j0), .second, .val (.int i1), .val (.long j2), .second, .val (.int (i1 &&& (3 : Int32))), .val (.ref b1), .unset, .unset] []))
  refine Outs.of (U' := T6.setTop (mkF m 67 #[.val (.long j0), .second, .val (.int i1), .val (.long j2), .second, .val (.int (i1 &&& (3 : Int32))), .val (.ref b1), .unset, .unset] [(.int ((((j2.toUInt64 >>> ((40 : Int32) &&& 0x3f).toInt64.toUInt64).toInt64).toInt32).toInt8.toInt32)), (.int (5 : Int32)), (.ref b1)])) (fun t k => ?_) ?_
  · refine XS.aload X6.here hx rfl (hb hby at_58) rfl rfl ?_
    show Steps p.tables e below (T6.setTop (mkF m 60 #[.val (.long j0), .second, .val (.int i1), .val (.long j2), .second, .val (.int (i1 &&& (3 : Int32))), .val (.ref b1), .unset, .unset] [(.ref b1)])) _
    refine XS.iconst X6.here hx rfl (hb hby at_60) ?_
    show Steps p.tables e below (T6.setTop (mkF m 61 #[.val (.long j0), .second, .val (.int i1), .val (.long j2), .second, .val (.int (i1 &&& (3 : Int32))), .val (.ref b1), .unset, .unset] [(.int (5 : Int32)), (.ref b1)])) _
    refine XS.lloadN X6.here hx rfl (hb hby at_61) rfl ?_
    show Steps p.tables e below (T6.setTop (mkF m 62 #[.val (.long j0), .second, .val (.int i1), .val (.long j2), .second, .val (.int (i1 &&& (3 : Int32))), .val (.ref b1), .unset, .unset] [(.long j2), (.int (5 : Int32)), (.ref b1)])) _
    refine XS.bipush X6.here hx rfl (hb hby at_62) ?_
    show Steps p.tables e below (T6.setTop (mkF m 64 #[.val (.long j0), .second, .val (.int i1), .val (.long j2), .second, .val (.int (i1 &&& (3 : Int32))), .val (.ref b1), .unset, .unset] [(.int (40 : Int32)), (.long j2), (.int (5 : Int32)), (.ref b1)])) _
    refine XS.lushr X6.here hx rfl (hb hby at_64) rfl ?_
    show Steps p.tables e below (T6.setTop (mkF m 65 #[.val (.long j0), .second, .val (.int i1), .val (.long j2), .second, .val (.int (i1 &&& (3 : Int32))), .val (.ref b1), .unset, .unset] [(.long ((j2.toUInt64 >>> ((40 : Int32) &&& 0x3f).toInt64.toUInt64).toInt64)), (.int (5 : Int32)), (.ref b1)])) _
    refine XS.l2i X6.here hx rfl (hb hby at_65) rfl ?_
    show Steps p.tables e below (T6.setTop (mkF m 66 #[.val (.long j0), .second, .val (.int i1), .val (.long j2), .second, .val (.int (i1 &&& (3 : Int32))), .val (.ref b1), .unset, .unset] [(.int (((j2.toUInt64 >>> ((40 : Int32) &&& 0x3f).toInt64.toUInt64).toInt64).toInt32)), (.int (5 : Int32)), (.ref b1)])) _
    refine XS.i2b X6.here hx rfl (hb hby at_66) rfl ?_
    show Steps p.tables e below (T6.setTop (mkF m 67 #[.val (.long j0), .second, .val (.int i1), .val (.long j2), .second, .val (.int (i1 &&& (3 : Int32))), .val (.ref b1), .unset, .unset] [(.int ((((j2.toUInt64 >>> ((40 : Int32) &&& 0x3f).toInt64.toUInt64).toInt64).toInt32).toInt8.toInt32)), (.int (5 : Int32)), (.ref b1)])) _
    exact k
  obtain ⟨T7, h7, X7, e7, W7, V7, st7⟩ := puB X6 hx hZ e6 V6 (j := (5 : Int32)) (x := ((((j2.toUInt64 >>> ((40 : Int32) &&& 0x3f).toInt64.toUInt64).toInt64).toInt32).toInt8.toInt32)) (k := 5) rfl (by decide) (f := (mkF m 67 #[.val (.long j0), .second, .val (.int i1), .val (.long j2), .second, .val (.int (i1 &&& (3 : Int32))), .val (.ref b1), .unset, .unset] [(.int ((((j2.toUInt64 >>> ((40 : Int32) &&& 0x3f).toInt64.toUInt64).toInt64).toInt32).toInt8.toInt32)), (.int (5 : Int32)), (.ref b1)])) rfl rfl (hb hby at_67)
  replace V7 : AI Z h7 b1 .byte 12 (f0_g67 j0 i1 j2) := V7
  have N7 := Fr.snoc X7 N6 g_b1
  obtain ⟨Lh7, X7, N7⟩ := hide X7 N7 (C := 1) (S := 12) (by decide) (by decide)
  refine Outs.of st7 ?_
  show Outs p e below s _ _ _ (T7.setTop (mkF m 68 #[.val (.long j0), .second, .val (.int i1), .val (.long j2), .second, .val (.int (i1 &&& (3 : Int32))), .val (.ref b1), .unset, .unset] []))
  refine Outs.of (U' := T7.setTop (mkF m 78 #[.val (.long j0), .second, .val (.int i1), .val (.long j2), .second, .val (.int (i1 &&& (3 : Int32))), .val (.ref b1), .unset, .unset] [(.int ((((j2.toUInt64 >>> ((48 : Int32) &&& 0x3f).toInt64.toUInt64).toInt64).toInt32).toInt8.toInt32)), (.int (6 : Int32)), (.ref b1)])) (fun t k => ?_) ?_
  · refine XS.aload X7.here hx rfl (hb hby at_68) rfl rfl ?_
    show Steps p.tables e below (T7.setTop (mkF m 70 #[.val (.long j0), .second, .val (.int i1), .val (.long j2), .second, .val (.int (i1 &&& (3 : Int32))), .val (.ref b1), .unset, .unset] [(.ref b1)])) _
    refine XS.bipush X7.here hx rfl (hb hby at_70) ?_
    show Steps p.tables e below (T7.setTop (mkF m 72 #[.val (.long j0), .second, .val (.int i1), .val (.long j2), .second, .val (.int (i1 &&& (3 : Int32))), .val (.ref b1), .unset, .unset] [(.int (6 : Int32)), (.ref b1)])) _
    refine XS.lloadN X7.here hx rfl (hb hby at_72) rfl ?_
    show Steps p.tables e below (T7.setTop (mkF m 73 #[.val (.long j0), .second, .val (.int i1), .val (.long j2), .second, .val (.int (i1 &&& (3 : Int32))), .val (.ref b1), .unset, .unset] [(.long j2), (.int (6 : Int32)), (.ref b1)])) _
    refine XS.bipush X7.here hx rfl (hb hby at_73) ?_
    show Steps p.tables e below (T7.setTop (mkF m 75 #[.val (.long j0), .second, .val (.int i1), .val (.long j2), .second, .val (.int (i1 &&& (3 : Int32))), .val (.ref b1), .unset, .unset] [(.int (48 : Int32)), (.long j2), (.int (6 : Int32)), (.ref b1)])) _
    refine XS.lushr X7.here hx rfl (hb hby at_75) rfl ?_
    show Steps p.tables e below (T7.setTop (mkF m 76 #[.val (.long j0), .second, .val (.int i1), .val (.long j2), .second, .val (.int (i1 &&& (3 : Int32))), .val (.ref b1), .unset, .unset] [(.long ((j2.toUInt64 >>> ((48 : Int32) &&& 0x3f).toInt64.toUInt64).toInt64)), (.int (6 : Int32)), (.ref b1)])) _
    refine XS.l2i X7.here hx rfl (hb hby at_76) rfl ?_
    show Steps p.tables e below (T7.setTop (mkF m 77 #[.val (.long j0), .second, .val (.int i1), .val (.long j2), .second, .val (.int (i1 &&& (3 : Int32))), .val (.ref b1), .unset, .unset] [(.int (((j2.toUInt64 >>> ((48 : Int32) &&& 0x3f).toInt64.toUInt64).toInt64).toInt32)), (.int (6 : Int32)), (.ref b1)])) _
    refine XS.i2b X7.here hx rfl (hb hby at_77) rfl ?_
    show Steps p.tables e below (T7.setTop (mkF m 78 #[.val (.long j0), .second, .val (.int i1), .val (.long j2), .second, .val (.int (i1 &&& (3 : Int32))), .val (.ref b1), .unset, .unset] [(.int ((((j2.toUInt64 >>> ((48 : Int32) &&& 0x3f).toInt64.toUInt64).toInt64).toInt32).toInt8.toInt32)), (.int (6 : Int32)), (.ref b1)])) _
    exact k
  obtain ⟨T8, h8, X8, e8, W8, V8, st8⟩ := puB X7 hx hZ e7 V7 (j := (6 : Int32)) (x := ((((j2.toUInt64 >>> ((48 : Int32) &&& 0x3f).toInt64.toUInt64).toInt64).toInt32).toInt8.toInt32)) (k := 6) rfl (by decide) (f := (mkF m 78 #[.val (.long j0), .second, .val (.int i1), .val (.long j2), .second, .val (.int (i1 &&& (3 : Int32))), .val (.ref b1), .unset, .unset] [(.int ((((j2.toUInt64 >>> ((48 : Int32) &&& 0x3f).toInt64.toUInt64).toInt64).toInt32).toInt8.toInt32)), (.int (6 : Int32)), (.ref b1)])) rfl rfl (hb hby at_78)
  replace V8 : AI Z h8 b1 .byte 12 (f0_g78 j0 i1 j2) := V8
  have N8 := Fr.snoc X8 N7 g_b1
  obtain ⟨Lh8, X8, N8⟩ := hide X8 N8 (C := 1) (S := 12) (by decide) (by decide)
  refine Outs.of st8 ?_
  show Outs p e below s _ _ _ (T8.setTop (mkF m 79 #[.val (.long j0), .second, .val (.int i1), .val (.long j2), .second, .val (.int (i1 &&& (3 : Int32))), .val (.ref b1), .unset, .unset] []))
  refine Outs.of (U' := T8.setTop (mkF m 89 #[.val (.long j0), .second, .val (.int i1), .val (.long j2), .second, .val (.int (i1 &&& (3 : Int32))), .val (.ref b1), .unset, .unset] [(.int ((((j2.toUInt64 >>> ((56 : Int32) &&& 0x3f).toInt64.toUInt64).toInt64).toInt32).toInt8.toInt32)), (.int (7 : Int32)), (.ref b1)])) (fun t k => ?_) ?_
  · refine XS.aload X8.here hx rfl (hb hby at_79) rfl rfl ?_
    show Steps p.tables e below (T8.setTop (mkF m 81 #[.val (.long j0), .second, .val (.int i1), .val (.long j2), .second, .val (.int (i1 &&& (3 : Int32))), .val (.ref b1), .unset, .unset] [(.ref b1)])) _
    refine XS.bipush X8.here hx rfl (hb hby at_81) ?_
    show Steps p.tables e below (T8.setTop (mkF m 83 #[.val (.long j0), .second, .val (.int i1), .val (.long j2), .second, .val (.int (i1 &&& (3 : Int32))), .val (.ref b1), .unset, .unset] [(.int (7 : Int32)), (.ref b1)])) _
    refine XS.lloadN X8.here hx rfl (hb hby at_83) rfl ?_
    show Steps p.tables e below (T8.setTop (mkF m 84 #[.val (.long j0), .second, .val (.int i1), .val (.long j2), .second, .val (.int (i1 &&& (3 : Int32))), .val (.ref b1), .unset, .unset] [(.long j2), (.int (7 : Int32)), (.ref b1)])) _
    refine XS.bipush X8.here hx rfl (hb hby at_84) ?_
    show Steps p.tables e below (T8.setTop (mkF m 86 #[.val (.long j0), .second, .val (.int i1), .val (.long j2), .second, .val (.int (i1 &&& (3 : Int32))), .val (.ref b1), .unset, .unset] [(.int (56 : Int32)), (.long j2), (.int (7 : Int32)), (.ref b1)])) _
    refine XS.lushr X8.here hx rfl (hb hby at_86) rfl ?_
    show Steps p.tables e below (T8.setTop (mkF m 87 #[.val (.long j0), .second, .val (.int i1), .val (.long j2), .second, .val (.int (i1 &&& (3 : Int32))), .val (.ref b1), .unset, .unset] [(.long ((j2.toUInt64 >>> ((56 : Int32) &&& 0x3f).toInt64.toUInt64).toInt64)), (.int (7 : Int32)), (.ref b1)])) _
    refine XS.l2i X8.here hx rfl (hb hby at_87) rfl ?_
    show Steps p.tables e below (T8.setTop (mkF m 88 #[.val (.long j0), .second, .val (.int i1), .val (.long j2), .second, .val (.int (i1 &&& (3 : Int32))), .val (.ref b1), .unset, .unset] [(.int (((j2.toUInt64 >>> ((56 : Int32) &&& 0x3f).toInt64.toUInt64).toInt64).toInt32)), (.int (7 : Int32)), (.ref b1)])) _
    refine XS.i2b X8.here hx rfl (hb hby at_88) rfl ?_
    show Steps p.tables e below (T8.setTop (mkF m 89 #[.val (.long j0), .second, .val (.int i1), .val (.long j2), .second, .val (.int (i1 &&& (3 : Int32))), .val (.ref b1), .unset, .unset] [(.int ((((j2.toUInt64 >>> ((56 : Int32) &&& 0x3f).toInt64.toUInt64).toInt64).toInt32).toInt8.toInt32)), (.int (7 : Int32)), (.ref b1)])) _
    exact k
  obtain ⟨T9, h9, X9, e9, W9, V9, st9⟩ := puB X8 hx hZ e8 V8 (j := (7 : Int32)) (x := ((((j2.toUInt64 >>> ((56 : Int32) &&& 0x3f).toInt64.toUInt64).toInt64).toInt32).toInt8.toInt32)) (k := 7) rfl (by decide) (f := (mkF m 89 #[.val (.long j0), .second, .val (.int i1), .val (.long j2), .second, .val (.int (i1 &&& (3 : Int32))), .val (.ref b1), .unset, .unset] [(.int ((((j2.toUInt64 >>> ((56 : Int32) &&& 0x3f).toInt64.toUInt64).toInt64).toInt32).toInt8.toInt32)), (.int (7 : Int32)), (.ref b1)])) rfl rfl (hb hby at_89)
  replace V9 : AI Z h9 b1 .byte 12 (f0_g89 j0 i1 j2) := V9
  have N9 := Fr.snoc X9 N8 g_b1
  obtain ⟨Lh9, X9, N9⟩ := hide X9 N9 (C := 1) (S := 12) (by decide) (by decide)
  refine Outs.of st9 ?_
  show Outs p e below s _ _ _ (T9.setTop (mkF m 90 #[.val (.long j0), .second, .val (.int i1), .val (.long j2), .second, .val (.int (i1 &&& (3 : Int32))), .val (.ref b1), .unset, .unset] []))
  refine Outs.of (U' := T9.setTop (mkF m 101 #[.val (.long j0), .second, .val (.int i1), .val (.long j2), .second, .val (.int (i1 &&& (3 : Int32))), .val (.ref b1), .unset, .unset] [(.int (((j2 ^^^ (-1 : Int64)).toInt32).toInt8.toInt32)), (.int (8 : Int32)), (.ref b1)])) (fun t k => ?_) ?_
  · refine XS.aload X9.here hx rfl (hb hby at_90) rfl rfl ?_
    show Steps p.tables e below (T9.setTop (mkF m 92 #[.val (.long j0), .second, .val (.int i1), .val (.long j2), .second, .val (.int (i1 &&& (3 : Int32))), .val (.ref b1), .unset, .unset] [(.ref b1)])) _
    refine XS.bipush X9.here hx rfl (hb hby at_92) ?_
    show Steps p.tables e below (T9.setTop (mkF m 94 #[.val (.long j0), .second, .val (.int i1), .val (.long j2), .second, .val (.int (i1 &&& (3 : Int32))), .val (.ref b1), .unset, .unset] [(.int (8 : Int32)), (.ref b1)])) _
    refine XS.lloadN X9.here hx rfl (hb hby at_94) rfl ?_
    show Steps p.tables e below (T9.setTop (mkF m 95 #[.val (.long j0), .second, .val (.int i1), .val (.long j2), .second, .val (.int (i1 &&& (3 : Int32))), .val (.ref b1), .unset, .unset] [(.long j2), (.int (8 : Int32)), (.ref b1)])) _
    refine X9.ldc2Long hx hown (mvT hZ (hw _ (List.mem_of_getElem? (i := 1) rfl))) (g := (mkF m 95 #[.val (.long j0), .second, .val (.int i1), .val (.long j2), .second, .val (.int (i1 &&& (3 : Int32))), .val (.ref b1), .unset, .unset] [(.long j2), (.int (8 : Int32)), (.ref b1)])) rfl (hb hby at_95) _ ?_
    show Steps p.tables e below (T9.setTop (mkF m 98 #[.val (.long j0), .second, .val (.int i1), .val (.long j2), .second, .val (.int (i1 &&& (3 : Int32))), .val (.ref b1), .unset, .unset] [(.long (-1 : Int64)), (.long j2), (.int (8 : Int32)), (.ref b1)])) _
    refine XS.lxor X9.here hx rfl (hb hby at_98) rfl ?_
    show Steps p.tables e below (T9.setTop (mkF m 99 #[.val (.long j0), .second, .val (.int i1), .val (.long j2), .second, .val (.int (i1 &&& (3 : Int32))), .val (.ref b1), .unset, .unset] [(.long (j2 ^^^ (-1 : Int64))), (.int (8 : Int32)), (.ref b1)])) _
    refine XS.l2i X9.here hx rfl (hb hby at_99) rfl ?_
    show Steps p.tables e below (T9.setTop (mkF m 100 #[.val (.long j0), .second, .val (.int i1), .val (.long j2), .second, .val (.int (i1 &&& (3 : Int32))), .val (.ref b1), .unset, .unset] [(.int ((j2 ^^^ (-1 : Int64)).toInt32)), (.int (8 : Int32)), (.ref b1)])) _
    refine XS.i2b X9.here hx rfl (hb hby at_100) rfl ?_
    show Steps p.tables e below (T9.setTop (mkF m 101 #[.val (.long j0), .second, .val (.int i1), .val (.long j2), .second, .val (.int (i1 &&& (3 : Int32))), .val (.ref b1), .unset, .unset] [(.int (((j2 ^^^ (-1 : Int64)).toInt32).toInt8.toInt32)), (.int (8 : Int32)), (.ref b1)])) _
    exact k
  obtain ⟨T10, h10, X10, e10, W10, V10, st10⟩ := puB X9 hx hZ e9 V9 (j := (8 : Int32)) (x := (((j2 ^^^ (-1 : Int64)).toInt32).toInt8.toInt32)) (k := 8) rfl (by decide) (f := (mkF m 101 #[.val (.long j0), .second, .val (.int i1), .val (.long j2), .second, .val (.int (i1 &&& (3 : Int32))), .val (.ref b1), .unset, .unset] [(.int (((j2 ^^^ (-1 : Int64)).toInt32).toInt8.toInt32)), (.int (8 : Int32)), (.ref b1)])) rfl rfl (hb hby at_101)
  replace V10 : AI Z h10 b1 .byte 12 (f0_g101 j0 i1 j2) := V10
  have N10 := Fr.snoc X10 N9 g_b1
  obtain ⟨Lh10, X10, N10⟩ := hide X10 N10 (C := 1) (S := 12) (by decide) (by decide)
  refine Outs.of st10 ?_
  show Outs p e below s _ _ _ (T10.setTop (mkF m 102 #[.val (.long j0), .second, .val (.int i1), .val (.long j2), .second, .val (.int (i1 &&& (3 : Int32))), .val (.ref b1), .unset, .unset] []))
  refine Outs.of (U' := T10.setTop (mkF m 116 #[.val (.long j0), .second, .val (.int i1), .val (.long j2), .second, .val (.int (i1 &&& (3 : Int32))), .val (.ref b1), .unset, .unset] [(.int (((((j2 ^^^ (-1 : Int64)).toUInt64 >>> ((8 : Int32) &&& 0x3f).toInt64.toUInt64).toInt64).toInt32).toInt8.toInt32)), (.int (9 : Int32)), (.ref b1)])) (fun t k => ?_) ?_
  · refine XS.aload X10.here hx rfl (hb hby at_102) rfl rfl ?_
    show Steps p.tables e below (T10.setTop (mkF m 104 #[.val (.long j0), .second, .val (.int i1), .val (.long j2), .second, .val (.int (i1 &&& (3 : Int32))), .val (.ref b1), .unset, .unset] [(.ref b1)])) _
    refine XS.bipush X10.here hx rfl (hb hby at_104) ?_
    show Steps p.tables e below (T10.setTop (mkF m 106 #[.val (.long j0), .second, .val (.int i1), .val (.long j2), .second, .val (.int (i1 &&& (3 : Int32))), .val (.ref b1), .unset, .unset] [(.int (9 : Int32)), (.ref b1)])) _
    refine XS.lloadN X10.here hx rfl (hb hby at_106) rfl ?_
    show Steps p.tables e below (T10.setTop (mkF m 107 #[.val (.long j0), .second, .val (.int i1), .val (.long j2), .second, .val (.int (i1 &&& (3 : Int32))), .val (.ref b1), .unset, .unset] [(.long j2), (.int (9 : Int32)), (.ref b1)])) _
    refine X10.ldc2Long hx hown (mvT hZ (hw _ (List.mem_of_getElem? (i := 1) rfl))) (g := (mkF m 107 #[.val (.long j0), .second, .val (.int i1), .val (.long j2), .second, .val (.int (i1 &&& (3 : Int32))), .val (.ref b1), .unset, .unset] [(.long j2), (.int (9 : Int32)), (.ref b1)])) rfl (hb hby at_107) _ ?_
    show Steps p.tables e below (T10.setTop (mkF m 110 #[.val (.long j0), .second, .val (.int i1), .val (.long j2), .second, .val (.int (i1 &&& (3 : Int32))), .val (.ref b1), .unset, .unset] [(.long (-1 : Int64)), (.long j2), (.int (9 : Int32)), (.ref b1)])) _
    refine XS.lxor X10.here hx rfl (hb hby at_110) rfl ?_
    show Steps p.tables e below (T10.setTop (mkF m 111 #[.val (.long j0), .second, .val (.int i1), .val (.long j2), .second, .val (.int (i1 &&& (3 : Int32))), .val (.ref b1), .unset, .unset] [(.long (j2 ^^^ (-1 : Int64))), (.int (9 : Int32)), (.ref b1)])) _
    refine XS.bipush X10.here hx rfl (hb hby at_111) ?_
    show Steps p.tables e below (T10.setTop (mkF m 113 #[.val (.long j0), .second, .val (.int i1), .val (.long j2), .second, .val (.int (i1 &&& (3 : Int32))), .val (.ref b1), .unset, .unset] [(.int (8 : Int32)), (.long (j2 ^^^ (-1 : Int64))), (.int (9 : Int32)), (.ref b1)])) _
    refine XS.lushr X10.here hx rfl (hb hby at_113) rfl ?_
    show Steps p.tables e below (T10.setTop (mkF m 114 #[.val (.long j0), .second, .val (.int i1), .val (.long j2), .second, .val (.int (i1 &&& (3 : Int32))), .val (.ref b1), .unset, .unset] [(.long (((j2 ^^^ (-1 : Int64)).toUInt64 >>> ((8 : Int32) &&& 0x3f).toInt64.toUInt64).toInt64)), (.int (9 : Int32)), (.ref b1)])) _
    refine XS.l2i X10.here hx rfl (hb hby at_114) rfl ?_
    show Steps p.tables e below (T10.setTop (mkF m 115 #[.val (.long j0), .second, .val (.int i1), .val (.long j2), .second, .val (.int (i1 &&& (3 : Int32))), .val (.ref b1), .unset, .unset] [(.int ((((j2 ^^^ (-1 : Int64)).toUInt64 >>> ((8 : Int32) &&& 0x3f).toInt64.toUInt64).toInt64).toInt32)), (.int (9 : Int32)), (.ref b1)])) _
    refine XS.i2b X10.here hx rfl (hb hby at_115) rfl ?_
    show Steps p.tables e below (T10.setTop (mkF m 116 #[.val (.long j0), .second, .val (.int i1), .val (.long j2), .second, .val (.int (i1 &&& (3 : Int32))), .val (.ref b1), .unset, .unset] [(.int (((((j2 ^^^ (-1 : Int64)).toUInt64 >>> ((8 : Int32) &&& 0x3f).toInt64.toUInt64).toInt64).toInt32).toInt8.toInt32)), (.int (9 : Int32)), (.ref b1)])) _
    exact k
  obtain ⟨T11, h11, X11, e11, W11, V11, st11⟩ := puB X10 hx hZ e10 V10 (j := (9 : Int32)) (x := (((((j2 ^^^ (-1 : Int64)).toUInt64 >>> ((8 : Int32) &&& 0x3f).toInt64.toUInt64).toInt64).toInt32).toInt8.toInt32)) (k := 9) rfl (by decide) (f := (mkF m 116 #[.val (.long j0), .second, .val (.int i1), .val (.long j2), .second, .val (.int (i1 &&& (3 : Int32))), .val (.ref b1), .unset, .unset] [(.int (((((j2 ^^^ (-1 : Int64)).toUInt64 >>> ((8 : Int32) &&& 0x3f).toInt64.toUInt64).toInt64).toInt32).toInt8.toInt32)), (.int (9 : Int32)), (.ref b1)])) rfl rfl (hb hby at_116)
  replace V11 : AI Z h11 b1 .byte 12 (f0_g116 j0 i1 j2) := V11
  have N11 := Fr.snoc X11 N10 g_b1
  obtain ⟨Lh11, X11, N11⟩ := hide X11 N11 (C := 1) (S := 12) (by decide) (by decide)
  refine Outs.of st11 ?_
  show Outs p e below s _ _ _ (T11.setTop (mkF m 117 #[.val (.long j0), .second, .val (.int i1), .val (.long j2), .second, .val (.int (i1 &&& (3 : Int32))), .val (.ref b1), .unset, .unset] []))
  refine Outs.of (U' := T11.setTop (mkF m 131 #[.val (.long j0), .second, .val (.int i1), .val (.long j2), .second, .val (.int (i1 &&& (3 : Int32))), .val (.ref b1), .unset, .unset] [(.int (((((j2 ^^^ (-1 : Int64)).toUInt64 >>> ((16 : Int32) &&& 0x3f).toInt64.toUInt64).toInt64).toInt32).toInt8.toInt32)), (.int (10 : Int32)), (.ref b1)])) (fun t k => ?_) ?_
  · refine XS.aload X11.here hx rfl (hb hby at_117) rfl rfl ?_
    show Steps p.tables e below (T11.setTop (mkF m 119 #[.val (.long j0), .second, .val (.int i1), .val (.long j2), .second, .val (.int (i1 &&& (3 : Int32))), .val (.ref b1), .unset, .unset] [(.ref b1)])) _
    refine XS.bipush X11.here hx rfl (hb hby at_119) ?_
    show Steps p.tables e below (T11.setTop (mkF m 121 #[.val (.long j0), .second, .val (.int i1), .val (.long j2), .second, .val (.int (i1 &&& (3 : Int32))), .val (.ref b1), .unset, .unset] [(.int (10 : Int32)), (.ref b1)])) _
    refine XS.lloadN X11.here hx rfl (hb hby at_121) rfl ?_
    show Steps p.tables e below (T11.setTop (mkF m 122 #[.val (.long j0), .second, .val (.int i1), .val (.long j2), .second, .val (.int (i1 &&& (3 : Int32))), .val (.ref b1), .unset, .unset] [(.long j2), (.int (10 : Int32)), (.ref b1)])) _
    refine X11.ldc2Long hx hown (mvT hZ (hw _ (List.mem_of_getElem? (i := 1) rfl))) (g := (mkF m 122 #[.val (.long j0), .second, .val (.int i1), .val (.long j2), .second, .val (.int (i1 &&& (3 : Int32))), .val (.ref b1), .unset, .unset] [(.long j2), (.int (10 : Int32)), (.ref b1)])) rfl (hb hby at_122) _ ?_
    show Steps p.tables e below (T11.setTop (mkF m 125 #[.val (.long j0), .second, .val (.int i1), .val (.long j2), .second, .val (.int (i1 &&& (3 : Int32))), .val (.ref b1), .unset, .unset] [(.long (-1 : Int64)), (.long j2), (.int (10 : Int32)), (.ref b1)])) _
    refine XS.lxor X11.here hx rfl (hb hby at_125) rfl ?_
    show Steps p.tables e below (T11.setTop (mkF m 126 #[.val (.long j0), .second, .val (.int i1), .val (.long j2), .second, .val (.int (i1 &&& (3 : Int32))), .val (.ref b1), .unset, .unset] [(.long (j2 ^^^ (-1 : Int64))), (.int (10 : Int32)), (.ref b1)])) _
    refine XS.bipush X11.here hx rfl (hb hby at_126) ?_
    show Steps p.tables e below (T11.setTop (mkF m 128 #[.val (.long j0), .second, .val (.int i1), .val (.long j2), .second, .val (.int (i1 &&& (3 : Int32))), .val (.ref b1), .unset, .unset] [(.int (16 : Int32)), (.long (j2 ^^^ (-1 : Int64))), (.int (10 : Int32)), (.ref b1)])) _
    refine XS.lushr X11.here hx rfl (hb hby at_128) rfl ?_
    show Steps p.tables e below (T11.setTop (mkF m 129 #[.val (.long j0), .second, .val (.int i1), .val (.long j2), .second, .val (.int (i1 &&& (3 : Int32))), .val (.ref b1), .unset, .unset] [(.long (((j2 ^^^ (-1 : Int64)).toUInt64 >>> ((16 : Int32) &&& 0x3f).toInt64.toUInt64).toInt64)), (.int (10 : Int32)), (.ref b1)])) _
    refine XS.l2i X11.here hx rfl (hb hby at_129) rfl ?_
    show Steps p.tables e below (T11.setTop (mkF m 130 #[.val (.long j0), .second, .val (.int i1), .val (.long j2), .second, .val (.int (i1 &&& (3 : Int32))), .val (.ref b1), .unset, .unset] [(.int ((((j2 ^^^ (-1 : Int64)).toUInt64 >>> ((16 : Int32) &&& 0x3f).toInt64.toUInt64).toInt64).toInt32)), (.int (10 : Int32)), (.ref b1)])) _
    refine XS.i2b X11.here hx rfl (hb hby at_130) rfl ?_
    show Steps p.tables e below (T11.setTop (mkF m 131 #[.val (.long j0), .second, .val (.int i1), .val (.long j2), .second, .val (.int (i1 &&& (3 : Int32))), .val (.ref b1), .unset, .unset] [(.int (((((j2 ^^^ (-1 : Int64)).toUInt64 >>> ((16 : Int32) &&& 0x3f).toInt64.toUInt64).toInt64).toInt32).toInt8.toInt32)), (.int (10 : Int32)), (.ref b1)])) _
    exact k
  obtain ⟨T12, h12, X12, e12, W12, V12, st12⟩ := puB X11 hx hZ e11 V11 (j := (10 : Int32)) (x := (((((j2 ^^^ (-1 : Int64)).toUInt64 >>> ((16 : Int32) &&& 0x3f).toInt64.toUInt64).toInt64).toInt32).toInt8.toInt32)) (k := 10) rfl (by decide) (f := (mkF m 131 #[.val (.long j0), .second, .val (.int i1), .val (.long j2), .second, .val (.int (i1 &&& (3 : Int32))), .val (.ref b1), .unset, .unset] [(.int (((((j2 ^^^ (-1 : Int64)).toUInt64 >>> ((16 : Int32) &&& 0x3f).toInt64.toUInt64).toInt64).toInt32).toInt8.toInt32)), (.int (10 : Int32)), (.ref b1)])) rfl rfl (hb hby at_131)
  replace V12 : AI Z h12 b1 .byte 12 (f0_g131 j0 i1 j2) := V12
  have N12 := Fr.snoc X12 N11 g_b1
  obtain ⟨Lh12, X12, N12⟩ := hide X12 N12 (C := 1) (S := 12) (by decide) (by decide)
  refine Outs.of st12 ?_
  show Outs p e below s _ _ _ (T12.setTop (mkF m 132 #[.val (.long j0), .second, .val (.int i1), .val (.long j2), .second, .val (.int (i1 &&& (3 : Int32))), .val (.ref b1), .unset, .unset] []))
  refine Outs.of (U' := T12.setTop (mkF m 146 #[.val (.long j0), .second, .val (.int i1), .val (.long j2), .second, .val (.int (i1 &&& (3 : Int32))), .val (.ref b1), .unset, .unset] [(.int (((((j2 ^^^ (-1 : Int64)).toUInt64 >>> ((24 : Int32) &&& 0x3f).toInt64.toUInt64).toInt64).toInt32).toInt8.toInt32)), (.int (11 : Int32)), (.ref b1)])) (fun t k => ?_) ?_
  · refine XS.aload X12.here hx rfl (hb hby at_132) rfl rfl ?_
    show Steps p.tables e below (T12.setTop (mkF m 134 #[.val (.long j0), .second, .val (.int i1), .val (.long j2), .second, .val (.int (i1 &&& (3 : Int32))), .val (.ref b1), .unset, .unset] [(.ref b1)])) _
    refine XS.bipush X12.here hx rfl (hb hby at_134) ?_
    show Steps p.tables e below (T12.setTop (mkF m 136 #[.val (.long j0), .second, .val (.int i1), .val (.long j2), .second, .val (.int (i1 &&& (3 : Int32))), .val (.ref b1), .unset, .unset] [(.int (11 : Int32)), (.ref b1)])) _
    refine XS.lloadN X12.here hx rfl (hb hby at_136) rfl ?_
    show Steps p.tables e below (T12.setTop (mkF m 137 #[.val (.long j0), .second, .val (.int i1), .val (.long j2), .second, .val (.int (i1 &&& (3 : Int32))), .val (.ref b1), .unset, .unset] [(.long j2), (.int (11 : Int32)), (.ref b1)])) _
    refine X12.ldc2Long hx hown (mvT hZ (hw _ (List.mem_of_getElem? (i := 1) rfl))) (g := (mkF m 137 #[.val (.long j0), .second, .val (.int i1), .val (.long j2), .second, .val (.int (i1 &&& (3 : Int32))), .val (.ref b1), .unset, .unset] [(.long j2), (.int (11 : Int32)), (.ref b1)])) rfl (hb hby at_137) _ ?_
    show Steps p.tables e below (T12.setTop (mkF m 140 #[.val (.long j0), .second, .val (.int i1), .val (.long j2), .second, .val (.int (i1 &&& (3 : Int32))), .val (.ref b1), .unset, .unset] [(.long (-1 : Int64)), (.long j2), (.int (11 : Int32)), (.ref b1)])) _
    refine XS.lxor X12.here hx rfl (hb hby at_140) rfl ?_
    show Steps p.tables e below (T12.setTop (mkF m 141 #[.val (.long j0), .second, .val (.int i1), .val (.long j2), .second, .val (.int (i1 &&& (3 : Int32))), .val (.ref b1), .unset, .unset] [(.long (j2 ^^^ (-1 : Int64))), (.int (11 : Int32)), (.ref b1)])) _
    refine XS.bipush X12.here hx rfl (hb hby at_141) ?_
    show Steps p.tables e below (T12.setTop (mkF m 143 #[.val (.long j0), .second, .val (.int i1), .val (.long j2), .second, .val (.int (i1 &&& (3 : Int32))), .val (.ref b1), .unset, .unset] [(.int (24 : Int32)), (.long (j2 ^^^ (-1 : Int64))), (.int (11 : Int32)), (.ref b1)])) _
    refine XS.lushr X12.here hx rfl (hb hby at_143) rfl ?_
    show Steps p.tables e below (T12.setTop (mkF m 144 #[.val (.long j0), .second, .val (.int i1), .val (.long j2), .second, .val (.int (i1 &&& (3 : Int32))), .val (.ref b1), .unset, .unset] [(.long (((j2 ^^^ (-1 : Int64)).toUInt64 >>> ((24 : Int32) &&& 0x3f).toInt64.toUInt64).toInt64)), (.int (11 : Int32)), (.ref b1)])) _
    refine XS.l2i X12.here hx rfl (hb hby at_144) rfl ?_
    show Steps p.tables e below (T12.setTop (mkF m 145 #[.val (.long j0), .second, .val (.int i1), .val (.long j2), .second, .val (.int (i1 &&& (3 : Int32))), .val (.ref b1), .unset, .unset] [(.int ((((j2 ^^^ (-1 : Int64)).toUInt64 >>> ((24 : Int32) &&& 0x3f).toInt64.toUInt64).toInt64).toInt32)), (.int (11 : Int32)), (.ref b1)])) _
    refine XS.i2b X12.here hx rfl (hb hby at_145) rfl ?_
    show Steps p.tables e below (T12.setTop (mkF m 146 #[.val (.long j0), .second, .val (.int i1), .val (.long j2), .second, .val (.int (i1 &&& (3 : Int32))), .val (.ref b1), .unset, .unset] [(.int (((((j2 ^^^ (-1 : Int64)).toUInt64 >>> ((24 : Int32) &&& 0x3f).toInt64.toUInt64).toInt64).toInt32).toInt8.toInt32)), (.int (11 : Int32)), (.ref b1)])) _
    exact k
  obtain ⟨T13, h13, X13, e13, W13, V13, st13⟩ := puB X12 hx hZ e12 V12 (j := (11 : Int32)) (x := (((((j2 ^^^ (-1 : Int64)).toUInt64 >>> ((24 : Int32) &&& 0x3f).toInt64.toUInt64).toInt64).toInt32).toInt8.toInt32)) (k := 11) rfl (by decide) (f := (mkF m 146 #[.val (.long j0), .second, .val (.int i1), .val (.long j2), .second, .val (.int (i1 &&& (3 : Int32))), .val (.ref b1), .unset, .unset] [(.int (((((j2 ^^^ (-1 : Int64)).toUInt64 >>> ((24 : Int32) &&& 0x3f).toInt64.toUInt64).toInt64).toInt32).toInt8.toInt32)), (.int (11 : Int32)), (.ref b1)])) rfl rfl (hb hby at_146)
  replace V13 : AI Z h13 b1 .byte 12 (f0_g146 j0 i1 j2) := V13
  have N13 := Fr.snoc X13 N12 g_b1
  obtain ⟨Lh13, X13, N13⟩ := hide X13 N13 (C := 1) (S := 12) (by decide) (by decide)
  refine Outs.of st13 ?_
  show Outs p e below s _ _ _ (T13.setTop (mkF m 147 #[.val (.long j0), .second, .val (.int i1), .val (.long j2), .second, .val (.int (i1 &&& (3 : Int32))), .val (.ref b1), .unset, .unset] []))
  refine Outs.of (U' := T13.setTop (mkF m 157 #[.val (.long j0), .second, .val (.int i1), .val (.long j2), .second, .val (.int (i1 &&& (3 : Int32))), .val (.ref b1), .unset, .unset] [(.int ((((j0.toUInt64 >>> ((56 : Int32) &&& 0x3f).toInt64.toUInt64).toInt64).toInt32).toInt8.toInt32)), (.int (i1 &&& (3 : Int32))), (.ref b1)])) (fun t k => ?_) ?_
  · refine XS.aload X13.here hx rfl (hb hby at_147) rfl rfl ?_
    show Steps p.tables e below (T13.setTop (mkF m 149 #[.val (.long j0), .second, .val (.int i1), .val (.long j2), .second, .val (.int (i1 &&& (3 : Int32))), .val (.ref b1), .unset, .unset] [(.ref b1)])) _
    refine XS.iload X13.here hx rfl (hb hby at_149) rfl ?_
    show Steps p.tables e below (T13.setTop (mkF m 151 #[.val (.long j0), .second, .val (.int i1), .val (.long j2), .second, .val (.int (i1 &&& (3 : Int32))), .val (.ref b1), .unset, .unset] [(.int (i1 &&& (3 : Int32))), (.ref b1)])) _
    refine XS.lloadN X13.here hx rfl (hb hby at_151) rfl ?_
    show Steps p.tables e below (T13.setTop (mkF m 152 #[.val (.long j0), .second, .val (.int i1), .val (.long j2), .second, .val (.int (i1 &&& (3 : Int32))), .val (.ref b1), .unset, .unset] [(.long j0), (.int (i1 &&& (3 : Int32))), (.ref b1)])) _
    refine XS.bipush X13.here hx rfl (hb hby at_152) ?_
    show Steps p.tables e below (T13.setTop (mkF m 154 #[.val (.long j0), .second, .val (.int i1), .val (.long j2), .second, .val (.int (i1 &&& (3 : Int32))), .val (.ref b1), .unset, .unset] [(.int (56 : Int32)), (.long j0), (.int (i1 &&& (3 : Int32))), (.ref b1)])) _
    refine XS.lushr X13.here hx rfl (hb hby at_154) rfl ?_
    show Steps p.tables e below (T13.setTop (mkF m 155 #[.val (.long j0), .second, .val (.int i1), .val (.long j2), .second, .val (.int (i1 &&& (3 : Int32))), .val (.ref b1), .unset, .unset] [(.long ((j0.toUInt64 >>> ((56 : Int32) &&& 0x3f).toInt64.toUInt64).toInt64)), (.int (i1 &&& (3 : Int32))), (.ref b1)])) _
    refine XS.l2i X13.here hx rfl (hb hby at_155) rfl ?_
    show Steps p.tables e below (T13.setTop (mkF m 156 #[.val (.long j0), .second, .val (.int i1), .val (.long j2), .second, .val (.int (i1 &&& (3 : Int32))), .val (.ref b1), .unset, .unset] [(.int (((j0.toUInt64 >>> ((56 : Int32) &&& 0x3f).toInt64.toUInt64).toInt64).toInt32)), (.int (i1 &&& (3 : Int32))), (.ref b1)])) _
    refine XS.i2b X13.here hx rfl (hb hby at_156) rfl ?_
    show Steps p.tables e below (T13.setTop (mkF m 157 #[.val (.long j0), .second, .val (.int i1), .val (.long j2), .second, .val (.int (i1 &&& (3 : Int32))), .val (.ref b1), .unset, .unset] [(.int ((((j0.toUInt64 >>> ((56 : Int32) &&& 0x3f).toInt64.toUInt64).toInt64).toInt32).toInt8.toInt32)), (.int (i1 &&& (3 : Int32))), (.ref b1)])) _
    exact k
  obtain ⟨T14, h14, X14, e14, W14, V14, st14⟩ := puB X13 hx hZ e13 V13 (j := (i1 &&& (3 : Int32))) (x := ((((j0.toUInt64 >>> ((56 : Int32) &&& 0x3f).toInt64.toUInt64).toInt64).toInt32).toInt8.toInt32)) (k := (own_at i1)) (own_atk i1) (own_atb i1 0 (by decide)) (f := (mkF m 157 #[.val (.long j0), .second, .val (.int i1), .val (.long j2), .second, .val (.int (i1 &&& (3 : Int32))), .val (.ref b1), .unset, .unset] [(.int ((((j0.toUInt64 >>> ((56 : Int32) &&& 0x3f).toInt64.toUInt64).toInt64).toInt32).toInt8.toInt32)), (.int (i1 &&& (3 : Int32))), (.ref b1)])) rfl rfl (hb hby at_157)
  replace V14 : AI Z h14 b1 .byte 12 (f0_g157 j0 i1 j2) := V14
  have N14 := Fr.snoc X14 N13 g_b1
  obtain ⟨Lh14, X14, N14⟩ := hide X14 N14 (C := 1) (S := 12) (by decide) (by decide)
  refine Outs.of st14 ?_
  show Outs p e below s _ _ _ (T14.setTop (mkF m 158 #[.val (.long j0), .second, .val (.int i1), .val (.long j2), .second, .val (.int (i1 &&& (3 : Int32))), .val (.ref b1), .unset, .unset] []))
  refine Outs.of (U' := T14.setTop (mkF m 170 #[.val (.long j0), .second, .val (.int i1), .val (.long j2), .second, .val (.int (i1 &&& (3 : Int32))), .val (.ref b1), .unset, .unset] [(.int ((((j0.toUInt64 >>> ((48 : Int32) &&& 0x3f).toInt64.toUInt64).toInt64).toInt32).toInt8.toInt32)), (.int ((i1 &&& (3 : Int32)) + (1 : Int32))), (.ref b1)])) (fun t k => ?_) ?_
  · refine XS.aload X14.here hx rfl (hb hby at_158) rfl rfl ?_
    show Steps p.tables e below (T14.setTop (mkF m 160 #[.val (.long j0), .second, .val (.int i1), .val (.long j2), .second, .val (.int (i1 &&& (3 : Int32))), .val (.ref b1), .unset, .unset] [(.ref b1)])) _
    refine XS.iload X14.here hx rfl (hb hby at_160) rfl ?_
    show Steps p.tables e below (T14.setTop (mkF m 162 #[.val (.long j0), .second, .val (.int i1), .val (.long j2), .second, .val (.int (i1 &&& (3 : Int32))), .val (.ref b1), .unset, .unset] [(.int (i1 &&& (3 : Int32))), (.ref b1)])) _
    refine XS.iconst X14.here hx rfl (hb hby at_162) ?_
    show Steps p.tables e below (T14.setTop (mkF m 163 #[.val (.long j0), .second, .val (.int i1), .val (.long j2), .second, .val (.int (i1 &&& (3 : Int32))), .val (.ref b1), .unset, .unset] [(.int (1 : Int32)), (.int (i1 &&& (3 : Int32))), (.ref b1)])) _
    refine XS.iadd X14.here hx rfl (hb hby at_163) rfl ?_
    show Steps p.tables e below (T14.setTop (mkF m 164 #[.val (.long j0), .second, .val (.int i1), .val (.long j2), .second, .val (.int (i1 &&& (3 : Int32))), .val (.ref b1), .unset, .unset] [(.int ((i1 &&& (3 : Int32)) + (1 : Int32))), (.ref b1)])) _
    refine XS.lloadN X14.here hx rfl (hb hby at_164) rfl ?_
    show Steps p.tables e below (T14.setTop (mkF m 165 #[.val (.long j0), .second, .val (.int i1), .val (.long j2), .second, .val (.int (i1 &&& (3 : Int32))), .val (.ref b1), .unset, .unset] [(.long j0), (.int ((i1 &&& (3 : Int32)) + (1 : Int32))), (.ref b1)])) _
    refine XS.bipush X14.here hx rfl (hb hby at_165) ?_
    show Steps p.tables e below (T14.setTop (mkF m 167 #[.val (.long j0), .second, .val (.int i1), .val (.long j2), .second, .val (.int (i1 &&& (3 : Int32))), .val (.ref b1), .unset, .unset] [(.int (48 : Int32)), (.long j0), (.int ((i1 &&& (3 : Int32)) + (1 : Int32))), (.ref b1)])) _
    refine XS.lushr X14.here hx rfl (hb hby at_167) rfl ?_
    show Steps p.tables e below (T14.setTop (mkF m 168 #[.val (.long j0), .second, .val (.int i1), .val (.long j2), .second, .val (.int (i1 &&& (3 : Int32))), .val (.ref b1), .unset, .unset] [(.long ((j0.toUInt64 >>> ((48 : Int32) &&& 0x3f).toInt64.toUInt64).toInt64)), (.int ((i1 &&& (3 : Int32)) + (1 : Int32))), (.ref b1)])) _
    refine XS.l2i X14.here hx rfl (hb hby at_168) rfl ?_
    show Steps p.tables e below (T14.setTop (mkF m 169 #[.val (.long j0), .second, .val (.int i1), .val (.long j2), .second, .val (.int (i1 &&& (3 : Int32))), .val (.ref b1), .unset, .unset] [(.int (((j0.toUInt64 >>> ((48 : Int32) &&& 0x3f).toInt64.toUInt64).toInt64).toInt32)), (.int ((i1 &&& (3 : Int32)) + (1 : Int32))), (.ref b1)])) _
    refine XS.i2b X14.here hx rfl (hb hby at_169) rfl ?_
    show Steps p.tables e below (T14.setTop (mkF m 170 #[.val (.long j0), .second, .val (.int i1), .val (.long j2), .second, .val (.int (i1 &&& (3 : Int32))), .val (.ref b1), .unset, .unset] [(.int ((((j0.toUInt64 >>> ((48 : Int32) &&& 0x3f).toInt64.toUInt64).toInt64).toInt32).toInt8.toInt32)), (.int ((i1 &&& (3 : Int32)) + (1 : Int32))), (.ref b1)])) _
    exact k
  obtain ⟨T15, h15, X15, e15, W15, V15, st15⟩ := puB X14 hx hZ e14 V14 (j := ((i1 &&& (3 : Int32)) + (1 : Int32))) (x := ((((j0.toUInt64 >>> ((48 : Int32) &&& 0x3f).toInt64.toUInt64).toInt64).toInt32).toInt8.toInt32)) (k := (own_at i1 + 1)) (own_ixa (own_atk i1) rfl (own_atl i1 1 (by decide))) (own_atb i1 1 (by decide)) (f := (mkF m 170 #[.val (.long j0), .second, .val (.int i1), .val (.long j2), .second, .val (.int (i1 &&& (3 : Int32))), .val (.ref b1), .unset, .unset] [(.int ((((j0.toUInt64 >>> ((48 : Int32) &&& 0x3f).toInt64.toUInt64).toInt64).toInt32).toInt8.toInt32)), (.int ((i1 &&& (3 : Int32)) + (1 : Int32))), (.ref b1)])) rfl rfl (hb hby at_170)
  replace V15 : AI Z h15 b1 .byte 12 (f0_g170 j0 i1 j2) := V15
  have N15 := Fr.snoc X15 N14 g_b1
  obtain ⟨Lh15, X15, N15⟩ := hide X15 N15 (C := 1) (S := 12) (by decide) (by decide)
  refine Outs.of st15 ?_
  show Outs p e below s _ _ _ (T15.setTop (mkF m 171 #[.val (.long j0), .second, .val (.int i1), .val (.long j2), .second, .val (.int (i1 &&& (3 : Int32))), .val (.ref b1), .unset, .unset] []))
  refine Outs.of (U' := T15.setTop (mkF m 183 #[.val (.long j0), .second, .val (.int i1), .val (.long j2), .second, .val (.int (i1 &&& (3 : Int32))), .val (.ref b1), .unset, .unset] [(.int ((((j0.toUInt64 >>> ((40 : Int32) &&& 0x3f).toInt64.toUInt64).toInt64).toInt32).toInt8.toInt32)), (.int ((i1 &&& (3 : Int32)) + (2 : Int32))), (.ref b1)])) (fun t k => ?_) ?_
  · refine XS.aload X15.here hx rfl (hb hby at_171) rfl rfl ?_
    show Steps p.tables e below (T15.setTop (mkF m 173 #[.val (.long j0), .second, .val (.int i1), .val (.long j2), .second, .val (.int (i1 &&& (3 : Int32))), .val (.ref b1), .unset, .unset] [(.ref b1)])) _
    refine XS.iload X15.here hx rfl (hb hby at_173) rfl ?_
    show Steps p.tables e below (T15.setTop (mkF m 175 #[.val (.long j0), .second, .val (.int i1), .val (.long j2), .second, .val (.int (i1 &&& (3 : Int32))), .val (.ref b1), .unset, .unset] [(.int (i1 &&& (3 : Int32))), (.ref b1)])) _
    refine XS.iconst X15.here hx rfl (hb hby at_175) ?_
    show Steps p.tables e below (T15.setTop (mkF m 176 #[.val (.long j0), .second, .val (.int i1), .val (.long j2), .second, .val (.int (i1 &&& (3 : Int32))), .val (.ref b1), .unset, .unset] [(.int (2 : Int32)), (.int (i1 &&& (3 : Int32))), (.ref b1)])) _
    refine XS.iadd X15.here hx rfl (hb hby at_176) rfl ?_
    show Steps p.tables e below (T15.setTop (mkF m 177 #[.val (.long j0), .second, .val (.int i1), .val (.long j2), .second, .val (.int (i1 &&& (3 : Int32))), .val (.ref b1), .unset, .unset] [(.int ((i1 &&& (3 : Int32)) + (2 : Int32))), (.ref b1)])) _
    refine XS.lloadN X15.here hx rfl (hb hby at_177) rfl ?_
    show Steps p.tables e below (T15.setTop (mkF m 178 #[.val (.long j0), .second, .val (.int i1), .val (.long j2), .second, .val (.int (i1 &&& (3 : Int32))), .val (.ref b1), .unset, .unset] [(.long j0), (.int ((i1 &&& (3 : Int32)) + (2 : Int32))), (.ref b1)])) _
    refine XS.bipush X15.here hx rfl (hb hby at_178) ?_
    show Steps p.tables e below (T15.setTop (mkF m 180 #[.val (.long j0), .second, .val (.int i1), .val (.long j2), .second, .val (.int (i1 &&& (3 : Int32))), .val (.ref b1), .unset, .unset] [(.int (40 : Int32)), (.long j0), (.int ((i1 &&& (3 : Int32)) + (2 : Int32))), (.ref b1)])) _
    refine XS.lushr X15.here hx rfl (hb hby at_180) rfl ?_
    show Steps p.tables e below (T15.setTop (mkF m 181 #[.val (.long j0), .second, .val (.int i1), .val (.long j2), .second, .val (.int (i1 &&& (3 : Int32))), .val (.ref b1), .unset, .unset] [(.long ((j0.toUInt64 >>> ((40 : Int32) &&& 0x3f).toInt64.toUInt64).toInt64)), (.int ((i1 &&& (3 : Int32)) + (2 : Int32))), (.ref b1)])) _
    refine XS.l2i X15.here hx rfl (hb hby at_181) rfl ?_
    show Steps p.tables e below (T15.setTop (mkF m 182 #[.val (.long j0), .second, .val (.int i1), .val (.long j2), .second, .val (.int (i1 &&& (3 : Int32))), .val (.ref b1), .unset, .unset] [(.int (((j0.toUInt64 >>> ((40 : Int32) &&& 0x3f).toInt64.toUInt64).toInt64).toInt32)), (.int ((i1 &&& (3 : Int32)) + (2 : Int32))), (.ref b1)])) _
    refine XS.i2b X15.here hx rfl (hb hby at_182) rfl ?_
    show Steps p.tables e below (T15.setTop (mkF m 183 #[.val (.long j0), .second, .val (.int i1), .val (.long j2), .second, .val (.int (i1 &&& (3 : Int32))), .val (.ref b1), .unset, .unset] [(.int ((((j0.toUInt64 >>> ((40 : Int32) &&& 0x3f).toInt64.toUInt64).toInt64).toInt32).toInt8.toInt32)), (.int ((i1 &&& (3 : Int32)) + (2 : Int32))), (.ref b1)])) _
    exact k
  obtain ⟨T16, h16, X16, e16, W16, V16, st16⟩ := puB X15 hx hZ e15 V15 (j := ((i1 &&& (3 : Int32)) + (2 : Int32))) (x := ((((j0.toUInt64 >>> ((40 : Int32) &&& 0x3f).toInt64.toUInt64).toInt64).toInt32).toInt8.toInt32)) (k := (own_at i1 + 2)) (own_ixa (own_atk i1) rfl (own_atl i1 2 (by decide))) (own_atb i1 2 (by decide)) (f := (mkF m 183 #[.val (.long j0), .second, .val (.int i1), .val (.long j2), .second, .val (.int (i1 &&& (3 : Int32))), .val (.ref b1), .unset, .unset] [(.int ((((j0.toUInt64 >>> ((40 : Int32) &&& 0x3f).toInt64.toUInt64).toInt64).toInt32).toInt8.toInt32)), (.int ((i1 &&& (3 : Int32)) + (2 : Int32))), (.ref b1)])) rfl rfl (hb hby at_183)
  replace V16 : AI Z h16 b1 .byte 12 (f0_g183 j0 i1 j2) := V16
  have N16 := Fr.snoc X16 N15 g_b1
  obtain ⟨Lh16, X16, N16⟩ := hide X16 N16 (C := 1) (S := 12) (by decide) (by decide)
  refine Outs.of st16 ?_
  show Outs p e below s _ _ _ (T16.setTop (mkF m 184 #[.val (.long j0), .second, .val (.int i1), .val (.long j2), .second, .val (.int (i1 &&& (3 : Int32))), .val (.ref b1), .unset, .unset] []))
  refine Outs.of (U' := T16.setTop (mkF m 196 #[.val (.long j0), .second, .val (.int i1), .val (.long j2), .second, .val (.int (i1 &&& (3 : Int32))), .val (.ref b1), .unset, .unset] [(.int ((((j0.toUInt64 >>> ((32 : Int32) &&& 0x3f).toInt64.toUInt64).toInt64).toInt32).toInt8.toInt32)), (.int ((i1 &&& (3 : Int32)) + (3 : Int32))), (.ref b1)])) (fun t k => ?_) ?_
  · refine XS.aload X16.here hx rfl (hb hby at_184) rfl rfl ?_
    show Steps p.tables e below (T16.setTop (mkF m 186 #[.val (.long j0), .second, .val (.int i1), .val (.long j2), .second, .val (.int (i1 &&& (3 : Int32))), .val (.ref b1), .unset, .unset] [(.ref b1)])) _
    refine XS.iload X16.here hx rfl (hb hby at_186) rfl ?_
    show Steps p.tables e below (T16.setTop (mkF m 188 #[.val (.long j0), .second, .val (.int i1), .val (.long j2), .second, .val (.int (i1 &&& (3 : Int32))), .val (.ref b1), .unset, .unset] [(.int (i1 &&& (3 : Int32))), (.ref b1)])) _
    refine XS.iconst X16.here hx rfl (hb hby at_188) ?_
    show Steps p.tables e below (T16.setTop (mkF m 189 #[.val (.long j0), .second, .val (.int i1), .val (.long j2), .second, .val (.int (i1 &&& (3 : Int32))), .val (.ref b1), .unset, .unset] [(.int (3 : Int32)), (.int (i1 &&& (3 : Int32))), (.ref b1)])) _
    refine XS.iadd X16.here hx rfl (hb hby at_189) rfl ?_
    show Steps p.tables e below (T16.setTop (mkF m 190 #[.val (.long j0), .second, .val (.int i1), .val (.long j2), .second, .val (.int (i1 &&& (3 : Int32))), .val (.ref b1), .unset, .unset] [(.int ((i1 &&& (3 : Int32)) + (3 : Int32))), (.ref b1)])) _
    refine XS.lloadN X16.here hx rfl (hb hby at_190) rfl ?_
    show Steps p.tables e below (T16.setTop (mkF m 191 #[.val (.long j0), .second, .val (.int i1), .val (.long j2), .second, .val (.int (i1 &&& (3 : Int32))), .val (.ref b1), .unset, .unset] [(.long j0), (.int ((i1 &&& (3 : Int32)) + (3 : Int32))), (.ref b1)])) _
    refine XS.bipush X16.here hx rfl (hb hby at_191) ?_
    show Steps p.tables e below (T16.setTop (mkF m 193 #[.val (.long j0), .second, .val (.int i1), .val (.long j2), .second, .val (.int (i1 &&& (3 : Int32))), .val (.ref b1), .unset, .unset] [(.int (32 : Int32)), (.long j0), (.int ((i1 &&& (3 : Int32)) + (3 : Int32))), (.ref b1)])) _
    refine XS.lushr X16.here hx rfl (hb hby at_193) rfl ?_
    show Steps p.tables e below (T16.setTop (mkF m 194 #[.val (.long j0), .second, .val (.int i1), .val (.long j2), .second, .val (.int (i1 &&& (3 : Int32))), .val (.ref b1), .unset, .unset] [(.long ((j0.toUInt64 >>> ((32 : Int32) &&& 0x3f).toInt64.toUInt64).toInt64)), (.int ((i1 &&& (3 : Int32)) + (3 : Int32))), (.ref b1)])) _
    refine XS.l2i X16.here hx rfl (hb hby at_194) rfl ?_
    show Steps p.tables e below (T16.setTop (mkF m 195 #[.val (.long j0), .second, .val (.int i1), .val (.long j2), .second, .val (.int (i1 &&& (3 : Int32))), .val (.ref b1), .unset, .unset] [(.int (((j0.toUInt64 >>> ((32 : Int32) &&& 0x3f).toInt64.toUInt64).toInt64).toInt32)), (.int ((i1 &&& (3 : Int32)) + (3 : Int32))), (.ref b1)])) _
    refine XS.i2b X16.here hx rfl (hb hby at_195) rfl ?_
    show Steps p.tables e below (T16.setTop (mkF m 196 #[.val (.long j0), .second, .val (.int i1), .val (.long j2), .second, .val (.int (i1 &&& (3 : Int32))), .val (.ref b1), .unset, .unset] [(.int ((((j0.toUInt64 >>> ((32 : Int32) &&& 0x3f).toInt64.toUInt64).toInt64).toInt32).toInt8.toInt32)), (.int ((i1 &&& (3 : Int32)) + (3 : Int32))), (.ref b1)])) _
    exact k
  obtain ⟨T17, h17, X17, e17, W17, V17, st17⟩ := puB X16 hx hZ e16 V16 (j := ((i1 &&& (3 : Int32)) + (3 : Int32))) (x := ((((j0.toUInt64 >>> ((32 : Int32) &&& 0x3f).toInt64.toUInt64).toInt64).toInt32).toInt8.toInt32)) (k := (own_at i1 + 3)) (own_ixa (own_atk i1) rfl (own_atl i1 3 (by decide))) (own_atb i1 3 (by decide)) (f := (mkF m 196 #[.val (.long j0), .second, .val (.int i1), .val (.long j2), .second, .val (.int (i1 &&& (3 : Int32))), .val (.ref b1), .unset, .unset] [(.int ((((j0.toUInt64 >>> ((32 : Int32) &&& 0x3f).toInt64.toUInt64).toInt64).toInt32).toInt8.toInt32)), (.int ((i1 &&& (3 : Int32)) + (3 : Int32))), (.ref b1)])) rfl rfl (hb hby at_196)
  replace V17 : AI Z h17 b1 .byte 12 (f0_g196 j0 i1 j2) := V17
  have N17 := Fr.snoc X17 N16 g_b1
  obtain ⟨Lh17, X17, N17⟩ := hide X17 N17 (C := 1) (S := 12) (by decide) (by decide)
  refine Outs.of st17 ?_
  show Outs p e below s _ _ _ (T17.setTop (mkF m 197 #[.val (.long j0), .second, .val (.int i1), .val (.long j2), .second, .val (.int (i1 &&& (3 : Int32))), .val (.ref b1), .unset, .unset] []))
  refine Outs.of (U' := T17.setTop (mkF m 209 #[.val (.long j0), .second, .val (.int i1), .val (.long j2), .second, .val (.int (i1 &&& (3 : Int32))), .val (.ref b1), .unset, .unset] [(.int ((((j0.toUInt64 >>> ((24 : Int32) &&& 0x3f).toInt64.toUInt64).toInt64).toInt32).toInt8.toInt32)), (.int ((i1 &&& (3 : Int32)) + (4 : Int32))), (.ref b1)])) (fun t k => ?_) ?_
  · refine XS.aload X17.here hx rfl (hb hby at_197) rfl rfl ?_
    show Steps p.tables e below (T17.setTop (mkF m 199 #[.val (.long j0), .second, .val (.int i1), .val (.long j2), .second, .val (.int (i1 &&& (3 : Int32))), .val (.ref b1), .unset, .unset] [(.ref b1)])) _
    refine XS.iload X17.here hx rfl (hb hby at_199) rfl ?_
    show Steps p.tables e below (T17.setTop (mkF m 201 #[.val (.long j0), .second, .val (.int i1), .val (.long j2), .second, .val (.int (i1 &&& (3 : Int32))), .val (.ref b1), .unset, .unset] [(.int (i1 &&& (3 : Int32))), (.ref b1)])) _
    refine XS.iconst X17.here hx rfl (hb hby at_201) ?_
    show Steps p.tables e below (T17.setTop (mkF m 202 #[.val (.long j0), .second, .val (.int i1), .val (.long j2), .second, .val (.int (i1 &&& (3 : Int32))), .val (.ref b1), .unset, .unset] [(.int (4 : Int32)), (.int (i1 &&& (3 : Int32))), (.ref b1)])) _
    refine XS.iadd X17.here hx rfl (hb hby at_202) rfl ?_
    show Steps p.tables e below (T17.setTop (mkF m 203 #[.val (.long j0), .second, .val (.int i1), .val (.long j2), .second, .val (.int (i1 &&& (3 : Int32))), .val (.ref b1), .unset, .unset] [(.int ((i1 &&& (3 : Int32)) + (4 : Int32))), (.ref b1)])) _
    refine XS.lloadN X17.here hx rfl (hb hby at_203) rfl ?_
    show Steps p.tables e below (T17.setTop (mkF m 204 #[.val (.long j0), .second, .val (.int i1), .val (.long j2), .second, .val (.int (i1 &&& (3 : Int32))), .val (.ref b1), .unset, .unset] [(.long j0), (.int ((i1 &&& (3 : Int32)) + (4 : Int32))), (.ref b1)])) _
    refine XS.bipush X17.here hx rfl (hb hby at_204) ?_
    show Steps p.tables e below (T17.setTop (mkF m 206 #[.val (.long j0), .second, .val (.int i1), .val (.long j2), .second, .val (.int (i1 &&& (3 : Int32))), .val (.ref b1), .unset, .unset] [(.int (24 : Int32)), (.long j0), (.int ((i1 &&& (3 : Int32)) + (4 : Int32))), (.ref b1)])) _
    refine XS.lushr X17.here hx rfl (hb hby at_206) rfl ?_
    show Steps p.tables e below (T17.setTop (mkF m 207 #[.val (.long j0), .second, .val (.int i1), .val (.long j2), .second, .val (.int (i1 &&& (3 : Int32))), .val (.ref b1), .unset, .unset] [(.long ((j0.toUInt64 >>> ((24 : Int32) &&& 0x3f).toInt64.toUInt64).toInt64)), (.int ((i1 &&& (3 : Int32)) + (4 : Int32))), (.ref b1)])) _
    refine XS.l2i X17.here hx rfl (hb hby at_207) rfl ?_
    show Steps p.tables e below (T17.setTop (mkF m 208 #[.val (.long j0), .second, .val (.int i1), .val (.long j2), .second, .val (.int (i1 &&& (3 : Int32))), .val (.ref b1), .unset, .unset] [(.int (((j0.toUInt64 >>> ((24 : Int32) &&& 0x3f).toInt64.toUInt64).toInt64).toInt32)), (.int ((i1 &&& (3 : Int32)) + (4 : Int32))), (.ref b1)])) _
    refine XS.i2b X17.here hx rfl (hb hby at_208) rfl ?_
    show Steps p.tables e below (T17.setTop (mkF m 209 #[.val (.long j0), .second, .val (.int i1), .val (.long j2), .second, .val (.int (i1 &&& (3 : Int32))), .val (.ref b1), .unset, .unset] [(.int ((((j0.toUInt64 >>> ((24 : Int32) &&& 0x3f).toInt64.toUInt64).toInt64).toInt32).toInt8.toInt32)), (.int ((i1 &&& (3 : Int32)) + (4 : Int32))), (.ref b1)])) _
    exact k
  obtain ⟨T18, h18, X18, e18, W18, V18, st18⟩ := puB X17 hx hZ e17 V17 (j := ((i1 &&& (3 : Int32)) + (4 : Int32))) (x := ((((j0.toUInt64 >>> ((24 : Int32) &&& 0x3f).toInt64.toUInt64).toInt64).toInt32).toInt8.toInt32)) (k := (own_at i1 + 4)) (own_ixa (own_atk i1) rfl (own_atl i1 4 (by decide))) (own_atb i1 4 (by decide)) (f := (mkF m 209 #[.val (.long j0), .second, .val (.int i1), .val (.long j2), .second, .val (.int (i1 &&& (3 : Int32))), .val (.ref b1), .unset, .unset] [(.int ((((j0.toUInt64 >>> ((24 : Int32) &&& 0x3f).toInt64.toUInt64).toInt64).toInt32).toInt8.toInt32)), (.int ((i1 &&& (3 : Int32)) + (4 : Int32))), (.ref b1)])) rfl rfl (hb hby at_209)
  replace V18 : AI Z h18 b1 .byte 12 (f0_g209 j0 i1 j2) := V18
  have N18 := Fr.snoc X18 N17 g_b1
  obtain ⟨Lh18, X18, N18⟩ := hide X18 N18 (C := 1) (S := 12) (by decide) (by decide)
  refine Outs.of st18 ?_
  show Outs p e below s _ _ _ (T18.setTop (mkF m 210 #[.val (.long j0), .second, .val (.int i1), .val (.long j2), .second, .val (.int (i1 &&& (3 : Int32))), .val (.ref b1), .unset, .unset] []))
  refine Outs.of (U' := T18.setTop (mkF m 222 #[.val (.long j0), .second, .val (.int i1), .val (.long j2), .second, .val (.int (i1 &&& (3 : Int32))), .val (.ref b1), .unset, .unset] [(.int ((((j0.toUInt64 >>> ((16 : Int32) &&& 0x3f).toInt64.toUInt64).toInt64).toInt32).toInt8.toInt32)), (.int ((i1 &&& (3 : Int32)) + (5 : Int32))), (.ref b1)])) (fun t k => ?_) ?_
  · refine XS.aload X18.here hx rfl (hb hby at_210) rfl rfl ?_
    show Steps p.tables e below (T18.setTop (mkF m 212 #[.val (.long j0), .second, .val (.int i1), .val (.long j2), .second, .val (.int (i1 &&& (3 : Int32))), .val (.ref b1), .unset, .unset] [(.ref b1)])) _
    refine XS.iload X18.here hx rfl (hb hby at_212) rfl ?_
    show Steps p.tables e below (T18.setTop (mkF m 214 #[.val (.long j0), .second, .val (.int i1), .val (.long j2), .second, .val (.int (i1 &&& (3 : Int32))), .val (.ref b1), .unset, .unset] [(.int (i1 &&& (3 : Int32))), (.ref b1)])) _
    refine XS.iconst X18.here hx rfl (hb hby at_214) ?_
    show Steps p.tables e below (T18.setTop (mkF m 215 #[.val (.long j0), .second, .val (.int i1), .val (.long j2), .second, .val (.int (i1 &&& (3 : Int32))), .val (.ref b1), .unset, .unset] [(.int (5 : Int32)), (.int (i1 &&& (3 : Int32))), (.ref b1)])) _
    refine XS.iadd X18.here hx rfl (hb hby at_215) rfl ?_
    show Steps p.tables e below (T18.setTop (mkF m 216 #[.val (.long j0), .second, .val (.int i1), .val (.long j2), .second, .val (.int (i1 &&& (3 : Int32))), .val (.ref b1), .unset, .unset] [(.int ((i1 &&& (3 : Int32)) + (5 : Int32))), (.ref b1)])) _
    refine XS.lloadN X18.here hx rfl (hb hby at_216) rfl ?_
    show Steps p.tables e below (T18.setTop (mkF m 217 #[.val (.long j0), .second, .val (.int i1), .val (.long j2), .second, .val (.int (i1 &&& (3 : Int32))), .val (.ref b1), .unset, .unset] [(.long j0), (.int ((i1 &&& (3 : Int32)) + (5 : Int32))), (.ref b1)])) _
    refine XS.bipush X18.here hx rfl (hb hby at_217) ?_
    show Steps p.tables e below (T18.setTop (mkF m 219 #[.val (.long j0), .second, .val (.int i1), .val (.long j2), .second, .val (.int (i1 &&& (3 : Int32))), .val (.ref b1), .unset, .unset] [(.int (16 : Int32)), (.long j0), (.int ((i1 &&& (3 : Int32)) + (5 : Int32))), (.ref b1)])) _
    refine XS.lushr X18.here hx rfl (hb hby at_219) rfl ?_
    show Steps p.tables e below (T18.setTop (mkF m 220 #[.val (.long j0), .second, .val (.int i1), .val (.long j2), .second, .val (.int (i1 &&& (3 : Int32))), .val (.ref b1), .unset, .unset] [(.long ((j0.toUInt64 >>> ((16 : Int32) &&& 0x3f).toInt64.toUInt64).toInt64)), (.int ((i1 &&& (3 : Int32)) + (5 : Int32))), (.ref b1)])) _
    refine XS.l2i X18.here hx rfl (hb hby at_220) rfl ?_
    show Steps p.tables e below (T18.setTop (mkF m 221 #[.val (.long j0), .second, .val (.int i1), .val (.long j2), .second, .val (.int (i1 &&& (3 : Int32))), .val (.ref b1), .unset, .unset] [(.int (((j0.toUInt64 >>> ((16 : Int32) &&& 0x3f).toInt64.toUInt64).toInt64).toInt32)), (.int ((i1 &&& (3 : Int32)) + (5 : Int32))), (.ref b1)])) _
    refine XS.i2b X18.here hx rfl (hb hby at_221) rfl ?_
    show Steps p.tables e below (T18.setTop (mkF m 222 #[.val (.long j0), .second, .val (.int i1), .val (.long j2), .second, .val (.int (i1 &&& (3 : Int32))), .val (.ref b1), .unset, .unset] [(.int ((((j0.toUInt64 >>> ((16 : Int32) &&& 0x3f).toInt64.toUInt64).toInt64).toInt32).toInt8.toInt32)), (.int ((i1 &&& (3 : Int32)) + (5 : Int32))), (.ref b1)])) _
    exact k
  obtain ⟨T19, h19, X19, e19, W19, V19, st19⟩ := puB X18 hx hZ e18 V18 (j := ((i1 &&& (3 : Int32)) + (5 : Int32))) (x := ((((j0.toUInt64 >>> ((16 : Int32) &&& 0x3f).toInt64.toUInt64).toInt64).toInt32).toInt8.toInt32)) (k := (own_at i1 + 5)) (own_ixa (own_atk i1) rfl (own_atl i1 5 (by decide))) (own_atb i1 5 (by decide)) (f := (mkF m 222 #[.val (.long j0), .second, .val (.int i1), .val (.long j2), .second, .val (.int (i1 &&& (3 : Int32))), .val (.ref b1), .unset, .unset] [(.int ((((j0.toUInt64 >>> ((16 : Int32) &&& 0x3f).toInt64.toUInt64).toInt64).toInt32).toInt8.toInt32)), (.int ((i1 &&& (3 : Int32)) + (5 : Int32))), (.ref b1)])) rfl rfl (hb hby at_222)
  replace V19 : AI Z h19 b1 .byte 12 (f0_g222 j0 i1 j2) := V19
  have N19 := Fr.snoc X19 N18 g_b1
  obtain ⟨Lh19, X19, N19⟩ := hide X19 N19 (C := 1) (S := 12) (by decide) (by decide)
  refine Outs.of st19 ?_
  show Outs p e below s _ _ _ (T19.setTop (mkF m 223 #[.val (.long j0), .second, .val (.int i1), .val (.long j2), .second, .val (.int (i1 &&& (3 : Int32))), .val (.ref b1), .unset, .unset] []))
  refine Outs.of (U' := T19.setTop (mkF m 236 #[.val (.long j0), .second, .val (.int i1), .val (.long j2), .second, .val (.int (i1 &&& (3 : Int32))), .val (.ref b1), .unset, .unset] [(.int ((((j0.toUInt64 >>> ((8 : Int32) &&& 0x3f).toInt64.toUInt64).toInt64).toInt32).toInt8.toInt32)), (.int ((i1 &&& (3 : Int32)) + (6 : Int32))), (.ref b1)])) (fun t k => ?_) ?_
  · refine XS.aload X19.here hx rfl (hb hby at_223) rfl rfl ?_
    show Steps p.tables e below (T19.setTop (mkF m 225 #[.val (.long j0), .second, .val (.int i1), .val (.long j2), .second, .val (.int (i1 &&& (3 : Int32))), .val (.ref b1), .unset, .unset] [(.ref b1)])) _
    refine XS.iload X19.here hx rfl (hb hby at_225) rfl ?_
    show Steps p.tables e below (T19.setTop (mkF m 227 #[.val (.long j0), .second, .val (.int i1), .val (.long j2), .second, .val (.int (i1 &&& (3 : Int32))), .val (.ref b1), .unset, .unset] [(.int (i1 &&& (3 : Int32))), (.ref b1)])) _
    refine XS.bipush X19.here hx rfl (hb hby at_227) ?_
    show Steps p.tables e below (T19.setTop (mkF m 229 #[.val (.long j0), .second, .val (.int i1), .val (.long j2), .second, .val (.int (i1 &&& (3 : Int32))), .val (.ref b1), .unset, .unset] [(.int (6 : Int32)), (.int (i1 &&& (3 : Int32))), (.ref b1)])) _
    refine XS.iadd X19.here hx rfl (hb hby at_229) rfl ?_
    show Steps p.tables e below (T19.setTop (mkF m 230 #[.val (.long j0), .second, .val (.int i1), .val (.long j2), .second, .val (.int (i1 &&& (3 : Int32))), .val (.ref b1), .unset, .unset] [(.int ((i1 &&& (3 : Int32)) + (6 : Int32))), (.ref b1)])) _
    refine XS.lloadN X19.here hx rfl (hb hby at_230) rfl ?_
    show Steps p.tables e below (T19.setTop (mkF m 231 #[.val (.long j0), .second, .val (.int i1), .val (.long j2), .second, .val (.int (i1 &&& (3 : Int32))), .val (.ref b1), .unset, .unset] [(.long j0), (.int ((i1 &&& (3 : Int32)) + (6 : Int32))), (.ref b1)])) _
    refine XS.bipush X19.here hx rfl (hb hby at_231) ?_
    show Steps p.tables e below (T19.setTop (mkF m 233 #[.val (.long j0), .second, .val (.int i1), .val (.long j2), .second, .val (.int (i1 &&& (3 : Int32))), .val (.ref b1), .unset, .unset] [(.int (8 : Int32)), (.long j0), (.int ((i1 &&& (3 : Int32)) + (6 : Int32))), (.ref b1)])) _
    refine XS.lushr X19.here hx rfl (hb hby at_233) rfl ?_
    show Steps p.tables e below (T19.setTop (mkF m 234 #[.val (.long j0), .second, .val (.int i1), .val (.long j2), .second, .val (.int (i1 &&& (3 : Int32))), .val (.ref b1), .unset, .unset] [(.long ((j0.toUInt64 >>> ((8 : Int32) &&& 0x3f).toInt64.toUInt64).toInt64)), (.int ((i1 &&& (3 : Int32)) + (6 : Int32))), (.ref b1)])) _
    refine XS.l2i X19.here hx rfl (hb hby at_234) rfl ?_
    show Steps p.tables e below (T19.setTop (mkF m 235 #[.val (.long j0), .second, .val (.int i1), .val (.long j2), .second, .val (.int (i1 &&& (3 : Int32))), .val (.ref b1), .unset, .unset] [(.int (((j0.toUInt64 >>> ((8 : Int32) &&& 0x3f).toInt64.toUInt64).toInt64).toInt32)), (.int ((i1 &&& (3 : Int32)) + (6 : Int32))), (.ref b1)])) _
    refine XS.i2b X19.here hx rfl (hb hby at_235) rfl ?_
    show Steps p.tables e below (T19.setTop (mkF m 236 #[.val (.long j0), .second, .val (.int i1), .val (.long j2), .second, .val (.int (i1 &&& (3 : Int32))), .val (.ref b1), .unset, .unset] [(.int ((((j0.toUInt64 >>> ((8 : Int32) &&& 0x3f).toInt64.toUInt64).toInt64).toInt32).toInt8.toInt32)), (.int ((i1 &&& (3 : Int32)) + (6 : Int32))), (.ref b1)])) _
    exact k
  obtain ⟨T20, h20, X20, e20, W20, V20, st20⟩ := puB X19 hx hZ e19 V19 (j := ((i1 &&& (3 : Int32)) + (6 : Int32))) (x := ((((j0.toUInt64 >>> ((8 : Int32) &&& 0x3f).toInt64.toUInt64).toInt64).toInt32).toInt8.toInt32)) (k := (own_at i1 + 6)) (own_ixa (own_atk i1) rfl (own_atl i1 6 (by decide))) (own_atb i1 6 (by decide)) (f := (mkF m 236 #[.val (.long j0), .second, .val (.int i1), .val (.long j2), .second, .val (.int (i1 &&& (3 : Int32))), .val (.ref b1), .unset, .unset] [(.int ((((j0.toUInt64 >>> ((8 : Int32) &&& 0x3f).toInt64.toUInt64).toInt64).toInt32).toInt8.toInt32)), (.int ((i1 &&& (3 : Int32)) + (6 : Int32))), (.ref b1)])) rfl rfl (hb hby at_236)
  replace V20 : AI Z h20 b1 .byte 12 (f0_g236 j0 i1 j2) := V20
  have N20 := Fr.snoc X20 N19 g_b1
  obtain ⟨Lh20, X20, N20⟩ := hide X20 N20 (C := 1) (S := 12) (by decide) (by decide)
  refine Outs.of st20 ?_
  show Outs p e below s _ _ _ (T20.setTop (mkF m 237 #[.val (.long j0), .second, .val (.int i1), .val (.long j2), .second, .val (.int (i1 &&& (3 : Int32))), .val (.ref b1), .unset, .unset] []))
  refine Outs.of (U' := T20.setTop (mkF m 247 #[.val (.long j0), .second, .val (.int i1), .val (.long j2), .second, .val (.int (i1 &&& (3 : Int32))), .val (.ref b1), .unset, .unset] [(.int ((j0.toInt32).toInt8.toInt32)), (.int ((i1 &&& (3 : Int32)) + (7 : Int32))), (.ref b1)])) (fun t k => ?_) ?_
  · refine XS.aload X20.here hx rfl (hb hby at_237) rfl rfl ?_
    show Steps p.tables e below (T20.setTop (mkF m 239 #[.val (.long j0), .second, .val (.int i1), .val (.long j2), .second, .val (.int (i1 &&& (3 : Int32))), .val (.ref b1), .unset, .unset] [(.ref b1)])) _
    refine XS.iload X20.here hx rfl (hb hby at_239) rfl ?_
    show Steps p.tables e below (T20.setTop (mkF m 241 #[.val (.long j0), .second, .val (.int i1), .val (.long j2), .second, .val (.int (i1 &&& (3 : Int32))), .val (.ref b1), .unset, .unset] [(.int (i1 &&& (3 : Int32))), (.ref b1)])) _
    refine XS.bipush X20.here hx rfl (hb hby at_241) ?_
    show Steps p.tables e below (T20.setTop (mkF m 243 #[.val (.long j0), .second, .val (.int i1), .val (.long j2), .second, .val (.int (i1 &&& (3 : Int32))), .val (.ref b1), .unset, .unset] [(.int (7 : Int32)), (.int (i1 &&& (3 : Int32))), (.ref b1)])) _
    refine XS.iadd X20.here hx rfl (hb hby at_243) rfl ?_
    show Steps p.tables e below (T20.setTop (mkF m 244 #[.val (.long j0), .second, .val (.int i1), .val (.long j2), .second, .val (.int (i1 &&& (3 : Int32))), .val (.ref b1), .unset, .unset] [(.int ((i1 &&& (3 : Int32)) + (7 : Int32))), (.ref b1)])) _
    refine XS.lloadN X20.here hx rfl (hb hby at_244) rfl ?_
    show Steps p.tables e below (T20.setTop (mkF m 245 #[.val (.long j0), .second, .val (.int i1), .val (.long j2), .second, .val (.int (i1 &&& (3 : Int32))), .val (.ref b1), .unset, .unset] [(.long j0), (.int ((i1 &&& (3 : Int32)) + (7 : Int32))), (.ref b1)])) _
    refine XS.l2i X20.here hx rfl (hb hby at_245) rfl ?_
    show Steps p.tables e below (T20.setTop (mkF m 246 #[.val (.long j0), .second, .val (.int i1), .val (.long j2), .second, .val (.int (i1 &&& (3 : Int32))), .val (.ref b1), .unset, .unset] [(.int (j0.toInt32)), (.int ((i1 &&& (3 : Int32)) + (7 : Int32))), (.ref b1)])) _
    refine XS.i2b X20.here hx rfl (hb hby at_246) rfl ?_
    show Steps p.tables e below (T20.setTop (mkF m 247 #[.val (.long j0), .second, .val (.int i1), .val (.long j2), .second, .val (.int (i1 &&& (3 : Int32))), .val (.ref b1), .unset, .unset] [(.int ((j0.toInt32).toInt8.toInt32)), (.int ((i1 &&& (3 : Int32)) + (7 : Int32))), (.ref b1)])) _
    exact k
  obtain ⟨T21, h21, X21, e21, W21, V21, st21⟩ := puB X20 hx hZ e20 V20 (j := ((i1 &&& (3 : Int32)) + (7 : Int32))) (x := ((j0.toInt32).toInt8.toInt32)) (k := (own_at i1 + 7)) (own_ixa (own_atk i1) rfl (own_atl i1 7 (by decide))) (own_atb i1 7 (by decide)) (f := (mkF m 247 #[.val (.long j0), .second, .val (.int i1), .val (.long j2), .second, .val (.int (i1 &&& (3 : Int32))), .val (.ref b1), .unset, .unset] [(.int ((j0.toInt32).toInt8.toInt32)), (.int ((i1 &&& (3 : Int32)) + (7 : Int32))), (.ref b1)])) rfl rfl (hb hby at_247)
  replace V21 : AI Z h21 b1 .byte 12 (f0_g247 j0 i1 j2) := V21
  have N21 := Fr.snoc X21 N20 g_b1
  obtain ⟨Lh21, X21, N21⟩ := hide X21 N21 (C := 1) (S := 12) (by decide) (by decide)
  refine Outs.of st21 ?_
  show Outs p e below s _ _ _ (T21.setTop (mkF m 248 #[.val (.long j0), .second, .val (.int i1), .val (.long j2), .second, .val (.int (i1 &&& (3 : Int32))), .val (.ref b1), .unset, .unset] []))
  refine Outs.of (U' := T21.setTop (mkF m 252 #[.val (.long j0), .second, .val (.int i1), .val (.long j2), .second, .val (.int (i1 &&& (3 : Int32))), .val (.ref b1), .unset, .unset] [(.int (i1 &&& (3 : Int32))), (.ref b1)])) (fun t k => ?_) ?_
  · refine XS.aload X21.here hx rfl (hb hby at_248) rfl rfl ?_
    show Steps p.tables e below (T21.setTop (mkF m 250 #[.val (.long j0), .second, .val (.int i1), .val (.long j2), .second, .val (.int (i1 &&& (3 : Int32))), .val (.ref b1), .unset, .unset] [(.ref b1)])) _
    refine XS.iload X21.here hx rfl (hb hby at_250) rfl ?_
    show Steps p.tables e below (T21.setTop (mkF m 252 #[.val (.long j0), .second, .val (.int i1), .val (.long j2), .second, .val (.int (i1 &&& (3 : Int32))), .val (.ref b1), .unset, .unset] [(.int (i1 &&& (3 : Int32))), (.ref b1)])) _
    exact k
  obtain ⟨_, _, ⟨T22, L22, k22, n22⟩, -, X22, ⟨Lc22, hQ22, l22, y22, z22⟩, st22⟩ := Jvm.LawKit.callS X21 hx (y := (⟨"com/example/penelope/penelope/Codec", "getLong", "([BI)J"⟩ : MethodName)) hown (mvT hZ (hw _ (List.mem_of_getElem? (i := 2) rfl))) (mvT hZ (hw _ (List.mem_of_getElem? (i := 3) rfl))) (mvT hZ (hw _ (List.mem_of_getElem? (i := 4) rfl))) (mvT hZ (hw _ (List.mem_of_getElem? (i := 5) rfl))) (by decide) (backOf (W := 0) (rm1 l Z a0 hw [] b1 (i1 &&& (3 : Int32)) 12 (own_at i1) (f0_g247 j0 i1 j2) h21 n0 V21 (own_atk i1) (own_at8 i1)) hZ (hw _ (List.mem_of_getElem? (i := 5) rfl)) (hw _ (List.mem_of_getElem? (i := 4) rfl)) (by decide) (by decide)) (g := (mkF m 252 #[.val (.long j0), .second, .val (.int i1), .val (.long j2), .second, .val (.int (i1 &&& (3 : Int32))), .val (.ref b1), .unset, .unset] [(.int (i1 &&& (3 : Int32))), (.ref b1)])) rfl (by rw [hml]; rfl) (argsL := [(.ref b1), (.int (i1 &&& (3 : Int32)))]) (rest := []) (lenOf pd_0 rfl) rfl (by show 2 * 0 + _ ≤ _; exact Nat.le_of_eq rfl) (hb hby at_252) (fun _ _ => ⟨rfl, e21, (by decide : 1 + 0 ≤ _), (by decide : 12 + 0 ≤ _)⟩)
  dsimp only [Pt.U, Pt.locs, Pt.cells, Pt.slots] at X22 l22 y22 z22 st22 hQ22
  subst l22 y22 z22
  obtain ⟨rfl, N22q, e22⟩ := hQ22
  have N22 := Fr.app N21 N22q
  obtain ⟨Lh22, X22, N22⟩ := hide X22 N22 (C := 1) (S := 12) (by decide) (by decide)
  refine Outs.of st22 ?_
  show Outs p e below s _ _ _ (T22.setTop (mkF m 255 #[.val (.long j0), .second, .val (.int i1), .val (.long j2), .second, .val (.int (i1 &&& (3 : Int32))), .val (.ref b1), .unset, .unset] [(.long (F_f1 (i1 &&& (3 : Int32)) (own_at i1) (f0_g247 j0 i1 j2)))]))
  refine Outs.of (U' := T22.setTop (mkF m 265 #[.val (.long j0), .second, .val (.int i1), .val (.long j2), .second, .val (.int (i1 &&& (3 : Int32))), .val (.ref b1), .unset, .unset] [(.int (f0_257_s0 j0 i1 j2))])) (fun t k => ?_) ?_
  · refine XS.lloadN X22.here hx rfl (hb hby at_255) rfl ?_
    show Steps p.tables e below (T22.setTop (mkF m 256 #[.val (.long j0), .second, .val (.int i1), .val (.long j2), .second, .val (.int (i1 &&& (3 : Int32))), .val (.ref b1), .unset, .unset] [(.long j0), (.long (F_f1 (i1 &&& (3 : Int32)) (own_at i1) (f0_g247 j0 i1 j2)))])) _
    refine XS.lcmp X22.here hx rfl (hb hby at_256) rfl ?_
    show Steps p.tables e below (T22.setTop (mkF m 257 #[.val (.long j0), .second, .val (.int i1), .val (.long j2), .second, .val (.int (i1 &&& (3 : Int32))), .val (.ref b1), .unset, .unset] [(.int (lcmpW (F_f1 (i1 &&& (3 : Int32)) (own_at i1) (f0_g247 j0 i1 j2)) j0))])) _
    by_cases hc257 : (F_f1 (i1 &&& (3 : Int32)) (own_at i1) (f0_g247 j0 i1 j2)) = j0
    · refine XS.ifNo X22.here hx rfl (hb hby at_257) rfl ((if0 _ _).trans (teq ((lw_eq _ _).mpr hc257)).2) ?_
      show Steps p.tables e below (T22.setTop (mkF m 260 #[.val (.long j0), .second, .val (.int i1), .val (.long j2), .second, .val (.int (i1 &&& (3 : Int32))), .val (.ref b1), .unset, .unset] [])) _
      refine XS.iconst X22.here hx rfl (hb hby at_260) ?_
      show Steps p.tables e below (T22.setTop (mkF m 261 #[.val (.long j0), .second, .val (.int i1), .val (.long j2), .second, .val (.int (i1 &&& (3 : Int32))), .val (.ref b1), .unset, .unset] [(.int (1 : Int32))])) _
      refine XS.goto X22.here hx rfl (pc0 := 261) (pc' := 265) rfl (hb hby at_261) (by decide) (by decide) ?_
      show Steps p.tables e below (T22.setTop (mkF m 265 #[.val (.long j0), .second, .val (.int i1), .val (.long j2), .second, .val (.int (i1 &&& (3 : Int32))), .val (.ref b1), .unset, .unset] [(.int (1 : Int32))])) _
      rw [show (f0_257_s0 j0 i1 j2) = (1 : Int32) from (if_pos hc257)] at k
      exact k
    · refine XS.ifYes X22.here hx rfl (pc0 := 257) (pc' := 264) rfl (hb hby at_257) rfl ((if0 _ _).trans (feq (fun q_ => hc257 ((lw_eq _ _).mp q_))).2) (by decide) (by decide) ?_
      show Steps p.tables e below (T22.setTop (mkF m 264 #[.val (.long j0), .second, .val (.int i1), .val (.long j2), .second, .val (.int (i1 &&& (3 : Int32))), .val (.ref b1), .unset, .unset] [])) _
      refine XS.iconst X22.here hx rfl (hb hby at_264) ?_
      show Steps p.tables e below (T22.setTop (mkF m 265 #[.val (.long j0), .second, .val (.int i1), .val (.long j2), .second, .val (.int (i1 &&& (3 : Int32))), .val (.ref b1), .unset, .unset] [(.int (0 : Int32))])) _
      rw [show (f0_257_s0 j0 i1 j2) = (0 : Int32) from (if_neg hc257)] at k
      exact k
  refine Outs.of (U' := T22.setTop (mkF m 268 #[.val (.long j0), .second, .val (.int i1), .val (.long j2), .second, .val (.int (i1 &&& (3 : Int32))), .val (.ref b1), .val (.int (f0_257_s0 j0 i1 j2)), .unset] [(.long j0)])) (fun t k => ?_) ?_
  · refine XS.istore X22.here hx rfl (hb hby at_265) rfl (l' := #[.val (.long j0), .second, .val (.int i1), .val (.long j2), .second, .val (.int (i1 &&& (3 : Int32))), .val (.ref b1), .val (.int (f0_257_s0 j0 i1 j2)), .unset]) rfl ?_
    show Steps p.tables e below (T22.setTop (mkF m 267 #[.val (.long j0), .second, .val (.int i1), .val (.long j2), .second, .val (.int (i1 &&& (3 : Int32))), .val (.ref b1), .val (.int (f0_257_s0 j0 i1 j2)), .unset] [])) _
    refine XS.lloadN X22.here hx rfl (hb hby at_267) rfl ?_
    show Steps p.tables e below (T22.setTop (mkF m 268 #[.val (.long j0), .second, .val (.int i1), .val (.long j2), .second, .val (.int (i1 &&& (3 : Int32))), .val (.ref b1), .val (.int (f0_257_s0 j0 i1 j2)), .unset] [(.long j0)])) _
    exact k
  obtain ⟨_, _, ⟨T23, L23, k23, n23⟩, -, X23, ⟨Lc23, hQ23, l23, y23, z23⟩, st23⟩ := Jvm.LawKit.callS X22 hx (y := (⟨"com/example/penelope/penelope/Codec", "longBytes", "(J)[B"⟩ : MethodName)) hown (mvT hZ (hw _ (List.mem_of_getElem? (i := 6) rfl))) (mvT hZ (hw _ (List.mem_of_getElem? (i := 7) rfl))) (mvT hZ (hw _ (List.mem_of_getElem? (i := 4) rfl))) (mvT hZ (hw _ (List.mem_of_getElem? (i := 8) rfl))) (by decide) (backOf (W := 0) (rm2 l Z a0 hw [] j0 h21 n0 (Nat.le_trans (Nat.le_trans (Nat.le_trans (Nat.le_trans (Nat.le_trans (Nat.le_trans (Nat.le_trans (Nat.le_trans (Nat.le_trans (Nat.le_trans (Nat.le_trans (Nat.le_trans (Nat.le_trans (Nat.le_trans (Nat.le_trans (Nat.le_trans (Nat.le_trans (Nat.le_trans (Nat.le_trans (Nat.le_trans (Nat.le_trans Z0 E1.1) (Keep.of_wr W2).1) (Keep.of_wr W3).1) (Keep.of_wr W4).1) (Keep.of_wr W5).1) (Keep.of_wr W6).1) (Keep.of_wr W7).1) (Keep.of_wr W8).1) (Keep.of_wr W9).1) (Keep.of_wr W10).1) (Keep.of_wr W11).1) (Keep.of_wr W12).1) (Keep.of_wr W13).1) (Keep.of_wr W14).1) (Keep.of_wr W15).1) (Keep.of_wr W16).1) (Keep.of_wr W17).1) (Keep.of_wr W18).1) (Keep.of_wr W19).1) (Keep.of_wr W20).1) (Keep.of_wr W21).1)) hZ (hw _ (List.mem_of_getElem? (i := 8) rfl)) (hw _ (List.mem_of_getElem? (i := 4) rfl)) (by decide) (by decide)) (g := (mkF m 268 #[.val (.long j0), .second, .val (.int i1), .val (.long j2), .second, .val (.int (i1 &&& (3 : Int32))), .val (.ref b1), .val (.int (f0_257_s0 j0 i1 j2)), .unset] [(.long j0)])) rfl (by rw [hml]; rfl) (argsL := [(.long j0)]) (rest := []) (lenOf pd_1 rfl) rfl (by show 2 * 0 + _ ≤ _; exact Nat.le_of_eq rfl) (hb hby at_268) (fun _ _ => ⟨rfl, e22, (by decide : 1 + 1 ≤ _), (by decide : 12 + 8 ≤ _)⟩)
  dsimp only [Pt.U, Pt.locs, Pt.cells, Pt.slots] at X23 l23 y23 z23 st23 hQ23
  subst l23 y23 z23
  obtain ⟨b23, g_b23, hs23, rfl, N23q, K23, u23_0⟩ := hQ23
  have N23 := Fr.app N22 N23q
  have ne_b1_b23 : b1 ≠ b23 := Nat.ne_of_lt (Nat.lt_of_lt_of_le V21.lt hs23)
  obtain ⟨Lh23, X23, N23⟩ := hide X23 N23 (C := 2) (S := 20) (by decide) (by decide)
  refine Outs.of st23 ?_
  show Outs p e below s _ _ _ (T23.setTop (mkF m 271 #[.val (.long j0), .second, .val (.int i1), .val (.long j2), .second, .val (.int (i1 &&& (3 : Int32))), .val (.ref b1), .val (.int (f0_257_s0 j0 i1 j2)), .unset] [(.ref b23)]))
  refine Outs.of (U' := T23.setTop (mkF m 272 #[.val (.long j0), .second, .val (.int i1), .val (.long j2), .second, .val (.int (i1 &&& (3 : Int32))), .val (.ref b1), .val (.int (f0_257_s0 j0 i1 j2)), .unset] [(.int (0 : Int32)), (.ref b23)])) (fun t k => ?_) ?_
  · refine XS.iconst X23.here hx rfl (hb hby at_271) ?_
    show Steps p.tables e below (T23.setTop (mkF m 272 #[.val (.long j0), .second, .val (.int i1), .val (.long j2), .second, .val (.int (i1 &&& (3 : Int32))), .val (.ref b1), .val (.int (f0_257_s0 j0 i1 j2)), .unset] [(.int (0 : Int32)), (.ref b23)])) _
    exact k
  obtain ⟨_, _, ⟨T24, L24, k24, n24⟩, -, X24, ⟨Lc24, hQ24, l24, y24, z24⟩, st24⟩ := Jvm.LawKit.callS X23 hx (y := (⟨"com/example/penelope/penelope/Codec", "getLong", "([BI)J"⟩ : MethodName)) hown (mvT hZ (hw _ (List.mem_of_getElem? (i := 2) rfl))) (mvT hZ (hw _ (List.mem_of_getElem? (i := 3) rfl))) (mvT hZ (hw _ (List.mem_of_getElem? (i := 4) rfl))) (mvT hZ (hw _ (List.mem_of_getElem? (i := 5) rfl))) (by decide) (backOf (W := 0) (rm1 l Z a0 hw [] b23 (0 : Int32) 8 0 (f3_g17g (0 : Int32) j0 0 (fun _ => (0 : Int32))) T23.heap n0 u23_0 rfl (by decide)) hZ (hw _ (List.mem_of_getElem? (i := 5) rfl)) (hw _ (List.mem_of_getElem? (i := 4) rfl)) (by decide) (by decide)) (g := (mkF m 272 #[.val (.long j0), .second, .val (.int i1), .val (.long j2), .second, .val (.int (i1 &&& (3 : Int32))), .val (.ref b1), .val (.int (f0_257_s0 j0 i1 j2)), .unset] [(.int (0 : Int32)), (.ref b23)])) rfl (by rw [hml]; rfl) (argsL := [(.ref b23), (.int (0 : Int32))]) (rest := []) (lenOf pd_0 rfl) rfl (by show 2 * 0 + _ ≤ _; exact Nat.le_of_eq rfl) (hb hby at_272) (fun _ _ => ⟨rfl, rfl, (by decide : 2 + 0 ≤ _), (by decide : 20 + 0 ≤ _)⟩)
  dsimp only [Pt.U, Pt.locs, Pt.cells, Pt.slots] at X24 l24 y24 z24 st24 hQ24
  subst l24 y24 z24
  obtain ⟨rfl, N24q, e24⟩ := hQ24
  have N24 := Fr.app N23 N24q
  obtain ⟨Lh24, X24, N24⟩ := hide X24 N24 (C := 2) (S := 20) (by decide) (by decide)
  refine Outs.of st24 ?_
  show Outs p e below s _ _ _ (T24.setTop (mkF m 275 #[.val (.long j0), .second, .val (.int i1), .val (.long j2), .second, .val (.int (i1 &&& (3 : Int32))), .val (.ref b1), .val (.int (f0_257_s0 j0 i1 j2)), .unset] [(.long (F_f1 (0 : Int32) 0 (f3_g17g (0 : Int32) j0 0 (fun _ => (0 : Int32)))))]))
  refine Outs.of (U' := T24.setTop (mkF m 285 #[.val (.long j0), .second, .val (.int i1), .val (.long j2), .second, .val (.int (i1 &&& (3 : Int32))), .val (.ref b1), .val (.int (f0_257_s0 j0 i1 j2)), .unset] [(.int (f0_277_s0 j0 i1 j2))])) (fun t k => ?_) ?_
  · refine XS.lloadN X24.here hx rfl (hb hby at_275) rfl ?_
    show Steps p.tables e below (T24.setTop (mkF m 276 #[.val (.long j0), .second, .val (.int i1), .val (.long j2), .second, .val (.int (i1 &&& (3 : Int32))), .val (.ref b1), .val (.int (f0_257_s0 j0 i1 j2)), .unset] [(.long j0), (.long (F_f1 (0 : Int32) 0 (f3_g17g (0 : Int32) j0 0 (fun _ => (0 : Int32)))))])) _
    refine XS.lcmp X24.here hx rfl (hb hby at_276) rfl ?_
    show Steps p.tables e below (T24.setTop (mkF m 277 #[.val (.long j0), .second, .val (.int i1), .val (.long j2), .second, .val (.int (i1 &&& (3 : Int32))), .val (.ref b1), .val (.int (f0_257_s0 j0 i1 j2)), .unset] [(.int (lcmpW (F_f1 (0 : Int32) 0 (f3_g17g (0 : Int32) j0 0 (fun _ => (0 : Int32)))) j0))])) _
    by_cases hc277 : (F_f1 (0 : Int32) 0 (f3_g17g (0 : Int32) j0 0 (fun _ => (0 : Int32)))) = j0
    · refine XS.ifNo X24.here hx rfl (hb hby at_277) rfl ((if0 _ _).trans (teq ((lw_eq _ _).mpr hc277)).2) ?_
      show Steps p.tables e below (T24.setTop (mkF m 280 #[.val (.long j0), .second, .val (.int i1), .val (.long j2), .second, .val (.int (i1 &&& (3 : Int32))), .val (.ref b1), .val (.int (f0_257_s0 j0 i1 j2)), .unset] [])) _
      refine XS.iconst X24.here hx rfl (hb hby at_280) ?_
      show Steps p.tables e below (T24.setTop (mkF m 281 #[.val (.long j0), .second, .val (.int i1), .val (.long j2), .second, .val (.int (i1 &&& (3 : Int32))), .val (.ref b1), .val (.int (f0_257_s0 j0 i1 j2)), .unset] [(.int (1 : Int32))])) _
      refine XS.goto X24.here hx rfl (pc0 := 281) (pc' := 285) rfl (hb hby at_281) (by decide) (by decide) ?_
      show Steps p.tables e below (T24.setTop (mkF m 285 #[.val (.long j0), .second, .val (.int i1), .val (.long j2), .second, .val (.int (i1 &&& (3 : Int32))), .val (.ref b1), .val (.int (f0_257_s0 j0 i1 j2)), .unset] [(.int (1 : Int32))])) _
      rw [show (f0_277_s0 j0 i1 j2) = (1 : Int32) from (if_pos hc277)] at k
      exact k
    · refine XS.ifYes X24.here hx rfl (pc0 := 277) (pc' := 284) rfl (hb hby at_277) rfl ((if0 _ _).trans (feq (fun q_ => hc277 ((lw_eq _ _).mp q_))).2) (by decide) (by decide) ?_
      show Steps p.tables e below (T24.setTop (mkF m 284 #[.val (.long j0), .second, .val (.int i1), .val (.long j2), .second, .val (.int (i1 &&& (3 : Int32))), .val (.ref b1), .val (.int (f0_257_s0 j0 i1 j2)), .unset] [])) _
      refine XS.iconst X24.here hx rfl (hb hby at_284) ?_
      show Steps p.tables e below (T24.setTop (mkF m 285 #[.val (.long j0), .second, .val (.int i1), .val (.long j2), .second, .val (.int (i1 &&& (3 : Int32))), .val (.ref b1), .val (.int (f0_257_s0 j0 i1 j2)), .unset] [(.int (0 : Int32))])) _
      rw [show (f0_277_s0 j0 i1 j2) = (0 : Int32) from (if_neg hc277)] at k
      exact k
  refine Outs.of (U' := T24.setTop (mkF m 302 #[.val (.long j0), .second, .val (.int i1), .val (.long j2), .second, .val (.int (i1 &&& (3 : Int32))), .val (.ref b1), .val (.int (f0_257_s0 j0 i1 j2)), .val (.int (f0_277_s0 j0 i1 j2))] [(.int (f0_289_s0 j0 i1 j2))])) (fun t k => ?_) ?_
  · refine XS.istore X24.here hx rfl (hb hby at_285) rfl (l' := #[.val (.long j0), .second, .val (.int i1), .val (.long j2), .second, .val (.int (i1 &&& (3 : Int32))), .val (.ref b1), .val (.int (f0_257_s0 j0 i1 j2)), .val (.int (f0_277_s0 j0 i1 j2))]) rfl ?_
    show Steps p.tables e below (T24.setTop (mkF m 287 #[.val (.long j0), .second, .val (.int i1), .val (.long j2), .second, .val (.int (i1 &&& (3 : Int32))), .val (.ref b1), .val (.int (f0_257_s0 j0 i1 j2)), .val (.int (f0_277_s0 j0 i1 j2))] [])) _
    refine XS.iload X24.here hx rfl (hb hby at_287) rfl ?_
    show Steps p.tables e below (T24.setTop (mkF m 289 #[.val (.long j0), .second, .val (.int i1), .val (.long j2), .second, .val (.int (i1 &&& (3 : Int32))), .val (.ref b1), .val (.int (f0_257_s0 j0 i1 j2)), .val (.int (f0_277_s0 j0 i1 j2))] [(.int (f0_257_s0 j0 i1 j2))])) _
    by_cases hc289 : (f0_257_s0 j0 i1 j2) = (0 : Int32)
    · refine XS.ifYes X24.here hx rfl (pc0 := 289) (pc' := 301) rfl (hb hby at_289) rfl ((if0 _ _).trans (teq hc289).1) (by decide) (by decide) ?_
      show Steps p.tables e below (T24.setTop (mkF m 301 #[.val (.long j0), .second, .val (.int i1), .val (.long j2), .second, .val (.int (i1 &&& (3 : Int32))), .val (.ref b1), .val (.int (f0_257_s0 j0 i1 j2)), .val (.int (f0_277_s0 j0 i1 j2))] [])) _
      refine XS.iconst X24.here hx rfl (hb hby at_301) ?_
      show Steps p.tables e below (T24.setTop (mkF m 302 #[.val (.long j0), .second, .val (.int i1), .val (.long j2), .second, .val (.int (i1 &&& (3 : Int32))), .val (.ref b1), .val (.int (f0_257_s0 j0 i1 j2)), .val (.int (f0_277_s0 j0 i1 j2))] [(.int (0 : Int32))])) _
      rw [show (f0_289_s0 j0 i1 j2) = (0 : Int32) from (if_pos hc289)] at k
      exact k
    · refine XS.ifNo X24.here hx rfl (hb hby at_289) rfl ((if0 _ _).trans (feq hc289).1) ?_
      show Steps p.tables e below (T24.setTop (mkF m 292 #[.val (.long j0), .second, .val (.int i1), .val (.long j2), .second, .val (.int (i1 &&& (3 : Int32))), .val (.ref b1), .val (.int (f0_257_s0 j0 i1 j2)), .val (.int (f0_277_s0 j0 i1 j2))] [])) _
      refine XS.iload X24.here hx rfl (hb hby at_292) rfl ?_
      show Steps p.tables e below (T24.setTop (mkF m 294 #[.val (.long j0), .second, .val (.int i1), .val (.long j2), .second, .val (.int (i1 &&& (3 : Int32))), .val (.ref b1), .val (.int (f0_257_s0 j0 i1 j2)), .val (.int (f0_277_s0 j0 i1 j2))] [(.int (f0_277_s0 j0 i1 j2))])) _
      by_cases hc294 : (f0_277_s0 j0 i1 j2) = (0 : Int32)
      · refine XS.ifYes X24.here hx rfl (pc0 := 294) (pc' := 301) rfl (hb hby at_294) rfl ((if0 _ _).trans (teq hc294).1) (by decide) (by decide) ?_
        show Steps p.tables e below (T24.setTop (mkF m 301 #[.val (.long j0), .second, .val (.int i1), .val (.long j2), .second, .val (.int (i1 &&& (3 : Int32))), .val (.ref b1), .val (.int (f0_257_s0 j0 i1 j2)), .val (.int (f0_277_s0 j0 i1 j2))] [])) _
        refine XS.iconst X24.here hx rfl (hb hby at_301) ?_
        show Steps p.tables e below (T24.setTop (mkF m 302 #[.val (.long j0), .second, .val (.int i1), .val (.long j2), .second, .val (.int (i1 &&& (3 : Int32))), .val (.ref b1), .val (.int (f0_257_s0 j0 i1 j2)), .val (.int (f0_277_s0 j0 i1 j2))] [(.int (0 : Int32))])) _
        rw [show (f0_289_s0 j0 i1 j2) = (0 : Int32) from ((if_neg hc289).trans (if_pos hc294))] at k
        exact k
      · refine XS.ifNo X24.here hx rfl (hb hby at_294) rfl ((if0 _ _).trans (feq hc294).1) ?_
        show Steps p.tables e below (T24.setTop (mkF m 297 #[.val (.long j0), .second, .val (.int i1), .val (.long j2), .second, .val (.int (i1 &&& (3 : Int32))), .val (.ref b1), .val (.int (f0_257_s0 j0 i1 j2)), .val (.int (f0_277_s0 j0 i1 j2))] [])) _
        refine XS.iconst X24.here hx rfl (hb hby at_297) ?_
        show Steps p.tables e below (T24.setTop (mkF m 298 #[.val (.long j0), .second, .val (.int i1), .val (.long j2), .second, .val (.int (i1 &&& (3 : Int32))), .val (.ref b1), .val (.int (f0_257_s0 j0 i1 j2)), .val (.int (f0_277_s0 j0 i1 j2))] [(.int (1 : Int32))])) _
        refine XS.goto X24.here hx rfl (pc0 := 298) (pc' := 302) rfl (hb hby at_298) (by decide) (by decide) ?_
        show Steps p.tables e below (T24.setTop (mkF m 302 #[.val (.long j0), .second, .val (.int i1), .val (.long j2), .second, .val (.int (i1 &&& (3 : Int32))), .val (.ref b1), .val (.int (f0_257_s0 j0 i1 j2)), .val (.int (f0_277_s0 j0 i1 j2))] [(.int (1 : Int32))])) _
        rw [show (f0_289_s0 j0 i1 j2) = (1 : Int32) from ((if_neg hc289).trans (if_neg hc294))] at k
        exact k
  exact Outs.retN (t := .boolean) (z := (f0_289_s0 j0 i1 j2)) X24 hx hret (by simp) (hb hby at_302) hlk (by decide) (by decide) e24 ⟨congrArg (fun z_ => some (Value.int z_)) (law_true j0 i1 j2), N24⟩
set_option maxRecDepth 65536 in
set_option maxHeartbeats 40000000 in
theorem comes_1 {Post : Tables → Env → Array Value → State → Outcome → State → Prop} (hpost : ∀ tb e args s v u, (limb_1_1.after args s (.returned v) u = true ∧ limb_1_2.after args s (.returned v) u = true ∧ True) → FrameEnd s (.returned v) u (Jvm.fieldLocs frame_1_writes args s ++ Jvm.arrayLocs frame_1_arrays args s ++ Jvm.staticLocs frame_1_statics s) 16 128 → Post tb e args s (.returned v) u) :
    ArmFor flags0 classFile x code maxLocals ret World_1 tables_1 room_1 Calls_1 rest_1 Pre_1 Post := by
  intro l hfl _ _ p e ha hc hk s m args below hf hA hF happ hP
  obtain ⟨hcalls, hrest, hpre⟩ := hP
  obtain ⟨-, -, -, hnamed, -, -, -, hat⟩ := (Spec.applies_iff hf).mp happ
  obtain ⟨hg, hn⟩ := and_e (Cond.before_iff.mp (show (Jvm.Cond.and given_1 narrow_1).before args s = true from hpre))
  obtain ⟨g1, g2⟩ := and_e hg
  obtain ⟨g3, g4⟩ := and_e g2
  obtain ⟨g5, g6⟩ := and_e g4
  obtain ⟨w0, w1, w2, rfl⟩ : ∃ w0 w1 w2 : Value, args = #[w0, w1, w2] := by
    have hs : args.size = 3 := by simpa [Cond.value, given_1] using g1
    obtain ⟨L⟩ := args
    match L, hs with
    | [w0, w1, w2], _ => exact ⟨w0, w1, w2, rfl⟩
  have hw := fun d (hd : d ∈ tables_1) => atoms_spec (ws := Jvm.Cond.code x code maxLocals ret :: tables_1) hat d (List.mem_cons_of_mem _ hd)
  obtain ⟨i0, ei0⟩ := isL_v g3
  obtain rfl : w0 = (.long i0) := Option.some.inj ei0
  obtain ⟨i1, ei1⟩ := is_v g5
  obtain rfl : w1 = (.int i1) := Option.some.inj ei1
  obtain ⟨i2, ei2⟩ := isL_v g6
  obtain rfl : w2 = (.long i2) := Option.some.inj ei2
  obtain ⟨n, o, h1, h2, h3, v, L, rfl, hQ0, hq⟩ := rm0 l s _ hw tables_1 i0 i1 i2 s.heap s.heap.size (Nat.le_refl _) p e ha hc hk s m _ below hf ((Spec.applies_iff_loose hf).mp happ).1 ⟨rfl, State.Warmed39.refl s, rfl⟩ trivial
  obtain ⟨rfl, N⟩ : v = some (.int 1) ∧ Fr s.heap.size L := hQ0
  refine ⟨n, _, h1, h2, h3, hpost _ _ _ _ _ _ ⟨Cond.after_iff.mpr rfl, Cond.after_iff.mpr (eq_i res_at (Term.int_eval (1)) rfl), trivial⟩ ⟨hq.1, hq.2.1, (hq.2.2.sift fun y hy => Or.inr (N y hy)).mono (by decide) (by decide)⟩⟩
theorem main_1_1 : Claimed_1_1 := comes_1 fun _ _ _ _ _ _ h hF => ⟨h.1, hF⟩
theorem main_1_2 : Claimed_1_2 := comes_1 fun _ _ _ _ _ _ h hF => ⟨h.2.1, hF⟩
end Jvm.Pilot.@@N@@
namespace Jvm.Pilot.@@N@@
open Jvm Jvm.ClassFile Sem Op Lib Jvm.Free Jvm.Stand Jvm.Pilot.@@N@@.Jvm.D
/-! MADE BY PROGRAM (witnessworld.py) out of the Statement's table words and the real class files: 9 classes; the members and pool entries that the words name. The judged class is class 1, her method 1. -/
namespace start1
open Jvm.ClassFile
def u (s : String) : CpInfo := .utf8 (stringToUtf16 s)
/-- a pool by its gaps: so many unusable entries, then the entry; so many at the end -/
def gap : Nat → List CpInfo → List CpInfo
  | 0, r => r
  | n + 1, r => .unusable :: gap n r
def poolList (es : List (Nat × CpInfo)) (last : Nat) : List CpInfo := es.foldr (fun e r => gap e.1 (e.2 :: r)) (gap last [])
def pool (es : List (Nat × CpInfo)) (last : Nat) : Array CpInfo := ⟨poolList es last⟩
def fileOf (pool : Array CpInfo) (this : Nat) (attrs : Array Attribute := #[]) (ms : Array MethodInfo := #[]) (fl : Nat := 33) (sup : Nat := 0) (ifs : Array Nat := #[]) (fds : Array FieldInfo := #[]) : ClassFile where
  minorVersion := 0
  majorVersion := 65
  constantPool := pool
  accessFlags := fl
  thisClass := this
  superClass := sup
  interfaces := ifs
  fields := fds
  methods := ms
  attributes := attrs
def plain (name : String) (sup : Option ClassId) : Class where
  name := name
  kind := .ordinary
  loader := none
  accessFlags := 33
  super := sup
  interfaces := #[]
  cf := none
  fields := #[]
  methods := #[]
  instanceTypes := #[]
  staticTypes := #[]
  resolved := #[]
  callSites := []
  init := .initialized
  statics := none
  mirror := none

def pool0 : Array CpInfo := pool [(5, u "<init>"), (0, u "()V"), (1, .class_ 10), (1, u "java/lang/Object")] 113

def k0m0 : Method := { name := "<init>", desc := "()V", sig := { parameters := [], returnType := none }, accessFlags := 1, code := none }
/-- java/lang/Object -/
def k0 : Class := { plain "java/lang/Object" none with
  accessFlags := 33
  interfaces := #[]
  cf := some (fileOf pool0 8 #[] #[{ accessFlags := 1, nameIndex := 5, descriptorIndex := 6, attributes := #[] }] 33 0 #[] #[])
  fields := #[]
  methods := #[k0m0]
  instanceTypes := #[]
  staticTypes := #[]
  resolved := Array.replicate 124 none
  statics := none }

def pool1 : Array CpInfo := pool [(2, .class_ 4), (1, u "java/lang/Object"), (0, u "<init>"), (0, u "()V"), (0, .long 18446744073709551615), (1, .methodref 10 11), (0, .class_ 12), (0, .nameAndType 13 14), (0, u "com/example/penelope/penelope/Codec"), (0, u "getLong"), (0, u "([BI)J"), (0, .methodref 10 16), (0, .nameAndType 17 18), (0, u "longBytes"), (0, u "(J)[B"), (0, .class_ 20), (0, u "com/example/penelope/penelope/CodecGetLongPinLaw"), (2, u "law"), (0, u "(JIJ)Z")] 5

def k1m0 : Method := { name := "<init>", desc := "()V", sig := { parameters := [], returnType := none }, accessFlags := 2, code := none }
def k1c1 : Code := { maxStack := 6, maxLocals := 9, code := code, exceptionTable := #[], attributes := #[] }
def k1m1 : Method := { name := "law", desc := "(JIJ)Z", sig := { parameters := [.long, .int, .long], returnType := some .boolean }, accessFlags := 9, code := some k1c1 }
/-- com/example/penelope/penelope/CodecGetLongPinLaw -/
def k1 : Class := { plain "com/example/penelope/penelope/CodecGetLongPinLaw" (some 0) with
  accessFlags := 49
  interfaces := #[]
  cf := some (fileOf pool1 19 #[] #[{ accessFlags := 2, nameIndex := 5, descriptorIndex := 6, attributes := #[] }, { accessFlags := 9, nameIndex := 23, descriptorIndex := 24, attributes := #[] }] 49 2 #[] #[])
  fields := #[]
  methods := #[k1m0, k1m1]
  instanceTypes := #[]
  staticTypes := #[]
  resolved := Array.replicate 30 none
  statics := none }

def pool2 : Array CpInfo := pool [(2, .class_ 4), (1, u "java/lang/Object"), (0, u "<init>"), (0, u "()V"), (2, .methodref 10 11), (0, .class_ 12), (0, .nameAndType 13 14), (0, u "com/example/penelope/penelope/Codec"), (0, u "putLong"), (0, u "([BIJ)V"), (2, u "longBytes"), (0, u "(J)[B"), (1, u "getLong"), (0, u "([BI)J"), (3, .class_ 26), (0, u "com/example/penelope/penelope/Codec$Reader"), (0, .class_ 28), (0, u "com/example/penelope/penelope/Codec$Writer"), (0, .class_ 30), (0, u "com/example/penelope/penelope/Codec$Bytes")] 4

def k2m0 : Method := { name := "<init>", desc := "()V", sig := { parameters := [], returnType := none }, accessFlags := 2, code := none }
def k2c1 : Code := { maxStack := 4, maxLocals := 3, code := prog_2_method_2_code, exceptionTable := #[], attributes := #[] }
def k2m1 : Method := { name := "longBytes", desc := "(J)[B", sig := { parameters := [.long], returnType := some (.array .byte) }, accessFlags := 8, code := some k2c1 }
def k2c2 : Code := { maxStack := 4, maxLocals := 5, code := prog_2_method_3_code, exceptionTable := #[], attributes := #[] }
def k2m2 : Method := { name := "putLong", desc := "([BIJ)V", sig := { parameters := [(.array .byte), .int, .long], returnType := none }, accessFlags := 8, code := some k2c2 }
def k2c3 : Code := { maxStack := 5, maxLocals := 5, code := prog_2_method_4_code, exceptionTable := #[], attributes := #[] }
def k2m3 : Method := { name := "getLong", desc := "([BI)J", sig := { parameters := [(.array .byte), .int], returnType := some .long }, accessFlags := 8, code := some k2c3 }
/-- com/example/penelope/penelope/Codec -/
def k2 : Class := { plain "com/example/penelope/penelope/Codec" (some 0) with
  accessFlags := 48
  interfaces := #[]
  cf := some (fileOf pool2 10 #[.nestMembers #[25, 27, 29]] #[{ accessFlags := 2, nameIndex := 5, descriptorIndex := 6, attributes := #[] }, { accessFlags := 8, nameIndex := 17, descriptorIndex := 18, attributes := #[] }, { accessFlags := 8, nameIndex := 13, descriptorIndex := 14, attributes := #[] }, { accessFlags := 8, nameIndex := 20, descriptorIndex := 21, attributes := #[] }] 48 2 #[] #[])
  fields := #[]
  methods := #[k2m0, k2m1, k2m2, k2m3]
  instanceTypes := #[]
  staticTypes := #[]
  resolved := Array.replicate 35 none
  statics := none }

def pool3 : Array CpInfo := pool [(1, u "java/lang/Cloneable"), (0, .class_ 1), (0, u "java/lang/Object"), (0, .class_ 3)] 3

/-- java/lang/Cloneable -/
def k3 : Class := { plain "java/lang/Cloneable" (some 0) with
  accessFlags := 1537
  interfaces := #[]
  cf := some (fileOf pool3 2 #[] #[] 1537 4 #[] #[])
  fields := #[]
  methods := #[]
  instanceTypes := #[]
  staticTypes := #[]
  resolved := Array.replicate 8 none
  statics := none }

def pool4 : Array CpInfo := pool [(1, u "java/io/Serializable"), (0, .class_ 1), (0, u "java/lang/Object"), (0, .class_ 3)] 3

/-- java/io/Serializable -/
def k4 : Class := { plain "java/io/Serializable" (some 0) with
  accessFlags := 1537
  interfaces := #[]
  cf := some (fileOf pool4 2 #[] #[] 1537 4 #[] #[])
  fields := #[]
  methods := #[]
  instanceTypes := #[]
  staticTypes := #[]
  resolved := Array.replicate 8 none
  statics := none }

/-- the primitive byte -/
def k5 : Class := { plain "byte" none with kind := .primitive 'B', accessFlags := 0x411 }
/-- [B -/
def k6 : Class := { plain "[B" (some 0) with kind := .array 5 .byte, interfaces := #[3, 4], accessFlags := 1041 }

/-- the primitive int -/
def k7 : Class := { plain "int" none with kind := .primitive 'I', accessFlags := 0x411 }
/-- [I -/
def k8 : Class := { plain "[I" (some 0) with kind := .array 7 .int, interfaces := #[3, 4], accessFlags := 1041 }

def heap : Heap := #[]
def classes : Array Class := #[k0, k1, k2, k3, k4, k5, k6, k7, k8]
def interned : List (Array UInt16 × Addr) := []
def slotsUsed : Nat := 0
def theMethod : MethodId := ⟨1, 1⟩
def args0 : Array Value := #[.long 5, .int 7, .long 1]
def aboutOver (below : List Frame) : State where
  vm := { classes := classes, interned := interned.toArray }
  heap := heap
  slotsUsed := slotsUsed
  threads := #[{ frames := .invoking theMethod args0 :: below }]
def below0 : List Frame := [.native { method := ⟨0, 0⟩, args := #[] }]
def about1 : State := aboutOver below0
def p0 : Program := .bare "" "" ""
def e0 : Env := launch0.env 0 0 0
theorem w_frames : about1.frames = Frame.invoking theMethod args0 :: below0 := rfl
set_option maxRecDepth 65536 in
theorem w_args : argsFit about1.vm theMethod args0 = true := by decide +kernel
set_option maxRecDepth 65536 in
theorem w_heap : heapFits about1 = true := by decide +kernel
set_option maxRecDepth 65536 in
theorem w_runnable : about1.curStatus? = some .runnable := by decide +kernel
set_option maxRecDepth 65536 in
theorem w_alone : about1.alone = true := by decide +kernel
set_option maxRecDepth 65536 in
theorem w_named : about1.methodNamed? x = some theMethod := by decide +kernel
set_option maxRecDepth 65536 in
theorem w_hears : about1.hears theMethod below0 = true := by decide +kernel
set_option maxRecDepth 65536 in
theorem w_ripe : about1.ripe theMethod args0 below0 = true := by decide +kernel
theorem w_running : about1.status = .running := rfl
set_option maxRecDepth 65536 in
theorem w_room : about1.hasRoom e0.platform room_1 = true :=
  launch0.hasRoom_least _ room_1 (by decide +kernel) (by decide +kernel) (by decide +kernel) (by decide +kernel) (by decide +kernel) (by decide +kernel)
theorem allAtoms_all (ts : List Jvm.Cond) (a : Array Jvm.Value) (st : Jvm.State) : (allAtoms ts).before a st = ts.all (fun c => c.before a st) := by
  induction ts with
  | nil => rfl
  | cons c t ih =>
    show (Jvm.Cond.and c (allAtoms t)).before a st = _
    rw [Jvm.Cond.before_and, ih, List.all_cons]
def words1 : List Jvm.Cond := Jvm.Cond.code x code maxLocals ret :: tables_1
/-- a 'code' word, met by the world's own term for the bytes: nothing is compared byte by byte -/
theorem code_word {y : MethodName} {bytes : ByteArray} {mx : Nat} {rt : Option FieldType} {a : Array Value} {s : State} {m : MethodId} {meth : Method} {c : Code} (h1 : s.methodNamed? y = some m) (h2 : s.vm.method? m = some meth) (h3 : meth.code = some c) (h4 : c.code = bytes)
    (h5 : (c.maxLocals == mx && c.exceptionTable.isEmpty && decide (c.maxStack ≤ mostOperands) && decide (meth.sig.returnType = rt) && !meth.locks && decide (parseMethodDescriptor y.desc = some meth.sig)) = true) : (Jvm.Cond.code y bytes mx rt).before a s = true := by
  simp only [Bool.and_eq_true, beq_iff_eq, Bool.not_eq_true', decide_eq_true_eq] at h5
  obtain ⟨⟨⟨⟨⟨g1, g2⟩, g3⟩, g4⟩, g5⟩, g6⟩ := h5
  simp [Cond.before, Cond.holds, Cond.value, h1, h2, h3, h4, g1, g2, g3, g4, g5, g6]
def isCode : Jvm.Cond → Bool
  | .code _ _ _ _ => true
  | _ => false
theorem all_split {L : List Jvm.Cond} {P : Jvm.Cond → Bool} (h1 : L.all (fun c => isCode c || P c) = true) (h2 : ∀ c ∈ L.filter isCode, P c = true) : L.all P = true := by
  refine List.all_eq_true.mpr fun c hc => ?_
  have h := List.all_eq_true.mp h1 c hc
  rcases Bool.eq_false_or_eq_true (isCode c) with hi | hi
  · exact h2 c (List.mem_filter.mpr ⟨hc, hi⟩)
  · simpa [hi] using h
set_option maxRecDepth 65536 in
theorem w_c0 : (Jvm.Cond.code x code maxLocals ret).before args0 about1 = true := code_word (m := ⟨1, 1⟩) (meth := k1m1) (c := k1c1) (by decide +kernel) rfl rfl rfl (by decide +kernel)
set_option maxRecDepth 65536 in
theorem w_c1 : (Jvm.Cond.code ({ cls := "com/example/penelope/penelope/Codec", name := "getLong", desc := "([BI)J" } : Jvm.MethodName) prog_2_method_4_code (5 : Nat) (Option.some Jvm.ClassFile.FieldType.long)).before args0 about1 = true := code_word (m := ⟨2, 3⟩) (meth := k2m3) (c := k2c3) (by decide +kernel) rfl rfl rfl (by decide +kernel)
set_option maxRecDepth 65536 in
theorem w_c2 : (Jvm.Cond.code ({ cls := "com/example/penelope/penelope/Codec", name := "longBytes", desc := "(J)[B" } : Jvm.MethodName) prog_2_method_2_code (3 : Nat) (Option.some (Jvm.ClassFile.FieldType.array Jvm.ClassFile.FieldType.byte))).before args0 about1 = true := code_word (m := ⟨2, 1⟩) (meth := k2m1) (c := k2c1) (by decide +kernel) rfl rfl rfl (by decide +kernel)
set_option maxRecDepth 65536 in
theorem w_c3 : (Jvm.Cond.code ({ cls := "com/example/penelope/penelope/Codec", name := "putLong", desc := "([BIJ)V" } : Jvm.MethodName) prog_2_method_3_code (5 : Nat) (Option.none : Option Jvm.ClassFile.FieldType)).before args0 about1 = true := code_word (m := ⟨2, 2⟩) (meth := k2m2) (c := k2c2) (by decide +kernel) rfl rfl rfl (by decide +kernel)
def codes1 : List Jvm.Cond := [Jvm.Cond.code x code maxLocals ret, Jvm.Cond.code ({ cls := "com/example/penelope/penelope/Codec", name := "getLong", desc := "([BI)J" } : Jvm.MethodName) prog_2_method_4_code (5 : Nat) (Option.some Jvm.ClassFile.FieldType.long), Jvm.Cond.code ({ cls := "com/example/penelope/penelope/Codec", name := "longBytes", desc := "(J)[B" } : Jvm.MethodName) prog_2_method_2_code (3 : Nat) (Option.some (Jvm.ClassFile.FieldType.array Jvm.ClassFile.FieldType.byte)), Jvm.Cond.code ({ cls := "com/example/penelope/penelope/Codec", name := "putLong", desc := "([BIJ)V" } : Jvm.MethodName) prog_2_method_3_code (5 : Nat) (Option.none : Option Jvm.ClassFile.FieldType)]
set_option maxRecDepth 65536 in
theorem codes_eq : words1.filter isCode = codes1 := rfl
theorem w_codes : ∀ c ∈ words1.filter isCode, c.before args0 about1 = true := by
  rw [codes_eq]
  intro c hc
  simp only [codes1, List.mem_cons, List.not_mem_nil, or_false] at hc
  rcases hc with rfl | rfl | rfl | rfl
  · exact w_c0
  · exact w_c1
  · exact w_c2
  · exact w_c3
set_option maxRecDepth 65536 in
theorem w_t1 : words1.all (fun c => isCode c || c.before args0 about1) = true := by decide +kernel
theorem w_tables : (allAtoms (Jvm.Cond.code x code maxLocals ret :: tables_1)).before args0 about1 = true := by
  rw [allAtoms_all]
  show words1.all (fun c => c.before args0 about1) = true
  refine all_split ?_ w_codes
  rw [w_t1]
set_option maxRecDepth 65536 in
theorem w_case : (Jvm.Cond.and given_1 narrow_1).before args0 about1 = true := by decide +kernel
theorem w_applies : (headSpec (Jvm.Cond.code x code maxLocals ret :: tables_1) room_1).applies x e0.platform about1 = true :=
  (Spec.applies_iff w_frames).mpr ⟨w_running, w_runnable, w_alone, w_named, w_hears, w_ripe, w_room, w_tables⟩
theorem atStart : AtStart classFile x code maxLocals ret World_1 tables_1 room_1 Calls_1 rest_1 Pre_1 launch0 p0 e0 about1 theMethod args0 below0 :=
  ⟨lists_1, trivial, launch0.admits_env _ _ _, launch0.least_env, fairChoices_fair.cas, fairChoices_fair.clock, w_frames, w_args, w_heap, w_applies, trivial, trivial, w_case⟩
end start1
theorem witness_1 : WitnessClaimed_1 := ⟨start1.p0, start1.e0, start1.about1, start1.theMethod, start1.args0, start1.below0, start1.atStart⟩
end Jvm.Pilot.@@N@@
