import JvmDerived
import JvmDerived.Pilot.@@N@@Statement
import JvmDerived.Pilot.@@N@@Code
set_option linter.unusedVariables false
set_option linter.unusedSimpArgs false
namespace Jvm.RoadKit
open Sem ClassFile Op Lib Jvm.Stand Jvm.Free Jvm.LawKit
section Own
variable {p : Program} {l : Launch} {e : Env} {R : Room} {s : State} {m : MethodId} {args : Array Value} {below : List Frame} {meth : Method} {c : Code} {T : State} {locs : List Loc} {cells slots : Nat}
/-- from U the run ends, and Q holds of what it returns -/
def Outs (p : Program) (e : Env) (below : List Frame) (s : State) (Q : Option Value → Heap → List Loc → Prop) (C S : Nat) (U : State) : Prop :=
  ∃ s₂ o, Steps p.tables e below U s₂ ∧ s₂.status = .running ∧ Ended s₂ below o ∧ ∃ v L, o = .returned v ∧ Q v s₂.heap L ∧ FrameEnd s o s₂ L C S
variable {Q : Option Value → Heap → List Loc → Prop} {C S : Nat}
theorem Outs.of {U U' : State} (h : ∀ t, Steps p.tables e below U' t → Steps p.tables e below U t) (k : Outs p e below s Q C S U') : Outs p e below s Q C S U := by
  obtain ⟨t, o, st, r⟩ := k
  exact ⟨t, o, h t st, r⟩
theorem Outs.to {U U' : State} (h : Steps p.tables e below U U') (k : Outs p e below s Q C S U') : Outs p e below s Q C S U := by
  obtain ⟨t, o, st, r⟩ := k
  exact ⟨t, o, h.trans st, r⟩
theorem Outs.mono {U : State} {Q' : Option Value → Heap → List Loc → Prop} (k : Outs p e below s Q C S U) (h : ∀ v h L, Q v h L → Q' v h L) : Outs p e below s Q' C S U := by
  obtain ⟨t, o, st, h1, h2, v, L, h3, h4, h5⟩ := k
  exact ⟨t, o, st, h1, h2, v, L, h3, h _ _ _ h4, h5⟩
theorem Outs.ret (X : Stand p l e R s m args below meth c T locs cells slots) {g : JFrame} {v : Option Value} (hv : meth.sig.returnType = none → v = none) (hlk : meth.locks = false) (hC : cells ≤ C) (hS : slots ≤ S)
    (st : ∀ fs, (∀ (f : JFrame) (acts : List Action), f.method = m → f.locked = none → f.entered = [] → (doReturn e (T.setTop f) acts v).1 = T.setFrames fs) → Steps p.tables e below (T.setTop g) (T.setFrames fs))
    {h : Heap} (eT : T.heap = h) (q : Q v h locs) : Outs p e below s Q C S (T.setTop g) := by
  subst eT
  obtain ⟨fs, hr, hrun, hended, hW, hsame⟩ := X.leave (v := v) hv hlk
  exact ⟨_, _, st fs hr, hrun, hended, v, locs, rfl, q, ⟨_, rfl⟩, hW, hsame.mono hC hS⟩
theorem Outs.retI (X : Stand p l e R s m args below meth c T locs cells slots) (hx : p.tables.exec = Jvm.exec) {pc : Nat} {Ls : Array Slot} {z : Int32} {rest : List Value} (hret : meth.sig.returnType = some .int) (hd : decode c.code pc = .ok (.ireturn, 1)) (hlk : meth.locks = false) (hC : cells ≤ C) (hS : slots ≤ S)
    {h : Heap} (eT : T.heap = h) (q : Q (some (.int z)) h locs) : Outs p e below s Q C S (T.setTop (mkF m pc Ls (.int z :: rest))) :=
  Outs.ret X (fun h => by rw [hret] at h; cases h) hlk hC hS (fun fs hl => retOut X hx hret rfl (Or.inl ⟨rfl, Or.inl rfl, z, rfl⟩) hd hl) eT q
theorem Outs.retL (X : Stand p l e R s m args below meth c T locs cells slots) (hx : p.tables.exec = Jvm.exec) {pc : Nat} {Ls : Array Slot} {z : Int64} {rest : List Value} (hret : meth.sig.returnType = some .long) (hd : decode c.code pc = .ok (.lreturn, 1)) (hlk : meth.locks = false) (hC : cells ≤ C) (hS : slots ≤ S)
    {h : Heap} (eT : T.heap = h) (q : Q (some (.long z)) h locs) : Outs p e below s Q C S (T.setTop (mkF m pc Ls (.long z :: rest))) :=
  Outs.ret X (fun h => by rw [hret] at h; cases h) hlk hC hS (fun fs hl => retOut X hx hret rfl (Or.inr (Or.inl ⟨rfl, rfl, z, rfl⟩)) hd hl) eT q
theorem Outs.retN (X : Stand p l e R s m args below meth c T locs cells slots) (hx : p.tables.exec = Jvm.exec) {pc : Nat} {Ls : Array Slot} {z : Int32} {t : FieldType} {rest : List Value} (hret : meth.sig.returnType = some t) (ht : t = .boolean ∨ t = .byte ∨ t = .char ∨ t = .short) (hd : decode c.code pc = .ok (.ireturn, 1)) (hlk : meth.locks = false) (hC : cells ≤ C) (hS : slots ≤ S)
    {h : Heap} (eT : T.heap = h) (q : Q (some (.int (nar t z))) h locs) : Outs p e below s Q C S (T.setTop (mkF m pc Ls (.int z :: rest))) :=
  Outs.ret X (fun h => by rw [hret] at h; cases h) hlk hC hS (fun fs hl => Jvm.RoadKit.retN X hx hret ht hd hl) eT q
theorem Outs.retV (X : Stand p l e R s m args below meth c T locs cells slots) (hx : p.tables.exec = Jvm.exec) {pc : Nat} {Ls : Array Slot} (hret : meth.sig.returnType = none) (hd : decode c.code pc = .ok (.return_, 1)) (hlk : meth.locks = false) (hC : cells ≤ C) (hS : slots ≤ S)
    {h : Heap} (eT : T.heap = h) (q : Q none h locs) : Outs p e below s Q C S (T.setTop (mkF m pc Ls [])) :=
  Outs.ret X (fun _ => rfl) hlk hC hS (fun fs hl => X.returnOut hx hret hd hl) eT q
theorem Outs.retA (X : Stand p l e R s m args below meth c T locs cells slots) (hx : p.tables.exec = Jvm.exec) {pc : Nat} {Ls : Array Slot} {w : Value} {t : FieldType} {rest : List Value} (hret : meth.sig.returnType = some t) (ht : t.isReference = true) (hw : w.isRef = true) (hn : narrow t w = w) (hd : decode c.code pc = .ok (.areturn, 1)) (hlk : meth.locks = false) (hC : cells ≤ C) (hS : slots ≤ S)
    {h : Heap} (eT : T.heap = h) (q : Q (some w) h locs) : Outs p e below s Q C S (T.setTop (mkF m pc Ls (w :: rest))) :=
  Outs.ret X (fun h => by rw [hret] at h; cases h) hlk hC hS (fun fs hl => retOut X hx hret hn (Or.inr (Or.inr (Or.inr (Or.inr ⟨rfl, ht, hw⟩)))) hd hl) eT q
theorem lremM {g : JFrame} {target : State} (X : Stand p l e R s m args below meth c T locs cells slots) (hx : p.tables.exec = Jvm.exec) (hg : g.method = m) {x y : Int64} {rest : List Value} (hd : decode c.code g.pc = .ok (.lrem, 1)) (hs : g.stack = .long y :: .long x :: rest) (hy : y ≠ 0)
    (hr : Steps p.tables e below (T.setTop { g with pc := g.pc + 1, stack := .long (x % y) :: rest }) target) : Steps p.tables e below (T.setTop g) target :=
  XS.lrem X.here hx hg hd hs hy (by rw [lrem_mod]; exact hr)
/-- a body that returns v and leaves the heap as it was -/
def QR (z : Option Value) (h0 : Heap) (n0 : Nat) (v : Option Value) (h : Heap) (L : List Loc) : Prop := v = z ∧ Fr n0 L ∧ h = h0
/-- the law's own -/
def QL (n0 : Nat) (v : Option Value) (h : Heap) (L : List Loc) : Prop := v = some (.int 1) ∧ Fr n0 L
end Own
end Jvm.RoadKit
namespace Jvm.RoadKit
open Sem ClassFile Op Lib Jvm.Stand Jvm.Free Jvm.LawKit
section OwnHeap
variable {p : Program} {l : Launch} {e : Env} {R : Room} {s : State} {m : MethodId} {args : Array Value} {below : List Frame} {meth : Method} {c : Code} {T : State} {locs : List Loc} {cells slots : Nat} {Z : State} {a0 : Array Value} {h h' : Heap} {a b : Addr} {ty : FieldType} {n : Nat}
def upv {α : Type} (g : Nat → α) (k : Nat) (v : α) : Nat → α := fun j => if j = k then v else g j
theorem upv_same {α : Type} (g : Nat → α) (k : Nat) (v : α) : upv g k v k = v := if_pos rfl
theorem upv_ne {α : Type} (g : Nat → α) {k j : Nat} (v : α) (q : j ≠ k) : upv g k v j = g j := if_neg q
/-- an array of n places; place j holds f j -/
def AF (Z : State) (h : Heap) (a : Addr) (ty : FieldType) (n : Nat) (f : Nat → Value) : Prop :=
  ∃ c : Cell, Arr Z h a c ty ∧ c.slots.size = n ∧ n < 2147483648 ∧ ∀ j, j < n → c.slots[j]? = some (f j)
def AI (Z : State) (h : Heap) (a : Addr) (ty : FieldType) (n : Nat) (g : Nat → Int32) : Prop := AF Z h a ty n (fun j => .int (g j))
def AJ (Z : State) (h : Heap) (a : Addr) (ty : FieldType) (n : Nat) (g : Nat → Int64) : Prop := AF Z h a ty n (fun j => .long (g j))
theorem AF.lt {f : Nat → Value} (F : AF Z h a ty n f) : a < h.size := by obtain ⟨c, A, -⟩ := F; exact A.lt
theorem AF.ext {f : Nat → Value} (F : AF Z h a ty n f) (E : Ext h h') : AF Z h' a ty n f := by obtain ⟨c, A, r⟩ := F; exact ⟨c, A.ext E, r⟩
theorem AF.other {f : Nat → Value} {sl : Nat} {v : Value} (F : AF Z h b ty n f) (W : Wr h h' a sl v) (q : b ≠ a) : AF Z h' b ty n f := by obtain ⟨c, A, r⟩ := F; exact ⟨c, A.other W q, r⟩
theorem AF.keep {f : Nat → Value} {ws : List Addr} (F : AF Z h a ty n f) (K : Keep h h' ws) (q : a ∉ ws) : AF Z h' a ty n f := by obtain ⟨c, A, r⟩ := F; exact ⟨c, ⟨K.2.1 a c A.1 q, A.2⟩, r⟩
theorem AF.len {f : Nat → Value} (F : AF Z h a ty n f) : n < 2147483648 := by obtain ⟨c, A, -, M, -⟩ := F; exact M
theorem AF.cong {f f' : Nat → Value} (F : AF Z h a ty n f) (q : ∀ j, j < n → f j = f' j) : AF Z h a ty n f' := by
  obtain ⟨c, A, S, M, G⟩ := F
  exact ⟨c, A, S, M, fun j hj => by rw [← q j hj]; exact G j hj⟩
theorem AI.cong {g g' : Nat → Int32} (F : AI Z h a ty n g) (q : ∀ j, j < n → g j = g' j) : AI Z h a ty n g' := AF.cong F fun j hj => by rw [q j hj]
theorem AJ.cong {g g' : Nat → Int64} (F : AJ Z h a ty n g) (q : ∀ j, j < n → g j = g' j) : AJ Z h a ty n g' := AF.cong F fun j hj => by rw [q j hj]
theorem own_nat {j : Int32} {k : Nat} (hk : j.toInt = k) : j.toNatClampNeg = k := by
  show j.toInt.toNat = k
  rw [hk]; rfl
theorem own_in {cl : Cell} {j : Int32} {k : Nat} (S : cl.slots.size = n) (hk : j.toInt = k) (hn : k < n) : ¬ (j < 0 ∨ cl.slots.size ≤ j.toNatClampNeg) := by
  rw [own_nat hk, S, Int32.lt_iff_toInt_lt, hk]
  have : (0 : Int32).toInt = 0 := rfl
  omega
theorem AF.set {f : Nat → Value} {k : Nat} {v : Value} (F : AF Z h a ty n f) (W : Wr h h' a k v) : AF Z h' a ty n (upv f k v) := by
  obtain ⟨c, A, S, M, G⟩ := F
  refine ⟨c.setSlot k v, A.same W, by rw [sz_set]; exact S, M, fun j hj => ?_⟩
  have hz : j < c.slots.size := by omega
  simp only [Cell.setSlot, upv, Array.getElem?_setIfInBounds]
  by_cases q : j = k
  · subst q; simp [hz]
  · rw [if_neg (Ne.symm q), if_neg q]; exact G j hj
theorem AI.set {g : Nat → Int32} {k : Nat} {x : Int32} (F : AI Z h a ty n g) (W : Wr h h' a k (.int x)) : AI Z h' a ty n (upv g k x) :=
  AF.cong (AF.set F W) fun j _ => by simp only [upv]; split <;> rfl
theorem AJ.set {g : Nat → Int64} {k : Nat} {x : Int64} (F : AJ Z h a ty n g) (W : Wr h h' a k (.long x)) : AJ Z h' a ty n (upv g k x) :=
  AF.cong (AF.set F W) fun j _ => by simp only [upv]; split <;> rfl
theorem AF.fresh {k : ClassId} {z : Int32} {i : Nat} (A : Arr Z h a (newA k ty z) ty) (q : z.toInt = i) : AF Z h a ty i (fun _ => defaultValue ty) := by
  have S : (newA k ty z).slots.size = i := by rw [sz_new, own_nat q]
  refine ⟨_, A, S, ?_, fun j hj => ?_⟩
  · have := z.toInt_lt; omega
  · have hz : j < (newA k ty z).slots.size := by omega
    simp only [newA] at hz ⊢
    rw [Array.getElem?_eq_getElem hz]; simp
section Loads
theorem ldI (X : Stand p l e R s m args below meth c T locs cells slots) (hx : p.tables.exec = Jvm.exec) (hZ : Z.Warmed39 s.vm) (eT : T.heap = h) {g : Nat → Int32} (F : AI Z h a .int n g) {j : Int32} {k : Nat} (hk : j.toInt = k) (hn : k < n) {f : JFrame} (hg : f.method = m) {rest : List Value} (hs : f.stack = .int j :: .ref a :: rest) (hd : decode c.code f.pc = .ok (.iaload, 1)) :
    ∀ target, Steps p.tables e below (T.setTop { f with pc := f.pc + 1, stack := .int (g k) :: rest }) target → Steps p.tables e below (T.setTop f) target := by
  obtain ⟨cl, A, S, M, G⟩ := F
  intro target kt
  exact X.iaload hx (by rw [eT]; exact A.1) (State.isArrayOf_alike hZ.alike A.2.1) A.2.2 (own_in S hk hn) (by rw [own_nat hk]; exact G k hn) hg hs hd target kt
theorem ldB (X : Stand p l e R s m args below meth c T locs cells slots) (hx : p.tables.exec = Jvm.exec) (hZ : Z.Warmed39 s.vm) (eT : T.heap = h) {g : Nat → Int32} (F : AI Z h a .byte n g) {j : Int32} {k : Nat} (hk : j.toInt = k) (hn : k < n) {f : JFrame} (hg : f.method = m) {rest : List Value} (hs : f.stack = .int j :: .ref a :: rest) (hd : decode c.code f.pc = .ok (.baload, 1)) :
    ∀ target, Steps p.tables e below (T.setTop { f with pc := f.pc + 1, stack := .int (g k) :: rest }) target → Steps p.tables e below (T.setTop f) target := by
  obtain ⟨cl, A, S, M, G⟩ := F
  intro target kt
  exact X.baloadBytes hx (by rw [eT]; exact A.1) (State.isArrayOf_alike hZ.alike A.2.1) A.2.2 (own_in S hk hn) (by rw [own_nat hk]; exact G k hn) hg hs hd target kt
theorem ldJ (X : Stand p l e R s m args below meth c T locs cells slots) (hx : p.tables.exec = Jvm.exec) (hZ : Z.Warmed39 s.vm) (eT : T.heap = h) {g : Nat → Int64} (F : AJ Z h a .long n g) {j : Int32} {k : Nat} (hk : j.toInt = k) (hn : k < n) {f : JFrame} (hg : f.method = m) {rest : List Value} (hs : f.stack = .int j :: .ref a :: rest) (hd : decode c.code f.pc = .ok (.laload, 1)) :
    ∀ target, Steps p.tables e below (T.setTop { f with pc := f.pc + 1, stack := .long (g k) :: rest }) target → Steps p.tables e below (T.setTop f) target := by
  obtain ⟨cl, A, S, M, G⟩ := F
  intro target kt
  exact X.laload hx (by rw [eT]; exact A.1) (State.isArrayOf_alike hZ.alike A.2.1) A.2.2 (own_in S hk hn) (by rw [own_nat hk]; exact G k hn) hg hs hd target kt
theorem ldR (X : Stand p l e R s m args below meth c T locs cells slots) (hx : p.tables.exec = Jvm.exec) (hZ : Z.Warmed39 s.vm) (eT : T.heap = h) {g : Nat → Value} (F : AF Z h a ty n g) (hty : ty.isReference = true) {j : Int32} {k : Nat} (hk : j.toInt = k) (hn : k < n) {f : JFrame} (hg : f.method = m) {rest : List Value} (hs : f.stack = .int j :: .ref a :: rest) (hd : decode c.code f.pc = .ok (.aaload, 1)) :
    ∀ target, Steps p.tables e below (T.setTop { f with pc := f.pc + 1, stack := g k :: rest }) target → Steps p.tables e below (T.setTop f) target := by
  obtain ⟨cl, A, S, M, G⟩ := F
  intro target kt
  exact X.aaload hx (by rw [eT]; exact A.1) (State.isArrayOf_alike hZ.alike A.2.1) hty A.2.2 (own_in S hk hn) (by rw [own_nat hk]; exact G k hn) hg hs hd target kt
theorem alen (X : Stand p l e R s m args below meth c T locs cells slots) (hx : p.tables.exec = Jvm.exec) (hZ : Z.Warmed39 s.vm) (eT : T.heap = h) {g : Nat → Value} (F : AF Z h a ty n g) {z : Int32} (hz : z.toInt = n) {f : JFrame} (hg : f.method = m) {rest : List Value} (hs : f.stack = .ref a :: rest) (hd : decode c.code f.pc = .ok (.arraylength, 1)) :
    ∀ target, Steps p.tables e below (T.setTop { f with pc := f.pc + 1, stack := .int z :: rest }) target → Steps p.tables e below (T.setTop f) target := by
  obtain ⟨cl, A, S, M, G⟩ := F
  intro target kt
  have h0 : ¬ z < 0 := by
    rw [Int32.lt_iff_toInt_lt, hz]
    have : (0 : Int32).toInt = 0 := rfl
    omega
  have q : cl.slots.size.toInt32 = z := by rw [S, ← own_nat hz]; exact (back32 h0).1
  refine X.arraylength hx (by rw [eT]; exact A.1) (State.isArrayOf_alike hZ.alike A.2.1) hg hs hd target ?_
  rw [q]; exact kt
end Loads
section Stores
theorem puI (X : Stand p l e R s m args below meth c T locs cells slots) (hx : p.tables.exec = Jvm.exec) (hZ : Z.Warmed39 s.vm) (eT : T.heap = h) {g : Nat → Int32} (F : AI Z h a .int n g) {j x : Int32} {k : Nat} (hk : j.toInt = k) (hn : k < n) {f : JFrame} (hg : f.method = m) {rest : List Value} (hs : f.stack = .int x :: .int j :: .ref a :: rest) (hd : decode c.code f.pc = .ok (.iastore, 1)) :
    ∃ T' h', Stand p l e R s m args below meth c T' (locs ++ [⟨a, k⟩]) cells slots ∧ T'.heap = h' ∧ Wr h h' a k (.int x) ∧ AI Z h' a .int n (upv g k x) ∧ ∀ target, Steps p.tables e below (T'.setTop { f with pc := f.pc + 1, stack := rest }) target → Steps p.tables e below (T.setTop f) target := by
  obtain ⟨cl, A, S, M, G⟩ := id F
  obtain ⟨T', h', X', e', W, st⟩ := stI X hx hZ eT A (j := j) (own_in S hk hn) hg hs hd
  rw [own_nat hk] at X' W
  exact ⟨T', h', X', e', W, AI.set F W, st⟩
theorem puB (X : Stand p l e R s m args below meth c T locs cells slots) (hx : p.tables.exec = Jvm.exec) (hZ : Z.Warmed39 s.vm) (eT : T.heap = h) {g : Nat → Int32} (F : AI Z h a .byte n g) {j x : Int32} {k : Nat} (hk : j.toInt = k) (hn : k < n) {f : JFrame} (hg : f.method = m) {rest : List Value} (hs : f.stack = .int x :: .int j :: .ref a :: rest) (hd : decode c.code f.pc = .ok (.bastore, 1)) :
    ∃ T' h', Stand p l e R s m args below meth c T' (locs ++ [⟨a, k⟩]) cells slots ∧ T'.heap = h' ∧ Wr h h' a k (.int x.toInt8.toInt32) ∧ AI Z h' a .byte n (upv g k x.toInt8.toInt32) ∧ ∀ target, Steps p.tables e below (T'.setTop { f with pc := f.pc + 1, stack := rest }) target → Steps p.tables e below (T.setTop f) target := by
  obtain ⟨cl, A, S, M, G⟩ := id F
  obtain ⟨T', h', X', e', W, st⟩ := stB X hx hZ eT A (j := j) (own_in S hk hn) hg hs hd
  rw [own_nat hk] at X' W
  exact ⟨T', h', X', e', W, AI.set F W, st⟩
theorem puJ (X : Stand p l e R s m args below meth c T locs cells slots) (hx : p.tables.exec = Jvm.exec) (hZ : Z.Warmed39 s.vm) (eT : T.heap = h) {g : Nat → Int64} (F : AJ Z h a .long n g) {j : Int32} {x : Int64} {k : Nat} (hk : j.toInt = k) (hn : k < n) {f : JFrame} (hg : f.method = m) {rest : List Value} (hs : f.stack = .long x :: .int j :: .ref a :: rest) (hd : decode c.code f.pc = .ok (.lastore, 1)) :
    ∃ T' h', Stand p l e R s m args below meth c T' (locs ++ [⟨a, k⟩]) cells slots ∧ T'.heap = h' ∧ Wr h h' a k (.long x) ∧ AJ Z h' a .long n (upv g k x) ∧ ∀ target, Steps p.tables e below (T'.setTop { f with pc := f.pc + 1, stack := rest }) target → Steps p.tables e below (T.setTop f) target := by
  obtain ⟨cl, A, S, M, G⟩ := id F
  obtain ⟨T', h', X', e', W, st⟩ := stJ X hx hZ eT A (j := j) (own_in S hk hn) hg hs hd
  rw [own_nat hk] at X' W
  exact ⟨T', h', X', e', W, AJ.set F W, st⟩
theorem puR (X : Stand p l e R s m args below meth c T locs cells slots) (hx : p.tables.exec = Jvm.exec) (hZ : Z.Warmed39 s.vm) (eT : T.heap = h) {g : Nat → Value} (F : AF Z h a ty n g) (hty : ty.isReference = true) {j : Int32} {x : Value} (O : Sto Z h a x) {k : Nat} (hk : j.toInt = k) (hn : k < n) {f : JFrame} (hg : f.method = m) {rest : List Value} (hs : f.stack = x :: .int j :: .ref a :: rest) (hd : decode c.code f.pc = .ok (.aastore, 1)) :
    ∃ T' h', Stand p l e R s m args below meth c T' (locs ++ [⟨a, k⟩]) cells slots ∧ T'.heap = h' ∧ Wr h h' a k x ∧ AF Z h' a ty n (upv g k x) ∧ ∀ target, Steps p.tables e below (T'.setTop { f with pc := f.pc + 1, stack := rest }) target → Steps p.tables e below (T.setTop f) target := by
  obtain ⟨cl, A, S, M, G⟩ := id F
  obtain ⟨T', h', X', e', W, st⟩ := stR X hx hZ eT A (j := j) (own_in S hk hn) hty O hg hs hd
  rw [own_nat hk] at X' W
  exact ⟨T', h', X', e', W, AF.set F W, st⟩
theorem newAF (X : Stand p l e R s m args below meth c T locs cells slots) (hx : p.tables.exec = Jvm.exec) (hZ : Z.Warmed39 s.vm) {aty : ArrayType} (w : (Cond.arrayClass (newarray.typeOf aty)).before a0 Z = true) (eT : T.heap = h) {f : JFrame} (hg : f.method = m) (hd : decode c.code f.pc = .ok (.newarray aty, 2)) {z : Int32} {rest : List Value} (hs : f.stack = .int z :: rest)
    {k : Nat} (hk : z.toInt = k) {cap : Nat} (hcap : k ≤ cap) (hb : cap * 8 ≤ 536870912) (hc : cells + 1 ≤ R.cells) (hl : slots + cap ≤ R.slots) :
    ∃ T' h', Stand p l e R s m args below meth c T' locs (cells + 1) (slots + cap) ∧ T'.heap = h' ∧ Ext h h' ∧ AF Z h' h.size (newarray.typeOf aty) k (fun _ => defaultValue (newarray.typeOf aty)) ∧
      ∀ target, Steps p.tables e below (T'.setTop { f with pc := f.pc + 2, stack := .ref h.size :: rest }) target → Steps p.tables e below (T.setTop f) target := by
  have h0 : ¬ z < 0 := by
    rw [Int32.lt_iff_toInt_lt, hk]
    have : (0 : Int32).toInt = 0 := rfl
    omega
  obtain ⟨T', h', cA, X', e', E, A, st⟩ := newP X hx hZ w eT hg hd hs h0 (cap := cap) (by rw [own_nat hk]; exact hcap) hb hc hl
  exact ⟨T', h', X', e', E, AF.fresh A hk, st⟩
end Stores
theorem hide (X : Stand p l e R s m args below meth c T locs cells slots) {n0 : Nat} (N : Fr n0 locs) {C S : Nat} (hc : cells ≤ C) (hs : slots ≤ S) : ∃ L, Stand p l e R s m args below meth c T L C S ∧ Fr n0 L := ⟨locs, X.more hc hs, N⟩
theorem own_selects {args' : Array Value} {U : State} {y : MethodName} {k : Nat} (wi : (Cond.instantiable y.cls k).before args' U = true) (hpriv : U.PrivateAt y) (hinst : (Cond.instanceMethod y).before args' U = true) (hy : y.cls ≠ "java/lang/invoke/MethodHandle" ∧ y.cls ≠ "java/lang/invoke/VarHandle") : (Cond.selects y.cls y y).before args' U = true := by
  obtain ⟨c1, k1, i1, i2, -, i3, -⟩ := Cond.instantiable_spec wi
  have hni : k1.isInterface = false := by cases q : k1.isInterface <;> simp [q] at i3 ⊢
  exact Jvm.Stand.selects_self_of_private i1 i2 hni hpriv hinst hy
theorem isRef_cat {w : Value} (q : w.isRef = true) : w.category = 1 := by
  rcases ref_cases q with rfl | ⟨x, rfl⟩ <;> rfl
theorem mem1 {α : Type} (x : α) (L : List α) : x ∈ x :: L := List.mem_cons_self
theorem mem2 {α : Type} (x y : α) (L : List α) : x ∈ y :: x :: L := List.mem_cons_of_mem _ List.mem_cons_self
end OwnHeap
end Jvm.RoadKit
namespace Jvm.RoadKit
open Sem ClassFile Op Lib Jvm.Stand Jvm.Free Jvm.LawKit
section OwnClone
variable {p : Program} {l : Launch} {e : Env} {R : Room} {s : State} {m : MethodId} {args : Array Value} {below : List Frame} {meth : Method} {c : Code} {T : State} {locs : List Loc} {cells slots : Nat} {Z : State} {a0 : Array Value} {h h' : Heap} {a b : Addr} {ty : FieldType} {n : Nat}
theorem newAFE (X : Stand p l e R s m args below meth c T locs cells slots) (hx : p.tables.exec = Jvm.exec) (hZ : Z.Warmed39 s.vm) {aty : ArrayType} (w : (Cond.arrayClass (newarray.typeOf aty)).before a0 Z = true) (eT : T.heap = h) {f : JFrame} (hg : f.method = m) (hd : decode c.code f.pc = .ok (.newarray aty, 2)) {z : Int32} {rest : List Value} (hs : f.stack = .int z :: rest)
    {k : Nat} (hk : z.toInt = k) {cap : Nat} (hcap : k ≤ cap) (hb : cap * 8 ≤ 536870912) (hc : cells + 1 ≤ R.cells) (hl : slots + cap ≤ R.slots) {ad : String} (had : "[" ++ (newarray.typeOf aty).toString = ad) :
    ∃ T' h', Stand p l e R s m args below meth c T' locs (cells + 1) (slots + cap) ∧ T'.heap = h' ∧ Ext h h' ∧ AF Z h' h.size (newarray.typeOf aty) k (fun _ => defaultValue (newarray.typeOf aty)) ∧ Exa Z h' h.size ad ∧
      ∀ target, Steps p.tables e below (T'.setTop { f with pc := f.pc + 2, stack := .ref h.size :: rest }) target → Steps p.tables e below (T.setTop f) target := by
  have h0 : ¬ z < 0 := by
    rw [Int32.lt_iff_toInt_lt, hk]
    have : (0 : Int32).toInt = 0 := rfl
    omega
  obtain ⟨T', h', cA, X', e', E, A, Ex, st⟩ := newPE X hx hZ w eT hg hd hs h0 (cap := cap) (by rw [own_nat hk]; exact hcap) hb hc hl had
  exact ⟨T', h', X', e', E, AF.fresh A hk, Ex, st⟩
theorem cloneF (X : Stand p l e R s m args below meth c T locs cells slots) (hx : p.tables.exec = Jvm.exec) (hZ : Z.Warmed39 s.vm) {own ad : String} {index : Nat} (hown : s.vm.findClass own = some m.cls)
    (w1 : (Cond.methodLink own index ⟨ad, "clone", "()Ljava/lang/Object;"⟩).before a0 Z = true) (w2 : (Cond.sameMethod ad "java/lang/Object" "clone" "()Ljava/lang/Object;").before a0 Z = true) (w3 : (Cond.native ⟨"java/lang/Object", "clone", "()Ljava/lang/Object;"⟩).before a0 Z = true)
    (w4 : (Cond.instanceMethod ⟨"java/lang/Object", "clone", "()Ljava/lang/Object;"⟩).before a0 Z = true) (w5 : (Cond.selects ad ⟨ad, "clone", "()Ljava/lang/Object;"⟩ ⟨"java/lang/Object", "clone", "()Ljava/lang/Object;"⟩).before a0 Z = true) (w6 : (Cond.castable ad "java/lang/Cloneable").before a0 Z = true)
    (eT : T.heap = h) {g : Nat → Value} (F : AF Z h a ty n g) (E : Exa Z h a ad) (hfit : ∀ k, k < n → fits ty (g k) = true) {f : JFrame} (hg : f.method = m) (hsize : f.locals.size = c.maxLocals) {rest : List Value} (hs : f.stack = .ref a :: rest) (hd : decode c.code f.pc = .ok (.invokevirtual index, 3))
    (hf : 1 ≤ R.frames) {W cap : Nat} (hW : 2 * f.monitorRoom + (rest.map fun v => v.category).sum ≤ W) (hl : W + 14 ≤ R.locals) (hcap : n ≤ cap) (hc : cells + 1 ≤ R.cells) (hsl : slots + cap ≤ R.slots) :
    ∃ T' h', Stand p l e R s m args below meth c T' locs (cells + 1) (slots + cap) ∧ T'.heap = h' ∧ Ext h h' ∧ AF Z h' h.size ty n g ∧ Exa Z h' h.size ad ∧
      ∀ target, Steps p.tables e below (T'.setTop { f with pc := f.pc + 3, stack := .ref h.size :: rest }) target → Steps p.tables e below (T.setTop f) target := by
  obtain ⟨cl, A, S, M, G⟩ := F
  have FC : FitC Z cl := fitC_of A fun i hi v hv => by
    rw [G i (by omega)] at hv; cases hv; exact hfit i (by omega)
  obtain ⟨T', h', X', e', ex, A', E', st⟩ := cloneA X hx hZ hown w1 w2 w3 w4 w5 w6 eT A E FC hg hsize hs hd hf hW hl (by rw [S]; exact hcap) hc hsl
  exact ⟨T', h', X', e', ex, ⟨cloneOf cl, A', S, M, G⟩, E', st⟩
theorem upv_fits {ty : FieldType} {g : Nat → Int32} {k0 : Nat} {v : Int32} (h : ∀ k, fits ty (.int (g k)) = true) (hv : fits ty (.int v) = true) : ∀ k, fits ty (.int (upv g k0 v k)) = true := fun k => by
  unfold upv; split
  · exact hv
  · exact h k
end OwnClone
end Jvm.RoadKit
namespace Jvm.Pilot.@@N@@
open Jvm Jvm.ClassFile Sem Op Lib Jvm.Free Jvm.Stand Jvm.LawKit Jvm.RoadKit Bundle Jvm.Pilot.@@N@@.Jvm.D
theorem ef_1 (m : MethodId) (x0 : Int64) (x1 : Int32) : entryFrame m #[(.long x0), (.int x1)] 3 = mkF m 0 #[.val (.long x0), .second, .val (.int x1)] [] := by first | (simp [entryFrame, mkF, argsToLocals, Value.category]; done) | rfl
theorem d1_0 : decode method_2_code 0 = .ok (.lload_n 0, 1) := by decide +kernel
theorem d1_1 : decode method_2_code 1 = .ok (.bipush 8, 2) := by decide +kernel
theorem d1_3 : decode method_2_code 3 = .ok (.iload_n 2, 1) := by decide +kernel
theorem d1_4 : decode method_2_code 4 = .ok (.imul, 1) := by decide +kernel
theorem d1_5 : decode method_2_code 5 = .ok (.lushr, 1) := by decide +kernel
theorem d1_6 : decode method_2_code 6 = .ok (.l2i, 1) := by decide +kernel
theorem d1_7 : decode method_2_code 7 = .ok (.i2b, 1) := by decide +kernel
theorem d1_8 : decode method_2_code 8 = .ok (.ireturn, 1) := by decide +kernel
theorem pn_0 : plainName "com/example/penelope/penelope/KeysPastTenantPinLaw" = true := by first | (simp [plainName, overriddenIn]; done) | decide +kernel
def F_f1 (j0 : Int64) (i1 : Int32) : Int32 := (nar .byte ((((j0.toUInt64 >>> (((8 : Int32) * i1) &&& 0x3f).toInt64.toUInt64).toInt64).toInt32).toInt8.toInt32))
set_option maxRecDepth 65536 in
set_option maxHeartbeats 40000000 in
theorem rm1 (l : Launch) (Z : State) (a0 : Array Value) (hw : ∀ d ∈ tables_1, d.before a0 Z = true) (ws : List Jvm.Cond) (j0 : Int64) (i1 : Int32)  (h0 : Heap) (n0 : Nat)  :
    MetFree l (⟨"com/example/penelope/penelope/KeysPastTenantPinLaw", "b", "(JI)B"⟩ : MethodName) (head1 (Jvm.Cond.code (⟨"com/example/penelope/penelope/KeysPastTenantPinLaw", "b", "(JI)B"⟩ : MethodName) method_2_code 3 (some .byte) :: ws) ({ frames := 0, cells := 0, slots := 0, locals := 0 } : Room)) (fun a U => a = #[(.long j0), (.int i1)] ∧ Z.Warmed39 U.vm ∧ U.heap = h0) (fun _ _ _ _ _ => True) (fun _ U o U' => ∃ v L, o = .returned v ∧ QR (some (.int (F_f1 j0 i1))) h0 n0 v U'.heap L ∧ FrameEnd U o U' L ({ frames := 0, cells := 0, slots := 0, locals := 0 } : Room).cells ({ frames := 0, cells := 0, slots := 0, locals := 0 } : Room).slots) := by
  refine MetFree.of_bodySF (plainFor_of_name pn_0) hisR ?_
  intro p e s m args below meth c s₁ Bd hml0 hP hK
  obtain ⟨rfl, hZ, hh⟩ := hP
  have hx := Bd.exec
  have hby := Bd.bytes
  have hml : c.maxLocals = 3 := hml0
  have hown : s.vm.findClass "com/example/penelope/penelope/KeysPastTenantPinLaw" = some m.cls := findClass_of_methodNamed Bd.named
  have hnm := (name_of_methodNamed Bd.named Bd.method).1
  have hret := Bd.returns
  have hlk : meth.locks = false := BodyLoose.notSynchronized Bd
  have X0 : Stand p l e ({ frames := 0, cells := 0, slots := 0, locals := 0 } : Room) s m #[(.long j0), (.int i1)] below meth c s₁ [] 0 0 := Stand.of_body Bd
  have e0 : s₁.heap = h0 := by rw [← hh, Bd.state]; rfl
  have N0 := Fr.nil n0
  show Outs p e below s (QR (some (.int (F_f1 j0 i1))) h0 n0) _ _ _
  refine Outs.of (U' := s₁.setTop (mkF m 0 #[.val (.long j0), .second, .val (.int i1)] [])) (fun t k => castTop (ef_1 m j0 i1) k) ?_
  refine Outs.of (U' := s₁.setTop (mkF m 8 #[.val (.long j0), .second, .val (.int i1)] [(.int ((((j0.toUInt64 >>> (((8 : Int32) * i1) &&& 0x3f).toInt64.toUInt64).toInt64).toInt32).toInt8.toInt32))])) (fun t k => ?_) ?_
  · refine XS.lloadN X0.here hx rfl (hb hby d1_0) rfl ?_
    refine XS.bipush X0.here hx rfl (hb hby d1_1) ?_
    refine XS.iloadN X0.here hx rfl (hb hby d1_3) rfl ?_
    refine XS.imul X0.here hx rfl (hb hby d1_4) rfl ?_
    refine XS.lushr X0.here hx rfl (hb hby d1_5) rfl ?_
    refine XS.l2i X0.here hx rfl (hb hby d1_6) rfl ?_
    refine XS.i2b X0.here hx rfl (hb hby d1_7) rfl ?_
    exact k
  exact Outs.retN (t := .byte) (z := ((((j0.toUInt64 >>> (((8 : Int32) * i1) &&& 0x3f).toInt64.toUInt64).toInt64).toInt32).toInt8.toInt32)) X0 hx hret (by simp) (hb hby d1_8) hlk (by decide) (by decide) e0 ⟨congrArg (fun z_ => some (Value.int z_)) (show (F_f1 j0 i1) = (nar .byte ((((j0.toUInt64 >>> (((8 : Int32) * i1) &&& 0x3f).toInt64.toUInt64).toInt64).toInt32).toInt8.toInt32)) from rfl).symm, N0, rfl⟩
theorem ef_2 (m : MethodId) (x0 : Addr) : entryFrame m #[(.ref x0)] 2 = mkF m 0 #[.val (.ref x0), .unset] [] := by first | (simp [entryFrame, mkF, argsToLocals, Value.category]; done) | rfl
theorem d2_0 : decode prog_19_method_15_code 0 = .ok (.aload_n 0, 1) := by decide +kernel
theorem d2_1 : decode prog_19_method_15_code 1 = .ok (.invokevirtual 59, 3) := by decide +kernel
theorem d2_4 : decode prog_19_method_15_code 4 = .ok (.checkcast 60, 3) := by decide +kernel
theorem d2_7 : decode prog_19_method_15_code 7 = .ok (.astore_n 1, 1) := by decide +kernel
theorem d2_8 : decode prog_19_method_15_code 8 = .ok (.aload_n 1, 1) := by decide +kernel
theorem d2_9 : decode prog_19_method_15_code 9 = .ok (.aload_n 1, 1) := by decide +kernel
theorem d2_10 : decode prog_19_method_15_code 10 = .ok (.arraylength, 1) := by decide +kernel
theorem d2_11 : decode prog_19_method_15_code 11 = .ok (.iconst 1, 1) := by decide +kernel
theorem d2_12 : decode prog_19_method_15_code 12 = .ok (.isub, 1) := by decide +kernel
theorem d2_13 : decode prog_19_method_15_code 13 = .ok (.dup2, 1) := by decide +kernel
theorem d2_14 : decode prog_19_method_15_code 14 = .ok (.baload, 1) := by decide +kernel
theorem d2_15 : decode prog_19_method_15_code 15 = .ok (.iconst 1, 1) := by decide +kernel
theorem d2_16 : decode prog_19_method_15_code 16 = .ok (.iadd, 1) := by decide +kernel
theorem d2_17 : decode prog_19_method_15_code 17 = .ok (.i2b, 1) := by decide +kernel
theorem d2_18 : decode prog_19_method_15_code 18 = .ok (.bastore, 1) := by decide +kernel
theorem d2_19 : decode prog_19_method_15_code 19 = .ok (.aload_n 1, 1) := by decide +kernel
theorem d2_20 : decode prog_19_method_15_code 20 = .ok (.areturn, 1) := by decide +kernel
theorem pn_2 : plainName "com/example/penelope/penelope/Keys" = true := by first | (simp [plainName, overriddenIn]; done) | decide +kernel
def pt5_g18 (g : Nat → Int32) : Nat → Int32 := (upv g 6 ((((g 6) + (1 : Int32)).toInt8.toInt32).toInt8.toInt32))
def Q_pt5 (Z : State) (o0 : Addr) (g : Nat → Int32) (h0 : Heap) (n0 : Nat) (v : Option Value) (h : Heap) (L : List Loc) : Prop := ∃ b1 : Addr, n0 ≤ b1 ∧ h0.size ≤ b1 ∧ v = some (.ref b1) ∧ Fr n0 L ∧ Keep h0 h [] ∧ AI Z h b1 .byte 7 (pt5_g18 g)
set_option maxRecDepth 65536 in
set_option maxHeartbeats 40000000 in
theorem rmpt5 (l : Launch) (Z : State) (a0 : Array Value) (hw : ∀ d ∈ tables_1, d.before a0 Z = true) (ws : List Jvm.Cond) (o0 : Addr) (g : Nat → Int32) (h0 : Heap) (n0 : Nat) (Z0 : n0 ≤ h0.size) (E_o0 : Exa Z h0 o0 "[B") (A_o0 : AI Z h0 o0 .byte 7 g) (hfit : ∀ k_, k_ < 7 → fits .byte (.int (g k_)) = true) :
    MetFree l (⟨"com/example/penelope/penelope/Keys", "pastTenant", "([B)[B"⟩ : MethodName) (head1 (Jvm.Cond.code (⟨"com/example/penelope/penelope/Keys", "pastTenant", "([B)[B"⟩ : MethodName) prog_19_method_15_code 2 (some (.array .byte)) :: ws) ({ frames := 1, cells := 1, slots := 7, locals := 14 } : Room)) (fun a U => a = #[(.ref o0)] ∧ Z.Warmed39 U.vm ∧ U.heap = h0) (fun _ _ _ _ _ => True) (fun _ U o U' => ∃ v L, o = .returned v ∧ Q_pt5 Z o0 g h0 n0 v U'.heap L ∧ FrameEnd U o U' L ({ frames := 1, cells := 1, slots := 7, locals := 14 } : Room).cells ({ frames := 1, cells := 1, slots := 7, locals := 14 } : Room).slots) := by
  refine MetFree.of_bodySF (plainFor_of_name pn_2) hisR ?_
  intro p e s m args below meth c s₁ Bd hml0 hP hK
  obtain ⟨rfl, hZ, hh⟩ := hP
  have hx := Bd.exec
  have hby := Bd.bytes
  have hml : c.maxLocals = 2 := hml0
  have hown : s.vm.findClass "com/example/penelope/penelope/Keys" = some m.cls := findClass_of_methodNamed Bd.named
  have hnm := (name_of_methodNamed Bd.named Bd.method).1
  have hret := Bd.returns
  have hlk : meth.locks = false := BodyLoose.notSynchronized Bd
  have X0 : Stand p l e ({ frames := 1, cells := 1, slots := 7, locals := 14 } : Room) s m #[(.ref o0)] below meth c s₁ [] 0 0 := Stand.of_body Bd
  have e0 : s₁.heap = h0 := by rw [← hh, Bd.state]; rfl
  have N0 := Fr.nil n0
  show Outs p e below s (Q_pt5 Z o0 g h0 n0) _ _ _
  refine Outs.of (U' := s₁.setTop (mkF m 0 #[.val (.ref o0), .unset] [])) (fun t k => castTop (ef_2 m o0) k) ?_
  refine Outs.of (U' := s₁.setTop (mkF m 1 #[.val (.ref o0), .unset] [(.ref o0)])) (fun t k => ?_) ?_
  · refine XS.aloadN X0.here hx rfl (hb hby d2_0) rfl rfl ?_
    exact k
  obtain ⟨T1, h1, X1, e1, E1, A1, Ex1, st1⟩ := cloneF X0 hx hZ hown (hw _ (List.mem_of_getElem? (i := 9) rfl)) (hw _ (List.mem_of_getElem? (i := 10) rfl)) (hw _ (List.mem_of_getElem? (i := 14) rfl)) (hw _ (List.mem_of_getElem? (i := 12) rfl)) (hw _ (List.mem_of_getElem? (i := 13) rfl)) (hw _ (List.mem_of_getElem? (i := 15) rfl)) e0 A_o0 E_o0 hfit (f := (mkF m 1 #[.val (.ref o0), .unset] [(.ref o0)])) rfl (by rw [hml]; rfl) rfl (hb hby d2_1) (by decide) (W := 0) (cap := 7) (by show 2 * 0 + _ ≤ _; exact Nat.le_of_eq rfl) (by decide) (by decide) (by decide) (by decide)
  obtain ⟨b1, g1⟩ : ∃ z, z = h0.size := ⟨_, rfl⟩
  rw [← g1] at A1 Ex1 st1
  have g_b1 : n0 ≤ b1 := Nat.le_trans Z0 (Nat.le_of_eq g1.symm)
  have sz_b1 : h0.size ≤ b1 := Nat.le_trans (Keep.refl h0 []).1 (Nat.le_of_eq g1.symm)
  have ne_o0_b1 : o0 ≠ b1 := Nat.ne_of_lt (Nat.lt_of_lt_of_eq E_o0.lt g1.symm)
  have V1 : AI Z h1 b1 .byte 7 g := A1
  refine Outs.of st1 ?_
  obtain ⟨T2, X2, e2, st2⟩ := castY X1 hx hZ hown (hw _ (List.mem_of_getElem? (i := 16) rfl)) e1 (Ins.self Ex1) (g := (mkF m 4 #[.val (.ref o0), .unset] [(.ref b1)])) rfl rfl (hb hby d2_4)
  refine Outs.of st2 ?_
  refine Outs.of (U' := T2.setTop (mkF m 10 #[.val (.ref o0), .val (.ref b1)] [(.ref b1), (.ref b1)])) (fun t k => ?_) ?_
  · refine XS.astoreN X2.here hx rfl (hb hby d2_7) rfl rfl (l' := #[.val (.ref o0), .val (.ref b1)]) rfl ?_
    refine XS.aloadN X2.here hx rfl (hb hby d2_8) rfl rfl ?_
    refine XS.aloadN X2.here hx rfl (hb hby d2_9) rfl rfl ?_
    exact k
  refine Outs.of (alen X2 hx hZ e2 V1 (z := (7 : Int32)) rfl (f := (mkF m 10 #[.val (.ref o0), .val (.ref b1)] [(.ref b1), (.ref b1)])) rfl rfl (hb hby d2_10)) ?_
  refine Outs.of (U' := T2.setTop (mkF m 14 #[.val (.ref o0), .val (.ref b1)] [(.int (6 : Int32)), (.ref b1), (.int (6 : Int32)), (.ref b1)])) (fun t k => ?_) ?_
  · refine XS.iconst X2.here hx rfl (hb hby d2_11) ?_
    refine XS.isub X2.here hx rfl (hb hby d2_12) rfl ?_
    show Steps p.tables e below (T2.setTop (mkF m 13 #[.val (.ref o0), .val (.ref b1)] [(.int (6 : Int32)), (.ref b1)])) _
    jvm_step X2.here [X2.here.top, hx, (hb hby d2_13), Value.category]
    exact k
  refine Outs.of (ldB X2 hx hZ e2 V1 (j := (6 : Int32)) (k := 6) rfl (by decide) (f := (mkF m 14 #[.val (.ref o0), .val (.ref b1)] [(.int (6 : Int32)), (.ref b1), (.int (6 : Int32)), (.ref b1)])) rfl rfl (hb hby d2_14)) ?_
  refine Outs.of (U' := T2.setTop (mkF m 18 #[.val (.ref o0), .val (.ref b1)] [(.int (((g 6) + (1 : Int32)).toInt8.toInt32)), (.int (6 : Int32)), (.ref b1)])) (fun t k => ?_) ?_
  · refine XS.iconst X2.here hx rfl (hb hby d2_15) ?_
    refine XS.iadd X2.here hx rfl (hb hby d2_16) rfl ?_
    refine XS.i2b X2.here hx rfl (hb hby d2_17) rfl ?_
    exact k
  obtain ⟨T3, h3, X3, e3, W3, V3, st3⟩ := puB X2 hx hZ e2 V1 (j := (6 : Int32)) (x := (((g 6) + (1 : Int32)).toInt8.toInt32)) (k := 6) rfl (by decide) (f := (mkF m 18 #[.val (.ref o0), .val (.ref b1)] [(.int (((g 6) + (1 : Int32)).toInt8.toInt32)), (.int (6 : Int32)), (.ref b1)])) rfl rfl (hb hby d2_18)
  replace V3 : AI Z h3 b1 .byte 7 (pt5_g18 g) := V3
  have N3 := Fr.snoc X3 N0 g_b1
  obtain ⟨Lh3, X3, N3⟩ := hide X3 N3 (C := 1) (S := 7) (by decide) (by decide)
  refine Outs.of st3 ?_
  refine Outs.of (U' := T3.setTop (mkF m 20 #[.val (.ref o0), .val (.ref b1)] [(.ref b1)])) (fun t k => ?_) ?_
  · refine XS.aloadN X3.here hx rfl (hb hby d2_19) rfl rfl ?_
    exact k
  exact Outs.retA (w := (.ref b1)) X3 hx hret rfl rfl rfl (hb hby d2_20) hlk (by decide) (by decide) e3 ⟨b1, g_b1, sz_b1, rfl, N3, (((Keep.refl h0 []).ext E1).wr W3 (Or.inr sz_b1)), V3⟩
theorem ef_3 (m : MethodId) (x0 : Addr) (x1 : Int64) (x2 : Int32) (x3 : Int32) : entryFrame m #[(.ref x0), (.long x1), (.int x2), (.int x3)] 6 = mkF m 0 #[.val (.ref x0), .val (.long x1), .second, .val (.int x2), .val (.int x3), .unset] [] := by first | (simp [entryFrame, mkF, argsToLocals, Value.category]; done) | rfl
theorem d3_0 : decode method_3_code 0 = .ok (.aload_n 0, 1) := by decide +kernel
theorem d3_1 : decode method_3_code 1 = .ok (.arraylength, 1) := by decide +kernel
theorem d3_2 : decode method_3_code 2 = .ok (.iload_n 3, 1) := by decide +kernel
theorem d3_3 : decode method_3_code 3 = .ok (.iconst 2, 1) := by decide +kernel
theorem d3_4 : decode method_3_code 4 = .ok (.iadd, 1) := by decide +kernel
theorem d3_5 : decode method_3_code 5 = .ok (.if_icmp .eq 5, 3) := by decide +kernel
theorem d3_10 : decode method_3_code 10 = .ok (.aload_n 0, 1) := by decide +kernel
theorem d3_11 : decode method_3_code 11 = .ok (.iconst 0, 1) := by decide +kernel
theorem d3_12 : decode method_3_code 12 = .ok (.baload, 1) := by decide +kernel
theorem d3_13 : decode method_3_code 13 = .ok (.lload_n 1, 1) := by decide +kernel
theorem d3_14 : decode method_3_code 14 = .ok (.iconst 0, 1) := by decide +kernel
theorem pd_0 : parseMethodDescriptor "(JI)B" = some ⟨[.long, .int], some .byte⟩ := by decide +kernel
theorem d3_15 : decode method_3_code 15 = .ok (.invokestatic 7, 3) := by decide +kernel
theorem d3_18 : decode method_3_code 18 = .ok (.if_icmp .ne 7, 3) := by decide +kernel
theorem d3_21 : decode method_3_code 21 = .ok (.iconst 1, 1) := by decide +kernel
theorem d3_22 : decode method_3_code 22 = .ok (.goto 4, 3) := by decide +kernel
theorem d3_25 : decode method_3_code 25 = .ok (.iconst 0, 1) := by decide +kernel
theorem d3_26 : decode method_3_code 26 = .ok (.istore 5, 2) := by decide +kernel
theorem d3_28 : decode method_3_code 28 = .ok (.iload 5, 2) := by decide +kernel
theorem d3_30 : decode method_3_code 30 = .ok (.ifCond .eq 18, 3) := by decide +kernel
theorem d3_48 : decode method_3_code 48 = .ok (.iconst 0, 1) := by decide +kernel
theorem d3_49 : decode method_3_code 49 = .ok (.istore 5, 2) := by decide +kernel
theorem d3_51 : decode method_3_code 51 = .ok (.iload 5, 2) := by decide +kernel
theorem d3_53 : decode method_3_code 53 = .ok (.ifCond .eq 18, 3) := by decide +kernel
theorem d3_71 : decode method_3_code 71 = .ok (.iconst 0, 1) := by decide +kernel
theorem d3_72 : decode method_3_code 72 = .ok (.istore 5, 2) := by decide +kernel
theorem d3_74 : decode method_3_code 74 = .ok (.iload 5, 2) := by decide +kernel
theorem d3_76 : decode method_3_code 76 = .ok (.ifCond .eq 18, 3) := by decide +kernel
theorem d3_94 : decode method_3_code 94 = .ok (.iconst 0, 1) := by decide +kernel
theorem d3_95 : decode method_3_code 95 = .ok (.istore 5, 2) := by decide +kernel
theorem d3_97 : decode method_3_code 97 = .ok (.iload 5, 2) := by decide +kernel
theorem d3_99 : decode method_3_code 99 = .ok (.ifCond .eq 18, 3) := by decide +kernel
theorem d3_117 : decode method_3_code 117 = .ok (.iconst 0, 1) := by decide +kernel
theorem d3_118 : decode method_3_code 118 = .ok (.istore 5, 2) := by decide +kernel
theorem d3_120 : decode method_3_code 120 = .ok (.iload 5, 2) := by decide +kernel
theorem d3_122 : decode method_3_code 122 = .ok (.ifCond .eq 23, 3) := by decide +kernel
theorem d3_145 : decode method_3_code 145 = .ok (.iconst 0, 1) := by decide +kernel
theorem d3_146 : decode method_3_code 146 = .ok (.istore 5, 2) := by decide +kernel
theorem d3_148 : decode method_3_code 148 = .ok (.iload 5, 2) := by decide +kernel
theorem d3_150 : decode method_3_code 150 = .ok (.ifCond .eq 26, 3) := by decide +kernel
theorem d3_176 : decode method_3_code 176 = .ok (.iconst 0, 1) := by decide +kernel
theorem d3_177 : decode method_3_code 177 = .ok (.istore 5, 2) := by decide +kernel
theorem d3_179 : decode method_3_code 179 = .ok (.iload 5, 2) := by decide +kernel
theorem d3_181 : decode method_3_code 181 = .ok (.ifCond .eq 26, 3) := by decide +kernel
theorem d3_207 : decode method_3_code 207 = .ok (.iconst 0, 1) := by decide +kernel
theorem d3_208 : decode method_3_code 208 = .ok (.istore 5, 2) := by decide +kernel
theorem d3_210 : decode method_3_code 210 = .ok (.iload 5, 2) := by decide +kernel
theorem d3_212 : decode method_3_code 212 = .ok (.ifCond .eq 13, 3) := by decide +kernel
theorem d3_225 : decode method_3_code 225 = .ok (.iconst 0, 1) := by decide +kernel
theorem d3_226 : decode method_3_code 226 = .ok (.istore 5, 2) := by decide +kernel
theorem d3_228 : decode method_3_code 228 = .ok (.iload 5, 2) := by decide +kernel
theorem d3_230 : decode method_3_code 230 = .ok (.ifCond .eq 17, 3) := by decide +kernel
theorem d3_247 : decode method_3_code 247 = .ok (.iconst 0, 1) := by decide +kernel
theorem d3_248 : decode method_3_code 248 = .ok (.istore 5, 2) := by decide +kernel
theorem d3_250 : decode method_3_code 250 = .ok (.iload 5, 2) := by decide +kernel
theorem d3_252 : decode method_3_code 252 = .ok (.ireturn, 1) := by decide +kernel
theorem d3_33 : decode method_3_code 33 = .ok (.aload_n 0, 1) := by decide +kernel
theorem d3_34 : decode method_3_code 34 = .ok (.iconst 1, 1) := by decide +kernel
theorem d3_35 : decode method_3_code 35 = .ok (.baload, 1) := by decide +kernel
theorem d3_36 : decode method_3_code 36 = .ok (.lload_n 1, 1) := by decide +kernel
theorem d3_37 : decode method_3_code 37 = .ok (.iconst 1, 1) := by decide +kernel
theorem d3_38 : decode method_3_code 38 = .ok (.invokestatic 7, 3) := by decide +kernel
theorem d3_41 : decode method_3_code 41 = .ok (.if_icmp .ne 7, 3) := by decide +kernel
theorem d3_44 : decode method_3_code 44 = .ok (.iconst 1, 1) := by decide +kernel
theorem d3_45 : decode method_3_code 45 = .ok (.goto 4, 3) := by decide +kernel
theorem d3_56 : decode method_3_code 56 = .ok (.aload_n 0, 1) := by decide +kernel
theorem d3_57 : decode method_3_code 57 = .ok (.iconst 2, 1) := by decide +kernel
theorem d3_58 : decode method_3_code 58 = .ok (.baload, 1) := by decide +kernel
theorem d3_59 : decode method_3_code 59 = .ok (.lload_n 1, 1) := by decide +kernel
theorem d3_60 : decode method_3_code 60 = .ok (.iconst 2, 1) := by decide +kernel
theorem d3_61 : decode method_3_code 61 = .ok (.invokestatic 7, 3) := by decide +kernel
theorem d3_64 : decode method_3_code 64 = .ok (.if_icmp .ne 7, 3) := by decide +kernel
theorem d3_67 : decode method_3_code 67 = .ok (.iconst 1, 1) := by decide +kernel
theorem d3_68 : decode method_3_code 68 = .ok (.goto 4, 3) := by decide +kernel
theorem d3_79 : decode method_3_code 79 = .ok (.aload_n 0, 1) := by decide +kernel
theorem d3_80 : decode method_3_code 80 = .ok (.iconst 3, 1) := by decide +kernel
theorem d3_81 : decode method_3_code 81 = .ok (.baload, 1) := by decide +kernel
theorem d3_82 : decode method_3_code 82 = .ok (.lload_n 1, 1) := by decide +kernel
theorem d3_83 : decode method_3_code 83 = .ok (.iconst 3, 1) := by decide +kernel
theorem d3_84 : decode method_3_code 84 = .ok (.invokestatic 7, 3) := by decide +kernel
theorem d3_87 : decode method_3_code 87 = .ok (.if_icmp .ne 7, 3) := by decide +kernel
theorem d3_90 : decode method_3_code 90 = .ok (.iconst 1, 1) := by decide +kernel
theorem d3_91 : decode method_3_code 91 = .ok (.goto 4, 3) := by decide +kernel
theorem d3_102 : decode method_3_code 102 = .ok (.aload_n 0, 1) := by decide +kernel
theorem d3_103 : decode method_3_code 103 = .ok (.iconst 4, 1) := by decide +kernel
theorem d3_104 : decode method_3_code 104 = .ok (.baload, 1) := by decide +kernel
theorem d3_105 : decode method_3_code 105 = .ok (.lload_n 1, 1) := by decide +kernel
theorem d3_106 : decode method_3_code 106 = .ok (.iconst 4, 1) := by decide +kernel
theorem d3_107 : decode method_3_code 107 = .ok (.invokestatic 7, 3) := by decide +kernel
theorem d3_110 : decode method_3_code 110 = .ok (.if_icmp .ne 7, 3) := by decide +kernel
theorem d3_113 : decode method_3_code 113 = .ok (.iconst 1, 1) := by decide +kernel
theorem d3_114 : decode method_3_code 114 = .ok (.goto 4, 3) := by decide +kernel
theorem d3_125 : decode method_3_code 125 = .ok (.iload_n 3, 1) := by decide +kernel
theorem d3_126 : decode method_3_code 126 = .ok (.iconst 5, 1) := by decide +kernel
theorem d3_127 : decode method_3_code 127 = .ok (.if_icmp .le 14, 3) := by decide +kernel
theorem d3_141 : decode method_3_code 141 = .ok (.iconst 1, 1) := by decide +kernel
theorem d3_142 : decode method_3_code 142 = .ok (.goto 4, 3) := by decide +kernel
theorem d3_153 : decode method_3_code 153 = .ok (.iload_n 3, 1) := by decide +kernel
theorem d3_154 : decode method_3_code 154 = .ok (.bipush 6, 2) := by decide +kernel
theorem d3_156 : decode method_3_code 156 = .ok (.if_icmp .le 16, 3) := by decide +kernel
theorem d3_172 : decode method_3_code 172 = .ok (.iconst 1, 1) := by decide +kernel
theorem d3_173 : decode method_3_code 173 = .ok (.goto 4, 3) := by decide +kernel
theorem d3_184 : decode method_3_code 184 = .ok (.iload_n 3, 1) := by decide +kernel
theorem d3_185 : decode method_3_code 185 = .ok (.bipush 7, 2) := by decide +kernel
theorem d3_187 : decode method_3_code 187 = .ok (.if_icmp .le 16, 3) := by decide +kernel
theorem d3_203 : decode method_3_code 203 = .ok (.iconst 1, 1) := by decide +kernel
theorem d3_204 : decode method_3_code 204 = .ok (.goto 4, 3) := by decide +kernel
theorem d3_215 : decode method_3_code 215 = .ok (.aload_n 0, 1) := by decide +kernel
theorem d3_216 : decode method_3_code 216 = .ok (.iload_n 3, 1) := by decide +kernel
theorem d3_217 : decode method_3_code 217 = .ok (.baload, 1) := by decide +kernel
theorem d3_218 : decode method_3_code 218 = .ok (.ifCond .ne 7, 3) := by decide +kernel
theorem d3_221 : decode method_3_code 221 = .ok (.iconst 1, 1) := by decide +kernel
theorem d3_222 : decode method_3_code 222 = .ok (.goto 4, 3) := by decide +kernel
theorem d3_233 : decode method_3_code 233 = .ok (.aload_n 0, 1) := by decide +kernel
theorem d3_234 : decode method_3_code 234 = .ok (.iload_n 3, 1) := by decide +kernel
theorem d3_235 : decode method_3_code 235 = .ok (.iconst 1, 1) := by decide +kernel
theorem d3_236 : decode method_3_code 236 = .ok (.iadd, 1) := by decide +kernel
theorem d3_237 : decode method_3_code 237 = .ok (.baload, 1) := by decide +kernel
theorem d3_238 : decode method_3_code 238 = .ok (.iload 4, 2) := by decide +kernel
theorem d3_240 : decode method_3_code 240 = .ok (.if_icmp .ne 7, 3) := by decide +kernel
theorem d3_243 : decode method_3_code 243 = .ok (.iconst 1, 1) := by decide +kernel
theorem d3_244 : decode method_3_code 244 = .ok (.goto 4, 3) := by decide +kernel
def sm5_18_s0 (j1 : Int64) (i3 : Int32) (g : Nat → Int32) : Int32 := (if (g 0) = (F_f1 j1 (0 : Int32)) then (1 : Int32) else (0 : Int32))
def sm5_41_s0 (j1 : Int64) (i3 : Int32) (g : Nat → Int32) : Int32 := (if (g 1) = (F_f1 j1 (1 : Int32)) then (1 : Int32) else (0 : Int32))
def sm5_64_s0 (j1 : Int64) (i3 : Int32) (g : Nat → Int32) : Int32 := (if (g 2) = (F_f1 j1 (2 : Int32)) then (1 : Int32) else (0 : Int32))
def sm5_87_s0 (j1 : Int64) (i3 : Int32) (g : Nat → Int32) : Int32 := (if (g 3) = (F_f1 j1 (3 : Int32)) then (1 : Int32) else (0 : Int32))
def sm5_110_s0 (j1 : Int64) (i3 : Int32) (g : Nat → Int32) : Int32 := (if (g 4) = (F_f1 j1 (4 : Int32)) then (1 : Int32) else (0 : Int32))
def sm5_218_s0 (j1 : Int64) (i3 : Int32) (g : Nat → Int32) : Int32 := (if (g 5) = (0 : Int32) then (1 : Int32) else (0 : Int32))
def sm5_240_s0 (j1 : Int64) (i3 : Int32) (g : Nat → Int32) : Int32 := (if (g 6) = i3 then (1 : Int32) else (0 : Int32))
def F_sm5 (j1 : Int64) (i3 : Int32) (g : Nat → Int32) : Int32 := (if (sm5_18_s0 j1 i3 g) = (0 : Int32) then (0 : Int32) else (if (sm5_41_s0 j1 i3 g) = (0 : Int32) then (0 : Int32) else (if (sm5_64_s0 j1 i3 g) = (0 : Int32) then (0 : Int32) else (if (sm5_87_s0 j1 i3 g) = (0 : Int32) then (0 : Int32) else (if (sm5_110_s0 j1 i3 g) = (0 : Int32) then (0 : Int32) else (if (sm5_218_s0 j1 i3 g) = (0 : Int32) then (0 : Int32) else (nar .boolean (sm5_240_s0 j1 i3 g))))))))
set_option maxRecDepth 65536 in
set_option maxHeartbeats 40000000 in
theorem rmsm5 (l : Launch) (Z : State) (a0 : Array Value) (hw : ∀ d ∈ tables_1, d.before a0 Z = true) (ws : List Jvm.Cond) (o0 : Addr) (j1 : Int64) (i3 : Int32) (g : Nat → Int32) (h0 : Heap) (n0 : Nat) (A_o0 : AI Z h0 o0 .byte 7 g) :
    MetFree l (⟨"com/example/penelope/penelope/KeysPastTenantPinLaw", "same", "([BJIB)Z"⟩ : MethodName) (head1 (Jvm.Cond.code (⟨"com/example/penelope/penelope/KeysPastTenantPinLaw", "same", "([BJIB)Z"⟩ : MethodName) method_3_code 6 (some .boolean) :: ws) ({ frames := 1, cells := 0, slots := 0, locals := 15 } : Room)) (fun a U => a = #[(.ref o0), (.long j1), (.int (5 : Int32)), (.int i3)] ∧ Z.Warmed39 U.vm ∧ U.heap = h0) (fun _ _ _ _ _ => True) (fun _ U o U' => ∃ v L, o = .returned v ∧ QR (some (.int (F_sm5 j1 i3 g))) h0 n0 v U'.heap L ∧ FrameEnd U o U' L ({ frames := 1, cells := 0, slots := 0, locals := 15 } : Room).cells ({ frames := 1, cells := 0, slots := 0, locals := 15 } : Room).slots) := by
  refine MetFree.of_bodySF (plainFor_of_name pn_0) hisR ?_
  intro p e s m args below meth c s₁ Bd hml0 hP hK
  obtain ⟨rfl, hZ, hh⟩ := hP
  have hx := Bd.exec
  have hby := Bd.bytes
  have hml : c.maxLocals = 6 := hml0
  have hown : s.vm.findClass "com/example/penelope/penelope/KeysPastTenantPinLaw" = some m.cls := findClass_of_methodNamed Bd.named
  have hnm := (name_of_methodNamed Bd.named Bd.method).1
  have hret := Bd.returns
  have hlk : meth.locks = false := BodyLoose.notSynchronized Bd
  have X0 : Stand p l e ({ frames := 1, cells := 0, slots := 0, locals := 15 } : Room) s m #[(.ref o0), (.long j1), (.int (5 : Int32)), (.int i3)] below meth c s₁ [] 0 0 := Stand.of_body Bd
  have e0 : s₁.heap = h0 := by rw [← hh, Bd.state]; rfl
  have N0 := Fr.nil n0
  show Outs p e below s (QR (some (.int (F_sm5 j1 i3 g))) h0 n0) _ _ _
  refine Outs.of (U' := s₁.setTop (mkF m 0 #[.val (.ref o0), .val (.long j1), .second, .val (.int (5 : Int32)), .val (.int i3), .unset] [])) (fun t k => castTop (ef_3 m o0 j1 (5 : Int32) i3) k) ?_
  refine Outs.of (U' := s₁.setTop (mkF m 1 #[.val (.ref o0), .val (.long j1), .second, .val (.int (5 : Int32)), .val (.int i3), .unset] [(.ref o0)])) (fun t k => ?_) ?_
  · refine XS.aloadN X0.here hx rfl (hb hby d3_0) rfl rfl ?_
    exact k
  refine Outs.of (alen X0 hx hZ e0 A_o0 (z := (7 : Int32)) rfl (f := (mkF m 1 #[.val (.ref o0), .val (.long j1), .second, .val (.int (5 : Int32)), .val (.int i3), .unset] [(.ref o0)])) rfl rfl (hb hby d3_1)) ?_
  refine Outs.of (U' := s₁.setTop (mkF m 12 #[.val (.ref o0), .val (.long j1), .second, .val (.int (5 : Int32)), .val (.int i3), .unset] [(.int (0 : Int32)), (.ref o0)])) (fun t k => ?_) ?_
  · refine XS.iloadN X0.here hx rfl (hb hby d3_2) rfl ?_
    refine XS.iconst X0.here hx rfl (hb hby d3_3) ?_
    refine XS.iadd X0.here hx rfl (hb hby d3_4) rfl ?_
    refine XS.icmpYes X0.here hx rfl (pc0 := 5) (pc' := 10) rfl (hb hby d3_5) rfl (teq (show (7 : Int32) = (7 : Int32) from (by decide))).1 (by decide) (by decide) ?_
    refine XS.aloadN X0.here hx rfl (hb hby d3_10) rfl rfl ?_
    refine XS.iconst X0.here hx rfl (hb hby d3_11) ?_
    exact k
  refine Outs.of (ldB X0 hx hZ e0 A_o0 (j := (0 : Int32)) (k := 0) rfl (by decide) (f := (mkF m 12 #[.val (.ref o0), .val (.long j1), .second, .val (.int (5 : Int32)), .val (.int i3), .unset] [(.int (0 : Int32)), (.ref o0)])) rfl rfl (hb hby d3_12)) ?_
  refine Outs.of (U' := s₁.setTop (mkF m 15 #[.val (.ref o0), .val (.long j1), .second, .val (.int (5 : Int32)), .val (.int i3), .unset] [(.int (0 : Int32)), (.long j1), (.int (g 0))])) (fun t k => ?_) ?_
  · refine XS.lloadN X0.here hx rfl (hb hby d3_13) rfl ?_
    refine XS.iconst X0.here hx rfl (hb hby d3_14) ?_
    exact k
  obtain ⟨_, _, ⟨T1, L1, k1, n1⟩, -, X1, ⟨Lc1, hQ1, l1, y1, z1⟩, st1⟩ := Jvm.LawKit.callS X0 hx (y := (⟨"com/example/penelope/penelope/KeysPastTenantPinLaw", "b", "(JI)B"⟩ : MethodName)) hown (mvT hZ (hw _ (List.mem_of_getElem? (i := 1) rfl))) (mvT hZ (hw _ (List.mem_of_getElem? (i := 2) rfl))) (mvT hZ (hw _ (List.mem_of_getElem? (i := 3) rfl))) (mvT hZ (hw _ (List.mem_of_getElem? (i := 4) rfl))) (by decide) (backOf (W := 1) (rm1 l Z a0 hw [] j1 (0 : Int32) h0 n0 ) hZ (hw _ (List.mem_of_getElem? (i := 4) rfl)) (hw _ (List.mem_of_getElem? (i := 3) rfl)) (by decide) (by decide)) (g := (mkF m 15 #[.val (.ref o0), .val (.long j1), .second, .val (.int (5 : Int32)), .val (.int i3), .unset] [(.int (0 : Int32)), (.long j1), (.int (g 0))])) rfl (by rw [hml]; rfl) (argsL := [(.long j1), (.int (0 : Int32))]) (rest := [(.int (g 0))]) (lenOf pd_0 rfl) rfl (by show 2 * 0 + _ ≤ _; exact Nat.le_of_eq rfl) (hb hby d3_15) (fun _ _ => ⟨rfl, e0, (by decide : 0 + 0 ≤ _), (by decide : 0 + 0 ≤ _)⟩)
  dsimp only [Pt.U, Pt.locs, Pt.cells, Pt.slots] at X1 l1 y1 z1 st1 hQ1
  subst l1 y1 z1
  obtain ⟨rfl, N1q, e1⟩ := hQ1
  have N1 := Fr.app N0 N1q
  obtain ⟨Lh1, X1, N1⟩ := hide X1 N1 (C := 0) (S := 0) (by decide) (by decide)
  refine Outs.of st1 ?_
  refine Outs.of (U' := T1.setTop (mkF m 26 #[.val (.ref o0), .val (.long j1), .second, .val (.int (5 : Int32)), .val (.int i3), .unset] [(.int (sm5_18_s0 j1 i3 g))])) (fun t k => ?_) ?_
  · by_cases hc18 : (g 0) = (F_f1 j1 (0 : Int32))
    · refine XS.icmpNo X1.here hx rfl (hb hby d3_18) rfl (teq hc18).2 ?_
      refine XS.iconst X1.here hx rfl (hb hby d3_21) ?_
      refine XS.goto X1.here hx rfl (pc0 := 22) (pc' := 26) rfl (hb hby d3_22) (by decide) (by decide) ?_
      rw [show (sm5_18_s0 j1 i3 g) = (1 : Int32) from (if_pos hc18)] at k
      exact k
    · refine XS.icmpYes X1.here hx rfl (pc0 := 18) (pc' := 25) rfl (hb hby d3_18) rfl (feq hc18).2 (by decide) (by decide) ?_
      refine XS.iconst X1.here hx rfl (hb hby d3_25) ?_
      rw [show (sm5_18_s0 j1 i3 g) = (0 : Int32) from (if_neg hc18)] at k
      exact k
  refine Outs.of (U' := T1.setTop (mkF m 30 #[.val (.ref o0), .val (.long j1), .second, .val (.int (5 : Int32)), .val (.int i3), .val (.int (sm5_18_s0 j1 i3 g))] [(.int (sm5_18_s0 j1 i3 g))])) (fun t k => ?_) ?_
  · refine XS.istore X1.here hx rfl (hb hby d3_26) rfl (l' := #[.val (.ref o0), .val (.long j1), .second, .val (.int (5 : Int32)), .val (.int i3), .val (.int (sm5_18_s0 j1 i3 g))]) rfl ?_
    refine XS.iload X1.here hx rfl (hb hby d3_28) rfl ?_
    exact k
  by_cases hc30 : (sm5_18_s0 j1 i3 g) = (0 : Int32)
  · refine Outs.of (U' := T1.setTop (mkF m 48 #[.val (.ref o0), .val (.long j1), .second, .val (.int (5 : Int32)), .val (.int i3), .val (.int (sm5_18_s0 j1 i3 g))] [])) (fun t k => ?_) ?_
    · refine XS.ifYes X1.here hx rfl (pc0 := 30) (pc' := 48) rfl (hb hby d3_30) rfl ((if0 _ _).trans (teq hc30).1) (by decide) (by decide) ?_
      exact k
    refine Outs.of (U' := T1.setTop (mkF m 252 #[.val (.ref o0), .val (.long j1), .second, .val (.int (5 : Int32)), .val (.int i3), .val (.int (0 : Int32))] [(.int (0 : Int32))])) (fun t k => ?_) ?_
    · refine XS.iconst X1.here hx rfl (hb hby d3_48) ?_
      refine XS.istore X1.here hx rfl (hb hby d3_49) rfl (l' := #[.val (.ref o0), .val (.long j1), .second, .val (.int (5 : Int32)), .val (.int i3), .val (.int (0 : Int32))]) rfl ?_
      refine XS.iload X1.here hx rfl (hb hby d3_51) rfl ?_
      refine XS.ifYes X1.here hx rfl (pc0 := 53) (pc' := 71) rfl (hb hby d3_53) rfl ((if0 _ _).trans (teq (show (0 : Int32) = (0 : Int32) from (by decide))).1) (by decide) (by decide) ?_
      refine XS.iconst X1.here hx rfl (hb hby d3_71) ?_
      refine XS.istore X1.here hx rfl (hb hby d3_72) rfl (l' := #[.val (.ref o0), .val (.long j1), .second, .val (.int (5 : Int32)), .val (.int i3), .val (.int (0 : Int32))]) rfl ?_
      refine XS.iload X1.here hx rfl (hb hby d3_74) rfl ?_
      refine XS.ifYes X1.here hx rfl (pc0 := 76) (pc' := 94) rfl (hb hby d3_76) rfl ((if0 _ _).trans (teq (show (0 : Int32) = (0 : Int32) from (by decide))).1) (by decide) (by decide) ?_
      refine XS.iconst X1.here hx rfl (hb hby d3_94) ?_
      refine XS.istore X1.here hx rfl (hb hby d3_95) rfl (l' := #[.val (.ref o0), .val (.long j1), .second, .val (.int (5 : Int32)), .val (.int i3), .val (.int (0 : Int32))]) rfl ?_
      refine XS.iload X1.here hx rfl (hb hby d3_97) rfl ?_
      refine XS.ifYes X1.here hx rfl (pc0 := 99) (pc' := 117) rfl (hb hby d3_99) rfl ((if0 _ _).trans (teq (show (0 : Int32) = (0 : Int32) from (by decide))).1) (by decide) (by decide) ?_
      refine XS.iconst X1.here hx rfl (hb hby d3_117) ?_
      refine XS.istore X1.here hx rfl (hb hby d3_118) rfl (l' := #[.val (.ref o0), .val (.long j1), .second, .val (.int (5 : Int32)), .val (.int i3), .val (.int (0 : Int32))]) rfl ?_
      refine XS.iload X1.here hx rfl (hb hby d3_120) rfl ?_
      refine XS.ifYes X1.here hx rfl (pc0 := 122) (pc' := 145) rfl (hb hby d3_122) rfl ((if0 _ _).trans (teq (show (0 : Int32) = (0 : Int32) from (by decide))).1) (by decide) (by decide) ?_
      refine XS.iconst X1.here hx rfl (hb hby d3_145) ?_
      refine XS.istore X1.here hx rfl (hb hby d3_146) rfl (l' := #[.val (.ref o0), .val (.long j1), .second, .val (.int (5 : Int32)), .val (.int i3), .val (.int (0 : Int32))]) rfl ?_
      refine XS.iload X1.here hx rfl (hb hby d3_148) rfl ?_
      refine XS.ifYes X1.here hx rfl (pc0 := 150) (pc' := 176) rfl (hb hby d3_150) rfl ((if0 _ _).trans (teq (show (0 : Int32) = (0 : Int32) from (by decide))).1) (by decide) (by decide) ?_
      refine XS.iconst X1.here hx rfl (hb hby d3_176) ?_
      refine XS.istore X1.here hx rfl (hb hby d3_177) rfl (l' := #[.val (.ref o0), .val (.long j1), .second, .val (.int (5 : Int32)), .val (.int i3), .val (.int (0 : Int32))]) rfl ?_
      refine XS.iload X1.here hx rfl (hb hby d3_179) rfl ?_
      refine XS.ifYes X1.here hx rfl (pc0 := 181) (pc' := 207) rfl (hb hby d3_181) rfl ((if0 _ _).trans (teq (show (0 : Int32) = (0 : Int32) from (by decide))).1) (by decide) (by decide) ?_
      refine XS.iconst X1.here hx rfl (hb hby d3_207) ?_
      refine XS.istore X1.here hx rfl (hb hby d3_208) rfl (l' := #[.val (.ref o0), .val (.long j1), .second, .val (.int (5 : Int32)), .val (.int i3), .val (.int (0 : Int32))]) rfl ?_
      refine XS.iload X1.here hx rfl (hb hby d3_210) rfl ?_
      refine XS.ifYes X1.here hx rfl (pc0 := 212) (pc' := 225) rfl (hb hby d3_212) rfl ((if0 _ _).trans (teq (show (0 : Int32) = (0 : Int32) from (by decide))).1) (by decide) (by decide) ?_
      refine XS.iconst X1.here hx rfl (hb hby d3_225) ?_
      refine XS.istore X1.here hx rfl (hb hby d3_226) rfl (l' := #[.val (.ref o0), .val (.long j1), .second, .val (.int (5 : Int32)), .val (.int i3), .val (.int (0 : Int32))]) rfl ?_
      refine XS.iload X1.here hx rfl (hb hby d3_228) rfl ?_
      refine XS.ifYes X1.here hx rfl (pc0 := 230) (pc' := 247) rfl (hb hby d3_230) rfl ((if0 _ _).trans (teq (show (0 : Int32) = (0 : Int32) from (by decide))).1) (by decide) (by decide) ?_
      refine XS.iconst X1.here hx rfl (hb hby d3_247) ?_
      refine XS.istore X1.here hx rfl (hb hby d3_248) rfl (l' := #[.val (.ref o0), .val (.long j1), .second, .val (.int (5 : Int32)), .val (.int i3), .val (.int (0 : Int32))]) rfl ?_
      refine XS.iload X1.here hx rfl (hb hby d3_250) rfl ?_
      exact k
    exact Outs.retN (t := .boolean) (z := (0 : Int32)) X1 hx hret (by simp) (hb hby d3_252) hlk (by decide) (by decide) e1 ⟨congrArg (fun z_ => some (Value.int z_)) (show (F_sm5 j1 i3 g) = (0 : Int32) from (if_pos hc30)).symm, N1, rfl⟩
  · refine Outs.of (U' := T1.setTop (mkF m 33 #[.val (.ref o0), .val (.long j1), .second, .val (.int (5 : Int32)), .val (.int i3), .val (.int (sm5_18_s0 j1 i3 g))] [])) (fun t k => ?_) ?_
    · refine XS.ifNo X1.here hx rfl (hb hby d3_30) rfl ((if0 _ _).trans (feq hc30).1) ?_
      exact k
    refine Outs.of (U' := T1.setTop (mkF m 35 #[.val (.ref o0), .val (.long j1), .second, .val (.int (5 : Int32)), .val (.int i3), .val (.int (sm5_18_s0 j1 i3 g))] [(.int (1 : Int32)), (.ref o0)])) (fun t k => ?_) ?_
    · refine XS.aloadN X1.here hx rfl (hb hby d3_33) rfl rfl ?_
      refine XS.iconst X1.here hx rfl (hb hby d3_34) ?_
      exact k
    refine Outs.of (ldB X1 hx hZ e1 A_o0 (j := (1 : Int32)) (k := 1) rfl (by decide) (f := (mkF m 35 #[.val (.ref o0), .val (.long j1), .second, .val (.int (5 : Int32)), .val (.int i3), .val (.int (sm5_18_s0 j1 i3 g))] [(.int (1 : Int32)), (.ref o0)])) rfl rfl (hb hby d3_35)) ?_
    refine Outs.of (U' := T1.setTop (mkF m 38 #[.val (.ref o0), .val (.long j1), .second, .val (.int (5 : Int32)), .val (.int i3), .val (.int (sm5_18_s0 j1 i3 g))] [(.int (1 : Int32)), (.long j1), (.int (g 1))])) (fun t k => ?_) ?_
    · refine XS.lloadN X1.here hx rfl (hb hby d3_36) rfl ?_
      refine XS.iconst X1.here hx rfl (hb hby d3_37) ?_
      exact k
    obtain ⟨_, _, ⟨T2, L2, k2, n2⟩, -, X2, ⟨Lc2, hQ2, l2, y2, z2⟩, st2⟩ := Jvm.LawKit.callS X1 hx (y := (⟨"com/example/penelope/penelope/KeysPastTenantPinLaw", "b", "(JI)B"⟩ : MethodName)) hown (mvT hZ (hw _ (List.mem_of_getElem? (i := 1) rfl))) (mvT hZ (hw _ (List.mem_of_getElem? (i := 2) rfl))) (mvT hZ (hw _ (List.mem_of_getElem? (i := 3) rfl))) (mvT hZ (hw _ (List.mem_of_getElem? (i := 4) rfl))) (by decide) (backOf (W := 1) (rm1 l Z a0 hw [] j1 (1 : Int32) h0 n0 ) hZ (hw _ (List.mem_of_getElem? (i := 4) rfl)) (hw _ (List.mem_of_getElem? (i := 3) rfl)) (by decide) (by decide)) (g := (mkF m 38 #[.val (.ref o0), .val (.long j1), .second, .val (.int (5 : Int32)), .val (.int i3), .val (.int (sm5_18_s0 j1 i3 g))] [(.int (1 : Int32)), (.long j1), (.int (g 1))])) rfl (by rw [hml]; rfl) (argsL := [(.long j1), (.int (1 : Int32))]) (rest := [(.int (g 1))]) (lenOf pd_0 rfl) rfl (by show 2 * 0 + _ ≤ _; exact Nat.le_of_eq rfl) (hb hby d3_38) (fun _ _ => ⟨rfl, e1, (by decide : 0 + 0 ≤ _), (by decide : 0 + 0 ≤ _)⟩)
    dsimp only [Pt.U, Pt.locs, Pt.cells, Pt.slots] at X2 l2 y2 z2 st2 hQ2
    subst l2 y2 z2
    obtain ⟨rfl, N2q, e2⟩ := hQ2
    have N2 := Fr.app N1 N2q
    obtain ⟨Lh2, X2, N2⟩ := hide X2 N2 (C := 0) (S := 0) (by decide) (by decide)
    refine Outs.of st2 ?_
    refine Outs.of (U' := T2.setTop (mkF m 49 #[.val (.ref o0), .val (.long j1), .second, .val (.int (5 : Int32)), .val (.int i3), .val (.int (sm5_18_s0 j1 i3 g))] [(.int (sm5_41_s0 j1 i3 g))])) (fun t k => ?_) ?_
    · by_cases hc41 : (g 1) = (F_f1 j1 (1 : Int32))
      · refine XS.icmpNo X2.here hx rfl (hb hby d3_41) rfl (teq hc41).2 ?_
        refine XS.iconst X2.here hx rfl (hb hby d3_44) ?_
        refine XS.goto X2.here hx rfl (pc0 := 45) (pc' := 49) rfl (hb hby d3_45) (by decide) (by decide) ?_
        rw [show (sm5_41_s0 j1 i3 g) = (1 : Int32) from (if_pos hc41)] at k
        exact k
      · refine XS.icmpYes X2.here hx rfl (pc0 := 41) (pc' := 48) rfl (hb hby d3_41) rfl (feq hc41).2 (by decide) (by decide) ?_
        refine XS.iconst X2.here hx rfl (hb hby d3_48) ?_
        rw [show (sm5_41_s0 j1 i3 g) = (0 : Int32) from (if_neg hc41)] at k
        exact k
    refine Outs.of (U' := T2.setTop (mkF m 53 #[.val (.ref o0), .val (.long j1), .second, .val (.int (5 : Int32)), .val (.int i3), .val (.int (sm5_41_s0 j1 i3 g))] [(.int (sm5_41_s0 j1 i3 g))])) (fun t k => ?_) ?_
    · refine XS.istore X2.here hx rfl (hb hby d3_49) rfl (l' := #[.val (.ref o0), .val (.long j1), .second, .val (.int (5 : Int32)), .val (.int i3), .val (.int (sm5_41_s0 j1 i3 g))]) rfl ?_
      refine XS.iload X2.here hx rfl (hb hby d3_51) rfl ?_
      exact k
    by_cases hc53 : (sm5_41_s0 j1 i3 g) = (0 : Int32)
    · refine Outs.of (U' := T2.setTop (mkF m 71 #[.val (.ref o0), .val (.long j1), .second, .val (.int (5 : Int32)), .val (.int i3), .val (.int (sm5_41_s0 j1 i3 g))] [])) (fun t k => ?_) ?_
      · refine XS.ifYes X2.here hx rfl (pc0 := 53) (pc' := 71) rfl (hb hby d3_53) rfl ((if0 _ _).trans (teq hc53).1) (by decide) (by decide) ?_
        exact k
      refine Outs.of (U' := T2.setTop (mkF m 252 #[.val (.ref o0), .val (.long j1), .second, .val (.int (5 : Int32)), .val (.int i3), .val (.int (0 : Int32))] [(.int (0 : Int32))])) (fun t k => ?_) ?_
      · refine XS.iconst X2.here hx rfl (hb hby d3_71) ?_
        refine XS.istore X2.here hx rfl (hb hby d3_72) rfl (l' := #[.val (.ref o0), .val (.long j1), .second, .val (.int (5 : Int32)), .val (.int i3), .val (.int (0 : Int32))]) rfl ?_
        refine XS.iload X2.here hx rfl (hb hby d3_74) rfl ?_
        refine XS.ifYes X2.here hx rfl (pc0 := 76) (pc' := 94) rfl (hb hby d3_76) rfl ((if0 _ _).trans (teq (show (0 : Int32) = (0 : Int32) from (by decide))).1) (by decide) (by decide) ?_
        refine XS.iconst X2.here hx rfl (hb hby d3_94) ?_
        refine XS.istore X2.here hx rfl (hb hby d3_95) rfl (l' := #[.val (.ref o0), .val (.long j1), .second, .val (.int (5 : Int32)), .val (.int i3), .val (.int (0 : Int32))]) rfl ?_
        refine XS.iload X2.here hx rfl (hb hby d3_97) rfl ?_
        refine XS.ifYes X2.here hx rfl (pc0 := 99) (pc' := 117) rfl (hb hby d3_99) rfl ((if0 _ _).trans (teq (show (0 : Int32) = (0 : Int32) from (by decide))).1) (by decide) (by decide) ?_
        refine XS.iconst X2.here hx rfl (hb hby d3_117) ?_
        refine XS.istore X2.here hx rfl (hb hby d3_118) rfl (l' := #[.val (.ref o0), .val (.long j1), .second, .val (.int (5 : Int32)), .val (.int i3), .val (.int (0 : Int32))]) rfl ?_
        refine XS.iload X2.here hx rfl (hb hby d3_120) rfl ?_
        refine XS.ifYes X2.here hx rfl (pc0 := 122) (pc' := 145) rfl (hb hby d3_122) rfl ((if0 _ _).trans (teq (show (0 : Int32) = (0 : Int32) from (by decide))).1) (by decide) (by decide) ?_
        refine XS.iconst X2.here hx rfl (hb hby d3_145) ?_
        refine XS.istore X2.here hx rfl (hb hby d3_146) rfl (l' := #[.val (.ref o0), .val (.long j1), .second, .val (.int (5 : Int32)), .val (.int i3), .val (.int (0 : Int32))]) rfl ?_
        refine XS.iload X2.here hx rfl (hb hby d3_148) rfl ?_
        refine XS.ifYes X2.here hx rfl (pc0 := 150) (pc' := 176) rfl (hb hby d3_150) rfl ((if0 _ _).trans (teq (show (0 : Int32) = (0 : Int32) from (by decide))).1) (by decide) (by decide) ?_
        refine XS.iconst X2.here hx rfl (hb hby d3_176) ?_
        refine XS.istore X2.here hx rfl (hb hby d3_177) rfl (l' := #[.val (.ref o0), .val (.long j1), .second, .val (.int (5 : Int32)), .val (.int i3), .val (.int (0 : Int32))]) rfl ?_
        refine XS.iload X2.here hx rfl (hb hby d3_179) rfl ?_
        refine XS.ifYes X2.here hx rfl (pc0 := 181) (pc' := 207) rfl (hb hby d3_181) rfl ((if0 _ _).trans (teq (show (0 : Int32) = (0 : Int32) from (by decide))).1) (by decide) (by decide) ?_
        refine XS.iconst X2.here hx rfl (hb hby d3_207) ?_
        refine XS.istore X2.here hx rfl (hb hby d3_208) rfl (l' := #[.val (.ref o0), .val (.long j1), .second, .val (.int (5 : Int32)), .val (.int i3), .val (.int (0 : Int32))]) rfl ?_
        refine XS.iload X2.here hx rfl (hb hby d3_210) rfl ?_
        refine XS.ifYes X2.here hx rfl (pc0 := 212) (pc' := 225) rfl (hb hby d3_212) rfl ((if0 _ _).trans (teq (show (0 : Int32) = (0 : Int32) from (by decide))).1) (by decide) (by decide) ?_
        refine XS.iconst X2.here hx rfl (hb hby d3_225) ?_
        refine XS.istore X2.here hx rfl (hb hby d3_226) rfl (l' := #[.val (.ref o0), .val (.long j1), .second, .val (.int (5 : Int32)), .val (.int i3), .val (.int (0 : Int32))]) rfl ?_
        refine XS.iload X2.here hx rfl (hb hby d3_228) rfl ?_
        refine XS.ifYes X2.here hx rfl (pc0 := 230) (pc' := 247) rfl (hb hby d3_230) rfl ((if0 _ _).trans (teq (show (0 : Int32) = (0 : Int32) from (by decide))).1) (by decide) (by decide) ?_
        refine XS.iconst X2.here hx rfl (hb hby d3_247) ?_
        refine XS.istore X2.here hx rfl (hb hby d3_248) rfl (l' := #[.val (.ref o0), .val (.long j1), .second, .val (.int (5 : Int32)), .val (.int i3), .val (.int (0 : Int32))]) rfl ?_
        refine XS.iload X2.here hx rfl (hb hby d3_250) rfl ?_
        exact k
      exact Outs.retN (t := .boolean) (z := (0 : Int32)) X2 hx hret (by simp) (hb hby d3_252) hlk (by decide) (by decide) e2 ⟨congrArg (fun z_ => some (Value.int z_)) (show (F_sm5 j1 i3 g) = (0 : Int32) from ((if_neg hc30).trans (if_pos hc53))).symm, N2, rfl⟩
    · refine Outs.of (U' := T2.setTop (mkF m 56 #[.val (.ref o0), .val (.long j1), .second, .val (.int (5 : Int32)), .val (.int i3), .val (.int (sm5_41_s0 j1 i3 g))] [])) (fun t k => ?_) ?_
      · refine XS.ifNo X2.here hx rfl (hb hby d3_53) rfl ((if0 _ _).trans (feq hc53).1) ?_
        exact k
      refine Outs.of (U' := T2.setTop (mkF m 58 #[.val (.ref o0), .val (.long j1), .second, .val (.int (5 : Int32)), .val (.int i3), .val (.int (sm5_41_s0 j1 i3 g))] [(.int (2 : Int32)), (.ref o0)])) (fun t k => ?_) ?_
      · refine XS.aloadN X2.here hx rfl (hb hby d3_56) rfl rfl ?_
        refine XS.iconst X2.here hx rfl (hb hby d3_57) ?_
        exact k
      refine Outs.of (ldB X2 hx hZ e2 A_o0 (j := (2 : Int32)) (k := 2) rfl (by decide) (f := (mkF m 58 #[.val (.ref o0), .val (.long j1), .second, .val (.int (5 : Int32)), .val (.int i3), .val (.int (sm5_41_s0 j1 i3 g))] [(.int (2 : Int32)), (.ref o0)])) rfl rfl (hb hby d3_58)) ?_
      refine Outs.of (U' := T2.setTop (mkF m 61 #[.val (.ref o0), .val (.long j1), .second, .val (.int (5 : Int32)), .val (.int i3), .val (.int (sm5_41_s0 j1 i3 g))] [(.int (2 : Int32)), (.long j1), (.int (g 2))])) (fun t k => ?_) ?_
      · refine XS.lloadN X2.here hx rfl (hb hby d3_59) rfl ?_
        refine XS.iconst X2.here hx rfl (hb hby d3_60) ?_
        exact k
      obtain ⟨_, _, ⟨T3, L3, k3, n3⟩, -, X3, ⟨Lc3, hQ3, l3, y3, z3⟩, st3⟩ := Jvm.LawKit.callS X2 hx (y := (⟨"com/example/penelope/penelope/KeysPastTenantPinLaw", "b", "(JI)B"⟩ : MethodName)) hown (mvT hZ (hw _ (List.mem_of_getElem? (i := 1) rfl))) (mvT hZ (hw _ (List.mem_of_getElem? (i := 2) rfl))) (mvT hZ (hw _ (List.mem_of_getElem? (i := 3) rfl))) (mvT hZ (hw _ (List.mem_of_getElem? (i := 4) rfl))) (by decide) (backOf (W := 1) (rm1 l Z a0 hw [] j1 (2 : Int32) h0 n0 ) hZ (hw _ (List.mem_of_getElem? (i := 4) rfl)) (hw _ (List.mem_of_getElem? (i := 3) rfl)) (by decide) (by decide)) (g := (mkF m 61 #[.val (.ref o0), .val (.long j1), .second, .val (.int (5 : Int32)), .val (.int i3), .val (.int (sm5_41_s0 j1 i3 g))] [(.int (2 : Int32)), (.long j1), (.int (g 2))])) rfl (by rw [hml]; rfl) (argsL := [(.long j1), (.int (2 : Int32))]) (rest := [(.int (g 2))]) (lenOf pd_0 rfl) rfl (by show 2 * 0 + _ ≤ _; exact Nat.le_of_eq rfl) (hb hby d3_61) (fun _ _ => ⟨rfl, e2, (by decide : 0 + 0 ≤ _), (by decide : 0 + 0 ≤ _)⟩)
      dsimp only [Pt.U, Pt.locs, Pt.cells, Pt.slots] at X3 l3 y3 z3 st3 hQ3
      subst l3 y3 z3
      obtain ⟨rfl, N3q, e3⟩ := hQ3
      have N3 := Fr.app N2 N3q
      obtain ⟨Lh3, X3, N3⟩ := hide X3 N3 (C := 0) (S := 0) (by decide) (by decide)
      refine Outs.of st3 ?_
      refine Outs.of (U' := T3.setTop (mkF m 72 #[.val (.ref o0), .val (.long j1), .second, .val (.int (5 : Int32)), .val (.int i3), .val (.int (sm5_41_s0 j1 i3 g))] [(.int (sm5_64_s0 j1 i3 g))])) (fun t k => ?_) ?_
      · by_cases hc64 : (g 2) = (F_f1 j1 (2 : Int32))
        · refine XS.icmpNo X3.here hx rfl (hb hby d3_64) rfl (teq hc64).2 ?_
          refine XS.iconst X3.here hx rfl (hb hby d3_67) ?_
          refine XS.goto X3.here hx rfl (pc0 := 68) (pc' := 72) rfl (hb hby d3_68) (by decide) (by decide) ?_
          rw [show (sm5_64_s0 j1 i3 g) = (1 : Int32) from (if_pos hc64)] at k
          exact k
        · refine XS.icmpYes X3.here hx rfl (pc0 := 64) (pc' := 71) rfl (hb hby d3_64) rfl (feq hc64).2 (by decide) (by decide) ?_
          refine XS.iconst X3.here hx rfl (hb hby d3_71) ?_
          rw [show (sm5_64_s0 j1 i3 g) = (0 : Int32) from (if_neg hc64)] at k
          exact k
      refine Outs.of (U' := T3.setTop (mkF m 76 #[.val (.ref o0), .val (.long j1), .second, .val (.int (5 : Int32)), .val (.int i3), .val (.int (sm5_64_s0 j1 i3 g))] [(.int (sm5_64_s0 j1 i3 g))])) (fun t k => ?_) ?_
      · refine XS.istore X3.here hx rfl (hb hby d3_72) rfl (l' := #[.val (.ref o0), .val (.long j1), .second, .val (.int (5 : Int32)), .val (.int i3), .val (.int (sm5_64_s0 j1 i3 g))]) rfl ?_
        refine XS.iload X3.here hx rfl (hb hby d3_74) rfl ?_
        exact k
      by_cases hc76 : (sm5_64_s0 j1 i3 g) = (0 : Int32)
      · refine Outs.of (U' := T3.setTop (mkF m 94 #[.val (.ref o0), .val (.long j1), .second, .val (.int (5 : Int32)), .val (.int i3), .val (.int (sm5_64_s0 j1 i3 g))] [])) (fun t k => ?_) ?_
        · refine XS.ifYes X3.here hx rfl (pc0 := 76) (pc' := 94) rfl (hb hby d3_76) rfl ((if0 _ _).trans (teq hc76).1) (by decide) (by decide) ?_
          exact k
        refine Outs.of (U' := T3.setTop (mkF m 252 #[.val (.ref o0), .val (.long j1), .second, .val (.int (5 : Int32)), .val (.int i3), .val (.int (0 : Int32))] [(.int (0 : Int32))])) (fun t k => ?_) ?_
        · refine XS.iconst X3.here hx rfl (hb hby d3_94) ?_
          refine XS.istore X3.here hx rfl (hb hby d3_95) rfl (l' := #[.val (.ref o0), .val (.long j1), .second, .val (.int (5 : Int32)), .val (.int i3), .val (.int (0 : Int32))]) rfl ?_
          refine XS.iload X3.here hx rfl (hb hby d3_97) rfl ?_
          refine XS.ifYes X3.here hx rfl (pc0 := 99) (pc' := 117) rfl (hb hby d3_99) rfl ((if0 _ _).trans (teq (show (0 : Int32) = (0 : Int32) from (by decide))).1) (by decide) (by decide) ?_
          refine XS.iconst X3.here hx rfl (hb hby d3_117) ?_
          refine XS.istore X3.here hx rfl (hb hby d3_118) rfl (l' := #[.val (.ref o0), .val (.long j1), .second, .val (.int (5 : Int32)), .val (.int i3), .val (.int (0 : Int32))]) rfl ?_
          refine XS.iload X3.here hx rfl (hb hby d3_120) rfl ?_
          refine XS.ifYes X3.here hx rfl (pc0 := 122) (pc' := 145) rfl (hb hby d3_122) rfl ((if0 _ _).trans (teq (show (0 : Int32) = (0 : Int32) from (by decide))).1) (by decide) (by decide) ?_
          refine XS.iconst X3.here hx rfl (hb hby d3_145) ?_
          refine XS.istore X3.here hx rfl (hb hby d3_146) rfl (l' := #[.val (.ref o0), .val (.long j1), .second, .val (.int (5 : Int32)), .val (.int i3), .val (.int (0 : Int32))]) rfl ?_
          refine XS.iload X3.here hx rfl (hb hby d3_148) rfl ?_
          refine XS.ifYes X3.here hx rfl (pc0 := 150) (pc' := 176) rfl (hb hby d3_150) rfl ((if0 _ _).trans (teq (show (0 : Int32) = (0 : Int32) from (by decide))).1) (by decide) (by decide) ?_
          refine XS.iconst X3.here hx rfl (hb hby d3_176) ?_
          refine XS.istore X3.here hx rfl (hb hby d3_177) rfl (l' := #[.val (.ref o0), .val (.long j1), .second, .val (.int (5 : Int32)), .val (.int i3), .val (.int (0 : Int32))]) rfl ?_
          refine XS.iload X3.here hx rfl (hb hby d3_179) rfl ?_
          refine XS.ifYes X3.here hx rfl (pc0 := 181) (pc' := 207) rfl (hb hby d3_181) rfl ((if0 _ _).trans (teq (show (0 : Int32) = (0 : Int32) from (by decide))).1) (by decide) (by decide) ?_
          refine XS.iconst X3.here hx rfl (hb hby d3_207) ?_
          refine XS.istore X3.here hx rfl (hb hby d3_208) rfl (l' := #[.val (.ref o0), .val (.long j1), .second, .val (.int (5 : Int32)), .val (.int i3), .val (.int (0 : Int32))]) rfl ?_
          refine XS.iload X3.here hx rfl (hb hby d3_210) rfl ?_
          refine XS.ifYes X3.here hx rfl (pc0 := 212) (pc' := 225) rfl (hb hby d3_212) rfl ((if0 _ _).trans (teq (show (0 : Int32) = (0 : Int32) from (by decide))).1) (by decide) (by decide) ?_
          refine XS.iconst X3.here hx rfl (hb hby d3_225) ?_
          refine XS.istore X3.here hx rfl (hb hby d3_226) rfl (l' := #[.val (.ref o0), .val (.long j1), .second, .val (.int (5 : Int32)), .val (.int i3), .val (.int (0 : Int32))]) rfl ?_
          refine XS.iload X3.here hx rfl (hb hby d3_228) rfl ?_
          refine XS.ifYes X3.here hx rfl (pc0 := 230) (pc' := 247) rfl (hb hby d3_230) rfl ((if0 _ _).trans (teq (show (0 : Int32) = (0 : Int32) from (by decide))).1) (by decide) (by decide) ?_
          refine XS.iconst X3.here hx rfl (hb hby d3_247) ?_
          refine XS.istore X3.here hx rfl (hb hby d3_248) rfl (l' := #[.val (.ref o0), .val (.long j1), .second, .val (.int (5 : Int32)), .val (.int i3), .val (.int (0 : Int32))]) rfl ?_
          refine XS.iload X3.here hx rfl (hb hby d3_250) rfl ?_
          exact k
        exact Outs.retN (t := .boolean) (z := (0 : Int32)) X3 hx hret (by simp) (hb hby d3_252) hlk (by decide) (by decide) e3 ⟨congrArg (fun z_ => some (Value.int z_)) (show (F_sm5 j1 i3 g) = (0 : Int32) from ((if_neg hc30).trans ((if_neg hc53).trans (if_pos hc76)))).symm, N3, rfl⟩
      · refine Outs.of (U' := T3.setTop (mkF m 79 #[.val (.ref o0), .val (.long j1), .second, .val (.int (5 : Int32)), .val (.int i3), .val (.int (sm5_64_s0 j1 i3 g))] [])) (fun t k => ?_) ?_
        · refine XS.ifNo X3.here hx rfl (hb hby d3_76) rfl ((if0 _ _).trans (feq hc76).1) ?_
          exact k
        refine Outs.of (U' := T3.setTop (mkF m 81 #[.val (.ref o0), .val (.long j1), .second, .val (.int (5 : Int32)), .val (.int i3), .val (.int (sm5_64_s0 j1 i3 g))] [(.int (3 : Int32)), (.ref o0)])) (fun t k => ?_) ?_
        · refine XS.aloadN X3.here hx rfl (hb hby d3_79) rfl rfl ?_
          refine XS.iconst X3.here hx rfl (hb hby d3_80) ?_
          exact k
        refine Outs.of (ldB X3 hx hZ e3 A_o0 (j := (3 : Int32)) (k := 3) rfl (by decide) (f := (mkF m 81 #[.val (.ref o0), .val (.long j1), .second, .val (.int (5 : Int32)), .val (.int i3), .val (.int (sm5_64_s0 j1 i3 g))] [(.int (3 : Int32)), (.ref o0)])) rfl rfl (hb hby d3_81)) ?_
        refine Outs.of (U' := T3.setTop (mkF m 84 #[.val (.ref o0), .val (.long j1), .second, .val (.int (5 : Int32)), .val (.int i3), .val (.int (sm5_64_s0 j1 i3 g))] [(.int (3 : Int32)), (.long j1), (.int (g 3))])) (fun t k => ?_) ?_
        · refine XS.lloadN X3.here hx rfl (hb hby d3_82) rfl ?_
          refine XS.iconst X3.here hx rfl (hb hby d3_83) ?_
          exact k
        obtain ⟨_, _, ⟨T4, L4, k4, n4⟩, -, X4, ⟨Lc4, hQ4, l4, y4, z4⟩, st4⟩ := Jvm.LawKit.callS X3 hx (y := (⟨"com/example/penelope/penelope/KeysPastTenantPinLaw", "b", "(JI)B"⟩ : MethodName)) hown (mvT hZ (hw _ (List.mem_of_getElem? (i := 1) rfl))) (mvT hZ (hw _ (List.mem_of_getElem? (i := 2) rfl))) (mvT hZ (hw _ (List.mem_of_getElem? (i := 3) rfl))) (mvT hZ (hw _ (List.mem_of_getElem? (i := 4) rfl))) (by decide) (backOf (W := 1) (rm1 l Z a0 hw [] j1 (3 : Int32) h0 n0 ) hZ (hw _ (List.mem_of_getElem? (i := 4) rfl)) (hw _ (List.mem_of_getElem? (i := 3) rfl)) (by decide) (by decide)) (g := (mkF m 84 #[.val (.ref o0), .val (.long j1), .second, .val (.int (5 : Int32)), .val (.int i3), .val (.int (sm5_64_s0 j1 i3 g))] [(.int (3 : Int32)), (.long j1), (.int (g 3))])) rfl (by rw [hml]; rfl) (argsL := [(.long j1), (.int (3 : Int32))]) (rest := [(.int (g 3))]) (lenOf pd_0 rfl) rfl (by show 2 * 0 + _ ≤ _; exact Nat.le_of_eq rfl) (hb hby d3_84) (fun _ _ => ⟨rfl, e3, (by decide : 0 + 0 ≤ _), (by decide : 0 + 0 ≤ _)⟩)
        dsimp only [Pt.U, Pt.locs, Pt.cells, Pt.slots] at X4 l4 y4 z4 st4 hQ4
        subst l4 y4 z4
        obtain ⟨rfl, N4q, e4⟩ := hQ4
        have N4 := Fr.app N3 N4q
        obtain ⟨Lh4, X4, N4⟩ := hide X4 N4 (C := 0) (S := 0) (by decide) (by decide)
        refine Outs.of st4 ?_
        refine Outs.of (U' := T4.setTop (mkF m 95 #[.val (.ref o0), .val (.long j1), .second, .val (.int (5 : Int32)), .val (.int i3), .val (.int (sm5_64_s0 j1 i3 g))] [(.int (sm5_87_s0 j1 i3 g))])) (fun t k => ?_) ?_
        · by_cases hc87 : (g 3) = (F_f1 j1 (3 : Int32))
          · refine XS.icmpNo X4.here hx rfl (hb hby d3_87) rfl (teq hc87).2 ?_
            refine XS.iconst X4.here hx rfl (hb hby d3_90) ?_
            refine XS.goto X4.here hx rfl (pc0 := 91) (pc' := 95) rfl (hb hby d3_91) (by decide) (by decide) ?_
            rw [show (sm5_87_s0 j1 i3 g) = (1 : Int32) from (if_pos hc87)] at k
            exact k
          · refine XS.icmpYes X4.here hx rfl (pc0 := 87) (pc' := 94) rfl (hb hby d3_87) rfl (feq hc87).2 (by decide) (by decide) ?_
            refine XS.iconst X4.here hx rfl (hb hby d3_94) ?_
            rw [show (sm5_87_s0 j1 i3 g) = (0 : Int32) from (if_neg hc87)] at k
            exact k
        refine Outs.of (U' := T4.setTop (mkF m 99 #[.val (.ref o0), .val (.long j1), .second, .val (.int (5 : Int32)), .val (.int i3), .val (.int (sm5_87_s0 j1 i3 g))] [(.int (sm5_87_s0 j1 i3 g))])) (fun t k => ?_) ?_
        · refine XS.istore X4.here hx rfl (hb hby d3_95) rfl (l' := #[.val (.ref o0), .val (.long j1), .second, .val (.int (5 : Int32)), .val (.int i3), .val (.int (sm5_87_s0 j1 i3 g))]) rfl ?_
          refine XS.iload X4.here hx rfl (hb hby d3_97) rfl ?_
          exact k
        by_cases hc99 : (sm5_87_s0 j1 i3 g) = (0 : Int32)
        · refine Outs.of (U' := T4.setTop (mkF m 117 #[.val (.ref o0), .val (.long j1), .second, .val (.int (5 : Int32)), .val (.int i3), .val (.int (sm5_87_s0 j1 i3 g))] [])) (fun t k => ?_) ?_
          · refine XS.ifYes X4.here hx rfl (pc0 := 99) (pc' := 117) rfl (hb hby d3_99) rfl ((if0 _ _).trans (teq hc99).1) (by decide) (by decide) ?_
            exact k
          refine Outs.of (U' := T4.setTop (mkF m 252 #[.val (.ref o0), .val (.long j1), .second, .val (.int (5 : Int32)), .val (.int i3), .val (.int (0 : Int32))] [(.int (0 : Int32))])) (fun t k => ?_) ?_
          · refine XS.iconst X4.here hx rfl (hb hby d3_117) ?_
            refine XS.istore X4.here hx rfl (hb hby d3_118) rfl (l' := #[.val (.ref o0), .val (.long j1), .second, .val (.int (5 : Int32)), .val (.int i3), .val (.int (0 : Int32))]) rfl ?_
            refine XS.iload X4.here hx rfl (hb hby d3_120) rfl ?_
            refine XS.ifYes X4.here hx rfl (pc0 := 122) (pc' := 145) rfl (hb hby d3_122) rfl ((if0 _ _).trans (teq (show (0 : Int32) = (0 : Int32) from (by decide))).1) (by decide) (by decide) ?_
            refine XS.iconst X4.here hx rfl (hb hby d3_145) ?_
            refine XS.istore X4.here hx rfl (hb hby d3_146) rfl (l' := #[.val (.ref o0), .val (.long j1), .second, .val (.int (5 : Int32)), .val (.int i3), .val (.int (0 : Int32))]) rfl ?_
            refine XS.iload X4.here hx rfl (hb hby d3_148) rfl ?_
            refine XS.ifYes X4.here hx rfl (pc0 := 150) (pc' := 176) rfl (hb hby d3_150) rfl ((if0 _ _).trans (teq (show (0 : Int32) = (0 : Int32) from (by decide))).1) (by decide) (by decide) ?_
            refine XS.iconst X4.here hx rfl (hb hby d3_176) ?_
            refine XS.istore X4.here hx rfl (hb hby d3_177) rfl (l' := #[.val (.ref o0), .val (.long j1), .second, .val (.int (5 : Int32)), .val (.int i3), .val (.int (0 : Int32))]) rfl ?_
            refine XS.iload X4.here hx rfl (hb hby d3_179) rfl ?_
            refine XS.ifYes X4.here hx rfl (pc0 := 181) (pc' := 207) rfl (hb hby d3_181) rfl ((if0 _ _).trans (teq (show (0 : Int32) = (0 : Int32) from (by decide))).1) (by decide) (by decide) ?_
            refine XS.iconst X4.here hx rfl (hb hby d3_207) ?_
            refine XS.istore X4.here hx rfl (hb hby d3_208) rfl (l' := #[.val (.ref o0), .val (.long j1), .second, .val (.int (5 : Int32)), .val (.int i3), .val (.int (0 : Int32))]) rfl ?_
            refine XS.iload X4.here hx rfl (hb hby d3_210) rfl ?_
            refine XS.ifYes X4.here hx rfl (pc0 := 212) (pc' := 225) rfl (hb hby d3_212) rfl ((if0 _ _).trans (teq (show (0 : Int32) = (0 : Int32) from (by decide))).1) (by decide) (by decide) ?_
            refine XS.iconst X4.here hx rfl (hb hby d3_225) ?_
            refine XS.istore X4.here hx rfl (hb hby d3_226) rfl (l' := #[.val (.ref o0), .val (.long j1), .second, .val (.int (5 : Int32)), .val (.int i3), .val (.int (0 : Int32))]) rfl ?_
            refine XS.iload X4.here hx rfl (hb hby d3_228) rfl ?_
            refine XS.ifYes X4.here hx rfl (pc0 := 230) (pc' := 247) rfl (hb hby d3_230) rfl ((if0 _ _).trans (teq (show (0 : Int32) = (0 : Int32) from (by decide))).1) (by decide) (by decide) ?_
            refine XS.iconst X4.here hx rfl (hb hby d3_247) ?_
            refine XS.istore X4.here hx rfl (hb hby d3_248) rfl (l' := #[.val (.ref o0), .val (.long j1), .second, .val (.int (5 : Int32)), .val (.int i3), .val (.int (0 : Int32))]) rfl ?_
            refine XS.iload X4.here hx rfl (hb hby d3_250) rfl ?_
            exact k
          exact Outs.retN (t := .boolean) (z := (0 : Int32)) X4 hx hret (by simp) (hb hby d3_252) hlk (by decide) (by decide) e4 ⟨congrArg (fun z_ => some (Value.int z_)) (show (F_sm5 j1 i3 g) = (0 : Int32) from ((if_neg hc30).trans ((if_neg hc53).trans ((if_neg hc76).trans (if_pos hc99))))).symm, N4, rfl⟩
        · refine Outs.of (U' := T4.setTop (mkF m 102 #[.val (.ref o0), .val (.long j1), .second, .val (.int (5 : Int32)), .val (.int i3), .val (.int (sm5_87_s0 j1 i3 g))] [])) (fun t k => ?_) ?_
          · refine XS.ifNo X4.here hx rfl (hb hby d3_99) rfl ((if0 _ _).trans (feq hc99).1) ?_
            exact k
          refine Outs.of (U' := T4.setTop (mkF m 104 #[.val (.ref o0), .val (.long j1), .second, .val (.int (5 : Int32)), .val (.int i3), .val (.int (sm5_87_s0 j1 i3 g))] [(.int (4 : Int32)), (.ref o0)])) (fun t k => ?_) ?_
          · refine XS.aloadN X4.here hx rfl (hb hby d3_102) rfl rfl ?_
            refine XS.iconst X4.here hx rfl (hb hby d3_103) ?_
            exact k
          refine Outs.of (ldB X4 hx hZ e4 A_o0 (j := (4 : Int32)) (k := 4) rfl (by decide) (f := (mkF m 104 #[.val (.ref o0), .val (.long j1), .second, .val (.int (5 : Int32)), .val (.int i3), .val (.int (sm5_87_s0 j1 i3 g))] [(.int (4 : Int32)), (.ref o0)])) rfl rfl (hb hby d3_104)) ?_
          refine Outs.of (U' := T4.setTop (mkF m 107 #[.val (.ref o0), .val (.long j1), .second, .val (.int (5 : Int32)), .val (.int i3), .val (.int (sm5_87_s0 j1 i3 g))] [(.int (4 : Int32)), (.long j1), (.int (g 4))])) (fun t k => ?_) ?_
          · refine XS.lloadN X4.here hx rfl (hb hby d3_105) rfl ?_
            refine XS.iconst X4.here hx rfl (hb hby d3_106) ?_
            exact k
          obtain ⟨_, _, ⟨T5, L5, k5, n5⟩, -, X5, ⟨Lc5, hQ5, l5, y5, z5⟩, st5⟩ := Jvm.LawKit.callS X4 hx (y := (⟨"com/example/penelope/penelope/KeysPastTenantPinLaw", "b", "(JI)B"⟩ : MethodName)) hown (mvT hZ (hw _ (List.mem_of_getElem? (i := 1) rfl))) (mvT hZ (hw _ (List.mem_of_getElem? (i := 2) rfl))) (mvT hZ (hw _ (List.mem_of_getElem? (i := 3) rfl))) (mvT hZ (hw _ (List.mem_of_getElem? (i := 4) rfl))) (by decide) (backOf (W := 1) (rm1 l Z a0 hw [] j1 (4 : Int32) h0 n0 ) hZ (hw _ (List.mem_of_getElem? (i := 4) rfl)) (hw _ (List.mem_of_getElem? (i := 3) rfl)) (by decide) (by decide)) (g := (mkF m 107 #[.val (.ref o0), .val (.long j1), .second, .val (.int (5 : Int32)), .val (.int i3), .val (.int (sm5_87_s0 j1 i3 g))] [(.int (4 : Int32)), (.long j1), (.int (g 4))])) rfl (by rw [hml]; rfl) (argsL := [(.long j1), (.int (4 : Int32))]) (rest := [(.int (g 4))]) (lenOf pd_0 rfl) rfl (by show 2 * 0 + _ ≤ _; exact Nat.le_of_eq rfl) (hb hby d3_107) (fun _ _ => ⟨rfl, e4, (by decide : 0 + 0 ≤ _), (by decide : 0 + 0 ≤ _)⟩)
          dsimp only [Pt.U, Pt.locs, Pt.cells, Pt.slots] at X5 l5 y5 z5 st5 hQ5
          subst l5 y5 z5
          obtain ⟨rfl, N5q, e5⟩ := hQ5
          have N5 := Fr.app N4 N5q
          obtain ⟨Lh5, X5, N5⟩ := hide X5 N5 (C := 0) (S := 0) (by decide) (by decide)
          refine Outs.of st5 ?_
          refine Outs.of (U' := T5.setTop (mkF m 118 #[.val (.ref o0), .val (.long j1), .second, .val (.int (5 : Int32)), .val (.int i3), .val (.int (sm5_87_s0 j1 i3 g))] [(.int (sm5_110_s0 j1 i3 g))])) (fun t k => ?_) ?_
          · by_cases hc110 : (g 4) = (F_f1 j1 (4 : Int32))
            · refine XS.icmpNo X5.here hx rfl (hb hby d3_110) rfl (teq hc110).2 ?_
              refine XS.iconst X5.here hx rfl (hb hby d3_113) ?_
              refine XS.goto X5.here hx rfl (pc0 := 114) (pc' := 118) rfl (hb hby d3_114) (by decide) (by decide) ?_
              rw [show (sm5_110_s0 j1 i3 g) = (1 : Int32) from (if_pos hc110)] at k
              exact k
            · refine XS.icmpYes X5.here hx rfl (pc0 := 110) (pc' := 117) rfl (hb hby d3_110) rfl (feq hc110).2 (by decide) (by decide) ?_
              refine XS.iconst X5.here hx rfl (hb hby d3_117) ?_
              rw [show (sm5_110_s0 j1 i3 g) = (0 : Int32) from (if_neg hc110)] at k
              exact k
          refine Outs.of (U' := T5.setTop (mkF m 122 #[.val (.ref o0), .val (.long j1), .second, .val (.int (5 : Int32)), .val (.int i3), .val (.int (sm5_110_s0 j1 i3 g))] [(.int (sm5_110_s0 j1 i3 g))])) (fun t k => ?_) ?_
          · refine XS.istore X5.here hx rfl (hb hby d3_118) rfl (l' := #[.val (.ref o0), .val (.long j1), .second, .val (.int (5 : Int32)), .val (.int i3), .val (.int (sm5_110_s0 j1 i3 g))]) rfl ?_
            refine XS.iload X5.here hx rfl (hb hby d3_120) rfl ?_
            exact k
          by_cases hc122 : (sm5_110_s0 j1 i3 g) = (0 : Int32)
          · refine Outs.of (U' := T5.setTop (mkF m 145 #[.val (.ref o0), .val (.long j1), .second, .val (.int (5 : Int32)), .val (.int i3), .val (.int (sm5_110_s0 j1 i3 g))] [])) (fun t k => ?_) ?_
            · refine XS.ifYes X5.here hx rfl (pc0 := 122) (pc' := 145) rfl (hb hby d3_122) rfl ((if0 _ _).trans (teq hc122).1) (by decide) (by decide) ?_
              exact k
            refine Outs.of (U' := T5.setTop (mkF m 252 #[.val (.ref o0), .val (.long j1), .second, .val (.int (5 : Int32)), .val (.int i3), .val (.int (0 : Int32))] [(.int (0 : Int32))])) (fun t k => ?_) ?_
            · refine XS.iconst X5.here hx rfl (hb hby d3_145) ?_
              refine XS.istore X5.here hx rfl (hb hby d3_146) rfl (l' := #[.val (.ref o0), .val (.long j1), .second, .val (.int (5 : Int32)), .val (.int i3), .val (.int (0 : Int32))]) rfl ?_
              refine XS.iload X5.here hx rfl (hb hby d3_148) rfl ?_
              refine XS.ifYes X5.here hx rfl (pc0 := 150) (pc' := 176) rfl (hb hby d3_150) rfl ((if0 _ _).trans (teq (show (0 : Int32) = (0 : Int32) from (by decide))).1) (by decide) (by decide) ?_
              refine XS.iconst X5.here hx rfl (hb hby d3_176) ?_
              refine XS.istore X5.here hx rfl (hb hby d3_177) rfl (l' := #[.val (.ref o0), .val (.long j1), .second, .val (.int (5 : Int32)), .val (.int i3), .val (.int (0 : Int32))]) rfl ?_
              refine XS.iload X5.here hx rfl (hb hby d3_179) rfl ?_
              refine XS.ifYes X5.here hx rfl (pc0 := 181) (pc' := 207) rfl (hb hby d3_181) rfl ((if0 _ _).trans (teq (show (0 : Int32) = (0 : Int32) from (by decide))).1) (by decide) (by decide) ?_
              refine XS.iconst X5.here hx rfl (hb hby d3_207) ?_
              refine XS.istore X5.here hx rfl (hb hby d3_208) rfl (l' := #[.val (.ref o0), .val (.long j1), .second, .val (.int (5 : Int32)), .val (.int i3), .val (.int (0 : Int32))]) rfl ?_
              refine XS.iload X5.here hx rfl (hb hby d3_210) rfl ?_
              refine XS.ifYes X5.here hx rfl (pc0 := 212) (pc' := 225) rfl (hb hby d3_212) rfl ((if0 _ _).trans (teq (show (0 : Int32) = (0 : Int32) from (by decide))).1) (by decide) (by decide) ?_
              refine XS.iconst X5.here hx rfl (hb hby d3_225) ?_
              refine XS.istore X5.here hx rfl (hb hby d3_226) rfl (l' := #[.val (.ref o0), .val (.long j1), .second, .val (.int (5 : Int32)), .val (.int i3), .val (.int (0 : Int32))]) rfl ?_
              refine XS.iload X5.here hx rfl (hb hby d3_228) rfl ?_
              refine XS.ifYes X5.here hx rfl (pc0 := 230) (pc' := 247) rfl (hb hby d3_230) rfl ((if0 _ _).trans (teq (show (0 : Int32) = (0 : Int32) from (by decide))).1) (by decide) (by decide) ?_
              refine XS.iconst X5.here hx rfl (hb hby d3_247) ?_
              refine XS.istore X5.here hx rfl (hb hby d3_248) rfl (l' := #[.val (.ref o0), .val (.long j1), .second, .val (.int (5 : Int32)), .val (.int i3), .val (.int (0 : Int32))]) rfl ?_
              refine XS.iload X5.here hx rfl (hb hby d3_250) rfl ?_
              exact k
            exact Outs.retN (t := .boolean) (z := (0 : Int32)) X5 hx hret (by simp) (hb hby d3_252) hlk (by decide) (by decide) e5 ⟨congrArg (fun z_ => some (Value.int z_)) (show (F_sm5 j1 i3 g) = (0 : Int32) from ((if_neg hc30).trans ((if_neg hc53).trans ((if_neg hc76).trans ((if_neg hc99).trans (if_pos hc122)))))).symm, N5, rfl⟩
          · refine Outs.of (U' := T5.setTop (mkF m 125 #[.val (.ref o0), .val (.long j1), .second, .val (.int (5 : Int32)), .val (.int i3), .val (.int (sm5_110_s0 j1 i3 g))] [])) (fun t k => ?_) ?_
            · refine XS.ifNo X5.here hx rfl (hb hby d3_122) rfl ((if0 _ _).trans (feq hc122).1) ?_
              exact k
            refine Outs.of (U' := T5.setTop (mkF m 217 #[.val (.ref o0), .val (.long j1), .second, .val (.int (5 : Int32)), .val (.int i3), .val (.int (1 : Int32))] [(.int (5 : Int32)), (.ref o0)])) (fun t k => ?_) ?_
            · refine XS.iloadN X5.here hx rfl (hb hby d3_125) rfl ?_
              refine XS.iconst X5.here hx rfl (hb hby d3_126) ?_
              refine XS.icmpYes X5.here hx rfl (pc0 := 127) (pc' := 141) rfl (hb hby d3_127) rfl (flt (show ¬ ((5 : Int32) < (5 : Int32)) from (by decide))).2.2.2 (by decide) (by decide) ?_
              refine XS.iconst X5.here hx rfl (hb hby d3_141) ?_
              refine XS.goto X5.here hx rfl (pc0 := 142) (pc' := 146) rfl (hb hby d3_142) (by decide) (by decide) ?_
              refine XS.istore X5.here hx rfl (hb hby d3_146) rfl (l' := #[.val (.ref o0), .val (.long j1), .second, .val (.int (5 : Int32)), .val (.int i3), .val (.int (1 : Int32))]) rfl ?_
              refine XS.iload X5.here hx rfl (hb hby d3_148) rfl ?_
              refine XS.ifNo X5.here hx rfl (hb hby d3_150) rfl ((if0 _ _).trans (feq (show ¬ ((1 : Int32) = (0 : Int32)) from (by decide))).1) ?_
              refine XS.iloadN X5.here hx rfl (hb hby d3_153) rfl ?_
              refine XS.bipush X5.here hx rfl (hb hby d3_154) ?_
              refine XS.icmpYes X5.here hx rfl (pc0 := 156) (pc' := 172) rfl (hb hby d3_156) rfl (flt (show ¬ ((6 : Int32) < (5 : Int32)) from (by decide))).2.2.2 (by decide) (by decide) ?_
              refine XS.iconst X5.here hx rfl (hb hby d3_172) ?_
              refine XS.goto X5.here hx rfl (pc0 := 173) (pc' := 177) rfl (hb hby d3_173) (by decide) (by decide) ?_
              refine XS.istore X5.here hx rfl (hb hby d3_177) rfl (l' := #[.val (.ref o0), .val (.long j1), .second, .val (.int (5 : Int32)), .val (.int i3), .val (.int (1 : Int32))]) rfl ?_
              refine XS.iload X5.here hx rfl (hb hby d3_179) rfl ?_
              refine XS.ifNo X5.here hx rfl (hb hby d3_181) rfl ((if0 _ _).trans (feq (show ¬ ((1 : Int32) = (0 : Int32)) from (by decide))).1) ?_
              refine XS.iloadN X5.here hx rfl (hb hby d3_184) rfl ?_
              refine XS.bipush X5.here hx rfl (hb hby d3_185) ?_
              refine XS.icmpYes X5.here hx rfl (pc0 := 187) (pc' := 203) rfl (hb hby d3_187) rfl (flt (show ¬ ((7 : Int32) < (5 : Int32)) from (by decide))).2.2.2 (by decide) (by decide) ?_
              refine XS.iconst X5.here hx rfl (hb hby d3_203) ?_
              refine XS.goto X5.here hx rfl (pc0 := 204) (pc' := 208) rfl (hb hby d3_204) (by decide) (by decide) ?_
              refine XS.istore X5.here hx rfl (hb hby d3_208) rfl (l' := #[.val (.ref o0), .val (.long j1), .second, .val (.int (5 : Int32)), .val (.int i3), .val (.int (1 : Int32))]) rfl ?_
              refine XS.iload X5.here hx rfl (hb hby d3_210) rfl ?_
              refine XS.ifNo X5.here hx rfl (hb hby d3_212) rfl ((if0 _ _).trans (feq (show ¬ ((1 : Int32) = (0 : Int32)) from (by decide))).1) ?_
              refine XS.aloadN X5.here hx rfl (hb hby d3_215) rfl rfl ?_
              refine XS.iloadN X5.here hx rfl (hb hby d3_216) rfl ?_
              exact k
            refine Outs.of (ldB X5 hx hZ e5 A_o0 (j := (5 : Int32)) (k := 5) rfl (by decide) (f := (mkF m 217 #[.val (.ref o0), .val (.long j1), .second, .val (.int (5 : Int32)), .val (.int i3), .val (.int (1 : Int32))] [(.int (5 : Int32)), (.ref o0)])) rfl rfl (hb hby d3_217)) ?_
            refine Outs.of (U' := T5.setTop (mkF m 226 #[.val (.ref o0), .val (.long j1), .second, .val (.int (5 : Int32)), .val (.int i3), .val (.int (1 : Int32))] [(.int (sm5_218_s0 j1 i3 g))])) (fun t k => ?_) ?_
            · by_cases hc218 : (g 5) = (0 : Int32)
              · refine XS.ifNo X5.here hx rfl (hb hby d3_218) rfl ((if0 _ _).trans (teq hc218).2) ?_
                refine XS.iconst X5.here hx rfl (hb hby d3_221) ?_
                refine XS.goto X5.here hx rfl (pc0 := 222) (pc' := 226) rfl (hb hby d3_222) (by decide) (by decide) ?_
                rw [show (sm5_218_s0 j1 i3 g) = (1 : Int32) from (if_pos hc218)] at k
                exact k
              · refine XS.ifYes X5.here hx rfl (pc0 := 218) (pc' := 225) rfl (hb hby d3_218) rfl ((if0 _ _).trans (feq hc218).2) (by decide) (by decide) ?_
                refine XS.iconst X5.here hx rfl (hb hby d3_225) ?_
                rw [show (sm5_218_s0 j1 i3 g) = (0 : Int32) from (if_neg hc218)] at k
                exact k
            refine Outs.of (U' := T5.setTop (mkF m 230 #[.val (.ref o0), .val (.long j1), .second, .val (.int (5 : Int32)), .val (.int i3), .val (.int (sm5_218_s0 j1 i3 g))] [(.int (sm5_218_s0 j1 i3 g))])) (fun t k => ?_) ?_
            · refine XS.istore X5.here hx rfl (hb hby d3_226) rfl (l' := #[.val (.ref o0), .val (.long j1), .second, .val (.int (5 : Int32)), .val (.int i3), .val (.int (sm5_218_s0 j1 i3 g))]) rfl ?_
              refine XS.iload X5.here hx rfl (hb hby d3_228) rfl ?_
              exact k
            by_cases hc230 : (sm5_218_s0 j1 i3 g) = (0 : Int32)
            · refine Outs.of (U' := T5.setTop (mkF m 247 #[.val (.ref o0), .val (.long j1), .second, .val (.int (5 : Int32)), .val (.int i3), .val (.int (sm5_218_s0 j1 i3 g))] [])) (fun t k => ?_) ?_
              · refine XS.ifYes X5.here hx rfl (pc0 := 230) (pc' := 247) rfl (hb hby d3_230) rfl ((if0 _ _).trans (teq hc230).1) (by decide) (by decide) ?_
                exact k
              refine Outs.of (U' := T5.setTop (mkF m 252 #[.val (.ref o0), .val (.long j1), .second, .val (.int (5 : Int32)), .val (.int i3), .val (.int (0 : Int32))] [(.int (0 : Int32))])) (fun t k => ?_) ?_
              · refine XS.iconst X5.here hx rfl (hb hby d3_247) ?_
                refine XS.istore X5.here hx rfl (hb hby d3_248) rfl (l' := #[.val (.ref o0), .val (.long j1), .second, .val (.int (5 : Int32)), .val (.int i3), .val (.int (0 : Int32))]) rfl ?_
                refine XS.iload X5.here hx rfl (hb hby d3_250) rfl ?_
                exact k
              exact Outs.retN (t := .boolean) (z := (0 : Int32)) X5 hx hret (by simp) (hb hby d3_252) hlk (by decide) (by decide) e5 ⟨congrArg (fun z_ => some (Value.int z_)) (show (F_sm5 j1 i3 g) = (0 : Int32) from ((if_neg hc30).trans ((if_neg hc53).trans ((if_neg hc76).trans ((if_neg hc99).trans ((if_neg hc122).trans (if_pos hc230))))))).symm, N5, rfl⟩
            · refine Outs.of (U' := T5.setTop (mkF m 233 #[.val (.ref o0), .val (.long j1), .second, .val (.int (5 : Int32)), .val (.int i3), .val (.int (sm5_218_s0 j1 i3 g))] [])) (fun t k => ?_) ?_
              · refine XS.ifNo X5.here hx rfl (hb hby d3_230) rfl ((if0 _ _).trans (feq hc230).1) ?_
                exact k
              refine Outs.of (U' := T5.setTop (mkF m 237 #[.val (.ref o0), .val (.long j1), .second, .val (.int (5 : Int32)), .val (.int i3), .val (.int (sm5_218_s0 j1 i3 g))] [(.int (6 : Int32)), (.ref o0)])) (fun t k => ?_) ?_
              · refine XS.aloadN X5.here hx rfl (hb hby d3_233) rfl rfl ?_
                refine XS.iloadN X5.here hx rfl (hb hby d3_234) rfl ?_
                refine XS.iconst X5.here hx rfl (hb hby d3_235) ?_
                refine XS.iadd X5.here hx rfl (hb hby d3_236) rfl ?_
                exact k
              refine Outs.of (ldB X5 hx hZ e5 A_o0 (j := (6 : Int32)) (k := 6) rfl (by decide) (f := (mkF m 237 #[.val (.ref o0), .val (.long j1), .second, .val (.int (5 : Int32)), .val (.int i3), .val (.int (sm5_218_s0 j1 i3 g))] [(.int (6 : Int32)), (.ref o0)])) rfl rfl (hb hby d3_237)) ?_
              refine Outs.of (U' := T5.setTop (mkF m 248 #[.val (.ref o0), .val (.long j1), .second, .val (.int (5 : Int32)), .val (.int i3), .val (.int (sm5_218_s0 j1 i3 g))] [(.int (sm5_240_s0 j1 i3 g))])) (fun t k => ?_) ?_
              · refine XS.iload X5.here hx rfl (hb hby d3_238) rfl ?_
                by_cases hc240 : (g 6) = i3
                · refine XS.icmpNo X5.here hx rfl (hb hby d3_240) rfl (teq hc240).2 ?_
                  refine XS.iconst X5.here hx rfl (hb hby d3_243) ?_
                  refine XS.goto X5.here hx rfl (pc0 := 244) (pc' := 248) rfl (hb hby d3_244) (by decide) (by decide) ?_
                  rw [show (sm5_240_s0 j1 i3 g) = (1 : Int32) from (if_pos hc240)] at k
                  exact k
                · refine XS.icmpYes X5.here hx rfl (pc0 := 240) (pc' := 247) rfl (hb hby d3_240) rfl (feq hc240).2 (by decide) (by decide) ?_
                  refine XS.iconst X5.here hx rfl (hb hby d3_247) ?_
                  rw [show (sm5_240_s0 j1 i3 g) = (0 : Int32) from (if_neg hc240)] at k
                  exact k
              refine Outs.of (U' := T5.setTop (mkF m 252 #[.val (.ref o0), .val (.long j1), .second, .val (.int (5 : Int32)), .val (.int i3), .val (.int (sm5_240_s0 j1 i3 g))] [(.int (sm5_240_s0 j1 i3 g))])) (fun t k => ?_) ?_
              · refine XS.istore X5.here hx rfl (hb hby d3_248) rfl (l' := #[.val (.ref o0), .val (.long j1), .second, .val (.int (5 : Int32)), .val (.int i3), .val (.int (sm5_240_s0 j1 i3 g))]) rfl ?_
                refine XS.iload X5.here hx rfl (hb hby d3_250) rfl ?_
                exact k
              exact Outs.retN (t := .boolean) (z := (sm5_240_s0 j1 i3 g)) X5 hx hret (by simp) (hb hby d3_252) hlk (by decide) (by decide) e5 ⟨congrArg (fun z_ => some (Value.int z_)) (show (F_sm5 j1 i3 g) = (nar .boolean (sm5_240_s0 j1 i3 g)) from ((if_neg hc30).trans ((if_neg hc53).trans ((if_neg hc76).trans ((if_neg hc99).trans ((if_neg hc122).trans (if_neg hc230))))))).symm, N5, rfl⟩
def pt8_g18 (g : Nat → Int32) : Nat → Int32 := (upv g 9 ((((g 9) + (1 : Int32)).toInt8.toInt32).toInt8.toInt32))
def Q_pt8 (Z : State) (o0 : Addr) (g : Nat → Int32) (h0 : Heap) (n0 : Nat) (v : Option Value) (h : Heap) (L : List Loc) : Prop := ∃ b1 : Addr, n0 ≤ b1 ∧ h0.size ≤ b1 ∧ v = some (.ref b1) ∧ Fr n0 L ∧ Keep h0 h [] ∧ AI Z h b1 .byte 10 (pt8_g18 g)
set_option maxRecDepth 65536 in
set_option maxHeartbeats 40000000 in
theorem rmpt8 (l : Launch) (Z : State) (a0 : Array Value) (hw : ∀ d ∈ tables_1, d.before a0 Z = true) (ws : List Jvm.Cond) (o0 : Addr) (g : Nat → Int32) (h0 : Heap) (n0 : Nat) (Z0 : n0 ≤ h0.size) (E_o0 : Exa Z h0 o0 "[B") (A_o0 : AI Z h0 o0 .byte 10 g) (hfit : ∀ k_, k_ < 10 → fits .byte (.int (g k_)) = true) :
    MetFree l (⟨"com/example/penelope/penelope/Keys", "pastTenant", "([B)[B"⟩ : MethodName) (head1 (Jvm.Cond.code (⟨"com/example/penelope/penelope/Keys", "pastTenant", "([B)[B"⟩ : MethodName) prog_19_method_15_code 2 (some (.array .byte)) :: ws) ({ frames := 1, cells := 1, slots := 10, locals := 14 } : Room)) (fun a U => a = #[(.ref o0)] ∧ Z.Warmed39 U.vm ∧ U.heap = h0) (fun _ _ _ _ _ => True) (fun _ U o U' => ∃ v L, o = .returned v ∧ Q_pt8 Z o0 g h0 n0 v U'.heap L ∧ FrameEnd U o U' L ({ frames := 1, cells := 1, slots := 10, locals := 14 } : Room).cells ({ frames := 1, cells := 1, slots := 10, locals := 14 } : Room).slots) := by
  refine MetFree.of_bodySF (plainFor_of_name pn_2) hisR ?_
  intro p e s m args below meth c s₁ Bd hml0 hP hK
  obtain ⟨rfl, hZ, hh⟩ := hP
  have hx := Bd.exec
  have hby := Bd.bytes
  have hml : c.maxLocals = 2 := hml0
  have hown : s.vm.findClass "com/example/penelope/penelope/Keys" = some m.cls := findClass_of_methodNamed Bd.named
  have hnm := (name_of_methodNamed Bd.named Bd.method).1
  have hret := Bd.returns
  have hlk : meth.locks = false := BodyLoose.notSynchronized Bd
  have X0 : Stand p l e ({ frames := 1, cells := 1, slots := 10, locals := 14 } : Room) s m #[(.ref o0)] below meth c s₁ [] 0 0 := Stand.of_body Bd
  have e0 : s₁.heap = h0 := by rw [← hh, Bd.state]; rfl
  have N0 := Fr.nil n0
  show Outs p e below s (Q_pt8 Z o0 g h0 n0) _ _ _
  refine Outs.of (U' := s₁.setTop (mkF m 0 #[.val (.ref o0), .unset] [])) (fun t k => castTop (ef_2 m o0) k) ?_
  refine Outs.of (U' := s₁.setTop (mkF m 1 #[.val (.ref o0), .unset] [(.ref o0)])) (fun t k => ?_) ?_
  · refine XS.aloadN X0.here hx rfl (hb hby d2_0) rfl rfl ?_
    exact k
  obtain ⟨T1, h1, X1, e1, E1, A1, Ex1, st1⟩ := cloneF X0 hx hZ hown (hw _ (List.mem_of_getElem? (i := 9) rfl)) (hw _ (List.mem_of_getElem? (i := 10) rfl)) (hw _ (List.mem_of_getElem? (i := 14) rfl)) (hw _ (List.mem_of_getElem? (i := 12) rfl)) (hw _ (List.mem_of_getElem? (i := 13) rfl)) (hw _ (List.mem_of_getElem? (i := 15) rfl)) e0 A_o0 E_o0 hfit (f := (mkF m 1 #[.val (.ref o0), .unset] [(.ref o0)])) rfl (by rw [hml]; rfl) rfl (hb hby d2_1) (by decide) (W := 0) (cap := 10) (by show 2 * 0 + _ ≤ _; exact Nat.le_of_eq rfl) (by decide) (by decide) (by decide) (by decide)
  obtain ⟨b1, g1⟩ : ∃ z, z = h0.size := ⟨_, rfl⟩
  rw [← g1] at A1 Ex1 st1
  have g_b1 : n0 ≤ b1 := Nat.le_trans Z0 (Nat.le_of_eq g1.symm)
  have sz_b1 : h0.size ≤ b1 := Nat.le_trans (Keep.refl h0 []).1 (Nat.le_of_eq g1.symm)
  have ne_o0_b1 : o0 ≠ b1 := Nat.ne_of_lt (Nat.lt_of_lt_of_eq E_o0.lt g1.symm)
  have V1 : AI Z h1 b1 .byte 10 g := A1
  refine Outs.of st1 ?_
  obtain ⟨T2, X2, e2, st2⟩ := castY X1 hx hZ hown (hw _ (List.mem_of_getElem? (i := 16) rfl)) e1 (Ins.self Ex1) (g := (mkF m 4 #[.val (.ref o0), .unset] [(.ref b1)])) rfl rfl (hb hby d2_4)
  refine Outs.of st2 ?_
  refine Outs.of (U' := T2.setTop (mkF m 10 #[.val (.ref o0), .val (.ref b1)] [(.ref b1), (.ref b1)])) (fun t k => ?_) ?_
  · refine XS.astoreN X2.here hx rfl (hb hby d2_7) rfl rfl (l' := #[.val (.ref o0), .val (.ref b1)]) rfl ?_
    refine XS.aloadN X2.here hx rfl (hb hby d2_8) rfl rfl ?_
    refine XS.aloadN X2.here hx rfl (hb hby d2_9) rfl rfl ?_
    exact k
  refine Outs.of (alen X2 hx hZ e2 V1 (z := (10 : Int32)) rfl (f := (mkF m 10 #[.val (.ref o0), .val (.ref b1)] [(.ref b1), (.ref b1)])) rfl rfl (hb hby d2_10)) ?_
  refine Outs.of (U' := T2.setTop (mkF m 14 #[.val (.ref o0), .val (.ref b1)] [(.int (9 : Int32)), (.ref b1), (.int (9 : Int32)), (.ref b1)])) (fun t k => ?_) ?_
  · refine XS.iconst X2.here hx rfl (hb hby d2_11) ?_
    refine XS.isub X2.here hx rfl (hb hby d2_12) rfl ?_
    show Steps p.tables e below (T2.setTop (mkF m 13 #[.val (.ref o0), .val (.ref b1)] [(.int (9 : Int32)), (.ref b1)])) _
    jvm_step X2.here [X2.here.top, hx, (hb hby d2_13), Value.category]
    exact k
  refine Outs.of (ldB X2 hx hZ e2 V1 (j := (9 : Int32)) (k := 9) rfl (by decide) (f := (mkF m 14 #[.val (.ref o0), .val (.ref b1)] [(.int (9 : Int32)), (.ref b1), (.int (9 : Int32)), (.ref b1)])) rfl rfl (hb hby d2_14)) ?_
  refine Outs.of (U' := T2.setTop (mkF m 18 #[.val (.ref o0), .val (.ref b1)] [(.int (((g 9) + (1 : Int32)).toInt8.toInt32)), (.int (9 : Int32)), (.ref b1)])) (fun t k => ?_) ?_
  · refine XS.iconst X2.here hx rfl (hb hby d2_15) ?_
    refine XS.iadd X2.here hx rfl (hb hby d2_16) rfl ?_
    refine XS.i2b X2.here hx rfl (hb hby d2_17) rfl ?_
    exact k
  obtain ⟨T3, h3, X3, e3, W3, V3, st3⟩ := puB X2 hx hZ e2 V1 (j := (9 : Int32)) (x := (((g 9) + (1 : Int32)).toInt8.toInt32)) (k := 9) rfl (by decide) (f := (mkF m 18 #[.val (.ref o0), .val (.ref b1)] [(.int (((g 9) + (1 : Int32)).toInt8.toInt32)), (.int (9 : Int32)), (.ref b1)])) rfl rfl (hb hby d2_18)
  replace V3 : AI Z h3 b1 .byte 10 (pt8_g18 g) := V3
  have N3 := Fr.snoc X3 N0 g_b1
  obtain ⟨Lh3, X3, N3⟩ := hide X3 N3 (C := 1) (S := 10) (by decide) (by decide)
  refine Outs.of st3 ?_
  refine Outs.of (U' := T3.setTop (mkF m 20 #[.val (.ref o0), .val (.ref b1)] [(.ref b1)])) (fun t k => ?_) ?_
  · refine XS.aloadN X3.here hx rfl (hb hby d2_19) rfl rfl ?_
    exact k
  exact Outs.retA (w := (.ref b1)) X3 hx hret rfl rfl rfl (hb hby d2_20) hlk (by decide) (by decide) e3 ⟨b1, g_b1, sz_b1, rfl, N3, (((Keep.refl h0 []).ext E1).wr W3 (Or.inr sz_b1)), V3⟩
theorem d3_130 : decode method_3_code 130 = .ok (.aload_n 0, 1) := by decide +kernel
theorem d3_131 : decode method_3_code 131 = .ok (.iconst 5, 1) := by decide +kernel
theorem d3_132 : decode method_3_code 132 = .ok (.baload, 1) := by decide +kernel
theorem d3_133 : decode method_3_code 133 = .ok (.lload_n 1, 1) := by decide +kernel
theorem d3_134 : decode method_3_code 134 = .ok (.iconst 5, 1) := by decide +kernel
theorem d3_135 : decode method_3_code 135 = .ok (.invokestatic 7, 3) := by decide +kernel
theorem d3_138 : decode method_3_code 138 = .ok (.if_icmp .ne 7, 3) := by decide +kernel
theorem d3_159 : decode method_3_code 159 = .ok (.aload_n 0, 1) := by decide +kernel
theorem d3_160 : decode method_3_code 160 = .ok (.bipush 6, 2) := by decide +kernel
theorem d3_162 : decode method_3_code 162 = .ok (.baload, 1) := by decide +kernel
theorem d3_163 : decode method_3_code 163 = .ok (.lload_n 1, 1) := by decide +kernel
theorem d3_164 : decode method_3_code 164 = .ok (.bipush 6, 2) := by decide +kernel
theorem d3_166 : decode method_3_code 166 = .ok (.invokestatic 7, 3) := by decide +kernel
theorem d3_169 : decode method_3_code 169 = .ok (.if_icmp .ne 7, 3) := by decide +kernel
theorem d3_190 : decode method_3_code 190 = .ok (.aload_n 0, 1) := by decide +kernel
theorem d3_191 : decode method_3_code 191 = .ok (.bipush 7, 2) := by decide +kernel
theorem d3_193 : decode method_3_code 193 = .ok (.baload, 1) := by decide +kernel
theorem d3_194 : decode method_3_code 194 = .ok (.lload_n 1, 1) := by decide +kernel
theorem d3_195 : decode method_3_code 195 = .ok (.bipush 7, 2) := by decide +kernel
theorem d3_197 : decode method_3_code 197 = .ok (.invokestatic 7, 3) := by decide +kernel
theorem d3_200 : decode method_3_code 200 = .ok (.if_icmp .ne 7, 3) := by decide +kernel
def sm8_18_s0 (j1 : Int64) (i3 : Int32) (g : Nat → Int32) : Int32 := (if (g 0) = (F_f1 j1 (0 : Int32)) then (1 : Int32) else (0 : Int32))
def sm8_41_s0 (j1 : Int64) (i3 : Int32) (g : Nat → Int32) : Int32 := (if (g 1) = (F_f1 j1 (1 : Int32)) then (1 : Int32) else (0 : Int32))
def sm8_64_s0 (j1 : Int64) (i3 : Int32) (g : Nat → Int32) : Int32 := (if (g 2) = (F_f1 j1 (2 : Int32)) then (1 : Int32) else (0 : Int32))
def sm8_87_s0 (j1 : Int64) (i3 : Int32) (g : Nat → Int32) : Int32 := (if (g 3) = (F_f1 j1 (3 : Int32)) then (1 : Int32) else (0 : Int32))
def sm8_110_s0 (j1 : Int64) (i3 : Int32) (g : Nat → Int32) : Int32 := (if (g 4) = (F_f1 j1 (4 : Int32)) then (1 : Int32) else (0 : Int32))
def sm8_138_s0 (j1 : Int64) (i3 : Int32) (g : Nat → Int32) : Int32 := (if (g 5) = (F_f1 j1 (5 : Int32)) then (1 : Int32) else (0 : Int32))
def sm8_169_s0 (j1 : Int64) (i3 : Int32) (g : Nat → Int32) : Int32 := (if (g 6) = (F_f1 j1 (6 : Int32)) then (1 : Int32) else (0 : Int32))
def sm8_200_s0 (j1 : Int64) (i3 : Int32) (g : Nat → Int32) : Int32 := (if (g 7) = (F_f1 j1 (7 : Int32)) then (1 : Int32) else (0 : Int32))
def sm8_218_s0 (j1 : Int64) (i3 : Int32) (g : Nat → Int32) : Int32 := (if (g 8) = (0 : Int32) then (1 : Int32) else (0 : Int32))
def sm8_240_s0 (j1 : Int64) (i3 : Int32) (g : Nat → Int32) : Int32 := (if (g 9) = i3 then (1 : Int32) else (0 : Int32))
def F_sm8 (j1 : Int64) (i3 : Int32) (g : Nat → Int32) : Int32 := (if (sm8_18_s0 j1 i3 g) = (0 : Int32) then (0 : Int32) else (if (sm8_41_s0 j1 i3 g) = (0 : Int32) then (0 : Int32) else (if (sm8_64_s0 j1 i3 g) = (0 : Int32) then (0 : Int32) else (if (sm8_87_s0 j1 i3 g) = (0 : Int32) then (0 : Int32) else (if (sm8_110_s0 j1 i3 g) = (0 : Int32) then (0 : Int32) else (if (sm8_138_s0 j1 i3 g) = (0 : Int32) then (0 : Int32) else (if (sm8_169_s0 j1 i3 g) = (0 : Int32) then (0 : Int32) else (if (sm8_200_s0 j1 i3 g) = (0 : Int32) then (0 : Int32) else (if (sm8_218_s0 j1 i3 g) = (0 : Int32) then (0 : Int32) else (nar .boolean (sm8_240_s0 j1 i3 g)))))))))))
set_option maxRecDepth 65536 in
set_option maxHeartbeats 40000000 in
theorem rmsm8 (l : Launch) (Z : State) (a0 : Array Value) (hw : ∀ d ∈ tables_1, d.before a0 Z = true) (ws : List Jvm.Cond) (o0 : Addr) (j1 : Int64) (i3 : Int32) (g : Nat → Int32) (h0 : Heap) (n0 : Nat) (A_o0 : AI Z h0 o0 .byte 10 g) :
    MetFree l (⟨"com/example/penelope/penelope/KeysPastTenantPinLaw", "same", "([BJIB)Z"⟩ : MethodName) (head1 (Jvm.Cond.code (⟨"com/example/penelope/penelope/KeysPastTenantPinLaw", "same", "([BJIB)Z"⟩ : MethodName) method_3_code 6 (some .boolean) :: ws) ({ frames := 1, cells := 0, slots := 0, locals := 15 } : Room)) (fun a U => a = #[(.ref o0), (.long j1), (.int (8 : Int32)), (.int i3)] ∧ Z.Warmed39 U.vm ∧ U.heap = h0) (fun _ _ _ _ _ => True) (fun _ U o U' => ∃ v L, o = .returned v ∧ QR (some (.int (F_sm8 j1 i3 g))) h0 n0 v U'.heap L ∧ FrameEnd U o U' L ({ frames := 1, cells := 0, slots := 0, locals := 15 } : Room).cells ({ frames := 1, cells := 0, slots := 0, locals := 15 } : Room).slots) := by
  refine MetFree.of_bodySF (plainFor_of_name pn_0) hisR ?_
  intro p e s m args below meth c s₁ Bd hml0 hP hK
  obtain ⟨rfl, hZ, hh⟩ := hP
  have hx := Bd.exec
  have hby := Bd.bytes
  have hml : c.maxLocals = 6 := hml0
  have hown : s.vm.findClass "com/example/penelope/penelope/KeysPastTenantPinLaw" = some m.cls := findClass_of_methodNamed Bd.named
  have hnm := (name_of_methodNamed Bd.named Bd.method).1
  have hret := Bd.returns
  have hlk : meth.locks = false := BodyLoose.notSynchronized Bd
  have X0 : Stand p l e ({ frames := 1, cells := 0, slots := 0, locals := 15 } : Room) s m #[(.ref o0), (.long j1), (.int (8 : Int32)), (.int i3)] below meth c s₁ [] 0 0 := Stand.of_body Bd
  have e0 : s₁.heap = h0 := by rw [← hh, Bd.state]; rfl
  have N0 := Fr.nil n0
  show Outs p e below s (QR (some (.int (F_sm8 j1 i3 g))) h0 n0) _ _ _
  refine Outs.of (U' := s₁.setTop (mkF m 0 #[.val (.ref o0), .val (.long j1), .second, .val (.int (8 : Int32)), .val (.int i3), .unset] [])) (fun t k => castTop (ef_3 m o0 j1 (8 : Int32) i3) k) ?_
  refine Outs.of (U' := s₁.setTop (mkF m 1 #[.val (.ref o0), .val (.long j1), .second, .val (.int (8 : Int32)), .val (.int i3), .unset] [(.ref o0)])) (fun t k => ?_) ?_
  · refine XS.aloadN X0.here hx rfl (hb hby d3_0) rfl rfl ?_
    exact k
  refine Outs.of (alen X0 hx hZ e0 A_o0 (z := (10 : Int32)) rfl (f := (mkF m 1 #[.val (.ref o0), .val (.long j1), .second, .val (.int (8 : Int32)), .val (.int i3), .unset] [(.ref o0)])) rfl rfl (hb hby d3_1)) ?_
  refine Outs.of (U' := s₁.setTop (mkF m 12 #[.val (.ref o0), .val (.long j1), .second, .val (.int (8 : Int32)), .val (.int i3), .unset] [(.int (0 : Int32)), (.ref o0)])) (fun t k => ?_) ?_
  · refine XS.iloadN X0.here hx rfl (hb hby d3_2) rfl ?_
    refine XS.iconst X0.here hx rfl (hb hby d3_3) ?_
    refine XS.iadd X0.here hx rfl (hb hby d3_4) rfl ?_
    refine XS.icmpYes X0.here hx rfl (pc0 := 5) (pc' := 10) rfl (hb hby d3_5) rfl (teq (show (10 : Int32) = (10 : Int32) from (by decide))).1 (by decide) (by decide) ?_
    refine XS.aloadN X0.here hx rfl (hb hby d3_10) rfl rfl ?_
    refine XS.iconst X0.here hx rfl (hb hby d3_11) ?_
    exact k
  refine Outs.of (ldB X0 hx hZ e0 A_o0 (j := (0 : Int32)) (k := 0) rfl (by decide) (f := (mkF m 12 #[.val (.ref o0), .val (.long j1), .second, .val (.int (8 : Int32)), .val (.int i3), .unset] [(.int (0 : Int32)), (.ref o0)])) rfl rfl (hb hby d3_12)) ?_
  refine Outs.of (U' := s₁.setTop (mkF m 15 #[.val (.ref o0), .val (.long j1), .second, .val (.int (8 : Int32)), .val (.int i3), .unset] [(.int (0 : Int32)), (.long j1), (.int (g 0))])) (fun t k => ?_) ?_
  · refine XS.lloadN X0.here hx rfl (hb hby d3_13) rfl ?_
    refine XS.iconst X0.here hx rfl (hb hby d3_14) ?_
    exact k
  obtain ⟨_, _, ⟨T1, L1, k1, n1⟩, -, X1, ⟨Lc1, hQ1, l1, y1, z1⟩, st1⟩ := Jvm.LawKit.callS X0 hx (y := (⟨"com/example/penelope/penelope/KeysPastTenantPinLaw", "b", "(JI)B"⟩ : MethodName)) hown (mvT hZ (hw _ (List.mem_of_getElem? (i := 1) rfl))) (mvT hZ (hw _ (List.mem_of_getElem? (i := 2) rfl))) (mvT hZ (hw _ (List.mem_of_getElem? (i := 3) rfl))) (mvT hZ (hw _ (List.mem_of_getElem? (i := 4) rfl))) (by decide) (backOf (W := 1) (rm1 l Z a0 hw [] j1 (0 : Int32) h0 n0 ) hZ (hw _ (List.mem_of_getElem? (i := 4) rfl)) (hw _ (List.mem_of_getElem? (i := 3) rfl)) (by decide) (by decide)) (g := (mkF m 15 #[.val (.ref o0), .val (.long j1), .second, .val (.int (8 : Int32)), .val (.int i3), .unset] [(.int (0 : Int32)), (.long j1), (.int (g 0))])) rfl (by rw [hml]; rfl) (argsL := [(.long j1), (.int (0 : Int32))]) (rest := [(.int (g 0))]) (lenOf pd_0 rfl) rfl (by show 2 * 0 + _ ≤ _; exact Nat.le_of_eq rfl) (hb hby d3_15) (fun _ _ => ⟨rfl, e0, (by decide : 0 + 0 ≤ _), (by decide : 0 + 0 ≤ _)⟩)
  dsimp only [Pt.U, Pt.locs, Pt.cells, Pt.slots] at X1 l1 y1 z1 st1 hQ1
  subst l1 y1 z1
  obtain ⟨rfl, N1q, e1⟩ := hQ1
  have N1 := Fr.app N0 N1q
  obtain ⟨Lh1, X1, N1⟩ := hide X1 N1 (C := 0) (S := 0) (by decide) (by decide)
  refine Outs.of st1 ?_
  refine Outs.of (U' := T1.setTop (mkF m 26 #[.val (.ref o0), .val (.long j1), .second, .val (.int (8 : Int32)), .val (.int i3), .unset] [(.int (sm8_18_s0 j1 i3 g))])) (fun t k => ?_) ?_
  · by_cases hc18 : (g 0) = (F_f1 j1 (0 : Int32))
    · refine XS.icmpNo X1.here hx rfl (hb hby d3_18) rfl (teq hc18).2 ?_
      refine XS.iconst X1.here hx rfl (hb hby d3_21) ?_
      refine XS.goto X1.here hx rfl (pc0 := 22) (pc' := 26) rfl (hb hby d3_22) (by decide) (by decide) ?_
      rw [show (sm8_18_s0 j1 i3 g) = (1 : Int32) from (if_pos hc18)] at k
      exact k
    · refine XS.icmpYes X1.here hx rfl (pc0 := 18) (pc' := 25) rfl (hb hby d3_18) rfl (feq hc18).2 (by decide) (by decide) ?_
      refine XS.iconst X1.here hx rfl (hb hby d3_25) ?_
      rw [show (sm8_18_s0 j1 i3 g) = (0 : Int32) from (if_neg hc18)] at k
      exact k
  refine Outs.of (U' := T1.setTop (mkF m 30 #[.val (.ref o0), .val (.long j1), .second, .val (.int (8 : Int32)), .val (.int i3), .val (.int (sm8_18_s0 j1 i3 g))] [(.int (sm8_18_s0 j1 i3 g))])) (fun t k => ?_) ?_
  · refine XS.istore X1.here hx rfl (hb hby d3_26) rfl (l' := #[.val (.ref o0), .val (.long j1), .second, .val (.int (8 : Int32)), .val (.int i3), .val (.int (sm8_18_s0 j1 i3 g))]) rfl ?_
    refine XS.iload X1.here hx rfl (hb hby d3_28) rfl ?_
    exact k
  by_cases hc30 : (sm8_18_s0 j1 i3 g) = (0 : Int32)
  · refine Outs.of (U' := T1.setTop (mkF m 48 #[.val (.ref o0), .val (.long j1), .second, .val (.int (8 : Int32)), .val (.int i3), .val (.int (sm8_18_s0 j1 i3 g))] [])) (fun t k => ?_) ?_
    · refine XS.ifYes X1.here hx rfl (pc0 := 30) (pc' := 48) rfl (hb hby d3_30) rfl ((if0 _ _).trans (teq hc30).1) (by decide) (by decide) ?_
      exact k
    refine Outs.of (U' := T1.setTop (mkF m 252 #[.val (.ref o0), .val (.long j1), .second, .val (.int (8 : Int32)), .val (.int i3), .val (.int (0 : Int32))] [(.int (0 : Int32))])) (fun t k => ?_) ?_
    · refine XS.iconst X1.here hx rfl (hb hby d3_48) ?_
      refine XS.istore X1.here hx rfl (hb hby d3_49) rfl (l' := #[.val (.ref o0), .val (.long j1), .second, .val (.int (8 : Int32)), .val (.int i3), .val (.int (0 : Int32))]) rfl ?_
      refine XS.iload X1.here hx rfl (hb hby d3_51) rfl ?_
      refine XS.ifYes X1.here hx rfl (pc0 := 53) (pc' := 71) rfl (hb hby d3_53) rfl ((if0 _ _).trans (teq (show (0 : Int32) = (0 : Int32) from (by decide))).1) (by decide) (by decide) ?_
      refine XS.iconst X1.here hx rfl (hb hby d3_71) ?_
      refine XS.istore X1.here hx rfl (hb hby d3_72) rfl (l' := #[.val (.ref o0), .val (.long j1), .second, .val (.int (8 : Int32)), .val (.int i3), .val (.int (0 : Int32))]) rfl ?_
      refine XS.iload X1.here hx rfl (hb hby d3_74) rfl ?_
      refine XS.ifYes X1.here hx rfl (pc0 := 76) (pc' := 94) rfl (hb hby d3_76) rfl ((if0 _ _).trans (teq (show (0 : Int32) = (0 : Int32) from (by decide))).1) (by decide) (by decide) ?_
      refine XS.iconst X1.here hx rfl (hb hby d3_94) ?_
      refine XS.istore X1.here hx rfl (hb hby d3_95) rfl (l' := #[.val (.ref o0), .val (.long j1), .second, .val (.int (8 : Int32)), .val (.int i3), .val (.int (0 : Int32))]) rfl ?_
      refine XS.iload X1.here hx rfl (hb hby d3_97) rfl ?_
      refine XS.ifYes X1.here hx rfl (pc0 := 99) (pc' := 117) rfl (hb hby d3_99) rfl ((if0 _ _).trans (teq (show (0 : Int32) = (0 : Int32) from (by decide))).1) (by decide) (by decide) ?_
      refine XS.iconst X1.here hx rfl (hb hby d3_117) ?_
      refine XS.istore X1.here hx rfl (hb hby d3_118) rfl (l' := #[.val (.ref o0), .val (.long j1), .second, .val (.int (8 : Int32)), .val (.int i3), .val (.int (0 : Int32))]) rfl ?_
      refine XS.iload X1.here hx rfl (hb hby d3_120) rfl ?_
      refine XS.ifYes X1.here hx rfl (pc0 := 122) (pc' := 145) rfl (hb hby d3_122) rfl ((if0 _ _).trans (teq (show (0 : Int32) = (0 : Int32) from (by decide))).1) (by decide) (by decide) ?_
      refine XS.iconst X1.here hx rfl (hb hby d3_145) ?_
      refine XS.istore X1.here hx rfl (hb hby d3_146) rfl (l' := #[.val (.ref o0), .val (.long j1), .second, .val (.int (8 : Int32)), .val (.int i3), .val (.int (0 : Int32))]) rfl ?_
      refine XS.iload X1.here hx rfl (hb hby d3_148) rfl ?_
      refine XS.ifYes X1.here hx rfl (pc0 := 150) (pc' := 176) rfl (hb hby d3_150) rfl ((if0 _ _).trans (teq (show (0 : Int32) = (0 : Int32) from (by decide))).1) (by decide) (by decide) ?_
      refine XS.iconst X1.here hx rfl (hb hby d3_176) ?_
      refine XS.istore X1.here hx rfl (hb hby d3_177) rfl (l' := #[.val (.ref o0), .val (.long j1), .second, .val (.int (8 : Int32)), .val (.int i3), .val (.int (0 : Int32))]) rfl ?_
      refine XS.iload X1.here hx rfl (hb hby d3_179) rfl ?_
      refine XS.ifYes X1.here hx rfl (pc0 := 181) (pc' := 207) rfl (hb hby d3_181) rfl ((if0 _ _).trans (teq (show (0 : Int32) = (0 : Int32) from (by decide))).1) (by decide) (by decide) ?_
      refine XS.iconst X1.here hx rfl (hb hby d3_207) ?_
      refine XS.istore X1.here hx rfl (hb hby d3_208) rfl (l' := #[.val (.ref o0), .val (.long j1), .second, .val (.int (8 : Int32)), .val (.int i3), .val (.int (0 : Int32))]) rfl ?_
      refine XS.iload X1.here hx rfl (hb hby d3_210) rfl ?_
      refine XS.ifYes X1.here hx rfl (pc0 := 212) (pc' := 225) rfl (hb hby d3_212) rfl ((if0 _ _).trans (teq (show (0 : Int32) = (0 : Int32) from (by decide))).1) (by decide) (by decide) ?_
      refine XS.iconst X1.here hx rfl (hb hby d3_225) ?_
      refine XS.istore X1.here hx rfl (hb hby d3_226) rfl (l' := #[.val (.ref o0), .val (.long j1), .second, .val (.int (8 : Int32)), .val (.int i3), .val (.int (0 : Int32))]) rfl ?_
      refine XS.iload X1.here hx rfl (hb hby d3_228) rfl ?_
      refine XS.ifYes X1.here hx rfl (pc0 := 230) (pc' := 247) rfl (hb hby d3_230) rfl ((if0 _ _).trans (teq (show (0 : Int32) = (0 : Int32) from (by decide))).1) (by decide) (by decide) ?_
      refine XS.iconst X1.here hx rfl (hb hby d3_247) ?_
      refine XS.istore X1.here hx rfl (hb hby d3_248) rfl (l' := #[.val (.ref o0), .val (.long j1), .second, .val (.int (8 : Int32)), .val (.int i3), .val (.int (0 : Int32))]) rfl ?_
      refine XS.iload X1.here hx rfl (hb hby d3_250) rfl ?_
      exact k
    exact Outs.retN (t := .boolean) (z := (0 : Int32)) X1 hx hret (by simp) (hb hby d3_252) hlk (by decide) (by decide) e1 ⟨congrArg (fun z_ => some (Value.int z_)) (show (F_sm8 j1 i3 g) = (0 : Int32) from (if_pos hc30)).symm, N1, rfl⟩
  · refine Outs.of (U' := T1.setTop (mkF m 33 #[.val (.ref o0), .val (.long j1), .second, .val (.int (8 : Int32)), .val (.int i3), .val (.int (sm8_18_s0 j1 i3 g))] [])) (fun t k => ?_) ?_
    · refine XS.ifNo X1.here hx rfl (hb hby d3_30) rfl ((if0 _ _).trans (feq hc30).1) ?_
      exact k
    refine Outs.of (U' := T1.setTop (mkF m 35 #[.val (.ref o0), .val (.long j1), .second, .val (.int (8 : Int32)), .val (.int i3), .val (.int (sm8_18_s0 j1 i3 g))] [(.int (1 : Int32)), (.ref o0)])) (fun t k => ?_) ?_
    · refine XS.aloadN X1.here hx rfl (hb hby d3_33) rfl rfl ?_
      refine XS.iconst X1.here hx rfl (hb hby d3_34) ?_
      exact k
    refine Outs.of (ldB X1 hx hZ e1 A_o0 (j := (1 : Int32)) (k := 1) rfl (by decide) (f := (mkF m 35 #[.val (.ref o0), .val (.long j1), .second, .val (.int (8 : Int32)), .val (.int i3), .val (.int (sm8_18_s0 j1 i3 g))] [(.int (1 : Int32)), (.ref o0)])) rfl rfl (hb hby d3_35)) ?_
    refine Outs.of (U' := T1.setTop (mkF m 38 #[.val (.ref o0), .val (.long j1), .second, .val (.int (8 : Int32)), .val (.int i3), .val (.int (sm8_18_s0 j1 i3 g))] [(.int (1 : Int32)), (.long j1), (.int (g 1))])) (fun t k => ?_) ?_
    · refine XS.lloadN X1.here hx rfl (hb hby d3_36) rfl ?_
      refine XS.iconst X1.here hx rfl (hb hby d3_37) ?_
      exact k
    obtain ⟨_, _, ⟨T2, L2, k2, n2⟩, -, X2, ⟨Lc2, hQ2, l2, y2, z2⟩, st2⟩ := Jvm.LawKit.callS X1 hx (y := (⟨"com/example/penelope/penelope/KeysPastTenantPinLaw", "b", "(JI)B"⟩ : MethodName)) hown (mvT hZ (hw _ (List.mem_of_getElem? (i := 1) rfl))) (mvT hZ (hw _ (List.mem_of_getElem? (i := 2) rfl))) (mvT hZ (hw _ (List.mem_of_getElem? (i := 3) rfl))) (mvT hZ (hw _ (List.mem_of_getElem? (i := 4) rfl))) (by decide) (backOf (W := 1) (rm1 l Z a0 hw [] j1 (1 : Int32) h0 n0 ) hZ (hw _ (List.mem_of_getElem? (i := 4) rfl)) (hw _ (List.mem_of_getElem? (i := 3) rfl)) (by decide) (by decide)) (g := (mkF m 38 #[.val (.ref o0), .val (.long j1), .second, .val (.int (8 : Int32)), .val (.int i3), .val (.int (sm8_18_s0 j1 i3 g))] [(.int (1 : Int32)), (.long j1), (.int (g 1))])) rfl (by rw [hml]; rfl) (argsL := [(.long j1), (.int (1 : Int32))]) (rest := [(.int (g 1))]) (lenOf pd_0 rfl) rfl (by show 2 * 0 + _ ≤ _; exact Nat.le_of_eq rfl) (hb hby d3_38) (fun _ _ => ⟨rfl, e1, (by decide : 0 + 0 ≤ _), (by decide : 0 + 0 ≤ _)⟩)
    dsimp only [Pt.U, Pt.locs, Pt.cells, Pt.slots] at X2 l2 y2 z2 st2 hQ2
    subst l2 y2 z2
    obtain ⟨rfl, N2q, e2⟩ := hQ2
    have N2 := Fr.app N1 N2q
    obtain ⟨Lh2, X2, N2⟩ := hide X2 N2 (C := 0) (S := 0) (by decide) (by decide)
    refine Outs.of st2 ?_
    refine Outs.of (U' := T2.setTop (mkF m 49 #[.val (.ref o0), .val (.long j1), .second, .val (.int (8 : Int32)), .val (.int i3), .val (.int (sm8_18_s0 j1 i3 g))] [(.int (sm8_41_s0 j1 i3 g))])) (fun t k => ?_) ?_
    · by_cases hc41 : (g 1) = (F_f1 j1 (1 : Int32))
      · refine XS.icmpNo X2.here hx rfl (hb hby d3_41) rfl (teq hc41).2 ?_
        refine XS.iconst X2.here hx rfl (hb hby d3_44) ?_
        refine XS.goto X2.here hx rfl (pc0 := 45) (pc' := 49) rfl (hb hby d3_45) (by decide) (by decide) ?_
        rw [show (sm8_41_s0 j1 i3 g) = (1 : Int32) from (if_pos hc41)] at k
        exact k
      · refine XS.icmpYes X2.here hx rfl (pc0 := 41) (pc' := 48) rfl (hb hby d3_41) rfl (feq hc41).2 (by decide) (by decide) ?_
        refine XS.iconst X2.here hx rfl (hb hby d3_48) ?_
        rw [show (sm8_41_s0 j1 i3 g) = (0 : Int32) from (if_neg hc41)] at k
        exact k
    refine Outs.of (U' := T2.setTop (mkF m 53 #[.val (.ref o0), .val (.long j1), .second, .val (.int (8 : Int32)), .val (.int i3), .val (.int (sm8_41_s0 j1 i3 g))] [(.int (sm8_41_s0 j1 i3 g))])) (fun t k => ?_) ?_
    · refine XS.istore X2.here hx rfl (hb hby d3_49) rfl (l' := #[.val (.ref o0), .val (.long j1), .second, .val (.int (8 : Int32)), .val (.int i3), .val (.int (sm8_41_s0 j1 i3 g))]) rfl ?_
      refine XS.iload X2.here hx rfl (hb hby d3_51) rfl ?_
      exact k
    by_cases hc53 : (sm8_41_s0 j1 i3 g) = (0 : Int32)
    · refine Outs.of (U' := T2.setTop (mkF m 71 #[.val (.ref o0), .val (.long j1), .second, .val (.int (8 : Int32)), .val (.int i3), .val (.int (sm8_41_s0 j1 i3 g))] [])) (fun t k => ?_) ?_
      · refine XS.ifYes X2.here hx rfl (pc0 := 53) (pc' := 71) rfl (hb hby d3_53) rfl ((if0 _ _).trans (teq hc53).1) (by decide) (by decide) ?_
        exact k
      refine Outs.of (U' := T2.setTop (mkF m 252 #[.val (.ref o0), .val (.long j1), .second, .val (.int (8 : Int32)), .val (.int i3), .val (.int (0 : Int32))] [(.int (0 : Int32))])) (fun t k => ?_) ?_
      · refine XS.iconst X2.here hx rfl (hb hby d3_71) ?_
        refine XS.istore X2.here hx rfl (hb hby d3_72) rfl (l' := #[.val (.ref o0), .val (.long j1), .second, .val (.int (8 : Int32)), .val (.int i3), .val (.int (0 : Int32))]) rfl ?_
        refine XS.iload X2.here hx rfl (hb hby d3_74) rfl ?_
        refine XS.ifYes X2.here hx rfl (pc0 := 76) (pc' := 94) rfl (hb hby d3_76) rfl ((if0 _ _).trans (teq (show (0 : Int32) = (0 : Int32) from (by decide))).1) (by decide) (by decide) ?_
        refine XS.iconst X2.here hx rfl (hb hby d3_94) ?_
        refine XS.istore X2.here hx rfl (hb hby d3_95) rfl (l' := #[.val (.ref o0), .val (.long j1), .second, .val (.int (8 : Int32)), .val (.int i3), .val (.int (0 : Int32))]) rfl ?_
        refine XS.iload X2.here hx rfl (hb hby d3_97) rfl ?_
        refine XS.ifYes X2.here hx rfl (pc0 := 99) (pc' := 117) rfl (hb hby d3_99) rfl ((if0 _ _).trans (teq (show (0 : Int32) = (0 : Int32) from (by decide))).1) (by decide) (by decide) ?_
        refine XS.iconst X2.here hx rfl (hb hby d3_117) ?_
        refine XS.istore X2.here hx rfl (hb hby d3_118) rfl (l' := #[.val (.ref o0), .val (.long j1), .second, .val (.int (8 : Int32)), .val (.int i3), .val (.int (0 : Int32))]) rfl ?_
        refine XS.iload X2.here hx rfl (hb hby d3_120) rfl ?_
        refine XS.ifYes X2.here hx rfl (pc0 := 122) (pc' := 145) rfl (hb hby d3_122) rfl ((if0 _ _).trans (teq (show (0 : Int32) = (0 : Int32) from (by decide))).1) (by decide) (by decide) ?_
        refine XS.iconst X2.here hx rfl (hb hby d3_145) ?_
        refine XS.istore X2.here hx rfl (hb hby d3_146) rfl (l' := #[.val (.ref o0), .val (.long j1), .second, .val (.int (8 : Int32)), .val (.int i3), .val (.int (0 : Int32))]) rfl ?_
        refine XS.iload X2.here hx rfl (hb hby d3_148) rfl ?_
        refine XS.ifYes X2.here hx rfl (pc0 := 150) (pc' := 176) rfl (hb hby d3_150) rfl ((if0 _ _).trans (teq (show (0 : Int32) = (0 : Int32) from (by decide))).1) (by decide) (by decide) ?_
        refine XS.iconst X2.here hx rfl (hb hby d3_176) ?_
        refine XS.istore X2.here hx rfl (hb hby d3_177) rfl (l' := #[.val (.ref o0), .val (.long j1), .second, .val (.int (8 : Int32)), .val (.int i3), .val (.int (0 : Int32))]) rfl ?_
        refine XS.iload X2.here hx rfl (hb hby d3_179) rfl ?_
        refine XS.ifYes X2.here hx rfl (pc0 := 181) (pc' := 207) rfl (hb hby d3_181) rfl ((if0 _ _).trans (teq (show (0 : Int32) = (0 : Int32) from (by decide))).1) (by decide) (by decide) ?_
        refine XS.iconst X2.here hx rfl (hb hby d3_207) ?_
        refine XS.istore X2.here hx rfl (hb hby d3_208) rfl (l' := #[.val (.ref o0), .val (.long j1), .second, .val (.int (8 : Int32)), .val (.int i3), .val (.int (0 : Int32))]) rfl ?_
        refine XS.iload X2.here hx rfl (hb hby d3_210) rfl ?_
        refine XS.ifYes X2.here hx rfl (pc0 := 212) (pc' := 225) rfl (hb hby d3_212) rfl ((if0 _ _).trans (teq (show (0 : Int32) = (0 : Int32) from (by decide))).1) (by decide) (by decide) ?_
        refine XS.iconst X2.here hx rfl (hb hby d3_225) ?_
        refine XS.istore X2.here hx rfl (hb hby d3_226) rfl (l' := #[.val (.ref o0), .val (.long j1), .second, .val (.int (8 : Int32)), .val (.int i3), .val (.int (0 : Int32))]) rfl ?_
        refine XS.iload X2.here hx rfl (hb hby d3_228) rfl ?_
        refine XS.ifYes X2.here hx rfl (pc0 := 230) (pc' := 247) rfl (hb hby d3_230) rfl ((if0 _ _).trans (teq (show (0 : Int32) = (0 : Int32) from (by decide))).1) (by decide) (by decide) ?_
        refine XS.iconst X2.here hx rfl (hb hby d3_247) ?_
        refine XS.istore X2.here hx rfl (hb hby d3_248) rfl (l' := #[.val (.ref o0), .val (.long j1), .second, .val (.int (8 : Int32)), .val (.int i3), .val (.int (0 : Int32))]) rfl ?_
        refine XS.iload X2.here hx rfl (hb hby d3_250) rfl ?_
        exact k
      exact Outs.retN (t := .boolean) (z := (0 : Int32)) X2 hx hret (by simp) (hb hby d3_252) hlk (by decide) (by decide) e2 ⟨congrArg (fun z_ => some (Value.int z_)) (show (F_sm8 j1 i3 g) = (0 : Int32) from ((if_neg hc30).trans (if_pos hc53))).symm, N2, rfl⟩
    · refine Outs.of (U' := T2.setTop (mkF m 56 #[.val (.ref o0), .val (.long j1), .second, .val (.int (8 : Int32)), .val (.int i3), .val (.int (sm8_41_s0 j1 i3 g))] [])) (fun t k => ?_) ?_
      · refine XS.ifNo X2.here hx rfl (hb hby d3_53) rfl ((if0 _ _).trans (feq hc53).1) ?_
        exact k
      refine Outs.of (U' := T2.setTop (mkF m 58 #[.val (.ref o0), .val (.long j1), .second, .val (.int (8 : Int32)), .val (.int i3), .val (.int (sm8_41_s0 j1 i3 g))] [(.int (2 : Int32)), (.ref o0)])) (fun t k => ?_) ?_
      · refine XS.aloadN X2.here hx rfl (hb hby d3_56) rfl rfl ?_
        refine XS.iconst X2.here hx rfl (hb hby d3_57) ?_
        exact k
      refine Outs.of (ldB X2 hx hZ e2 A_o0 (j := (2 : Int32)) (k := 2) rfl (by decide) (f := (mkF m 58 #[.val (.ref o0), .val (.long j1), .second, .val (.int (8 : Int32)), .val (.int i3), .val (.int (sm8_41_s0 j1 i3 g))] [(.int (2 : Int32)), (.ref o0)])) rfl rfl (hb hby d3_58)) ?_
      refine Outs.of (U' := T2.setTop (mkF m 61 #[.val (.ref o0), .val (.long j1), .second, .val (.int (8 : Int32)), .val (.int i3), .val (.int (sm8_41_s0 j1 i3 g))] [(.int (2 : Int32)), (.long j1), (.int (g 2))])) (fun t k => ?_) ?_
      · refine XS.lloadN X2.here hx rfl (hb hby d3_59) rfl ?_
        refine XS.iconst X2.here hx rfl (hb hby d3_60) ?_
        exact k
      obtain ⟨_, _, ⟨T3, L3, k3, n3⟩, -, X3, ⟨Lc3, hQ3, l3, y3, z3⟩, st3⟩ := Jvm.LawKit.callS X2 hx (y := (⟨"com/example/penelope/penelope/KeysPastTenantPinLaw", "b", "(JI)B"⟩ : MethodName)) hown (mvT hZ (hw _ (List.mem_of_getElem? (i := 1) rfl))) (mvT hZ (hw _ (List.mem_of_getElem? (i := 2) rfl))) (mvT hZ (hw _ (List.mem_of_getElem? (i := 3) rfl))) (mvT hZ (hw _ (List.mem_of_getElem? (i := 4) rfl))) (by decide) (backOf (W := 1) (rm1 l Z a0 hw [] j1 (2 : Int32) h0 n0 ) hZ (hw _ (List.mem_of_getElem? (i := 4) rfl)) (hw _ (List.mem_of_getElem? (i := 3) rfl)) (by decide) (by decide)) (g := (mkF m 61 #[.val (.ref o0), .val (.long j1), .second, .val (.int (8 : Int32)), .val (.int i3), .val (.int (sm8_41_s0 j1 i3 g))] [(.int (2 : Int32)), (.long j1), (.int (g 2))])) rfl (by rw [hml]; rfl) (argsL := [(.long j1), (.int (2 : Int32))]) (rest := [(.int (g 2))]) (lenOf pd_0 rfl) rfl (by show 2 * 0 + _ ≤ _; exact Nat.le_of_eq rfl) (hb hby d3_61) (fun _ _ => ⟨rfl, e2, (by decide : 0 + 0 ≤ _), (by decide : 0 + 0 ≤ _)⟩)
      dsimp only [Pt.U, Pt.locs, Pt.cells, Pt.slots] at X3 l3 y3 z3 st3 hQ3
      subst l3 y3 z3
      obtain ⟨rfl, N3q, e3⟩ := hQ3
      have N3 := Fr.app N2 N3q
      obtain ⟨Lh3, X3, N3⟩ := hide X3 N3 (C := 0) (S := 0) (by decide) (by decide)
      refine Outs.of st3 ?_
      refine Outs.of (U' := T3.setTop (mkF m 72 #[.val (.ref o0), .val (.long j1), .second, .val (.int (8 : Int32)), .val (.int i3), .val (.int (sm8_41_s0 j1 i3 g))] [(.int (sm8_64_s0 j1 i3 g))])) (fun t k => ?_) ?_
      · by_cases hc64 : (g 2) = (F_f1 j1 (2 : Int32))
        · refine XS.icmpNo X3.here hx rfl (hb hby d3_64) rfl (teq hc64).2 ?_
          refine XS.iconst X3.here hx rfl (hb hby d3_67) ?_
          refine XS.goto X3.here hx rfl (pc0 := 68) (pc' := 72) rfl (hb hby d3_68) (by decide) (by decide) ?_
          rw [show (sm8_64_s0 j1 i3 g) = (1 : Int32) from (if_pos hc64)] at k
          exact k
        · refine XS.icmpYes X3.here hx rfl (pc0 := 64) (pc' := 71) rfl (hb hby d3_64) rfl (feq hc64).2 (by decide) (by decide) ?_
          refine XS.iconst X3.here hx rfl (hb hby d3_71) ?_
          rw [show (sm8_64_s0 j1 i3 g) = (0 : Int32) from (if_neg hc64)] at k
          exact k
      refine Outs.of (U' := T3.setTop (mkF m 76 #[.val (.ref o0), .val (.long j1), .second, .val (.int (8 : Int32)), .val (.int i3), .val (.int (sm8_64_s0 j1 i3 g))] [(.int (sm8_64_s0 j1 i3 g))])) (fun t k => ?_) ?_
      · refine XS.istore X3.here hx rfl (hb hby d3_72) rfl (l' := #[.val (.ref o0), .val (.long j1), .second, .val (.int (8 : Int32)), .val (.int i3), .val (.int (sm8_64_s0 j1 i3 g))]) rfl ?_
        refine XS.iload X3.here hx rfl (hb hby d3_74) rfl ?_
        exact k
      by_cases hc76 : (sm8_64_s0 j1 i3 g) = (0 : Int32)
      · refine Outs.of (U' := T3.setTop (mkF m 94 #[.val (.ref o0), .val (.long j1), .second, .val (.int (8 : Int32)), .val (.int i3), .val (.int (sm8_64_s0 j1 i3 g))] [])) (fun t k => ?_) ?_
        · refine XS.ifYes X3.here hx rfl (pc0 := 76) (pc' := 94) rfl (hb hby d3_76) rfl ((if0 _ _).trans (teq hc76).1) (by decide) (by decide) ?_
          exact k
        refine Outs.of (U' := T3.setTop (mkF m 252 #[.val (.ref o0), .val (.long j1), .second, .val (.int (8 : Int32)), .val (.int i3), .val (.int (0 : Int32))] [(.int (0 : Int32))])) (fun t k => ?_) ?_
        · refine XS.iconst X3.here hx rfl (hb hby d3_94) ?_
          refine XS.istore X3.here hx rfl (hb hby d3_95) rfl (l' := #[.val (.ref o0), .val (.long j1), .second, .val (.int (8 : Int32)), .val (.int i3), .val (.int (0 : Int32))]) rfl ?_
          refine XS.iload X3.here hx rfl (hb hby d3_97) rfl ?_
          refine XS.ifYes X3.here hx rfl (pc0 := 99) (pc' := 117) rfl (hb hby d3_99) rfl ((if0 _ _).trans (teq (show (0 : Int32) = (0 : Int32) from (by decide))).1) (by decide) (by decide) ?_
          refine XS.iconst X3.here hx rfl (hb hby d3_117) ?_
          refine XS.istore X3.here hx rfl (hb hby d3_118) rfl (l' := #[.val (.ref o0), .val (.long j1), .second, .val (.int (8 : Int32)), .val (.int i3), .val (.int (0 : Int32))]) rfl ?_
          refine XS.iload X3.here hx rfl (hb hby d3_120) rfl ?_
          refine XS.ifYes X3.here hx rfl (pc0 := 122) (pc' := 145) rfl (hb hby d3_122) rfl ((if0 _ _).trans (teq (show (0 : Int32) = (0 : Int32) from (by decide))).1) (by decide) (by decide) ?_
          refine XS.iconst X3.here hx rfl (hb hby d3_145) ?_
          refine XS.istore X3.here hx rfl (hb hby d3_146) rfl (l' := #[.val (.ref o0), .val (.long j1), .second, .val (.int (8 : Int32)), .val (.int i3), .val (.int (0 : Int32))]) rfl ?_
          refine XS.iload X3.here hx rfl (hb hby d3_148) rfl ?_
          refine XS.ifYes X3.here hx rfl (pc0 := 150) (pc' := 176) rfl (hb hby d3_150) rfl ((if0 _ _).trans (teq (show (0 : Int32) = (0 : Int32) from (by decide))).1) (by decide) (by decide) ?_
          refine XS.iconst X3.here hx rfl (hb hby d3_176) ?_
          refine XS.istore X3.here hx rfl (hb hby d3_177) rfl (l' := #[.val (.ref o0), .val (.long j1), .second, .val (.int (8 : Int32)), .val (.int i3), .val (.int (0 : Int32))]) rfl ?_
          refine XS.iload X3.here hx rfl (hb hby d3_179) rfl ?_
          refine XS.ifYes X3.here hx rfl (pc0 := 181) (pc' := 207) rfl (hb hby d3_181) rfl ((if0 _ _).trans (teq (show (0 : Int32) = (0 : Int32) from (by decide))).1) (by decide) (by decide) ?_
          refine XS.iconst X3.here hx rfl (hb hby d3_207) ?_
          refine XS.istore X3.here hx rfl (hb hby d3_208) rfl (l' := #[.val (.ref o0), .val (.long j1), .second, .val (.int (8 : Int32)), .val (.int i3), .val (.int (0 : Int32))]) rfl ?_
          refine XS.iload X3.here hx rfl (hb hby d3_210) rfl ?_
          refine XS.ifYes X3.here hx rfl (pc0 := 212) (pc' := 225) rfl (hb hby d3_212) rfl ((if0 _ _).trans (teq (show (0 : Int32) = (0 : Int32) from (by decide))).1) (by decide) (by decide) ?_
          refine XS.iconst X3.here hx rfl (hb hby d3_225) ?_
          refine XS.istore X3.here hx rfl (hb hby d3_226) rfl (l' := #[.val (.ref o0), .val (.long j1), .second, .val (.int (8 : Int32)), .val (.int i3), .val (.int (0 : Int32))]) rfl ?_
          refine XS.iload X3.here hx rfl (hb hby d3_228) rfl ?_
          refine XS.ifYes X3.here hx rfl (pc0 := 230) (pc' := 247) rfl (hb hby d3_230) rfl ((if0 _ _).trans (teq (show (0 : Int32) = (0 : Int32) from (by decide))).1) (by decide) (by decide) ?_
          refine XS.iconst X3.here hx rfl (hb hby d3_247) ?_
          refine XS.istore X3.here hx rfl (hb hby d3_248) rfl (l' := #[.val (.ref o0), .val (.long j1), .second, .val (.int (8 : Int32)), .val (.int i3), .val (.int (0 : Int32))]) rfl ?_
          refine XS.iload X3.here hx rfl (hb hby d3_250) rfl ?_
          exact k
        exact Outs.retN (t := .boolean) (z := (0 : Int32)) X3 hx hret (by simp) (hb hby d3_252) hlk (by decide) (by decide) e3 ⟨congrArg (fun z_ => some (Value.int z_)) (show (F_sm8 j1 i3 g) = (0 : Int32) from ((if_neg hc30).trans ((if_neg hc53).trans (if_pos hc76)))).symm, N3, rfl⟩
      · refine Outs.of (U' := T3.setTop (mkF m 79 #[.val (.ref o0), .val (.long j1), .second, .val (.int (8 : Int32)), .val (.int i3), .val (.int (sm8_64_s0 j1 i3 g))] [])) (fun t k => ?_) ?_
        · refine XS.ifNo X3.here hx rfl (hb hby d3_76) rfl ((if0 _ _).trans (feq hc76).1) ?_
          exact k
        refine Outs.of (U' := T3.setTop (mkF m 81 #[.val (.ref o0), .val (.long j1), .second, .val (.int (8 : Int32)), .val (.int i3), .val (.int (sm8_64_s0 j1 i3 g))] [(.int (3 : Int32)), (.ref o0)])) (fun t k => ?_) ?_
        · refine XS.aloadN X3.here hx rfl (hb hby d3_79) rfl rfl ?_
          refine XS.iconst X3.here hx rfl (hb hby d3_80) ?_
          exact k
        refine Outs.of (ldB X3 hx hZ e3 A_o0 (j := (3 : Int32)) (k := 3) rfl (by decide) (f := (mkF m 81 #[.val (.ref o0), .val (.long j1), .second, .val (.int (8 : Int32)), .val (.int i3), .val (.int (sm8_64_s0 j1 i3 g))] [(.int (3 : Int32)), (.ref o0)])) rfl rfl (hb hby d3_81)) ?_
        refine Outs.of (U' := T3.setTop (mkF m 84 #[.val (.ref o0), .val (.long j1), .second, .val (.int (8 : Int32)), .val (.int i3), .val (.int (sm8_64_s0 j1 i3 g))] [(.int (3 : Int32)), (.long j1), (.int (g 3))])) (fun t k => ?_) ?_
        · refine XS.lloadN X3.here hx rfl (hb hby d3_82) rfl ?_
          refine XS.iconst X3.here hx rfl (hb hby d3_83) ?_
          exact k
        obtain ⟨_, _, ⟨T4, L4, k4, n4⟩, -, X4, ⟨Lc4, hQ4, l4, y4, z4⟩, st4⟩ := Jvm.LawKit.callS X3 hx (y := (⟨"com/example/penelope/penelope/KeysPastTenantPinLaw", "b", "(JI)B"⟩ : MethodName)) hown (mvT hZ (hw _ (List.mem_of_getElem? (i := 1) rfl))) (mvT hZ (hw _ (List.mem_of_getElem? (i := 2) rfl))) (mvT hZ (hw _ (List.mem_of_getElem? (i := 3) rfl))) (mvT hZ (hw _ (List.mem_of_getElem? (i := 4) rfl))) (by decide) (backOf (W := 1) (rm1 l Z a0 hw [] j1 (3 : Int32) h0 n0 ) hZ (hw _ (List.mem_of_getElem? (i := 4) rfl)) (hw _ (List.mem_of_getElem? (i := 3) rfl)) (by decide) (by decide)) (g := (mkF m 84 #[.val (.ref o0), .val (.long j1), .second, .val (.int (8 : Int32)), .val (.int i3), .val (.int (sm8_64_s0 j1 i3 g))] [(.int (3 : Int32)), (.long j1), (.int (g 3))])) rfl (by rw [hml]; rfl) (argsL := [(.long j1), (.int (3 : Int32))]) (rest := [(.int (g 3))]) (lenOf pd_0 rfl) rfl (by show 2 * 0 + _ ≤ _; exact Nat.le_of_eq rfl) (hb hby d3_84) (fun _ _ => ⟨rfl, e3, (by decide : 0 + 0 ≤ _), (by decide : 0 + 0 ≤ _)⟩)
        dsimp only [Pt.U, Pt.locs, Pt.cells, Pt.slots] at X4 l4 y4 z4 st4 hQ4
        subst l4 y4 z4
        obtain ⟨rfl, N4q, e4⟩ := hQ4
        have N4 := Fr.app N3 N4q
        obtain ⟨Lh4, X4, N4⟩ := hide X4 N4 (C := 0) (S := 0) (by decide) (by decide)
        refine Outs.of st4 ?_
        refine Outs.of (U' := T4.setTop (mkF m 95 #[.val (.ref o0), .val (.long j1), .second, .val (.int (8 : Int32)), .val (.int i3), .val (.int (sm8_64_s0 j1 i3 g))] [(.int (sm8_87_s0 j1 i3 g))])) (fun t k => ?_) ?_
        · by_cases hc87 : (g 3) = (F_f1 j1 (3 : Int32))
          · refine XS.icmpNo X4.here hx rfl (hb hby d3_87) rfl (teq hc87).2 ?_
            refine XS.iconst X4.here hx rfl (hb hby d3_90) ?_
            refine XS.goto X4.here hx rfl (pc0 := 91) (pc' := 95) rfl (hb hby d3_91) (by decide) (by decide) ?_
            rw [show (sm8_87_s0 j1 i3 g) = (1 : Int32) from (if_pos hc87)] at k
            exact k
          · refine XS.icmpYes X4.here hx rfl (pc0 := 87) (pc' := 94) rfl (hb hby d3_87) rfl (feq hc87).2 (by decide) (by decide) ?_
            refine XS.iconst X4.here hx rfl (hb hby d3_94) ?_
            rw [show (sm8_87_s0 j1 i3 g) = (0 : Int32) from (if_neg hc87)] at k
            exact k
        refine Outs.of (U' := T4.setTop (mkF m 99 #[.val (.ref o0), .val (.long j1), .second, .val (.int (8 : Int32)), .val (.int i3), .val (.int (sm8_87_s0 j1 i3 g))] [(.int (sm8_87_s0 j1 i3 g))])) (fun t k => ?_) ?_
        · refine XS.istore X4.here hx rfl (hb hby d3_95) rfl (l' := #[.val (.ref o0), .val (.long j1), .second, .val (.int (8 : Int32)), .val (.int i3), .val (.int (sm8_87_s0 j1 i3 g))]) rfl ?_
          refine XS.iload X4.here hx rfl (hb hby d3_97) rfl ?_
          exact k
        by_cases hc99 : (sm8_87_s0 j1 i3 g) = (0 : Int32)
        · refine Outs.of (U' := T4.setTop (mkF m 117 #[.val (.ref o0), .val (.long j1), .second, .val (.int (8 : Int32)), .val (.int i3), .val (.int (sm8_87_s0 j1 i3 g))] [])) (fun t k => ?_) ?_
          · refine XS.ifYes X4.here hx rfl (pc0 := 99) (pc' := 117) rfl (hb hby d3_99) rfl ((if0 _ _).trans (teq hc99).1) (by decide) (by decide) ?_
            exact k
          refine Outs.of (U' := T4.setTop (mkF m 252 #[.val (.ref o0), .val (.long j1), .second, .val (.int (8 : Int32)), .val (.int i3), .val (.int (0 : Int32))] [(.int (0 : Int32))])) (fun t k => ?_) ?_
          · refine XS.iconst X4.here hx rfl (hb hby d3_117) ?_
            refine XS.istore X4.here hx rfl (hb hby d3_118) rfl (l' := #[.val (.ref o0), .val (.long j1), .second, .val (.int (8 : Int32)), .val (.int i3), .val (.int (0 : Int32))]) rfl ?_
            refine XS.iload X4.here hx rfl (hb hby d3_120) rfl ?_
            refine XS.ifYes X4.here hx rfl (pc0 := 122) (pc' := 145) rfl (hb hby d3_122) rfl ((if0 _ _).trans (teq (show (0 : Int32) = (0 : Int32) from (by decide))).1) (by decide) (by decide) ?_
            refine XS.iconst X4.here hx rfl (hb hby d3_145) ?_
            refine XS.istore X4.here hx rfl (hb hby d3_146) rfl (l' := #[.val (.ref o0), .val (.long j1), .second, .val (.int (8 : Int32)), .val (.int i3), .val (.int (0 : Int32))]) rfl ?_
            refine XS.iload X4.here hx rfl (hb hby d3_148) rfl ?_
            refine XS.ifYes X4.here hx rfl (pc0 := 150) (pc' := 176) rfl (hb hby d3_150) rfl ((if0 _ _).trans (teq (show (0 : Int32) = (0 : Int32) from (by decide))).1) (by decide) (by decide) ?_
            refine XS.iconst X4.here hx rfl (hb hby d3_176) ?_
            refine XS.istore X4.here hx rfl (hb hby d3_177) rfl (l' := #[.val (.ref o0), .val (.long j1), .second, .val (.int (8 : Int32)), .val (.int i3), .val (.int (0 : Int32))]) rfl ?_
            refine XS.iload X4.here hx rfl (hb hby d3_179) rfl ?_
            refine XS.ifYes X4.here hx rfl (pc0 := 181) (pc' := 207) rfl (hb hby d3_181) rfl ((if0 _ _).trans (teq (show (0 : Int32) = (0 : Int32) from (by decide))).1) (by decide) (by decide) ?_
            refine XS.iconst X4.here hx rfl (hb hby d3_207) ?_
            refine XS.istore X4.here hx rfl (hb hby d3_208) rfl (l' := #[.val (.ref o0), .val (.long j1), .second, .val (.int (8 : Int32)), .val (.int i3), .val (.int (0 : Int32))]) rfl ?_
            refine XS.iload X4.here hx rfl (hb hby d3_210) rfl ?_
            refine XS.ifYes X4.here hx rfl (pc0 := 212) (pc' := 225) rfl (hb hby d3_212) rfl ((if0 _ _).trans (teq (show (0 : Int32) = (0 : Int32) from (by decide))).1) (by decide) (by decide) ?_
            refine XS.iconst X4.here hx rfl (hb hby d3_225) ?_
            refine XS.istore X4.here hx rfl (hb hby d3_226) rfl (l' := #[.val (.ref o0), .val (.long j1), .second, .val (.int (8 : Int32)), .val (.int i3), .val (.int (0 : Int32))]) rfl ?_
            refine XS.iload X4.here hx rfl (hb hby d3_228) rfl ?_
            refine XS.ifYes X4.here hx rfl (pc0 := 230) (pc' := 247) rfl (hb hby d3_230) rfl ((if0 _ _).trans (teq (show (0 : Int32) = (0 : Int32) from (by decide))).1) (by decide) (by decide) ?_
            refine XS.iconst X4.here hx rfl (hb hby d3_247) ?_
            refine XS.istore X4.here hx rfl (hb hby d3_248) rfl (l' := #[.val (.ref o0), .val (.long j1), .second, .val (.int (8 : Int32)), .val (.int i3), .val (.int (0 : Int32))]) rfl ?_
            refine XS.iload X4.here hx rfl (hb hby d3_250) rfl ?_
            exact k
          exact Outs.retN (t := .boolean) (z := (0 : Int32)) X4 hx hret (by simp) (hb hby d3_252) hlk (by decide) (by decide) e4 ⟨congrArg (fun z_ => some (Value.int z_)) (show (F_sm8 j1 i3 g) = (0 : Int32) from ((if_neg hc30).trans ((if_neg hc53).trans ((if_neg hc76).trans (if_pos hc99))))).symm, N4, rfl⟩
        · refine Outs.of (U' := T4.setTop (mkF m 102 #[.val (.ref o0), .val (.long j1), .second, .val (.int (8 : Int32)), .val (.int i3), .val (.int (sm8_87_s0 j1 i3 g))] [])) (fun t k => ?_) ?_
          · refine XS.ifNo X4.here hx rfl (hb hby d3_99) rfl ((if0 _ _).trans (feq hc99).1) ?_
            exact k
          refine Outs.of (U' := T4.setTop (mkF m 104 #[.val (.ref o0), .val (.long j1), .second, .val (.int (8 : Int32)), .val (.int i3), .val (.int (sm8_87_s0 j1 i3 g))] [(.int (4 : Int32)), (.ref o0)])) (fun t k => ?_) ?_
          · refine XS.aloadN X4.here hx rfl (hb hby d3_102) rfl rfl ?_
            refine XS.iconst X4.here hx rfl (hb hby d3_103) ?_
            exact k
          refine Outs.of (ldB X4 hx hZ e4 A_o0 (j := (4 : Int32)) (k := 4) rfl (by decide) (f := (mkF m 104 #[.val (.ref o0), .val (.long j1), .second, .val (.int (8 : Int32)), .val (.int i3), .val (.int (sm8_87_s0 j1 i3 g))] [(.int (4 : Int32)), (.ref o0)])) rfl rfl (hb hby d3_104)) ?_
          refine Outs.of (U' := T4.setTop (mkF m 107 #[.val (.ref o0), .val (.long j1), .second, .val (.int (8 : Int32)), .val (.int i3), .val (.int (sm8_87_s0 j1 i3 g))] [(.int (4 : Int32)), (.long j1), (.int (g 4))])) (fun t k => ?_) ?_
          · refine XS.lloadN X4.here hx rfl (hb hby d3_105) rfl ?_
            refine XS.iconst X4.here hx rfl (hb hby d3_106) ?_
            exact k
          obtain ⟨_, _, ⟨T5, L5, k5, n5⟩, -, X5, ⟨Lc5, hQ5, l5, y5, z5⟩, st5⟩ := Jvm.LawKit.callS X4 hx (y := (⟨"com/example/penelope/penelope/KeysPastTenantPinLaw", "b", "(JI)B"⟩ : MethodName)) hown (mvT hZ (hw _ (List.mem_of_getElem? (i := 1) rfl))) (mvT hZ (hw _ (List.mem_of_getElem? (i := 2) rfl))) (mvT hZ (hw _ (List.mem_of_getElem? (i := 3) rfl))) (mvT hZ (hw _ (List.mem_of_getElem? (i := 4) rfl))) (by decide) (backOf (W := 1) (rm1 l Z a0 hw [] j1 (4 : Int32) h0 n0 ) hZ (hw _ (List.mem_of_getElem? (i := 4) rfl)) (hw _ (List.mem_of_getElem? (i := 3) rfl)) (by decide) (by decide)) (g := (mkF m 107 #[.val (.ref o0), .val (.long j1), .second, .val (.int (8 : Int32)), .val (.int i3), .val (.int (sm8_87_s0 j1 i3 g))] [(.int (4 : Int32)), (.long j1), (.int (g 4))])) rfl (by rw [hml]; rfl) (argsL := [(.long j1), (.int (4 : Int32))]) (rest := [(.int (g 4))]) (lenOf pd_0 rfl) rfl (by show 2 * 0 + _ ≤ _; exact Nat.le_of_eq rfl) (hb hby d3_107) (fun _ _ => ⟨rfl, e4, (by decide : 0 + 0 ≤ _), (by decide : 0 + 0 ≤ _)⟩)
          dsimp only [Pt.U, Pt.locs, Pt.cells, Pt.slots] at X5 l5 y5 z5 st5 hQ5
          subst l5 y5 z5
          obtain ⟨rfl, N5q, e5⟩ := hQ5
          have N5 := Fr.app N4 N5q
          obtain ⟨Lh5, X5, N5⟩ := hide X5 N5 (C := 0) (S := 0) (by decide) (by decide)
          refine Outs.of st5 ?_
          refine Outs.of (U' := T5.setTop (mkF m 118 #[.val (.ref o0), .val (.long j1), .second, .val (.int (8 : Int32)), .val (.int i3), .val (.int (sm8_87_s0 j1 i3 g))] [(.int (sm8_110_s0 j1 i3 g))])) (fun t k => ?_) ?_
          · by_cases hc110 : (g 4) = (F_f1 j1 (4 : Int32))
            · refine XS.icmpNo X5.here hx rfl (hb hby d3_110) rfl (teq hc110).2 ?_
              refine XS.iconst X5.here hx rfl (hb hby d3_113) ?_
              refine XS.goto X5.here hx rfl (pc0 := 114) (pc' := 118) rfl (hb hby d3_114) (by decide) (by decide) ?_
              rw [show (sm8_110_s0 j1 i3 g) = (1 : Int32) from (if_pos hc110)] at k
              exact k
            · refine XS.icmpYes X5.here hx rfl (pc0 := 110) (pc' := 117) rfl (hb hby d3_110) rfl (feq hc110).2 (by decide) (by decide) ?_
              refine XS.iconst X5.here hx rfl (hb hby d3_117) ?_
              rw [show (sm8_110_s0 j1 i3 g) = (0 : Int32) from (if_neg hc110)] at k
              exact k
          refine Outs.of (U' := T5.setTop (mkF m 122 #[.val (.ref o0), .val (.long j1), .second, .val (.int (8 : Int32)), .val (.int i3), .val (.int (sm8_110_s0 j1 i3 g))] [(.int (sm8_110_s0 j1 i3 g))])) (fun t k => ?_) ?_
          · refine XS.istore X5.here hx rfl (hb hby d3_118) rfl (l' := #[.val (.ref o0), .val (.long j1), .second, .val (.int (8 : Int32)), .val (.int i3), .val (.int (sm8_110_s0 j1 i3 g))]) rfl ?_
            refine XS.iload X5.here hx rfl (hb hby d3_120) rfl ?_
            exact k
          by_cases hc122 : (sm8_110_s0 j1 i3 g) = (0 : Int32)
          · refine Outs.of (U' := T5.setTop (mkF m 145 #[.val (.ref o0), .val (.long j1), .second, .val (.int (8 : Int32)), .val (.int i3), .val (.int (sm8_110_s0 j1 i3 g))] [])) (fun t k => ?_) ?_
            · refine XS.ifYes X5.here hx rfl (pc0 := 122) (pc' := 145) rfl (hb hby d3_122) rfl ((if0 _ _).trans (teq hc122).1) (by decide) (by decide) ?_
              exact k
            refine Outs.of (U' := T5.setTop (mkF m 252 #[.val (.ref o0), .val (.long j1), .second, .val (.int (8 : Int32)), .val (.int i3), .val (.int (0 : Int32))] [(.int (0 : Int32))])) (fun t k => ?_) ?_
            · refine XS.iconst X5.here hx rfl (hb hby d3_145) ?_
              refine XS.istore X5.here hx rfl (hb hby d3_146) rfl (l' := #[.val (.ref o0), .val (.long j1), .second, .val (.int (8 : Int32)), .val (.int i3), .val (.int (0 : Int32))]) rfl ?_
              refine XS.iload X5.here hx rfl (hb hby d3_148) rfl ?_
              refine XS.ifYes X5.here hx rfl (pc0 := 150) (pc' := 176) rfl (hb hby d3_150) rfl ((if0 _ _).trans (teq (show (0 : Int32) = (0 : Int32) from (by decide))).1) (by decide) (by decide) ?_
              refine XS.iconst X5.here hx rfl (hb hby d3_176) ?_
              refine XS.istore X5.here hx rfl (hb hby d3_177) rfl (l' := #[.val (.ref o0), .val (.long j1), .second, .val (.int (8 : Int32)), .val (.int i3), .val (.int (0 : Int32))]) rfl ?_
              refine XS.iload X5.here hx rfl (hb hby d3_179) rfl ?_
              refine XS.ifYes X5.here hx rfl (pc0 := 181) (pc' := 207) rfl (hb hby d3_181) rfl ((if0 _ _).trans (teq (show (0 : Int32) = (0 : Int32) from (by decide))).1) (by decide) (by decide) ?_
              refine XS.iconst X5.here hx rfl (hb hby d3_207) ?_
              refine XS.istore X5.here hx rfl (hb hby d3_208) rfl (l' := #[.val (.ref o0), .val (.long j1), .second, .val (.int (8 : Int32)), .val (.int i3), .val (.int (0 : Int32))]) rfl ?_
              refine XS.iload X5.here hx rfl (hb hby d3_210) rfl ?_
              refine XS.ifYes X5.here hx rfl (pc0 := 212) (pc' := 225) rfl (hb hby d3_212) rfl ((if0 _ _).trans (teq (show (0 : Int32) = (0 : Int32) from (by decide))).1) (by decide) (by decide) ?_
              refine XS.iconst X5.here hx rfl (hb hby d3_225) ?_
              refine XS.istore X5.here hx rfl (hb hby d3_226) rfl (l' := #[.val (.ref o0), .val (.long j1), .second, .val (.int (8 : Int32)), .val (.int i3), .val (.int (0 : Int32))]) rfl ?_
              refine XS.iload X5.here hx rfl (hb hby d3_228) rfl ?_
              refine XS.ifYes X5.here hx rfl (pc0 := 230) (pc' := 247) rfl (hb hby d3_230) rfl ((if0 _ _).trans (teq (show (0 : Int32) = (0 : Int32) from (by decide))).1) (by decide) (by decide) ?_
              refine XS.iconst X5.here hx rfl (hb hby d3_247) ?_
              refine XS.istore X5.here hx rfl (hb hby d3_248) rfl (l' := #[.val (.ref o0), .val (.long j1), .second, .val (.int (8 : Int32)), .val (.int i3), .val (.int (0 : Int32))]) rfl ?_
              refine XS.iload X5.here hx rfl (hb hby d3_250) rfl ?_
              exact k
            exact Outs.retN (t := .boolean) (z := (0 : Int32)) X5 hx hret (by simp) (hb hby d3_252) hlk (by decide) (by decide) e5 ⟨congrArg (fun z_ => some (Value.int z_)) (show (F_sm8 j1 i3 g) = (0 : Int32) from ((if_neg hc30).trans ((if_neg hc53).trans ((if_neg hc76).trans ((if_neg hc99).trans (if_pos hc122)))))).symm, N5, rfl⟩
          · refine Outs.of (U' := T5.setTop (mkF m 125 #[.val (.ref o0), .val (.long j1), .second, .val (.int (8 : Int32)), .val (.int i3), .val (.int (sm8_110_s0 j1 i3 g))] [])) (fun t k => ?_) ?_
            · refine XS.ifNo X5.here hx rfl (hb hby d3_122) rfl ((if0 _ _).trans (feq hc122).1) ?_
              exact k
            refine Outs.of (U' := T5.setTop (mkF m 132 #[.val (.ref o0), .val (.long j1), .second, .val (.int (8 : Int32)), .val (.int i3), .val (.int (sm8_110_s0 j1 i3 g))] [(.int (5 : Int32)), (.ref o0)])) (fun t k => ?_) ?_
            · refine XS.iloadN X5.here hx rfl (hb hby d3_125) rfl ?_
              refine XS.iconst X5.here hx rfl (hb hby d3_126) ?_
              refine XS.icmpNo X5.here hx rfl (hb hby d3_127) rfl (tlt (show (5 : Int32) < (8 : Int32) from (by decide))).2.2.2 ?_
              refine XS.aloadN X5.here hx rfl (hb hby d3_130) rfl rfl ?_
              refine XS.iconst X5.here hx rfl (hb hby d3_131) ?_
              exact k
            refine Outs.of (ldB X5 hx hZ e5 A_o0 (j := (5 : Int32)) (k := 5) rfl (by decide) (f := (mkF m 132 #[.val (.ref o0), .val (.long j1), .second, .val (.int (8 : Int32)), .val (.int i3), .val (.int (sm8_110_s0 j1 i3 g))] [(.int (5 : Int32)), (.ref o0)])) rfl rfl (hb hby d3_132)) ?_
            refine Outs.of (U' := T5.setTop (mkF m 135 #[.val (.ref o0), .val (.long j1), .second, .val (.int (8 : Int32)), .val (.int i3), .val (.int (sm8_110_s0 j1 i3 g))] [(.int (5 : Int32)), (.long j1), (.int (g 5))])) (fun t k => ?_) ?_
            · refine XS.lloadN X5.here hx rfl (hb hby d3_133) rfl ?_
              refine XS.iconst X5.here hx rfl (hb hby d3_134) ?_
              exact k
            obtain ⟨_, _, ⟨T6, L6, k6, n6⟩, -, X6, ⟨Lc6, hQ6, l6, y6, z6⟩, st6⟩ := Jvm.LawKit.callS X5 hx (y := (⟨"com/example/penelope/penelope/KeysPastTenantPinLaw", "b", "(JI)B"⟩ : MethodName)) hown (mvT hZ (hw _ (List.mem_of_getElem? (i := 1) rfl))) (mvT hZ (hw _ (List.mem_of_getElem? (i := 2) rfl))) (mvT hZ (hw _ (List.mem_of_getElem? (i := 3) rfl))) (mvT hZ (hw _ (List.mem_of_getElem? (i := 4) rfl))) (by decide) (backOf (W := 1) (rm1 l Z a0 hw [] j1 (5 : Int32) h0 n0 ) hZ (hw _ (List.mem_of_getElem? (i := 4) rfl)) (hw _ (List.mem_of_getElem? (i := 3) rfl)) (by decide) (by decide)) (g := (mkF m 135 #[.val (.ref o0), .val (.long j1), .second, .val (.int (8 : Int32)), .val (.int i3), .val (.int (sm8_110_s0 j1 i3 g))] [(.int (5 : Int32)), (.long j1), (.int (g 5))])) rfl (by rw [hml]; rfl) (argsL := [(.long j1), (.int (5 : Int32))]) (rest := [(.int (g 5))]) (lenOf pd_0 rfl) rfl (by show 2 * 0 + _ ≤ _; exact Nat.le_of_eq rfl) (hb hby d3_135) (fun _ _ => ⟨rfl, e5, (by decide : 0 + 0 ≤ _), (by decide : 0 + 0 ≤ _)⟩)
            dsimp only [Pt.U, Pt.locs, Pt.cells, Pt.slots] at X6 l6 y6 z6 st6 hQ6
            subst l6 y6 z6
            obtain ⟨rfl, N6q, e6⟩ := hQ6
            have N6 := Fr.app N5 N6q
            obtain ⟨Lh6, X6, N6⟩ := hide X6 N6 (C := 0) (S := 0) (by decide) (by decide)
            refine Outs.of st6 ?_
            refine Outs.of (U' := T6.setTop (mkF m 146 #[.val (.ref o0), .val (.long j1), .second, .val (.int (8 : Int32)), .val (.int i3), .val (.int (sm8_110_s0 j1 i3 g))] [(.int (sm8_138_s0 j1 i3 g))])) (fun t k => ?_) ?_
            · by_cases hc138 : (g 5) = (F_f1 j1 (5 : Int32))
              · refine XS.icmpNo X6.here hx rfl (hb hby d3_138) rfl (teq hc138).2 ?_
                refine XS.iconst X6.here hx rfl (hb hby d3_141) ?_
                refine XS.goto X6.here hx rfl (pc0 := 142) (pc' := 146) rfl (hb hby d3_142) (by decide) (by decide) ?_
                rw [show (sm8_138_s0 j1 i3 g) = (1 : Int32) from (if_pos hc138)] at k
                exact k
              · refine XS.icmpYes X6.here hx rfl (pc0 := 138) (pc' := 145) rfl (hb hby d3_138) rfl (feq hc138).2 (by decide) (by decide) ?_
                refine XS.iconst X6.here hx rfl (hb hby d3_145) ?_
                rw [show (sm8_138_s0 j1 i3 g) = (0 : Int32) from (if_neg hc138)] at k
                exact k
            refine Outs.of (U' := T6.setTop (mkF m 150 #[.val (.ref o0), .val (.long j1), .second, .val (.int (8 : Int32)), .val (.int i3), .val (.int (sm8_138_s0 j1 i3 g))] [(.int (sm8_138_s0 j1 i3 g))])) (fun t k => ?_) ?_
            · refine XS.istore X6.here hx rfl (hb hby d3_146) rfl (l' := #[.val (.ref o0), .val (.long j1), .second, .val (.int (8 : Int32)), .val (.int i3), .val (.int (sm8_138_s0 j1 i3 g))]) rfl ?_
              refine XS.iload X6.here hx rfl (hb hby d3_148) rfl ?_
              exact k
            by_cases hc150 : (sm8_138_s0 j1 i3 g) = (0 : Int32)
            · refine Outs.of (U' := T6.setTop (mkF m 176 #[.val (.ref o0), .val (.long j1), .second, .val (.int (8 : Int32)), .val (.int i3), .val (.int (sm8_138_s0 j1 i3 g))] [])) (fun t k => ?_) ?_
              · refine XS.ifYes X6.here hx rfl (pc0 := 150) (pc' := 176) rfl (hb hby d3_150) rfl ((if0 _ _).trans (teq hc150).1) (by decide) (by decide) ?_
                exact k
              refine Outs.of (U' := T6.setTop (mkF m 252 #[.val (.ref o0), .val (.long j1), .second, .val (.int (8 : Int32)), .val (.int i3), .val (.int (0 : Int32))] [(.int (0 : Int32))])) (fun t k => ?_) ?_
              · refine XS.iconst X6.here hx rfl (hb hby d3_176) ?_
                refine XS.istore X6.here hx rfl (hb hby d3_177) rfl (l' := #[.val (.ref o0), .val (.long j1), .second, .val (.int (8 : Int32)), .val (.int i3), .val (.int (0 : Int32))]) rfl ?_
                refine XS.iload X6.here hx rfl (hb hby d3_179) rfl ?_
                refine XS.ifYes X6.here hx rfl (pc0 := 181) (pc' := 207) rfl (hb hby d3_181) rfl ((if0 _ _).trans (teq (show (0 : Int32) = (0 : Int32) from (by decide))).1) (by decide) (by decide) ?_
                refine XS.iconst X6.here hx rfl (hb hby d3_207) ?_
                refine XS.istore X6.here hx rfl (hb hby d3_208) rfl (l' := #[.val (.ref o0), .val (.long j1), .second, .val (.int (8 : Int32)), .val (.int i3), .val (.int (0 : Int32))]) rfl ?_
                refine XS.iload X6.here hx rfl (hb hby d3_210) rfl ?_
                refine XS.ifYes X6.here hx rfl (pc0 := 212) (pc' := 225) rfl (hb hby d3_212) rfl ((if0 _ _).trans (teq (show (0 : Int32) = (0 : Int32) from (by decide))).1) (by decide) (by decide) ?_
                refine XS.iconst X6.here hx rfl (hb hby d3_225) ?_
                refine XS.istore X6.here hx rfl (hb hby d3_226) rfl (l' := #[.val (.ref o0), .val (.long j1), .second, .val (.int (8 : Int32)), .val (.int i3), .val (.int (0 : Int32))]) rfl ?_
                refine XS.iload X6.here hx rfl (hb hby d3_228) rfl ?_
                refine XS.ifYes X6.here hx rfl (pc0 := 230) (pc' := 247) rfl (hb hby d3_230) rfl ((if0 _ _).trans (teq (show (0 : Int32) = (0 : Int32) from (by decide))).1) (by decide) (by decide) ?_
                refine XS.iconst X6.here hx rfl (hb hby d3_247) ?_
                refine XS.istore X6.here hx rfl (hb hby d3_248) rfl (l' := #[.val (.ref o0), .val (.long j1), .second, .val (.int (8 : Int32)), .val (.int i3), .val (.int (0 : Int32))]) rfl ?_
                refine XS.iload X6.here hx rfl (hb hby d3_250) rfl ?_
                exact k
              exact Outs.retN (t := .boolean) (z := (0 : Int32)) X6 hx hret (by simp) (hb hby d3_252) hlk (by decide) (by decide) e6 ⟨congrArg (fun z_ => some (Value.int z_)) (show (F_sm8 j1 i3 g) = (0 : Int32) from ((if_neg hc30).trans ((if_neg hc53).trans ((if_neg hc76).trans ((if_neg hc99).trans ((if_neg hc122).trans (if_pos hc150))))))).symm, N6, rfl⟩
            · refine Outs.of (U' := T6.setTop (mkF m 153 #[.val (.ref o0), .val (.long j1), .second, .val (.int (8 : Int32)), .val (.int i3), .val (.int (sm8_138_s0 j1 i3 g))] [])) (fun t k => ?_) ?_
              · refine XS.ifNo X6.here hx rfl (hb hby d3_150) rfl ((if0 _ _).trans (feq hc150).1) ?_
                exact k
              refine Outs.of (U' := T6.setTop (mkF m 162 #[.val (.ref o0), .val (.long j1), .second, .val (.int (8 : Int32)), .val (.int i3), .val (.int (sm8_138_s0 j1 i3 g))] [(.int (6 : Int32)), (.ref o0)])) (fun t k => ?_) ?_
              · refine XS.iloadN X6.here hx rfl (hb hby d3_153) rfl ?_
                refine XS.bipush X6.here hx rfl (hb hby d3_154) ?_
                refine XS.icmpNo X6.here hx rfl (hb hby d3_156) rfl (tlt (show (6 : Int32) < (8 : Int32) from (by decide))).2.2.2 ?_
                refine XS.aloadN X6.here hx rfl (hb hby d3_159) rfl rfl ?_
                refine XS.bipush X6.here hx rfl (hb hby d3_160) ?_
                exact k
              refine Outs.of (ldB X6 hx hZ e6 A_o0 (j := (6 : Int32)) (k := 6) rfl (by decide) (f := (mkF m 162 #[.val (.ref o0), .val (.long j1), .second, .val (.int (8 : Int32)), .val (.int i3), .val (.int (sm8_138_s0 j1 i3 g))] [(.int (6 : Int32)), (.ref o0)])) rfl rfl (hb hby d3_162)) ?_
              refine Outs.of (U' := T6.setTop (mkF m 166 #[.val (.ref o0), .val (.long j1), .second, .val (.int (8 : Int32)), .val (.int i3), .val (.int (sm8_138_s0 j1 i3 g))] [(.int (6 : Int32)), (.long j1), (.int (g 6))])) (fun t k => ?_) ?_
              · refine XS.lloadN X6.here hx rfl (hb hby d3_163) rfl ?_
                refine XS.bipush X6.here hx rfl (hb hby d3_164) ?_
                exact k
              obtain ⟨_, _, ⟨T7, L7, k7, n7⟩, -, X7, ⟨Lc7, hQ7, l7, y7, z7⟩, st7⟩ := Jvm.LawKit.callS X6 hx (y := (⟨"com/example/penelope/penelope/KeysPastTenantPinLaw", "b", "(JI)B"⟩ : MethodName)) hown (mvT hZ (hw _ (List.mem_of_getElem? (i := 1) rfl))) (mvT hZ (hw _ (List.mem_of_getElem? (i := 2) rfl))) (mvT hZ (hw _ (List.mem_of_getElem? (i := 3) rfl))) (mvT hZ (hw _ (List.mem_of_getElem? (i := 4) rfl))) (by decide) (backOf (W := 1) (rm1 l Z a0 hw [] j1 (6 : Int32) h0 n0 ) hZ (hw _ (List.mem_of_getElem? (i := 4) rfl)) (hw _ (List.mem_of_getElem? (i := 3) rfl)) (by decide) (by decide)) (g := (mkF m 166 #[.val (.ref o0), .val (.long j1), .second, .val (.int (8 : Int32)), .val (.int i3), .val (.int (sm8_138_s0 j1 i3 g))] [(.int (6 : Int32)), (.long j1), (.int (g 6))])) rfl (by rw [hml]; rfl) (argsL := [(.long j1), (.int (6 : Int32))]) (rest := [(.int (g 6))]) (lenOf pd_0 rfl) rfl (by show 2 * 0 + _ ≤ _; exact Nat.le_of_eq rfl) (hb hby d3_166) (fun _ _ => ⟨rfl, e6, (by decide : 0 + 0 ≤ _), (by decide : 0 + 0 ≤ _)⟩)
              dsimp only [Pt.U, Pt.locs, Pt.cells, Pt.slots] at X7 l7 y7 z7 st7 hQ7
              subst l7 y7 z7
              obtain ⟨rfl, N7q, e7⟩ := hQ7
              have N7 := Fr.app N6 N7q
              obtain ⟨Lh7, X7, N7⟩ := hide X7 N7 (C := 0) (S := 0) (by decide) (by decide)
              refine Outs.of st7 ?_
              refine Outs.of (U' := T7.setTop (mkF m 177 #[.val (.ref o0), .val (.long j1), .second, .val (.int (8 : Int32)), .val (.int i3), .val (.int (sm8_138_s0 j1 i3 g))] [(.int (sm8_169_s0 j1 i3 g))])) (fun t k => ?_) ?_
              · by_cases hc169 : (g 6) = (F_f1 j1 (6 : Int32))
                · refine XS.icmpNo X7.here hx rfl (hb hby d3_169) rfl (teq hc169).2 ?_
                  refine XS.iconst X7.here hx rfl (hb hby d3_172) ?_
                  refine XS.goto X7.here hx rfl (pc0 := 173) (pc' := 177) rfl (hb hby d3_173) (by decide) (by decide) ?_
                  rw [show (sm8_169_s0 j1 i3 g) = (1 : Int32) from (if_pos hc169)] at k
                  exact k
                · refine XS.icmpYes X7.here hx rfl (pc0 := 169) (pc' := 176) rfl (hb hby d3_169) rfl (feq hc169).2 (by decide) (by decide) ?_
                  refine XS.iconst X7.here hx rfl (hb hby d3_176) ?_
                  rw [show (sm8_169_s0 j1 i3 g) = (0 : Int32) from (if_neg hc169)] at k
                  exact k
              refine Outs.of (U' := T7.setTop (mkF m 181 #[.val (.ref o0), .val (.long j1), .second, .val (.int (8 : Int32)), .val (.int i3), .val (.int (sm8_169_s0 j1 i3 g))] [(.int (sm8_169_s0 j1 i3 g))])) (fun t k => ?_) ?_
              · refine XS.istore X7.here hx rfl (hb hby d3_177) rfl (l' := #[.val (.ref o0), .val (.long j1), .second, .val (.int (8 : Int32)), .val (.int i3), .val (.int (sm8_169_s0 j1 i3 g))]) rfl ?_
                refine XS.iload X7.here hx rfl (hb hby d3_179) rfl ?_
                exact k
              by_cases hc181 : (sm8_169_s0 j1 i3 g) = (0 : Int32)
              · refine Outs.of (U' := T7.setTop (mkF m 207 #[.val (.ref o0), .val (.long j1), .second, .val (.int (8 : Int32)), .val (.int i3), .val (.int (sm8_169_s0 j1 i3 g))] [])) (fun t k => ?_) ?_
                · refine XS.ifYes X7.here hx rfl (pc0 := 181) (pc' := 207) rfl (hb hby d3_181) rfl ((if0 _ _).trans (teq hc181).1) (by decide) (by decide) ?_
                  exact k
                refine Outs.of (U' := T7.setTop (mkF m 252 #[.val (.ref o0), .val (.long j1), .second, .val (.int (8 : Int32)), .val (.int i3), .val (.int (0 : Int32))] [(.int (0 : Int32))])) (fun t k => ?_) ?_
                · refine XS.iconst X7.here hx rfl (hb hby d3_207) ?_
                  refine XS.istore X7.here hx rfl (hb hby d3_208) rfl (l' := #[.val (.ref o0), .val (.long j1), .second, .val (.int (8 : Int32)), .val (.int i3), .val (.int (0 : Int32))]) rfl ?_
                  refine XS.iload X7.here hx rfl (hb hby d3_210) rfl ?_
                  refine XS.ifYes X7.here hx rfl (pc0 := 212) (pc' := 225) rfl (hb hby d3_212) rfl ((if0 _ _).trans (teq (show (0 : Int32) = (0 : Int32) from (by decide))).1) (by decide) (by decide) ?_
                  refine XS.iconst X7.here hx rfl (hb hby d3_225) ?_
                  refine XS.istore X7.here hx rfl (hb hby d3_226) rfl (l' := #[.val (.ref o0), .val (.long j1), .second, .val (.int (8 : Int32)), .val (.int i3), .val (.int (0 : Int32))]) rfl ?_
                  refine XS.iload X7.here hx rfl (hb hby d3_228) rfl ?_
                  refine XS.ifYes X7.here hx rfl (pc0 := 230) (pc' := 247) rfl (hb hby d3_230) rfl ((if0 _ _).trans (teq (show (0 : Int32) = (0 : Int32) from (by decide))).1) (by decide) (by decide) ?_
                  refine XS.iconst X7.here hx rfl (hb hby d3_247) ?_
                  refine XS.istore X7.here hx rfl (hb hby d3_248) rfl (l' := #[.val (.ref o0), .val (.long j1), .second, .val (.int (8 : Int32)), .val (.int i3), .val (.int (0 : Int32))]) rfl ?_
                  refine XS.iload X7.here hx rfl (hb hby d3_250) rfl ?_
                  exact k
                exact Outs.retN (t := .boolean) (z := (0 : Int32)) X7 hx hret (by simp) (hb hby d3_252) hlk (by decide) (by decide) e7 ⟨congrArg (fun z_ => some (Value.int z_)) (show (F_sm8 j1 i3 g) = (0 : Int32) from ((if_neg hc30).trans ((if_neg hc53).trans ((if_neg hc76).trans ((if_neg hc99).trans ((if_neg hc122).trans ((if_neg hc150).trans (if_pos hc181)))))))).symm, N7, rfl⟩
              · refine Outs.of (U' := T7.setTop (mkF m 184 #[.val (.ref o0), .val (.long j1), .second, .val (.int (8 : Int32)), .val (.int i3), .val (.int (sm8_169_s0 j1 i3 g))] [])) (fun t k => ?_) ?_
                · refine XS.ifNo X7.here hx rfl (hb hby d3_181) rfl ((if0 _ _).trans (feq hc181).1) ?_
                  exact k
                refine Outs.of (U' := T7.setTop (mkF m 193 #[.val (.ref o0), .val (.long j1), .second, .val (.int (8 : Int32)), .val (.int i3), .val (.int (sm8_169_s0 j1 i3 g))] [(.int (7 : Int32)), (.ref o0)])) (fun t k => ?_) ?_
                · refine XS.iloadN X7.here hx rfl (hb hby d3_184) rfl ?_
                  refine XS.bipush X7.here hx rfl (hb hby d3_185) ?_
                  refine XS.icmpNo X7.here hx rfl (hb hby d3_187) rfl (tlt (show (7 : Int32) < (8 : Int32) from (by decide))).2.2.2 ?_
                  refine XS.aloadN X7.here hx rfl (hb hby d3_190) rfl rfl ?_
                  refine XS.bipush X7.here hx rfl (hb hby d3_191) ?_
                  exact k
                refine Outs.of (ldB X7 hx hZ e7 A_o0 (j := (7 : Int32)) (k := 7) rfl (by decide) (f := (mkF m 193 #[.val (.ref o0), .val (.long j1), .second, .val (.int (8 : Int32)), .val (.int i3), .val (.int (sm8_169_s0 j1 i3 g))] [(.int (7 : Int32)), (.ref o0)])) rfl rfl (hb hby d3_193)) ?_
                refine Outs.of (U' := T7.setTop (mkF m 197 #[.val (.ref o0), .val (.long j1), .second, .val (.int (8 : Int32)), .val (.int i3), .val (.int (sm8_169_s0 j1 i3 g))] [(.int (7 : Int32)), (.long j1), (.int (g 7))])) (fun t k => ?_) ?_
                · refine XS.lloadN X7.here hx rfl (hb hby d3_194) rfl ?_
                  refine XS.bipush X7.here hx rfl (hb hby d3_195) ?_
                  exact k
                obtain ⟨_, _, ⟨T8, L8, k8, n8⟩, -, X8, ⟨Lc8, hQ8, l8, y8, z8⟩, st8⟩ := Jvm.LawKit.callS X7 hx (y := (⟨"com/example/penelope/penelope/KeysPastTenantPinLaw", "b", "(JI)B"⟩ : MethodName)) hown (mvT hZ (hw _ (List.mem_of_getElem? (i := 1) rfl))) (mvT hZ (hw _ (List.mem_of_getElem? (i := 2) rfl))) (mvT hZ (hw _ (List.mem_of_getElem? (i := 3) rfl))) (mvT hZ (hw _ (List.mem_of_getElem? (i := 4) rfl))) (by decide) (backOf (W := 1) (rm1 l Z a0 hw [] j1 (7 : Int32) h0 n0 ) hZ (hw _ (List.mem_of_getElem? (i := 4) rfl)) (hw _ (List.mem_of_getElem? (i := 3) rfl)) (by decide) (by decide)) (g := (mkF m 197 #[.val (.ref o0), .val (.long j1), .second, .val (.int (8 : Int32)), .val (.int i3), .val (.int (sm8_169_s0 j1 i3 g))] [(.int (7 : Int32)), (.long j1), (.int (g 7))])) rfl (by rw [hml]; rfl) (argsL := [(.long j1), (.int (7 : Int32))]) (rest := [(.int (g 7))]) (lenOf pd_0 rfl) rfl (by show 2 * 0 + _ ≤ _; exact Nat.le_of_eq rfl) (hb hby d3_197) (fun _ _ => ⟨rfl, e7, (by decide : 0 + 0 ≤ _), (by decide : 0 + 0 ≤ _)⟩)
                dsimp only [Pt.U, Pt.locs, Pt.cells, Pt.slots] at X8 l8 y8 z8 st8 hQ8
                subst l8 y8 z8
                obtain ⟨rfl, N8q, e8⟩ := hQ8
                have N8 := Fr.app N7 N8q
                obtain ⟨Lh8, X8, N8⟩ := hide X8 N8 (C := 0) (S := 0) (by decide) (by decide)
                refine Outs.of st8 ?_
                refine Outs.of (U' := T8.setTop (mkF m 208 #[.val (.ref o0), .val (.long j1), .second, .val (.int (8 : Int32)), .val (.int i3), .val (.int (sm8_169_s0 j1 i3 g))] [(.int (sm8_200_s0 j1 i3 g))])) (fun t k => ?_) ?_
                · by_cases hc200 : (g 7) = (F_f1 j1 (7 : Int32))
                  · refine XS.icmpNo X8.here hx rfl (hb hby d3_200) rfl (teq hc200).2 ?_
                    refine XS.iconst X8.here hx rfl (hb hby d3_203) ?_
                    refine XS.goto X8.here hx rfl (pc0 := 204) (pc' := 208) rfl (hb hby d3_204) (by decide) (by decide) ?_
                    rw [show (sm8_200_s0 j1 i3 g) = (1 : Int32) from (if_pos hc200)] at k
                    exact k
                  · refine XS.icmpYes X8.here hx rfl (pc0 := 200) (pc' := 207) rfl (hb hby d3_200) rfl (feq hc200).2 (by decide) (by decide) ?_
                    refine XS.iconst X8.here hx rfl (hb hby d3_207) ?_
                    rw [show (sm8_200_s0 j1 i3 g) = (0 : Int32) from (if_neg hc200)] at k
                    exact k
                refine Outs.of (U' := T8.setTop (mkF m 212 #[.val (.ref o0), .val (.long j1), .second, .val (.int (8 : Int32)), .val (.int i3), .val (.int (sm8_200_s0 j1 i3 g))] [(.int (sm8_200_s0 j1 i3 g))])) (fun t k => ?_) ?_
                · refine XS.istore X8.here hx rfl (hb hby d3_208) rfl (l' := #[.val (.ref o0), .val (.long j1), .second, .val (.int (8 : Int32)), .val (.int i3), .val (.int (sm8_200_s0 j1 i3 g))]) rfl ?_
                  refine XS.iload X8.here hx rfl (hb hby d3_210) rfl ?_
                  exact k
                by_cases hc212 : (sm8_200_s0 j1 i3 g) = (0 : Int32)
                · refine Outs.of (U' := T8.setTop (mkF m 225 #[.val (.ref o0), .val (.long j1), .second, .val (.int (8 : Int32)), .val (.int i3), .val (.int (sm8_200_s0 j1 i3 g))] [])) (fun t k => ?_) ?_
                  · refine XS.ifYes X8.here hx rfl (pc0 := 212) (pc' := 225) rfl (hb hby d3_212) rfl ((if0 _ _).trans (teq hc212).1) (by decide) (by decide) ?_
                    exact k
                  refine Outs.of (U' := T8.setTop (mkF m 252 #[.val (.ref o0), .val (.long j1), .second, .val (.int (8 : Int32)), .val (.int i3), .val (.int (0 : Int32))] [(.int (0 : Int32))])) (fun t k => ?_) ?_
                  · refine XS.iconst X8.here hx rfl (hb hby d3_225) ?_
                    refine XS.istore X8.here hx rfl (hb hby d3_226) rfl (l' := #[.val (.ref o0), .val (.long j1), .second, .val (.int (8 : Int32)), .val (.int i3), .val (.int (0 : Int32))]) rfl ?_
                    refine XS.iload X8.here hx rfl (hb hby d3_228) rfl ?_
                    refine XS.ifYes X8.here hx rfl (pc0 := 230) (pc' := 247) rfl (hb hby d3_230) rfl ((if0 _ _).trans (teq (show (0 : Int32) = (0 : Int32) from (by decide))).1) (by decide) (by decide) ?_
                    refine XS.iconst X8.here hx rfl (hb hby d3_247) ?_
                    refine XS.istore X8.here hx rfl (hb hby d3_248) rfl (l' := #[.val (.ref o0), .val (.long j1), .second, .val (.int (8 : Int32)), .val (.int i3), .val (.int (0 : Int32))]) rfl ?_
                    refine XS.iload X8.here hx rfl (hb hby d3_250) rfl ?_
                    exact k
                  exact Outs.retN (t := .boolean) (z := (0 : Int32)) X8 hx hret (by simp) (hb hby d3_252) hlk (by decide) (by decide) e8 ⟨congrArg (fun z_ => some (Value.int z_)) (show (F_sm8 j1 i3 g) = (0 : Int32) from ((if_neg hc30).trans ((if_neg hc53).trans ((if_neg hc76).trans ((if_neg hc99).trans ((if_neg hc122).trans ((if_neg hc150).trans ((if_neg hc181).trans (if_pos hc212))))))))).symm, N8, rfl⟩
                · refine Outs.of (U' := T8.setTop (mkF m 215 #[.val (.ref o0), .val (.long j1), .second, .val (.int (8 : Int32)), .val (.int i3), .val (.int (sm8_200_s0 j1 i3 g))] [])) (fun t k => ?_) ?_
                  · refine XS.ifNo X8.here hx rfl (hb hby d3_212) rfl ((if0 _ _).trans (feq hc212).1) ?_
                    exact k
                  refine Outs.of (U' := T8.setTop (mkF m 217 #[.val (.ref o0), .val (.long j1), .second, .val (.int (8 : Int32)), .val (.int i3), .val (.int (sm8_200_s0 j1 i3 g))] [(.int (8 : Int32)), (.ref o0)])) (fun t k => ?_) ?_
                  · refine XS.aloadN X8.here hx rfl (hb hby d3_215) rfl rfl ?_
                    refine XS.iloadN X8.here hx rfl (hb hby d3_216) rfl ?_
                    exact k
                  refine Outs.of (ldB X8 hx hZ e8 A_o0 (j := (8 : Int32)) (k := 8) rfl (by decide) (f := (mkF m 217 #[.val (.ref o0), .val (.long j1), .second, .val (.int (8 : Int32)), .val (.int i3), .val (.int (sm8_200_s0 j1 i3 g))] [(.int (8 : Int32)), (.ref o0)])) rfl rfl (hb hby d3_217)) ?_
                  refine Outs.of (U' := T8.setTop (mkF m 226 #[.val (.ref o0), .val (.long j1), .second, .val (.int (8 : Int32)), .val (.int i3), .val (.int (sm8_200_s0 j1 i3 g))] [(.int (sm8_218_s0 j1 i3 g))])) (fun t k => ?_) ?_
                  · by_cases hc218 : (g 8) = (0 : Int32)
                    · refine XS.ifNo X8.here hx rfl (hb hby d3_218) rfl ((if0 _ _).trans (teq hc218).2) ?_
                      refine XS.iconst X8.here hx rfl (hb hby d3_221) ?_
                      refine XS.goto X8.here hx rfl (pc0 := 222) (pc' := 226) rfl (hb hby d3_222) (by decide) (by decide) ?_
                      rw [show (sm8_218_s0 j1 i3 g) = (1 : Int32) from (if_pos hc218)] at k
                      exact k
                    · refine XS.ifYes X8.here hx rfl (pc0 := 218) (pc' := 225) rfl (hb hby d3_218) rfl ((if0 _ _).trans (feq hc218).2) (by decide) (by decide) ?_
                      refine XS.iconst X8.here hx rfl (hb hby d3_225) ?_
                      rw [show (sm8_218_s0 j1 i3 g) = (0 : Int32) from (if_neg hc218)] at k
                      exact k
                  refine Outs.of (U' := T8.setTop (mkF m 230 #[.val (.ref o0), .val (.long j1), .second, .val (.int (8 : Int32)), .val (.int i3), .val (.int (sm8_218_s0 j1 i3 g))] [(.int (sm8_218_s0 j1 i3 g))])) (fun t k => ?_) ?_
                  · refine XS.istore X8.here hx rfl (hb hby d3_226) rfl (l' := #[.val (.ref o0), .val (.long j1), .second, .val (.int (8 : Int32)), .val (.int i3), .val (.int (sm8_218_s0 j1 i3 g))]) rfl ?_
                    refine XS.iload X8.here hx rfl (hb hby d3_228) rfl ?_
                    exact k
                  by_cases hc230 : (sm8_218_s0 j1 i3 g) = (0 : Int32)
                  · refine Outs.of (U' := T8.setTop (mkF m 247 #[.val (.ref o0), .val (.long j1), .second, .val (.int (8 : Int32)), .val (.int i3), .val (.int (sm8_218_s0 j1 i3 g))] [])) (fun t k => ?_) ?_
                    · refine XS.ifYes X8.here hx rfl (pc0 := 230) (pc' := 247) rfl (hb hby d3_230) rfl ((if0 _ _).trans (teq hc230).1) (by decide) (by decide) ?_
                      exact k
                    refine Outs.of (U' := T8.setTop (mkF m 252 #[.val (.ref o0), .val (.long j1), .second, .val (.int (8 : Int32)), .val (.int i3), .val (.int (0 : Int32))] [(.int (0 : Int32))])) (fun t k => ?_) ?_
                    · refine XS.iconst X8.here hx rfl (hb hby d3_247) ?_
                      refine XS.istore X8.here hx rfl (hb hby d3_248) rfl (l' := #[.val (.ref o0), .val (.long j1), .second, .val (.int (8 : Int32)), .val (.int i3), .val (.int (0 : Int32))]) rfl ?_
                      refine XS.iload X8.here hx rfl (hb hby d3_250) rfl ?_
                      exact k
                    exact Outs.retN (t := .boolean) (z := (0 : Int32)) X8 hx hret (by simp) (hb hby d3_252) hlk (by decide) (by decide) e8 ⟨congrArg (fun z_ => some (Value.int z_)) (show (F_sm8 j1 i3 g) = (0 : Int32) from ((if_neg hc30).trans ((if_neg hc53).trans ((if_neg hc76).trans ((if_neg hc99).trans ((if_neg hc122).trans ((if_neg hc150).trans ((if_neg hc181).trans ((if_neg hc212).trans (if_pos hc230)))))))))).symm, N8, rfl⟩
                  · refine Outs.of (U' := T8.setTop (mkF m 233 #[.val (.ref o0), .val (.long j1), .second, .val (.int (8 : Int32)), .val (.int i3), .val (.int (sm8_218_s0 j1 i3 g))] [])) (fun t k => ?_) ?_
                    · refine XS.ifNo X8.here hx rfl (hb hby d3_230) rfl ((if0 _ _).trans (feq hc230).1) ?_
                      exact k
                    refine Outs.of (U' := T8.setTop (mkF m 237 #[.val (.ref o0), .val (.long j1), .second, .val (.int (8 : Int32)), .val (.int i3), .val (.int (sm8_218_s0 j1 i3 g))] [(.int (9 : Int32)), (.ref o0)])) (fun t k => ?_) ?_
                    · refine XS.aloadN X8.here hx rfl (hb hby d3_233) rfl rfl ?_
                      refine XS.iloadN X8.here hx rfl (hb hby d3_234) rfl ?_
                      refine XS.iconst X8.here hx rfl (hb hby d3_235) ?_
                      refine XS.iadd X8.here hx rfl (hb hby d3_236) rfl ?_
                      exact k
                    refine Outs.of (ldB X8 hx hZ e8 A_o0 (j := (9 : Int32)) (k := 9) rfl (by decide) (f := (mkF m 237 #[.val (.ref o0), .val (.long j1), .second, .val (.int (8 : Int32)), .val (.int i3), .val (.int (sm8_218_s0 j1 i3 g))] [(.int (9 : Int32)), (.ref o0)])) rfl rfl (hb hby d3_237)) ?_
                    refine Outs.of (U' := T8.setTop (mkF m 248 #[.val (.ref o0), .val (.long j1), .second, .val (.int (8 : Int32)), .val (.int i3), .val (.int (sm8_218_s0 j1 i3 g))] [(.int (sm8_240_s0 j1 i3 g))])) (fun t k => ?_) ?_
                    · refine XS.iload X8.here hx rfl (hb hby d3_238) rfl ?_
                      by_cases hc240 : (g 9) = i3
                      · refine XS.icmpNo X8.here hx rfl (hb hby d3_240) rfl (teq hc240).2 ?_
                        refine XS.iconst X8.here hx rfl (hb hby d3_243) ?_
                        refine XS.goto X8.here hx rfl (pc0 := 244) (pc' := 248) rfl (hb hby d3_244) (by decide) (by decide) ?_
                        rw [show (sm8_240_s0 j1 i3 g) = (1 : Int32) from (if_pos hc240)] at k
                        exact k
                      · refine XS.icmpYes X8.here hx rfl (pc0 := 240) (pc' := 247) rfl (hb hby d3_240) rfl (feq hc240).2 (by decide) (by decide) ?_
                        refine XS.iconst X8.here hx rfl (hb hby d3_247) ?_
                        rw [show (sm8_240_s0 j1 i3 g) = (0 : Int32) from (if_neg hc240)] at k
                        exact k
                    refine Outs.of (U' := T8.setTop (mkF m 252 #[.val (.ref o0), .val (.long j1), .second, .val (.int (8 : Int32)), .val (.int i3), .val (.int (sm8_240_s0 j1 i3 g))] [(.int (sm8_240_s0 j1 i3 g))])) (fun t k => ?_) ?_
                    · refine XS.istore X8.here hx rfl (hb hby d3_248) rfl (l' := #[.val (.ref o0), .val (.long j1), .second, .val (.int (8 : Int32)), .val (.int i3), .val (.int (sm8_240_s0 j1 i3 g))]) rfl ?_
                      refine XS.iload X8.here hx rfl (hb hby d3_250) rfl ?_
                      exact k
                    exact Outs.retN (t := .boolean) (z := (sm8_240_s0 j1 i3 g)) X8 hx hret (by simp) (hb hby d3_252) hlk (by decide) (by decide) e8 ⟨congrArg (fun z_ => some (Value.int z_)) (show (F_sm8 j1 i3 g) = (nar .boolean (sm8_240_s0 j1 i3 g)) from ((if_neg hc30).trans ((if_neg hc53).trans ((if_neg hc76).trans ((if_neg hc99).trans ((if_neg hc122).trans ((if_neg hc150).trans ((if_neg hc181).trans ((if_neg hc212).trans (if_neg hc230)))))))))).symm, N8, rfl⟩
def f0_g49 (j0 : Int64) (i1 : Int32) : Nat → Int32 := (upv (fun _ => (0 : Int32)) 0 ((F_f1 j0 (0 : Int32)).toInt8.toInt32))
def f0_g58 (j0 : Int64) (i1 : Int32) : Nat → Int32 := (upv (f0_g49 j0 i1) 1 ((F_f1 j0 (1 : Int32)).toInt8.toInt32))
def f0_g67 (j0 : Int64) (i1 : Int32) : Nat → Int32 := (upv (f0_g58 j0 i1) 2 ((F_f1 j0 (2 : Int32)).toInt8.toInt32))
def f0_g76 (j0 : Int64) (i1 : Int32) : Nat → Int32 := (upv (f0_g67 j0 i1) 3 ((F_f1 j0 (3 : Int32)).toInt8.toInt32))
def f0_g85 (j0 : Int64) (i1 : Int32) : Nat → Int32 := (upv (f0_g76 j0 i1) 4 ((F_f1 j0 (4 : Int32)).toInt8.toInt32))
def f0_g126 (j0 : Int64) (i1 : Int32) : Nat → Int32 := (upv (f0_g85 j0 i1) 5 ((0 : Int32).toInt8.toInt32))
def f0_g134 (j0 : Int64) (i1 : Int32) : Nat → Int32 := (upv (f0_g126 j0 i1) 6 ((1 : Int32).toInt8.toInt32))
def f0_g98 (j0 : Int64) (i1 : Int32) : Nat → Int32 := (upv (f0_g85 j0 i1) 5 ((F_f1 j0 (5 : Int32)).toInt8.toInt32))
def f0_g109 (j0 : Int64) (i1 : Int32) : Nat → Int32 := (upv (f0_g98 j0 i1) 6 ((F_f1 j0 (6 : Int32)).toInt8.toInt32))
def f0_g120 (j0 : Int64) (i1 : Int32) : Nat → Int32 := (upv (f0_g109 j0 i1) 7 ((F_f1 j0 (7 : Int32)).toInt8.toInt32))
def f0_g126a (j0 : Int64) (i1 : Int32) : Nat → Int32 := (upv (f0_g120 j0 i1) 8 ((0 : Int32).toInt8.toInt32))
def f0_g134a (j0 : Int64) (i1 : Int32) : Nat → Int32 := (upv (f0_g126a j0 i1) 9 ((1 : Int32).toInt8.toInt32))
theorem own_bb (x : Int32) : x.toInt8.toInt32.toInt8.toInt32 = x.toInt8.toInt32 := by
  apply Int32.toInt_inj.mp
  have a := c_i2b x
  have b := c_i2b x.toInt8.toInt32
  omega
theorem own_f1b (j : Int64) (i : Int32) : (F_f1 j i).toInt8.toInt32 = F_f1 j i := by
  have h : ∀ x : Int32, nar .byte x = x.toInt8.toInt32 := fun x => rfl
  unfold F_f1
  rw [h, own_bb]
theorem own_fb (x : Int32) : fits .byte (.int x.toInt8.toInt32) = true := fits_nar_byte x
theorem own_fit5 (j0 : Int64) (i1 : Int32) : ∀ k_, k_ < 7 → fits .byte (.int (f0_g134 j0 i1 k_)) = true := fun k_ _ => by
  unfold f0_g134 f0_g126 f0_g85 f0_g76 f0_g67 f0_g58 f0_g49
  exact upv_fits (upv_fits (upv_fits (upv_fits (upv_fits (upv_fits (upv_fits (fun _ => own_fb 0) (own_fb _)) (own_fb _)) (own_fb _)) (own_fb _)) (own_fb _)) (own_fb _)) (own_fb _) k_
theorem own_fit8 (j0 : Int64) (i1 : Int32) : ∀ k_, k_ < 10 → fits .byte (.int (f0_g134a j0 i1 k_)) = true := fun k_ _ => by
  unfold f0_g134a f0_g126a f0_g120 f0_g109 f0_g98 f0_g85 f0_g76 f0_g67 f0_g58 f0_g49
  exact upv_fits (upv_fits (upv_fits (upv_fits (upv_fits (upv_fits (upv_fits (upv_fits (upv_fits (upv_fits (fun _ => own_fb 0) (own_fb _)) (own_fb _)) (own_fb _)) (own_fb _)) (own_fb _)) (own_fb _)) (own_fb _)) (own_fb _)) (own_fb _)) (own_fb _) k_
theorem own_sm5 (j : Int64) (i : Int32) (g : Nat → Int32) (h0 : g 0 = F_f1 j 0) (h1 : g 1 = F_f1 j 1) (h2 : g 2 = F_f1 j 2) (h3 : g 3 = F_f1 j 3) (h4 : g 4 = F_f1 j 4) (h5 : g 5 = 0) (h6 : g 6 = i) : ¬ F_sm5 j i g = 0 := by
  unfold F_sm5 sm5_18_s0 sm5_41_s0 sm5_64_s0 sm5_87_s0 sm5_110_s0 sm5_218_s0 sm5_240_s0
  rw [if_pos h0, if_pos h1, if_pos h2, if_pos h3, if_pos h4, if_pos h5, if_pos h6]
  decide
theorem own_sm8 (j : Int64) (i : Int32) (g : Nat → Int32) (h0 : g 0 = F_f1 j 0) (h1 : g 1 = F_f1 j 1) (h2 : g 2 = F_f1 j 2) (h3 : g 3 = F_f1 j 3) (h4 : g 4 = F_f1 j 4) (h5 : g 5 = F_f1 j 5) (h6 : g 6 = F_f1 j 6) (h7 : g 7 = F_f1 j 7) (h8 : g 8 = 0) (h9 : g 9 = i) : ¬ F_sm8 j i g = 0 := by
  unfold F_sm8 sm8_18_s0 sm8_41_s0 sm8_64_s0 sm8_87_s0 sm8_110_s0 sm8_138_s0 sm8_169_s0 sm8_200_s0 sm8_218_s0 sm8_240_s0
  rw [if_pos h0, if_pos h1, if_pos h2, if_pos h3, if_pos h4, if_pos h5, if_pos h6, if_pos h7, if_pos h8, if_pos h9]
  decide
theorem law_p5 (j0 : Int64) (i1 : Int32) : ¬ F_sm5 j0 (1 : Int32) (f0_g134 j0 i1) = 0 :=
  own_sm5 _ _ _ (own_f1b j0 0) (own_f1b j0 1) (own_f1b j0 2) (own_f1b j0 3) (own_f1b j0 4) (by rfl) (by rfl)
theorem law_r5 (j0 : Int64) (i1 : Int32) : ¬ F_sm5 j0 (2 : Int32) (pt5_g18 (f0_g134 j0 i1)) = 0 :=
  own_sm5 _ _ _ (own_f1b j0 0) (own_f1b j0 1) (own_f1b j0 2) (own_f1b j0 3) (own_f1b j0 4) (by rfl) (by rfl)
theorem law_p8 (j0 : Int64) (i1 : Int32) : ¬ F_sm8 j0 (1 : Int32) (f0_g134a j0 i1) = 0 :=
  own_sm8 _ _ _ (own_f1b j0 0) (own_f1b j0 1) (own_f1b j0 2) (own_f1b j0 3) (own_f1b j0 4) (own_f1b j0 5) (own_f1b j0 6) (own_f1b j0 7) (by rfl) (by rfl)
theorem law_r8 (j0 : Int64) (i1 : Int32) : ¬ F_sm8 j0 (2 : Int32) (pt8_g18 (f0_g134a j0 i1)) = 0 :=
  own_sm8 _ _ _ (own_f1b j0 0) (own_f1b j0 1) (own_f1b j0 2) (own_f1b j0 3) (own_f1b j0 4) (own_f1b j0 5) (own_f1b j0 6) (own_f1b j0 7) (by rfl) (by rfl)
theorem ef_0 (m : MethodId) (x0 : Int64) (x1 : Int32) : entryFrame m #[(.long x0), (.int x1)] maxLocals = mkF m 0 #[.val (.long x0), .second, .val (.int x1), .unset, .unset, .unset, .unset] [] := by first | (simp [entryFrame, mkF, argsToLocals, Value.category, maxLocals]; done) | rfl
theorem pd_1 : parseMethodDescriptor "([B)[B" = some ⟨[(.array .byte)], some (.array .byte)⟩ := by decide +kernel
theorem pd_3 : parseMethodDescriptor "([BJIB)Z" = some ⟨[(.array .byte), .long, .int, .byte], some .boolean⟩ := by decide +kernel
set_option maxRecDepth 65536 in
set_option maxHeartbeats 40000000 in
theorem rm0 (l : Launch) (Z : State) (a0 : Array Value) (hw : ∀ d ∈ tables_1, d.before a0 Z = true) (ws : List Jvm.Cond) (j0 : Int64) (i1 : Int32)  (h0 : Heap) (n0 : Nat) (Z0 : n0 ≤ h0.size) :
    MetFree l x (head1 (Jvm.Cond.code x code maxLocals ret :: ws) room_1) (fun a U => a = #[(.long j0), (.int i1)] ∧ Z.Warmed39 U.vm ∧ U.heap = h0) (fun _ _ _ _ _ => True) (fun _ U o U' => ∃ v L, o = .returned v ∧ QL n0 v U'.heap L ∧ FrameEnd U o U' L room_1.cells room_1.slots) := by
  refine MetFree.of_bodySF (plainFor_of_name pn_0) hisR ?_
  intro p e s m args below meth c s₁ Bd hml0 hP hK
  obtain ⟨rfl, hZ, hh⟩ := hP
  have hx := Bd.exec
  have hby := Bd.bytes
  have hml : c.maxLocals = 7 := hml0
  have hown : s.vm.findClass "com/example/penelope/penelope/KeysPastTenantPinLaw" = some m.cls := findClass_of_methodNamed Bd.named
  have hnm := (name_of_methodNamed Bd.named Bd.method).1
  have hret := Bd.returns
  have hlk : meth.locks = false := BodyLoose.notSynchronized Bd
  have X0 : Stand p l e room_1 s m #[(.long j0), (.int i1)] below meth c s₁ [] 0 0 := Stand.of_body Bd
  have e0 : s₁.heap = h0 := by rw [← hh, Bd.state]; rfl
  have N0 := Fr.nil n0
  show Outs p e below s (QL n0) _ _ _
  refine Outs.of (U' := s₁.setTop (mkF m 0 #[.val (.long j0), .second, .val (.int i1), .unset, .unset, .unset, .unset] [])) (fun t k => castTop (ef_0 m j0 i1) k) ?_
  refine Outs.of (U' := s₁.setTop (mkF m 3 #[.val (.long j0), .second, .val (.int i1), .unset, .unset, .unset, .unset] [(.int (i1 &&& (1 : Int32)))])) (fun t k => ?_) ?_
  · refine XS.iloadN X0.here hx rfl (hb hby at_0) rfl ?_
    refine XS.iconst X0.here hx rfl (hb hby at_1) ?_
    refine XS.iand X0.here hx rfl (hb hby at_2) rfl ?_
    exact k
  by_cases hc3 : (i1 &&& (1 : Int32)) = (0 : Int32)
  · refine Outs.of (U' := s₁.setTop (mkF m 10 #[.val (.long j0), .second, .val (.int i1), .unset, .unset, .unset, .unset] [])) (fun t k => ?_) ?_
    · refine XS.ifYes X0.here hx rfl (pc0 := 3) (pc' := 10) rfl (hb hby at_3) rfl ((if0 _ _).trans (teq hc3).1) (by decide) (by decide) ?_
      exact k
    refine Outs.of (U' := s₁.setTop (mkF m 37 #[.val (.long j0), .second, .val (.int i1), .val (.int (0 : Int32)), .val (.int (5 : Int32)), .unset, .unset] [(.int (7 : Int32))])) (fun t k => ?_) ?_
    · refine XS.iconst X0.here hx rfl (hb hby at_10) ?_
      refine XS.istoreN X0.here hx rfl (hb hby at_11) rfl (l' := #[.val (.long j0), .second, .val (.int i1), .val (.int (0 : Int32)), .unset, .unset, .unset]) rfl ?_
      refine XS.iloadN X0.here hx rfl (hb hby at_12) rfl ?_
      refine XS.ifYes X0.here hx rfl (pc0 := 13) (pc' := 21) rfl (hb hby at_13) rfl ((if0 _ _).trans (teq (show (0 : Int32) = (0 : Int32) from (by decide))).1) (by decide) (by decide) ?_
      refine XS.iconst X0.here hx rfl (hb hby at_21) ?_
      refine XS.istore X0.here hx rfl (hb hby at_22) rfl (l' := #[.val (.long j0), .second, .val (.int i1), .val (.int (0 : Int32)), .val (.int (5 : Int32)), .unset, .unset]) rfl ?_
      refine XS.iloadN X0.here hx rfl (hb hby at_24) rfl ?_
      refine XS.ifYes X0.here hx rfl (pc0 := 25) (pc' := 35) rfl (hb hby at_25) rfl ((if0 _ _).trans (teq (show (0 : Int32) = (0 : Int32) from (by decide))).1) (by decide) (by decide) ?_
      refine XS.bipush X0.here hx rfl (hb hby at_35) ?_
      exact k
    obtain ⟨T1, h1, X1, e1, E1, A1, Ex1, st1⟩ := newAFE X0 hx hZ (aty := .byte) (hw _ (List.mem_of_getElem? (i := 0) rfl)) e0 (f := (mkF m 37 #[.val (.long j0), .second, .val (.int i1), .val (.int (0 : Int32)), .val (.int (5 : Int32)), .unset, .unset] [(.int (7 : Int32))])) rfl (hb hby at_37) rfl (k := 7) rfl (cap := 7) (by decide) (by decide) (by decide) (by decide) (ad := "[B") rfl
    obtain ⟨b1, g1⟩ : ∃ z, z = h0.size := ⟨_, rfl⟩
    rw [← g1] at A1 Ex1 st1
    have g_b1 : n0 ≤ b1 := Nat.le_trans Z0 (Nat.le_of_eq g1.symm)
    have V1 : AI Z h1 b1 .byte 7 (fun _ => (0 : Int32)) := A1
    refine Outs.of st1 ?_
    refine Outs.of (U' := T1.setTop (mkF m 46 #[.val (.long j0), .second, .val (.int i1), .val (.int (0 : Int32)), .val (.int (5 : Int32)), .val (.ref b1), .unset] [(.int (0 : Int32)), (.long j0), (.int (0 : Int32)), (.ref b1)])) (fun t k => ?_) ?_
    · refine XS.astore X1.here hx rfl (hb hby at_39) rfl rfl (l' := #[.val (.long j0), .second, .val (.int i1), .val (.int (0 : Int32)), .val (.int (5 : Int32)), .val (.ref b1), .unset]) rfl ?_
      refine XS.aload X1.here hx rfl (hb hby at_41) rfl rfl ?_
      refine XS.iconst X1.here hx rfl (hb hby at_43) ?_
      refine XS.lloadN X1.here hx rfl (hb hby at_44) rfl ?_
      refine XS.iconst X1.here hx rfl (hb hby at_45) ?_
      exact k
    obtain ⟨_, _, ⟨T2, L2, k2, n2⟩, -, X2, ⟨Lc2, hQ2, l2, y2, z2⟩, st2⟩ := Jvm.LawKit.callS X1 hx (y := (⟨"com/example/penelope/penelope/KeysPastTenantPinLaw", "b", "(JI)B"⟩ : MethodName)) hown (mvT hZ (hw _ (List.mem_of_getElem? (i := 1) rfl))) (mvT hZ (hw _ (List.mem_of_getElem? (i := 2) rfl))) (mvT hZ (hw _ (List.mem_of_getElem? (i := 3) rfl))) (mvT hZ (hw _ (List.mem_of_getElem? (i := 4) rfl))) (by decide) (backOf (W := 2) (rm1 l Z a0 hw [] j0 (0 : Int32) h1 n0 ) hZ (hw _ (List.mem_of_getElem? (i := 4) rfl)) (hw _ (List.mem_of_getElem? (i := 3) rfl)) (by decide) (by decide)) (g := (mkF m 46 #[.val (.long j0), .second, .val (.int i1), .val (.int (0 : Int32)), .val (.int (5 : Int32)), .val (.ref b1), .unset] [(.int (0 : Int32)), (.long j0), (.int (0 : Int32)), (.ref b1)])) rfl (by rw [hml]; rfl) (argsL := [(.long j0), (.int (0 : Int32))]) (rest := [(.int (0 : Int32)), (.ref b1)]) (lenOf pd_0 rfl) rfl (by show 2 * 0 + _ ≤ _; exact Nat.le_of_eq rfl) (hb hby at_46) (fun _ _ => ⟨rfl, e1, (by decide : 1 + 0 ≤ _), (by decide : 7 + 0 ≤ _)⟩)
    dsimp only [Pt.U, Pt.locs, Pt.cells, Pt.slots] at X2 l2 y2 z2 st2 hQ2
    subst l2 y2 z2
    obtain ⟨rfl, N2q, e2⟩ := hQ2
    have N2 := Fr.app N0 N2q
    obtain ⟨Lh2, X2, N2⟩ := hide X2 N2 (C := 1) (S := 7) (by decide) (by decide)
    refine Outs.of st2 ?_
    obtain ⟨T3, h3, X3, e3, W3, V3, st3⟩ := puB X2 hx hZ e2 V1 (j := (0 : Int32)) (x := (F_f1 j0 (0 : Int32))) (k := 0) rfl (by decide) (f := (mkF m 49 #[.val (.long j0), .second, .val (.int i1), .val (.int (0 : Int32)), .val (.int (5 : Int32)), .val (.ref b1), .unset] [(.int (F_f1 j0 (0 : Int32))), (.int (0 : Int32)), (.ref b1)])) rfl rfl (hb hby at_49)
    replace V3 : AI Z h3 b1 .byte 7 (f0_g49 j0 i1) := V3
    have N3 := Fr.snoc X3 N2 g_b1
    obtain ⟨Lh3, X3, N3⟩ := hide X3 N3 (C := 1) (S := 7) (by decide) (by decide)
    refine Outs.of st3 ?_
    refine Outs.of (U' := T3.setTop (mkF m 55 #[.val (.long j0), .second, .val (.int i1), .val (.int (0 : Int32)), .val (.int (5 : Int32)), .val (.ref b1), .unset] [(.int (1 : Int32)), (.long j0), (.int (1 : Int32)), (.ref b1)])) (fun t k => ?_) ?_
    · refine XS.aload X3.here hx rfl (hb hby at_50) rfl rfl ?_
      refine XS.iconst X3.here hx rfl (hb hby at_52) ?_
      refine XS.lloadN X3.here hx rfl (hb hby at_53) rfl ?_
      refine XS.iconst X3.here hx rfl (hb hby at_54) ?_
      exact k
    obtain ⟨_, _, ⟨T4, L4, k4, n4⟩, -, X4, ⟨Lc4, hQ4, l4, y4, z4⟩, st4⟩ := Jvm.LawKit.callS X3 hx (y := (⟨"com/example/penelope/penelope/KeysPastTenantPinLaw", "b", "(JI)B"⟩ : MethodName)) hown (mvT hZ (hw _ (List.mem_of_getElem? (i := 1) rfl))) (mvT hZ (hw _ (List.mem_of_getElem? (i := 2) rfl))) (mvT hZ (hw _ (List.mem_of_getElem? (i := 3) rfl))) (mvT hZ (hw _ (List.mem_of_getElem? (i := 4) rfl))) (by decide) (backOf (W := 2) (rm1 l Z a0 hw [] j0 (1 : Int32) h3 n0 ) hZ (hw _ (List.mem_of_getElem? (i := 4) rfl)) (hw _ (List.mem_of_getElem? (i := 3) rfl)) (by decide) (by decide)) (g := (mkF m 55 #[.val (.long j0), .second, .val (.int i1), .val (.int (0 : Int32)), .val (.int (5 : Int32)), .val (.ref b1), .unset] [(.int (1 : Int32)), (.long j0), (.int (1 : Int32)), (.ref b1)])) rfl (by rw [hml]; rfl) (argsL := [(.long j0), (.int (1 : Int32))]) (rest := [(.int (1 : Int32)), (.ref b1)]) (lenOf pd_0 rfl) rfl (by show 2 * 0 + _ ≤ _; exact Nat.le_of_eq rfl) (hb hby at_55) (fun _ _ => ⟨rfl, e3, (by decide : 1 + 0 ≤ _), (by decide : 7 + 0 ≤ _)⟩)
    dsimp only [Pt.U, Pt.locs, Pt.cells, Pt.slots] at X4 l4 y4 z4 st4 hQ4
    subst l4 y4 z4
    obtain ⟨rfl, N4q, e4⟩ := hQ4
    have N4 := Fr.app N3 N4q
    obtain ⟨Lh4, X4, N4⟩ := hide X4 N4 (C := 1) (S := 7) (by decide) (by decide)
    refine Outs.of st4 ?_
    obtain ⟨T5, h5, X5, e5, W5, V5, st5⟩ := puB X4 hx hZ e4 V3 (j := (1 : Int32)) (x := (F_f1 j0 (1 : Int32))) (k := 1) rfl (by decide) (f := (mkF m 58 #[.val (.long j0), .second, .val (.int i1), .val (.int (0 : Int32)), .val (.int (5 : Int32)), .val (.ref b1), .unset] [(.int (F_f1 j0 (1 : Int32))), (.int (1 : Int32)), (.ref b1)])) rfl rfl (hb hby at_58)
    replace V5 : AI Z h5 b1 .byte 7 (f0_g58 j0 i1) := V5
    have N5 := Fr.snoc X5 N4 g_b1
    obtain ⟨Lh5, X5, N5⟩ := hide X5 N5 (C := 1) (S := 7) (by decide) (by decide)
    refine Outs.of st5 ?_
    refine Outs.of (U' := T5.setTop (mkF m 64 #[.val (.long j0), .second, .val (.int i1), .val (.int (0 : Int32)), .val (.int (5 : Int32)), .val (.ref b1), .unset] [(.int (2 : Int32)), (.long j0), (.int (2 : Int32)), (.ref b1)])) (fun t k => ?_) ?_
    · refine XS.aload X5.here hx rfl (hb hby at_59) rfl rfl ?_
      refine XS.iconst X5.here hx rfl (hb hby at_61) ?_
      refine XS.lloadN X5.here hx rfl (hb hby at_62) rfl ?_
      refine XS.iconst X5.here hx rfl (hb hby at_63) ?_
      exact k
    obtain ⟨_, _, ⟨T6, L6, k6, n6⟩, -, X6, ⟨Lc6, hQ6, l6, y6, z6⟩, st6⟩ := Jvm.LawKit.callS X5 hx (y := (⟨"com/example/penelope/penelope/KeysPastTenantPinLaw", "b", "(JI)B"⟩ : MethodName)) hown (mvT hZ (hw _ (List.mem_of_getElem? (i := 1) rfl))) (mvT hZ (hw _ (List.mem_of_getElem? (i := 2) rfl))) (mvT hZ (hw _ (List.mem_of_getElem? (i := 3) rfl))) (mvT hZ (hw _ (List.mem_of_getElem? (i := 4) rfl))) (by decide) (backOf (W := 2) (rm1 l Z a0 hw [] j0 (2 : Int32) h5 n0 ) hZ (hw _ (List.mem_of_getElem? (i := 4) rfl)) (hw _ (List.mem_of_getElem? (i := 3) rfl)) (by decide) (by decide)) (g := (mkF m 64 #[.val (.long j0), .second, .val (.int i1), .val (.int (0 : Int32)), .val (.int (5 : Int32)), .val (.ref b1), .unset] [(.int (2 : Int32)), (.long j0), (.int (2 : Int32)), (.ref b1)])) rfl (by rw [hml]; rfl) (argsL := [(.long j0), (.int (2 : Int32))]) (rest := [(.int (2 : Int32)), (.ref b1)]) (lenOf pd_0 rfl) rfl (by show 2 * 0 + _ ≤ _; exact Nat.le_of_eq rfl) (hb hby at_64) (fun _ _ => ⟨rfl, e5, (by decide : 1 + 0 ≤ _), (by decide : 7 + 0 ≤ _)⟩)
    dsimp only [Pt.U, Pt.locs, Pt.cells, Pt.slots] at X6 l6 y6 z6 st6 hQ6
    subst l6 y6 z6
    obtain ⟨rfl, N6q, e6⟩ := hQ6
    have N6 := Fr.app N5 N6q
    obtain ⟨Lh6, X6, N6⟩ := hide X6 N6 (C := 1) (S := 7) (by decide) (by decide)
    refine Outs.of st6 ?_
    obtain ⟨T7, h7, X7, e7, W7, V7, st7⟩ := puB X6 hx hZ e6 V5 (j := (2 : Int32)) (x := (F_f1 j0 (2 : Int32))) (k := 2) rfl (by decide) (f := (mkF m 67 #[.val (.long j0), .second, .val (.int i1), .val (.int (0 : Int32)), .val (.int (5 : Int32)), .val (.ref b1), .unset] [(.int (F_f1 j0 (2 : Int32))), (.int (2 : Int32)), (.ref b1)])) rfl rfl (hb hby at_67)
    replace V7 : AI Z h7 b1 .byte 7 (f0_g67 j0 i1) := V7
    have N7 := Fr.snoc X7 N6 g_b1
    obtain ⟨Lh7, X7, N7⟩ := hide X7 N7 (C := 1) (S := 7) (by decide) (by decide)
    refine Outs.of st7 ?_
    refine Outs.of (U' := T7.setTop (mkF m 73 #[.val (.long j0), .second, .val (.int i1), .val (.int (0 : Int32)), .val (.int (5 : Int32)), .val (.ref b1), .unset] [(.int (3 : Int32)), (.long j0), (.int (3 : Int32)), (.ref b1)])) (fun t k => ?_) ?_
    · refine XS.aload X7.here hx rfl (hb hby at_68) rfl rfl ?_
      refine XS.iconst X7.here hx rfl (hb hby at_70) ?_
      refine XS.lloadN X7.here hx rfl (hb hby at_71) rfl ?_
      refine XS.iconst X7.here hx rfl (hb hby at_72) ?_
      exact k
    obtain ⟨_, _, ⟨T8, L8, k8, n8⟩, -, X8, ⟨Lc8, hQ8, l8, y8, z8⟩, st8⟩ := Jvm.LawKit.callS X7 hx (y := (⟨"com/example/penelope/penelope/KeysPastTenantPinLaw", "b", "(JI)B"⟩ : MethodName)) hown (mvT hZ (hw _ (List.mem_of_getElem? (i := 1) rfl))) (mvT hZ (hw _ (List.mem_of_getElem? (i := 2) rfl))) (mvT hZ (hw _ (List.mem_of_getElem? (i := 3) rfl))) (mvT hZ (hw _ (List.mem_of_getElem? (i := 4) rfl))) (by decide) (backOf (W := 2) (rm1 l Z a0 hw [] j0 (3 : Int32) h7 n0 ) hZ (hw _ (List.mem_of_getElem? (i := 4) rfl)) (hw _ (List.mem_of_getElem? (i := 3) rfl)) (by decide) (by decide)) (g := (mkF m 73 #[.val (.long j0), .second, .val (.int i1), .val (.int (0 : Int32)), .val (.int (5 : Int32)), .val (.ref b1), .unset] [(.int (3 : Int32)), (.long j0), (.int (3 : Int32)), (.ref b1)])) rfl (by rw [hml]; rfl) (argsL := [(.long j0), (.int (3 : Int32))]) (rest := [(.int (3 : Int32)), (.ref b1)]) (lenOf pd_0 rfl) rfl (by show 2 * 0 + _ ≤ _; exact Nat.le_of_eq rfl) (hb hby at_73) (fun _ _ => ⟨rfl, e7, (by decide : 1 + 0 ≤ _), (by decide : 7 + 0 ≤ _)⟩)
    dsimp only [Pt.U, Pt.locs, Pt.cells, Pt.slots] at X8 l8 y8 z8 st8 hQ8
    subst l8 y8 z8
    obtain ⟨rfl, N8q, e8⟩ := hQ8
    have N8 := Fr.app N7 N8q
    obtain ⟨Lh8, X8, N8⟩ := hide X8 N8 (C := 1) (S := 7) (by decide) (by decide)
    refine Outs.of st8 ?_
    obtain ⟨T9, h9, X9, e9, W9, V9, st9⟩ := puB X8 hx hZ e8 V7 (j := (3 : Int32)) (x := (F_f1 j0 (3 : Int32))) (k := 3) rfl (by decide) (f := (mkF m 76 #[.val (.long j0), .second, .val (.int i1), .val (.int (0 : Int32)), .val (.int (5 : Int32)), .val (.ref b1), .unset] [(.int (F_f1 j0 (3 : Int32))), (.int (3 : Int32)), (.ref b1)])) rfl rfl (hb hby at_76)
    replace V9 : AI Z h9 b1 .byte 7 (f0_g76 j0 i1) := V9
    have N9 := Fr.snoc X9 N8 g_b1
    obtain ⟨Lh9, X9, N9⟩ := hide X9 N9 (C := 1) (S := 7) (by decide) (by decide)
    refine Outs.of st9 ?_
    refine Outs.of (U' := T9.setTop (mkF m 82 #[.val (.long j0), .second, .val (.int i1), .val (.int (0 : Int32)), .val (.int (5 : Int32)), .val (.ref b1), .unset] [(.int (4 : Int32)), (.long j0), (.int (4 : Int32)), (.ref b1)])) (fun t k => ?_) ?_
    · refine XS.aload X9.here hx rfl (hb hby at_77) rfl rfl ?_
      refine XS.iconst X9.here hx rfl (hb hby at_79) ?_
      refine XS.lloadN X9.here hx rfl (hb hby at_80) rfl ?_
      refine XS.iconst X9.here hx rfl (hb hby at_81) ?_
      exact k
    obtain ⟨_, _, ⟨T10, L10, k10, n10⟩, -, X10, ⟨Lc10, hQ10, l10, y10, z10⟩, st10⟩ := Jvm.LawKit.callS X9 hx (y := (⟨"com/example/penelope/penelope/KeysPastTenantPinLaw", "b", "(JI)B"⟩ : MethodName)) hown (mvT hZ (hw _ (List.mem_of_getElem? (i := 1) rfl))) (mvT hZ (hw _ (List.mem_of_getElem? (i := 2) rfl))) (mvT hZ (hw _ (List.mem_of_getElem? (i := 3) rfl))) (mvT hZ (hw _ (List.mem_of_getElem? (i := 4) rfl))) (by decide) (backOf (W := 2) (rm1 l Z a0 hw [] j0 (4 : Int32) h9 n0 ) hZ (hw _ (List.mem_of_getElem? (i := 4) rfl)) (hw _ (List.mem_of_getElem? (i := 3) rfl)) (by decide) (by decide)) (g := (mkF m 82 #[.val (.long j0), .second, .val (.int i1), .val (.int (0 : Int32)), .val (.int (5 : Int32)), .val (.ref b1), .unset] [(.int (4 : Int32)), (.long j0), (.int (4 : Int32)), (.ref b1)])) rfl (by rw [hml]; rfl) (argsL := [(.long j0), (.int (4 : Int32))]) (rest := [(.int (4 : Int32)), (.ref b1)]) (lenOf pd_0 rfl) rfl (by show 2 * 0 + _ ≤ _; exact Nat.le_of_eq rfl) (hb hby at_82) (fun _ _ => ⟨rfl, e9, (by decide : 1 + 0 ≤ _), (by decide : 7 + 0 ≤ _)⟩)
    dsimp only [Pt.U, Pt.locs, Pt.cells, Pt.slots] at X10 l10 y10 z10 st10 hQ10
    subst l10 y10 z10
    obtain ⟨rfl, N10q, e10⟩ := hQ10
    have N10 := Fr.app N9 N10q
    obtain ⟨Lh10, X10, N10⟩ := hide X10 N10 (C := 1) (S := 7) (by decide) (by decide)
    refine Outs.of st10 ?_
    obtain ⟨T11, h11, X11, e11, W11, V11, st11⟩ := puB X10 hx hZ e10 V9 (j := (4 : Int32)) (x := (F_f1 j0 (4 : Int32))) (k := 4) rfl (by decide) (f := (mkF m 85 #[.val (.long j0), .second, .val (.int i1), .val (.int (0 : Int32)), .val (.int (5 : Int32)), .val (.ref b1), .unset] [(.int (F_f1 j0 (4 : Int32))), (.int (4 : Int32)), (.ref b1)])) rfl rfl (hb hby at_85)
    replace V11 : AI Z h11 b1 .byte 7 (f0_g85 j0 i1) := V11
    have N11 := Fr.snoc X11 N10 g_b1
    obtain ⟨Lh11, X11, N11⟩ := hide X11 N11 (C := 1) (S := 7) (by decide) (by decide)
    refine Outs.of st11 ?_
    refine Outs.of (U' := T11.setTop (mkF m 126 #[.val (.long j0), .second, .val (.int i1), .val (.int (0 : Int32)), .val (.int (5 : Int32)), .val (.ref b1), .unset] [(.int (0 : Int32)), (.int (5 : Int32)), (.ref b1)])) (fun t k => ?_) ?_
    · refine XS.iloadN X11.here hx rfl (hb hby at_86) rfl ?_
      refine XS.ifYes X11.here hx rfl (pc0 := 87) (pc' := 121) rfl (hb hby at_87) rfl ((if0 _ _).trans (teq (show (0 : Int32) = (0 : Int32) from (by decide))).1) (by decide) (by decide) ?_
      refine XS.aload X11.here hx rfl (hb hby at_121) rfl rfl ?_
      refine XS.iload X11.here hx rfl (hb hby at_123) rfl ?_
      refine XS.iconst X11.here hx rfl (hb hby at_125) ?_
      exact k
    obtain ⟨T12, h12, X12, e12, W12, V12, st12⟩ := puB X11 hx hZ e11 V11 (j := (5 : Int32)) (x := (0 : Int32)) (k := 5) rfl (by decide) (f := (mkF m 126 #[.val (.long j0), .second, .val (.int i1), .val (.int (0 : Int32)), .val (.int (5 : Int32)), .val (.ref b1), .unset] [(.int (0 : Int32)), (.int (5 : Int32)), (.ref b1)])) rfl rfl (hb hby at_126)
    replace V12 : AI Z h12 b1 .byte 7 (f0_g126 j0 i1) := V12
    have N12 := Fr.snoc X12 N11 g_b1
    obtain ⟨Lh12, X12, N12⟩ := hide X12 N12 (C := 1) (S := 7) (by decide) (by decide)
    refine Outs.of st12 ?_
    refine Outs.of (U' := T12.setTop (mkF m 134 #[.val (.long j0), .second, .val (.int i1), .val (.int (0 : Int32)), .val (.int (5 : Int32)), .val (.ref b1), .unset] [(.int (1 : Int32)), (.int (6 : Int32)), (.ref b1)])) (fun t k => ?_) ?_
    · refine XS.aload X12.here hx rfl (hb hby at_127) rfl rfl ?_
      refine XS.iload X12.here hx rfl (hb hby at_129) rfl ?_
      refine XS.iconst X12.here hx rfl (hb hby at_131) ?_
      refine XS.iadd X12.here hx rfl (hb hby at_132) rfl ?_
      refine XS.iconst X12.here hx rfl (hb hby at_133) ?_
      exact k
    obtain ⟨T13, h13, X13, e13, W13, V13, st13⟩ := puB X12 hx hZ e12 V12 (j := (6 : Int32)) (x := (1 : Int32)) (k := 6) rfl (by decide) (f := (mkF m 134 #[.val (.long j0), .second, .val (.int i1), .val (.int (0 : Int32)), .val (.int (5 : Int32)), .val (.ref b1), .unset] [(.int (1 : Int32)), (.int (6 : Int32)), (.ref b1)])) rfl rfl (hb hby at_134)
    replace V13 : AI Z h13 b1 .byte 7 (f0_g134 j0 i1) := V13
    have N13 := Fr.snoc X13 N12 g_b1
    obtain ⟨Lh13, X13, N13⟩ := hide X13 N13 (C := 1) (S := 7) (by decide) (by decide)
    refine Outs.of st13 ?_
    refine Outs.of (U' := T13.setTop (mkF m 137 #[.val (.long j0), .second, .val (.int i1), .val (.int (0 : Int32)), .val (.int (5 : Int32)), .val (.ref b1), .unset] [(.ref b1)])) (fun t k => ?_) ?_
    · refine XS.aload X13.here hx rfl (hb hby at_135) rfl rfl ?_
      exact k
    have f14 : Exa Z h13 b1 "[B" := (((((((Ex1.wr W3).wr W5).wr W7).wr W9).wr W11).wr W12).wr W13)
    obtain ⟨_, _, ⟨T15, L15, k15, n15⟩, -, X15, ⟨Lc15, hQ15, l15, y15, z15⟩, st15⟩ := Jvm.LawKit.callS X13 hx (y := (⟨"com/example/penelope/penelope/Keys", "pastTenant", "([B)[B"⟩ : MethodName)) hown (mvT hZ (hw _ (List.mem_of_getElem? (i := 5) rfl))) (mvT hZ (hw _ (List.mem_of_getElem? (i := 6) rfl))) (mvT hZ (hw _ (List.mem_of_getElem? (i := 7) rfl))) (mvT hZ (hw _ (List.mem_of_getElem? (i := 8) rfl))) (by decide) (backOf (W := 0) (rmpt5 l Z a0 hw [] b1 (f0_g134 j0 i1) h13 n0 (Nat.le_trans (Nat.le_trans (Nat.le_trans (Nat.le_trans (Nat.le_trans (Nat.le_trans (Nat.le_trans (Nat.le_trans Z0 E1.1) (Keep.of_wr W3).1) (Keep.of_wr W5).1) (Keep.of_wr W7).1) (Keep.of_wr W9).1) (Keep.of_wr W11).1) (Keep.of_wr W12).1) (Keep.of_wr W13).1) f14 V13 (own_fit5 j0 i1)) hZ (hw _ (List.mem_of_getElem? (i := 8) rfl)) (hw _ (List.mem_of_getElem? (i := 7) rfl)) (by decide) (by decide)) (g := (mkF m 137 #[.val (.long j0), .second, .val (.int i1), .val (.int (0 : Int32)), .val (.int (5 : Int32)), .val (.ref b1), .unset] [(.ref b1)])) rfl (by rw [hml]; rfl) (argsL := [(.ref b1)]) (rest := []) (lenOf pd_1 rfl) rfl (by show 2 * 0 + _ ≤ _; exact Nat.le_of_eq rfl) (hb hby at_137) (fun _ _ => ⟨rfl, e13, (by decide : 1 + 1 ≤ _), (by decide : 7 + 7 ≤ _)⟩)
    dsimp only [Pt.U, Pt.locs, Pt.cells, Pt.slots] at X15 l15 y15 z15 st15 hQ15
    subst l15 y15 z15
    obtain ⟨b15, g_b15, hs_b15, rfl, N15q, K15, u15_0⟩ := hQ15
    have N15 := Fr.app N13 N15q
    have ne_b1_b15 : b1 ≠ b15 := Nat.ne_of_lt (Nat.lt_of_lt_of_le f14.lt hs_b15)
    obtain ⟨Lh15, X15, N15⟩ := hide X15 N15 (C := 2) (S := 14) (by decide) (by decide)
    refine Outs.of st15 ?_
    refine Outs.of (U' := T15.setTop (mkF m 155 #[.val (.long j0), .second, .val (.int i1), .val (.int (0 : Int32)), .val (.int (5 : Int32)), .val (.ref b1), .val (.ref b15)] [(.int (1 : Int32)), (.int (5 : Int32)), (.long j0), (.ref b1)])) (fun t k => ?_) ?_
    · refine XS.astore X15.here hx rfl (hb hby at_140) rfl rfl (l' := #[.val (.long j0), .second, .val (.int i1), .val (.int (0 : Int32)), .val (.int (5 : Int32)), .val (.ref b1), .val (.ref b15)]) rfl ?_
      refine XS.aload X15.here hx rfl (hb hby at_142) rfl rfl ?_
      refine XS.aload X15.here hx rfl (hb hby at_144) rfl rfl ?_
      refine Jvm.RoadKit.acmp (g := (mkF m 146 #[.val (.long j0), .second, .val (.int i1), .val (.int (0 : Int32)), .val (.int (5 : Int32)), .val (.ref b1), .val (.ref b15)] [(.ref b1), (.ref b15)])) X15 hx rfl rfl rfl (pc0 := 146) (pc' := 149) (same := false) rfl (hb hby at_146) rfl (decide_eq_false fun q_ => ne_b1_b15.symm (Value.ref.inj q_)) (by decide) (by decide) ?_
      refine XS.aload X15.here hx rfl (hb hby at_149) rfl rfl ?_
      refine XS.lloadN X15.here hx rfl (hb hby at_151) rfl ?_
      refine XS.iload X15.here hx rfl (hb hby at_152) rfl ?_
      refine XS.iconst X15.here hx rfl (hb hby at_154) ?_
      exact k
    have f16 : AI Z T15.heap b1 .byte 7 (f0_g134 j0 i1) := (V13.keep K15 nin0)
    obtain ⟨_, _, ⟨T17, L17, k17, n17⟩, -, X17, ⟨Lc17, hQ17, l17, y17, z17⟩, st17⟩ := Jvm.LawKit.callS X15 hx (y := (⟨"com/example/penelope/penelope/KeysPastTenantPinLaw", "same", "([BJIB)Z"⟩ : MethodName)) hown (mvT hZ (hw _ (List.mem_of_getElem? (i := 18) rfl))) (mvT hZ (hw _ (List.mem_of_getElem? (i := 19) rfl))) (mvT hZ (hw _ (List.mem_of_getElem? (i := 3) rfl))) (mvT hZ (hw _ (List.mem_of_getElem? (i := 20) rfl))) (by decide) (backOf (W := 0) (rmsm5 l Z a0 hw [] b1 j0 (1 : Int32) (f0_g134 j0 i1) T15.heap n0 f16) hZ (hw _ (List.mem_of_getElem? (i := 20) rfl)) (hw _ (List.mem_of_getElem? (i := 3) rfl)) (by decide) (by decide)) (g := (mkF m 155 #[.val (.long j0), .second, .val (.int i1), .val (.int (0 : Int32)), .val (.int (5 : Int32)), .val (.ref b1), .val (.ref b15)] [(.int (1 : Int32)), (.int (5 : Int32)), (.long j0), (.ref b1)])) rfl (by rw [hml]; rfl) (argsL := [(.ref b1), (.long j0), (.int (5 : Int32)), (.int (1 : Int32))]) (rest := []) (lenOf pd_3 rfl) rfl (by show 2 * 0 + _ ≤ _; exact Nat.le_of_eq rfl) (hb hby at_155) (fun _ _ => ⟨rfl, rfl, (by decide : 2 + 0 ≤ _), (by decide : 14 + 0 ≤ _)⟩)
    dsimp only [Pt.U, Pt.locs, Pt.cells, Pt.slots] at X17 l17 y17 z17 st17 hQ17
    subst l17 y17 z17
    obtain ⟨rfl, N17q, e17⟩ := hQ17
    have N17 := Fr.app N15 N17q
    obtain ⟨Lh17, X17, N17⟩ := hide X17 N17 (C := 2) (S := 14) (by decide) (by decide)
    refine Outs.of st17 ?_
    refine Outs.of (U' := T17.setTop (mkF m 167 #[.val (.long j0), .second, .val (.int i1), .val (.int (0 : Int32)), .val (.int (5 : Int32)), .val (.ref b1), .val (.ref b15)] [(.int (2 : Int32)), (.int (5 : Int32)), (.long j0), (.ref b15)])) (fun t k => ?_) ?_
    · refine XS.ifNo X17.here hx rfl (hb hby at_158) rfl ((if0 _ _).trans (feq (law_p5 j0 i1)).1) ?_
      refine XS.aload X17.here hx rfl (hb hby at_161) rfl rfl ?_
      refine XS.lloadN X17.here hx rfl (hb hby at_163) rfl ?_
      refine XS.iload X17.here hx rfl (hb hby at_164) rfl ?_
      refine XS.iconst X17.here hx rfl (hb hby at_166) ?_
      exact k
    obtain ⟨_, _, ⟨T18, L18, k18, n18⟩, -, X18, ⟨Lc18, hQ18, l18, y18, z18⟩, st18⟩ := Jvm.LawKit.callS X17 hx (y := (⟨"com/example/penelope/penelope/KeysPastTenantPinLaw", "same", "([BJIB)Z"⟩ : MethodName)) hown (mvT hZ (hw _ (List.mem_of_getElem? (i := 18) rfl))) (mvT hZ (hw _ (List.mem_of_getElem? (i := 19) rfl))) (mvT hZ (hw _ (List.mem_of_getElem? (i := 3) rfl))) (mvT hZ (hw _ (List.mem_of_getElem? (i := 20) rfl))) (by decide) (backOf (W := 0) (rmsm5 l Z a0 hw [] b15 j0 (2 : Int32) (pt5_g18 (f0_g134 j0 i1)) T15.heap n0 u15_0) hZ (hw _ (List.mem_of_getElem? (i := 20) rfl)) (hw _ (List.mem_of_getElem? (i := 3) rfl)) (by decide) (by decide)) (g := (mkF m 167 #[.val (.long j0), .second, .val (.int i1), .val (.int (0 : Int32)), .val (.int (5 : Int32)), .val (.ref b1), .val (.ref b15)] [(.int (2 : Int32)), (.int (5 : Int32)), (.long j0), (.ref b15)])) rfl (by rw [hml]; rfl) (argsL := [(.ref b15), (.long j0), (.int (5 : Int32)), (.int (2 : Int32))]) (rest := []) (lenOf pd_3 rfl) rfl (by show 2 * 0 + _ ≤ _; exact Nat.le_of_eq rfl) (hb hby at_167) (fun _ _ => ⟨rfl, e17, (by decide : 2 + 0 ≤ _), (by decide : 14 + 0 ≤ _)⟩)
    dsimp only [Pt.U, Pt.locs, Pt.cells, Pt.slots] at X18 l18 y18 z18 st18 hQ18
    subst l18 y18 z18
    obtain ⟨rfl, N18q, e18⟩ := hQ18
    have N18 := Fr.app N17 N18q
    obtain ⟨Lh18, X18, N18⟩ := hide X18 N18 (C := 2) (S := 14) (by decide) (by decide)
    refine Outs.of st18 ?_
    refine Outs.of (U' := T18.setTop (mkF m 178 #[.val (.long j0), .second, .val (.int i1), .val (.int (0 : Int32)), .val (.int (5 : Int32)), .val (.ref b1), .val (.ref b15)] [(.int (1 : Int32))])) (fun t k => ?_) ?_
    · refine XS.ifNo X18.here hx rfl (hb hby at_170) rfl ((if0 _ _).trans (feq (law_r5 j0 i1)).1) ?_
      refine XS.iconst X18.here hx rfl (hb hby at_173) ?_
      refine XS.goto X18.here hx rfl (pc0 := 174) (pc' := 178) rfl (hb hby at_174) (by decide) (by decide) ?_
      exact k
    exact Outs.retN (t := .boolean) (z := (1 : Int32)) X18 hx hret (by simp) (hb hby at_178) hlk (by decide) (by decide) e18 ⟨rfl, N18⟩
  · refine Outs.of (U' := s₁.setTop (mkF m 6 #[.val (.long j0), .second, .val (.int i1), .unset, .unset, .unset, .unset] [])) (fun t k => ?_) ?_
    · refine XS.ifNo X0.here hx rfl (hb hby at_3) rfl ((if0 _ _).trans (feq hc3).1) ?_
      exact k
    refine Outs.of (U' := s₁.setTop (mkF m 30 #[.val (.long j0), .second, .val (.int i1), .val (.int (1 : Int32)), .val (.int (8 : Int32)), .unset, .unset] [(.int (10 : Int32))])) (fun t k => ?_) ?_
    · refine XS.iconst X0.here hx rfl (hb hby at_6) ?_
      refine XS.goto X0.here hx rfl (pc0 := 7) (pc' := 11) rfl (hb hby at_7) (by decide) (by decide) ?_
      refine XS.istoreN X0.here hx rfl (hb hby at_11) rfl (l' := #[.val (.long j0), .second, .val (.int i1), .val (.int (1 : Int32)), .unset, .unset, .unset]) rfl ?_
      refine XS.iloadN X0.here hx rfl (hb hby at_12) rfl ?_
      refine XS.ifNo X0.here hx rfl (hb hby at_13) rfl ((if0 _ _).trans (feq (show ¬ ((1 : Int32) = (0 : Int32)) from (by decide))).1) ?_
      refine XS.bipush X0.here hx rfl (hb hby at_16) ?_
      refine XS.goto X0.here hx rfl (pc0 := 18) (pc' := 22) rfl (hb hby at_18) (by decide) (by decide) ?_
      refine XS.istore X0.here hx rfl (hb hby at_22) rfl (l' := #[.val (.long j0), .second, .val (.int i1), .val (.int (1 : Int32)), .val (.int (8 : Int32)), .unset, .unset]) rfl ?_
      refine XS.iloadN X0.here hx rfl (hb hby at_24) rfl ?_
      refine XS.ifNo X0.here hx rfl (hb hby at_25) rfl ((if0 _ _).trans (feq (show ¬ ((1 : Int32) = (0 : Int32)) from (by decide))).1) ?_
      refine XS.bipush X0.here hx rfl (hb hby at_28) ?_
      exact k
    obtain ⟨T19, h19, X19, e19, E19, A19, Ex19, st19⟩ := newAFE X0 hx hZ (aty := .byte) (hw _ (List.mem_of_getElem? (i := 0) rfl)) e0 (f := (mkF m 30 #[.val (.long j0), .second, .val (.int i1), .val (.int (1 : Int32)), .val (.int (8 : Int32)), .unset, .unset] [(.int (10 : Int32))])) rfl (hb hby at_30) rfl (k := 10) rfl (cap := 10) (by decide) (by decide) (by decide) (by decide) (ad := "[B") rfl
    obtain ⟨b19, g19⟩ : ∃ z, z = h0.size := ⟨_, rfl⟩
    rw [← g19] at A19 Ex19 st19
    have g_b19 : n0 ≤ b19 := Nat.le_trans Z0 (Nat.le_of_eq g19.symm)
    have V19 : AI Z h19 b19 .byte 10 (fun _ => (0 : Int32)) := A19
    refine Outs.of st19 ?_
    refine Outs.of (U' := T19.setTop (mkF m 46 #[.val (.long j0), .second, .val (.int i1), .val (.int (1 : Int32)), .val (.int (8 : Int32)), .val (.ref b19), .unset] [(.int (0 : Int32)), (.long j0), (.int (0 : Int32)), (.ref b19)])) (fun t k => ?_) ?_
    · refine XS.goto X19.here hx rfl (pc0 := 32) (pc' := 39) rfl (hb hby at_32) (by decide) (by decide) ?_
      refine XS.astore X19.here hx rfl (hb hby at_39) rfl rfl (l' := #[.val (.long j0), .second, .val (.int i1), .val (.int (1 : Int32)), .val (.int (8 : Int32)), .val (.ref b19), .unset]) rfl ?_
      refine XS.aload X19.here hx rfl (hb hby at_41) rfl rfl ?_
      refine XS.iconst X19.here hx rfl (hb hby at_43) ?_
      refine XS.lloadN X19.here hx rfl (hb hby at_44) rfl ?_
      refine XS.iconst X19.here hx rfl (hb hby at_45) ?_
      exact k
    obtain ⟨_, _, ⟨T20, L20, k20, n20⟩, -, X20, ⟨Lc20, hQ20, l20, y20, z20⟩, st20⟩ := Jvm.LawKit.callS X19 hx (y := (⟨"com/example/penelope/penelope/KeysPastTenantPinLaw", "b", "(JI)B"⟩ : MethodName)) hown (mvT hZ (hw _ (List.mem_of_getElem? (i := 1) rfl))) (mvT hZ (hw _ (List.mem_of_getElem? (i := 2) rfl))) (mvT hZ (hw _ (List.mem_of_getElem? (i := 3) rfl))) (mvT hZ (hw _ (List.mem_of_getElem? (i := 4) rfl))) (by decide) (backOf (W := 2) (rm1 l Z a0 hw [] j0 (0 : Int32) h19 n0 ) hZ (hw _ (List.mem_of_getElem? (i := 4) rfl)) (hw _ (List.mem_of_getElem? (i := 3) rfl)) (by decide) (by decide)) (g := (mkF m 46 #[.val (.long j0), .second, .val (.int i1), .val (.int (1 : Int32)), .val (.int (8 : Int32)), .val (.ref b19), .unset] [(.int (0 : Int32)), (.long j0), (.int (0 : Int32)), (.ref b19)])) rfl (by rw [hml]; rfl) (argsL := [(.long j0), (.int (0 : Int32))]) (rest := [(.int (0 : Int32)), (.ref b19)]) (lenOf pd_0 rfl) rfl (by show 2 * 0 + _ ≤ _; exact Nat.le_of_eq rfl) (hb hby at_46) (fun _ _ => ⟨rfl, e19, (by decide : 1 + 0 ≤ _), (by decide : 10 + 0 ≤ _)⟩)
    dsimp only [Pt.U, Pt.locs, Pt.cells, Pt.slots] at X20 l20 y20 z20 st20 hQ20
    subst l20 y20 z20
    obtain ⟨rfl, N20q, e20⟩ := hQ20
    have N20 := Fr.app N0 N20q
    obtain ⟨Lh20, X20, N20⟩ := hide X20 N20 (C := 1) (S := 10) (by decide) (by decide)
    refine Outs.of st20 ?_
    obtain ⟨T21, h21, X21, e21, W21, V21, st21⟩ := puB X20 hx hZ e20 V19 (j := (0 : Int32)) (x := (F_f1 j0 (0 : Int32))) (k := 0) rfl (by decide) (f := (mkF m 49 #[.val (.long j0), .second, .val (.int i1), .val (.int (1 : Int32)), .val (.int (8 : Int32)), .val (.ref b19), .unset] [(.int (F_f1 j0 (0 : Int32))), (.int (0 : Int32)), (.ref b19)])) rfl rfl (hb hby at_49)
    replace V21 : AI Z h21 b19 .byte 10 (f0_g49 j0 i1) := V21
    have N21 := Fr.snoc X21 N20 g_b19
    obtain ⟨Lh21, X21, N21⟩ := hide X21 N21 (C := 1) (S := 10) (by decide) (by decide)
    refine Outs.of st21 ?_
    refine Outs.of (U' := T21.setTop (mkF m 55 #[.val (.long j0), .second, .val (.int i1), .val (.int (1 : Int32)), .val (.int (8 : Int32)), .val (.ref b19), .unset] [(.int (1 : Int32)), (.long j0), (.int (1 : Int32)), (.ref b19)])) (fun t k => ?_) ?_
    · refine XS.aload X21.here hx rfl (hb hby at_50) rfl rfl ?_
      refine XS.iconst X21.here hx rfl (hb hby at_52) ?_
      refine XS.lloadN X21.here hx rfl (hb hby at_53) rfl ?_
      refine XS.iconst X21.here hx rfl (hb hby at_54) ?_
      exact k
    obtain ⟨_, _, ⟨T22, L22, k22, n22⟩, -, X22, ⟨Lc22, hQ22, l22, y22, z22⟩, st22⟩ := Jvm.LawKit.callS X21 hx (y := (⟨"com/example/penelope/penelope/KeysPastTenantPinLaw", "b", "(JI)B"⟩ : MethodName)) hown (mvT hZ (hw _ (List.mem_of_getElem? (i := 1) rfl))) (mvT hZ (hw _ (List.mem_of_getElem? (i := 2) rfl))) (mvT hZ (hw _ (List.mem_of_getElem? (i := 3) rfl))) (mvT hZ (hw _ (List.mem_of_getElem? (i := 4) rfl))) (by decide) (backOf (W := 2) (rm1 l Z a0 hw [] j0 (1 : Int32) h21 n0 ) hZ (hw _ (List.mem_of_getElem? (i := 4) rfl)) (hw _ (List.mem_of_getElem? (i := 3) rfl)) (by decide) (by decide)) (g := (mkF m 55 #[.val (.long j0), .second, .val (.int i1), .val (.int (1 : Int32)), .val (.int (8 : Int32)), .val (.ref b19), .unset] [(.int (1 : Int32)), (.long j0), (.int (1 : Int32)), (.ref b19)])) rfl (by rw [hml]; rfl) (argsL := [(.long j0), (.int (1 : Int32))]) (rest := [(.int (1 : Int32)), (.ref b19)]) (lenOf pd_0 rfl) rfl (by show 2 * 0 + _ ≤ _; exact Nat.le_of_eq rfl) (hb hby at_55) (fun _ _ => ⟨rfl, e21, (by decide : 1 + 0 ≤ _), (by decide : 10 + 0 ≤ _)⟩)
    dsimp only [Pt.U, Pt.locs, Pt.cells, Pt.slots] at X22 l22 y22 z22 st22 hQ22
    subst l22 y22 z22
    obtain ⟨rfl, N22q, e22⟩ := hQ22
    have N22 := Fr.app N21 N22q
    obtain ⟨Lh22, X22, N22⟩ := hide X22 N22 (C := 1) (S := 10) (by decide) (by decide)
    refine Outs.of st22 ?_
    obtain ⟨T23, h23, X23, e23, W23, V23, st23⟩ := puB X22 hx hZ e22 V21 (j := (1 : Int32)) (x := (F_f1 j0 (1 : Int32))) (k := 1) rfl (by decide) (f := (mkF m 58 #[.val (.long j0), .second, .val (.int i1), .val (.int (1 : Int32)), .val (.int (8 : Int32)), .val (.ref b19), .unset] [(.int (F_f1 j0 (1 : Int32))), (.int (1 : Int32)), (.ref b19)])) rfl rfl (hb hby at_58)
    replace V23 : AI Z h23 b19 .byte 10 (f0_g58 j0 i1) := V23
    have N23 := Fr.snoc X23 N22 g_b19
    obtain ⟨Lh23, X23, N23⟩ := hide X23 N23 (C := 1) (S := 10) (by decide) (by decide)
    refine Outs.of st23 ?_
    refine Outs.of (U' := T23.setTop (mkF m 64 #[.val (.long j0), .second, .val (.int i1), .val (.int (1 : Int32)), .val (.int (8 : Int32)), .val (.ref b19), .unset] [(.int (2 : Int32)), (.long j0), (.int (2 : Int32)), (.ref b19)])) (fun t k => ?_) ?_
    · refine XS.aload X23.here hx rfl (hb hby at_59) rfl rfl ?_
      refine XS.iconst X23.here hx rfl (hb hby at_61) ?_
      refine XS.lloadN X23.here hx rfl (hb hby at_62) rfl ?_
      refine XS.iconst X23.here hx rfl (hb hby at_63) ?_
      exact k
    obtain ⟨_, _, ⟨T24, L24, k24, n24⟩, -, X24, ⟨Lc24, hQ24, l24, y24, z24⟩, st24⟩ := Jvm.LawKit.callS X23 hx (y := (⟨"com/example/penelope/penelope/KeysPastTenantPinLaw", "b", "(JI)B"⟩ : MethodName)) hown (mvT hZ (hw _ (List.mem_of_getElem? (i := 1) rfl))) (mvT hZ (hw _ (List.mem_of_getElem? (i := 2) rfl))) (mvT hZ (hw _ (List.mem_of_getElem? (i := 3) rfl))) (mvT hZ (hw _ (List.mem_of_getElem? (i := 4) rfl))) (by decide) (backOf (W := 2) (rm1 l Z a0 hw [] j0 (2 : Int32) h23 n0 ) hZ (hw _ (List.mem_of_getElem? (i := 4) rfl)) (hw _ (List.mem_of_getElem? (i := 3) rfl)) (by decide) (by decide)) (g := (mkF m 64 #[.val (.long j0), .second, .val (.int i1), .val (.int (1 : Int32)), .val (.int (8 : Int32)), .val (.ref b19), .unset] [(.int (2 : Int32)), (.long j0), (.int (2 : Int32)), (.ref b19)])) rfl (by rw [hml]; rfl) (argsL := [(.long j0), (.int (2 : Int32))]) (rest := [(.int (2 : Int32)), (.ref b19)]) (lenOf pd_0 rfl) rfl (by show 2 * 0 + _ ≤ _; exact Nat.le_of_eq rfl) (hb hby at_64) (fun _ _ => ⟨rfl, e23, (by decide : 1 + 0 ≤ _), (by decide : 10 + 0 ≤ _)⟩)
    dsimp only [Pt.U, Pt.locs, Pt.cells, Pt.slots] at X24 l24 y24 z24 st24 hQ24
    subst l24 y24 z24
    obtain ⟨rfl, N24q, e24⟩ := hQ24
    have N24 := Fr.app N23 N24q
    obtain ⟨Lh24, X24, N24⟩ := hide X24 N24 (C := 1) (S := 10) (by decide) (by decide)
    refine Outs.of st24 ?_
    obtain ⟨T25, h25, X25, e25, W25, V25, st25⟩ := puB X24 hx hZ e24 V23 (j := (2 : Int32)) (x := (F_f1 j0 (2 : Int32))) (k := 2) rfl (by decide) (f := (mkF m 67 #[.val (.long j0), .second, .val (.int i1), .val (.int (1 : Int32)), .val (.int (8 : Int32)), .val (.ref b19), .unset] [(.int (F_f1 j0 (2 : Int32))), (.int (2 : Int32)), (.ref b19)])) rfl rfl (hb hby at_67)
    replace V25 : AI Z h25 b19 .byte 10 (f0_g67 j0 i1) := V25
    have N25 := Fr.snoc X25 N24 g_b19
    obtain ⟨Lh25, X25, N25⟩ := hide X25 N25 (C := 1) (S := 10) (by decide) (by decide)
    refine Outs.of st25 ?_
    refine Outs.of (U' := T25.setTop (mkF m 73 #[.val (.long j0), .second, .val (.int i1), .val (.int (1 : Int32)), .val (.int (8 : Int32)), .val (.ref b19), .unset] [(.int (3 : Int32)), (.long j0), (.int (3 : Int32)), (.ref b19)])) (fun t k => ?_) ?_
    · refine XS.aload X25.here hx rfl (hb hby at_68) rfl rfl ?_
      refine XS.iconst X25.here hx rfl (hb hby at_70) ?_
      refine XS.lloadN X25.here hx rfl (hb hby at_71) rfl ?_
      refine XS.iconst X25.here hx rfl (hb hby at_72) ?_
      exact k
    obtain ⟨_, _, ⟨T26, L26, k26, n26⟩, -, X26, ⟨Lc26, hQ26, l26, y26, z26⟩, st26⟩ := Jvm.LawKit.callS X25 hx (y := (⟨"com/example/penelope/penelope/KeysPastTenantPinLaw", "b", "(JI)B"⟩ : MethodName)) hown (mvT hZ (hw _ (List.mem_of_getElem? (i := 1) rfl))) (mvT hZ (hw _ (List.mem_of_getElem? (i := 2) rfl))) (mvT hZ (hw _ (List.mem_of_getElem? (i := 3) rfl))) (mvT hZ (hw _ (List.mem_of_getElem? (i := 4) rfl))) (by decide) (backOf (W := 2) (rm1 l Z a0 hw [] j0 (3 : Int32) h25 n0 ) hZ (hw _ (List.mem_of_getElem? (i := 4) rfl)) (hw _ (List.mem_of_getElem? (i := 3) rfl)) (by decide) (by decide)) (g := (mkF m 73 #[.val (.long j0), .second, .val (.int i1), .val (.int (1 : Int32)), .val (.int (8 : Int32)), .val (.ref b19), .unset] [(.int (3 : Int32)), (.long j0), (.int (3 : Int32)), (.ref b19)])) rfl (by rw [hml]; rfl) (argsL := [(.long j0), (.int (3 : Int32))]) (rest := [(.int (3 : Int32)), (.ref b19)]) (lenOf pd_0 rfl) rfl (by show 2 * 0 + _ ≤ _; exact Nat.le_of_eq rfl) (hb hby at_73) (fun _ _ => ⟨rfl, e25, (by decide : 1 + 0 ≤ _), (by decide : 10 + 0 ≤ _)⟩)
    dsimp only [Pt.U, Pt.locs, Pt.cells, Pt.slots] at X26 l26 y26 z26 st26 hQ26
    subst l26 y26 z26
    obtain ⟨rfl, N26q, e26⟩ := hQ26
    have N26 := Fr.app N25 N26q
    obtain ⟨Lh26, X26, N26⟩ := hide X26 N26 (C := 1) (S := 10) (by decide) (by decide)
    refine Outs.of st26 ?_
    obtain ⟨T27, h27, X27, e27, W27, V27, st27⟩ := puB X26 hx hZ e26 V25 (j := (3 : Int32)) (x := (F_f1 j0 (3 : Int32))) (k := 3) rfl (by decide) (f := (mkF m 76 #[.val (.long j0), .second, .val (.int i1), .val (.int (1 : Int32)), .val (.int (8 : Int32)), .val (.ref b19), .unset] [(.int (F_f1 j0 (3 : Int32))), (.int (3 : Int32)), (.ref b19)])) rfl rfl (hb hby at_76)
    replace V27 : AI Z h27 b19 .byte 10 (f0_g76 j0 i1) := V27
    have N27 := Fr.snoc X27 N26 g_b19
    obtain ⟨Lh27, X27, N27⟩ := hide X27 N27 (C := 1) (S := 10) (by decide) (by decide)
    refine Outs.of st27 ?_
    refine Outs.of (U' := T27.setTop (mkF m 82 #[.val (.long j0), .second, .val (.int i1), .val (.int (1 : Int32)), .val (.int (8 : Int32)), .val (.ref b19), .unset] [(.int (4 : Int32)), (.long j0), (.int (4 : Int32)), (.ref b19)])) (fun t k => ?_) ?_
    · refine XS.aload X27.here hx rfl (hb hby at_77) rfl rfl ?_
      refine XS.iconst X27.here hx rfl (hb hby at_79) ?_
      refine XS.lloadN X27.here hx rfl (hb hby at_80) rfl ?_
      refine XS.iconst X27.here hx rfl (hb hby at_81) ?_
      exact k
    obtain ⟨_, _, ⟨T28, L28, k28, n28⟩, -, X28, ⟨Lc28, hQ28, l28, y28, z28⟩, st28⟩ := Jvm.LawKit.callS X27 hx (y := (⟨"com/example/penelope/penelope/KeysPastTenantPinLaw", "b", "(JI)B"⟩ : MethodName)) hown (mvT hZ (hw _ (List.mem_of_getElem? (i := 1) rfl))) (mvT hZ (hw _ (List.mem_of_getElem? (i := 2) rfl))) (mvT hZ (hw _ (List.mem_of_getElem? (i := 3) rfl))) (mvT hZ (hw _ (List.mem_of_getElem? (i := 4) rfl))) (by decide) (backOf (W := 2) (rm1 l Z a0 hw [] j0 (4 : Int32) h27 n0 ) hZ (hw _ (List.mem_of_getElem? (i := 4) rfl)) (hw _ (List.mem_of_getElem? (i := 3) rfl)) (by decide) (by decide)) (g := (mkF m 82 #[.val (.long j0), .second, .val (.int i1), .val (.int (1 : Int32)), .val (.int (8 : Int32)), .val (.ref b19), .unset] [(.int (4 : Int32)), (.long j0), (.int (4 : Int32)), (.ref b19)])) rfl (by rw [hml]; rfl) (argsL := [(.long j0), (.int (4 : Int32))]) (rest := [(.int (4 : Int32)), (.ref b19)]) (lenOf pd_0 rfl) rfl (by show 2 * 0 + _ ≤ _; exact Nat.le_of_eq rfl) (hb hby at_82) (fun _ _ => ⟨rfl, e27, (by decide : 1 + 0 ≤ _), (by decide : 10 + 0 ≤ _)⟩)
    dsimp only [Pt.U, Pt.locs, Pt.cells, Pt.slots] at X28 l28 y28 z28 st28 hQ28
    subst l28 y28 z28
    obtain ⟨rfl, N28q, e28⟩ := hQ28
    have N28 := Fr.app N27 N28q
    obtain ⟨Lh28, X28, N28⟩ := hide X28 N28 (C := 1) (S := 10) (by decide) (by decide)
    refine Outs.of st28 ?_
    obtain ⟨T29, h29, X29, e29, W29, V29, st29⟩ := puB X28 hx hZ e28 V27 (j := (4 : Int32)) (x := (F_f1 j0 (4 : Int32))) (k := 4) rfl (by decide) (f := (mkF m 85 #[.val (.long j0), .second, .val (.int i1), .val (.int (1 : Int32)), .val (.int (8 : Int32)), .val (.ref b19), .unset] [(.int (F_f1 j0 (4 : Int32))), (.int (4 : Int32)), (.ref b19)])) rfl rfl (hb hby at_85)
    replace V29 : AI Z h29 b19 .byte 10 (f0_g85 j0 i1) := V29
    have N29 := Fr.snoc X29 N28 g_b19
    obtain ⟨Lh29, X29, N29⟩ := hide X29 N29 (C := 1) (S := 10) (by decide) (by decide)
    refine Outs.of st29 ?_
    refine Outs.of (U' := T29.setTop (mkF m 95 #[.val (.long j0), .second, .val (.int i1), .val (.int (1 : Int32)), .val (.int (8 : Int32)), .val (.ref b19), .unset] [(.int (5 : Int32)), (.long j0), (.int (5 : Int32)), (.ref b19)])) (fun t k => ?_) ?_
    · refine XS.iloadN X29.here hx rfl (hb hby at_86) rfl ?_
      refine XS.ifNo X29.here hx rfl (hb hby at_87) rfl ((if0 _ _).trans (feq (show ¬ ((1 : Int32) = (0 : Int32)) from (by decide))).1) ?_
      refine XS.aload X29.here hx rfl (hb hby at_90) rfl rfl ?_
      refine XS.iconst X29.here hx rfl (hb hby at_92) ?_
      refine XS.lloadN X29.here hx rfl (hb hby at_93) rfl ?_
      refine XS.iconst X29.here hx rfl (hb hby at_94) ?_
      exact k
    obtain ⟨_, _, ⟨T30, L30, k30, n30⟩, -, X30, ⟨Lc30, hQ30, l30, y30, z30⟩, st30⟩ := Jvm.LawKit.callS X29 hx (y := (⟨"com/example/penelope/penelope/KeysPastTenantPinLaw", "b", "(JI)B"⟩ : MethodName)) hown (mvT hZ (hw _ (List.mem_of_getElem? (i := 1) rfl))) (mvT hZ (hw _ (List.mem_of_getElem? (i := 2) rfl))) (mvT hZ (hw _ (List.mem_of_getElem? (i := 3) rfl))) (mvT hZ (hw _ (List.mem_of_getElem? (i := 4) rfl))) (by decide) (backOf (W := 2) (rm1 l Z a0 hw [] j0 (5 : Int32) h29 n0 ) hZ (hw _ (List.mem_of_getElem? (i := 4) rfl)) (hw _ (List.mem_of_getElem? (i := 3) rfl)) (by decide) (by decide)) (g := (mkF m 95 #[.val (.long j0), .second, .val (.int i1), .val (.int (1 : Int32)), .val (.int (8 : Int32)), .val (.ref b19), .unset] [(.int (5 : Int32)), (.long j0), (.int (5 : Int32)), (.ref b19)])) rfl (by rw [hml]; rfl) (argsL := [(.long j0), (.int (5 : Int32))]) (rest := [(.int (5 : Int32)), (.ref b19)]) (lenOf pd_0 rfl) rfl (by show 2 * 0 + _ ≤ _; exact Nat.le_of_eq rfl) (hb hby at_95) (fun _ _ => ⟨rfl, e29, (by decide : 1 + 0 ≤ _), (by decide : 10 + 0 ≤ _)⟩)
    dsimp only [Pt.U, Pt.locs, Pt.cells, Pt.slots] at X30 l30 y30 z30 st30 hQ30
    subst l30 y30 z30
    obtain ⟨rfl, N30q, e30⟩ := hQ30
    have N30 := Fr.app N29 N30q
    obtain ⟨Lh30, X30, N30⟩ := hide X30 N30 (C := 1) (S := 10) (by decide) (by decide)
    refine Outs.of st30 ?_
    obtain ⟨T31, h31, X31, e31, W31, V31, st31⟩ := puB X30 hx hZ e30 V29 (j := (5 : Int32)) (x := (F_f1 j0 (5 : Int32))) (k := 5) rfl (by decide) (f := (mkF m 98 #[.val (.long j0), .second, .val (.int i1), .val (.int (1 : Int32)), .val (.int (8 : Int32)), .val (.ref b19), .unset] [(.int (F_f1 j0 (5 : Int32))), (.int (5 : Int32)), (.ref b19)])) rfl rfl (hb hby at_98)
    replace V31 : AI Z h31 b19 .byte 10 (f0_g98 j0 i1) := V31
    have N31 := Fr.snoc X31 N30 g_b19
    obtain ⟨Lh31, X31, N31⟩ := hide X31 N31 (C := 1) (S := 10) (by decide) (by decide)
    refine Outs.of st31 ?_
    refine Outs.of (U' := T31.setTop (mkF m 106 #[.val (.long j0), .second, .val (.int i1), .val (.int (1 : Int32)), .val (.int (8 : Int32)), .val (.ref b19), .unset] [(.int (6 : Int32)), (.long j0), (.int (6 : Int32)), (.ref b19)])) (fun t k => ?_) ?_
    · refine XS.aload X31.here hx rfl (hb hby at_99) rfl rfl ?_
      refine XS.bipush X31.here hx rfl (hb hby at_101) ?_
      refine XS.lloadN X31.here hx rfl (hb hby at_103) rfl ?_
      refine XS.bipush X31.here hx rfl (hb hby at_104) ?_
      exact k
    obtain ⟨_, _, ⟨T32, L32, k32, n32⟩, -, X32, ⟨Lc32, hQ32, l32, y32, z32⟩, st32⟩ := Jvm.LawKit.callS X31 hx (y := (⟨"com/example/penelope/penelope/KeysPastTenantPinLaw", "b", "(JI)B"⟩ : MethodName)) hown (mvT hZ (hw _ (List.mem_of_getElem? (i := 1) rfl))) (mvT hZ (hw _ (List.mem_of_getElem? (i := 2) rfl))) (mvT hZ (hw _ (List.mem_of_getElem? (i := 3) rfl))) (mvT hZ (hw _ (List.mem_of_getElem? (i := 4) rfl))) (by decide) (backOf (W := 2) (rm1 l Z a0 hw [] j0 (6 : Int32) h31 n0 ) hZ (hw _ (List.mem_of_getElem? (i := 4) rfl)) (hw _ (List.mem_of_getElem? (i := 3) rfl)) (by decide) (by decide)) (g := (mkF m 106 #[.val (.long j0), .second, .val (.int i1), .val (.int (1 : Int32)), .val (.int (8 : Int32)), .val (.ref b19), .unset] [(.int (6 : Int32)), (.long j0), (.int (6 : Int32)), (.ref b19)])) rfl (by rw [hml]; rfl) (argsL := [(.long j0), (.int (6 : Int32))]) (rest := [(.int (6 : Int32)), (.ref b19)]) (lenOf pd_0 rfl) rfl (by show 2 * 0 + _ ≤ _; exact Nat.le_of_eq rfl) (hb hby at_106) (fun _ _ => ⟨rfl, e31, (by decide : 1 + 0 ≤ _), (by decide : 10 + 0 ≤ _)⟩)
    dsimp only [Pt.U, Pt.locs, Pt.cells, Pt.slots] at X32 l32 y32 z32 st32 hQ32
    subst l32 y32 z32
    obtain ⟨rfl, N32q, e32⟩ := hQ32
    have N32 := Fr.app N31 N32q
    obtain ⟨Lh32, X32, N32⟩ := hide X32 N32 (C := 1) (S := 10) (by decide) (by decide)
    refine Outs.of st32 ?_
    obtain ⟨T33, h33, X33, e33, W33, V33, st33⟩ := puB X32 hx hZ e32 V31 (j := (6 : Int32)) (x := (F_f1 j0 (6 : Int32))) (k := 6) rfl (by decide) (f := (mkF m 109 #[.val (.long j0), .second, .val (.int i1), .val (.int (1 : Int32)), .val (.int (8 : Int32)), .val (.ref b19), .unset] [(.int (F_f1 j0 (6 : Int32))), (.int (6 : Int32)), (.ref b19)])) rfl rfl (hb hby at_109)
    replace V33 : AI Z h33 b19 .byte 10 (f0_g109 j0 i1) := V33
    have N33 := Fr.snoc X33 N32 g_b19
    obtain ⟨Lh33, X33, N33⟩ := hide X33 N33 (C := 1) (S := 10) (by decide) (by decide)
    refine Outs.of st33 ?_
    refine Outs.of (U' := T33.setTop (mkF m 117 #[.val (.long j0), .second, .val (.int i1), .val (.int (1 : Int32)), .val (.int (8 : Int32)), .val (.ref b19), .unset] [(.int (7 : Int32)), (.long j0), (.int (7 : Int32)), (.ref b19)])) (fun t k => ?_) ?_
    · refine XS.aload X33.here hx rfl (hb hby at_110) rfl rfl ?_
      refine XS.bipush X33.here hx rfl (hb hby at_112) ?_
      refine XS.lloadN X33.here hx rfl (hb hby at_114) rfl ?_
      refine XS.bipush X33.here hx rfl (hb hby at_115) ?_
      exact k
    obtain ⟨_, _, ⟨T34, L34, k34, n34⟩, -, X34, ⟨Lc34, hQ34, l34, y34, z34⟩, st34⟩ := Jvm.LawKit.callS X33 hx (y := (⟨"com/example/penelope/penelope/KeysPastTenantPinLaw", "b", "(JI)B"⟩ : MethodName)) hown (mvT hZ (hw _ (List.mem_of_getElem? (i := 1) rfl))) (mvT hZ (hw _ (List.mem_of_getElem? (i := 2) rfl))) (mvT hZ (hw _ (List.mem_of_getElem? (i := 3) rfl))) (mvT hZ (hw _ (List.mem_of_getElem? (i := 4) rfl))) (by decide) (backOf (W := 2) (rm1 l Z a0 hw [] j0 (7 : Int32) h33 n0 ) hZ (hw _ (List.mem_of_getElem? (i := 4) rfl)) (hw _ (List.mem_of_getElem? (i := 3) rfl)) (by decide) (by decide)) (g := (mkF m 117 #[.val (.long j0), .second, .val (.int i1), .val (.int (1 : Int32)), .val (.int (8 : Int32)), .val (.ref b19), .unset] [(.int (7 : Int32)), (.long j0), (.int (7 : Int32)), (.ref b19)])) rfl (by rw [hml]; rfl) (argsL := [(.long j0), (.int (7 : Int32))]) (rest := [(.int (7 : Int32)), (.ref b19)]) (lenOf pd_0 rfl) rfl (by show 2 * 0 + _ ≤ _; exact Nat.le_of_eq rfl) (hb hby at_117) (fun _ _ => ⟨rfl, e33, (by decide : 1 + 0 ≤ _), (by decide : 10 + 0 ≤ _)⟩)
    dsimp only [Pt.U, Pt.locs, Pt.cells, Pt.slots] at X34 l34 y34 z34 st34 hQ34
    subst l34 y34 z34
    obtain ⟨rfl, N34q, e34⟩ := hQ34
    have N34 := Fr.app N33 N34q
    obtain ⟨Lh34, X34, N34⟩ := hide X34 N34 (C := 1) (S := 10) (by decide) (by decide)
    refine Outs.of st34 ?_
    obtain ⟨T35, h35, X35, e35, W35, V35, st35⟩ := puB X34 hx hZ e34 V33 (j := (7 : Int32)) (x := (F_f1 j0 (7 : Int32))) (k := 7) rfl (by decide) (f := (mkF m 120 #[.val (.long j0), .second, .val (.int i1), .val (.int (1 : Int32)), .val (.int (8 : Int32)), .val (.ref b19), .unset] [(.int (F_f1 j0 (7 : Int32))), (.int (7 : Int32)), (.ref b19)])) rfl rfl (hb hby at_120)
    replace V35 : AI Z h35 b19 .byte 10 (f0_g120 j0 i1) := V35
    have N35 := Fr.snoc X35 N34 g_b19
    obtain ⟨Lh35, X35, N35⟩ := hide X35 N35 (C := 1) (S := 10) (by decide) (by decide)
    refine Outs.of st35 ?_
    refine Outs.of (U' := T35.setTop (mkF m 126 #[.val (.long j0), .second, .val (.int i1), .val (.int (1 : Int32)), .val (.int (8 : Int32)), .val (.ref b19), .unset] [(.int (0 : Int32)), (.int (8 : Int32)), (.ref b19)])) (fun t k => ?_) ?_
    · refine XS.aload X35.here hx rfl (hb hby at_121) rfl rfl ?_
      refine XS.iload X35.here hx rfl (hb hby at_123) rfl ?_
      refine XS.iconst X35.here hx rfl (hb hby at_125) ?_
      exact k
    obtain ⟨T36, h36, X36, e36, W36, V36, st36⟩ := puB X35 hx hZ e35 V35 (j := (8 : Int32)) (x := (0 : Int32)) (k := 8) rfl (by decide) (f := (mkF m 126 #[.val (.long j0), .second, .val (.int i1), .val (.int (1 : Int32)), .val (.int (8 : Int32)), .val (.ref b19), .unset] [(.int (0 : Int32)), (.int (8 : Int32)), (.ref b19)])) rfl rfl (hb hby at_126)
    replace V36 : AI Z h36 b19 .byte 10 (f0_g126a j0 i1) := V36
    have N36 := Fr.snoc X36 N35 g_b19
    obtain ⟨Lh36, X36, N36⟩ := hide X36 N36 (C := 1) (S := 10) (by decide) (by decide)
    refine Outs.of st36 ?_
    refine Outs.of (U' := T36.setTop (mkF m 134 #[.val (.long j0), .second, .val (.int i1), .val (.int (1 : Int32)), .val (.int (8 : Int32)), .val (.ref b19), .unset] [(.int (1 : Int32)), (.int (9 : Int32)), (.ref b19)])) (fun t k => ?_) ?_
    · refine XS.aload X36.here hx rfl (hb hby at_127) rfl rfl ?_
      refine XS.iload X36.here hx rfl (hb hby at_129) rfl ?_
      refine XS.iconst X36.here hx rfl (hb hby at_131) ?_
      refine XS.iadd X36.here hx rfl (hb hby at_132) rfl ?_
      refine XS.iconst X36.here hx rfl (hb hby at_133) ?_
      exact k
    obtain ⟨T37, h37, X37, e37, W37, V37, st37⟩ := puB X36 hx hZ e36 V36 (j := (9 : Int32)) (x := (1 : Int32)) (k := 9) rfl (by decide) (f := (mkF m 134 #[.val (.long j0), .second, .val (.int i1), .val (.int (1 : Int32)), .val (.int (8 : Int32)), .val (.ref b19), .unset] [(.int (1 : Int32)), (.int (9 : Int32)), (.ref b19)])) rfl rfl (hb hby at_134)
    replace V37 : AI Z h37 b19 .byte 10 (f0_g134a j0 i1) := V37
    have N37 := Fr.snoc X37 N36 g_b19
    obtain ⟨Lh37, X37, N37⟩ := hide X37 N37 (C := 1) (S := 10) (by decide) (by decide)
    refine Outs.of st37 ?_
    refine Outs.of (U' := T37.setTop (mkF m 137 #[.val (.long j0), .second, .val (.int i1), .val (.int (1 : Int32)), .val (.int (8 : Int32)), .val (.ref b19), .unset] [(.ref b19)])) (fun t k => ?_) ?_
    · refine XS.aload X37.here hx rfl (hb hby at_135) rfl rfl ?_
      exact k
    have f38 : Exa Z h37 b19 "[B" := ((((((((((Ex19.wr W21).wr W23).wr W25).wr W27).wr W29).wr W31).wr W33).wr W35).wr W36).wr W37)
    obtain ⟨_, _, ⟨T39, L39, k39, n39⟩, -, X39, ⟨Lc39, hQ39, l39, y39, z39⟩, st39⟩ := Jvm.LawKit.callS X37 hx (y := (⟨"com/example/penelope/penelope/Keys", "pastTenant", "([B)[B"⟩ : MethodName)) hown (mvT hZ (hw _ (List.mem_of_getElem? (i := 5) rfl))) (mvT hZ (hw _ (List.mem_of_getElem? (i := 6) rfl))) (mvT hZ (hw _ (List.mem_of_getElem? (i := 7) rfl))) (mvT hZ (hw _ (List.mem_of_getElem? (i := 8) rfl))) (by decide) (backOf (W := 0) (rmpt8 l Z a0 hw [] b19 (f0_g134a j0 i1) h37 n0 (Nat.le_trans (Nat.le_trans (Nat.le_trans (Nat.le_trans (Nat.le_trans (Nat.le_trans (Nat.le_trans (Nat.le_trans (Nat.le_trans (Nat.le_trans (Nat.le_trans Z0 E19.1) (Keep.of_wr W21).1) (Keep.of_wr W23).1) (Keep.of_wr W25).1) (Keep.of_wr W27).1) (Keep.of_wr W29).1) (Keep.of_wr W31).1) (Keep.of_wr W33).1) (Keep.of_wr W35).1) (Keep.of_wr W36).1) (Keep.of_wr W37).1) f38 V37 (own_fit8 j0 i1)) hZ (hw _ (List.mem_of_getElem? (i := 8) rfl)) (hw _ (List.mem_of_getElem? (i := 7) rfl)) (by decide) (by decide)) (g := (mkF m 137 #[.val (.long j0), .second, .val (.int i1), .val (.int (1 : Int32)), .val (.int (8 : Int32)), .val (.ref b19), .unset] [(.ref b19)])) rfl (by rw [hml]; rfl) (argsL := [(.ref b19)]) (rest := []) (lenOf pd_1 rfl) rfl (by show 2 * 0 + _ ≤ _; exact Nat.le_of_eq rfl) (hb hby at_137) (fun _ _ => ⟨rfl, e37, (by decide : 1 + 1 ≤ _), (by decide : 10 + 10 ≤ _)⟩)
    dsimp only [Pt.U, Pt.locs, Pt.cells, Pt.slots] at X39 l39 y39 z39 st39 hQ39
    subst l39 y39 z39
    obtain ⟨b39, g_b39, hs_b39, rfl, N39q, K39, u39_0⟩ := hQ39
    have N39 := Fr.app N37 N39q
    have ne_b19_b39 : b19 ≠ b39 := Nat.ne_of_lt (Nat.lt_of_lt_of_le f38.lt hs_b39)
    obtain ⟨Lh39, X39, N39⟩ := hide X39 N39 (C := 2) (S := 20) (by decide) (by decide)
    refine Outs.of st39 ?_
    refine Outs.of (U' := T39.setTop (mkF m 155 #[.val (.long j0), .second, .val (.int i1), .val (.int (1 : Int32)), .val (.int (8 : Int32)), .val (.ref b19), .val (.ref b39)] [(.int (1 : Int32)), (.int (8 : Int32)), (.long j0), (.ref b19)])) (fun t k => ?_) ?_
    · refine XS.astore X39.here hx rfl (hb hby at_140) rfl rfl (l' := #[.val (.long j0), .second, .val (.int i1), .val (.int (1 : Int32)), .val (.int (8 : Int32)), .val (.ref b19), .val (.ref b39)]) rfl ?_
      refine XS.aload X39.here hx rfl (hb hby at_142) rfl rfl ?_
      refine XS.aload X39.here hx rfl (hb hby at_144) rfl rfl ?_
      refine Jvm.RoadKit.acmp (g := (mkF m 146 #[.val (.long j0), .second, .val (.int i1), .val (.int (1 : Int32)), .val (.int (8 : Int32)), .val (.ref b19), .val (.ref b39)] [(.ref b19), (.ref b39)])) X39 hx rfl rfl rfl (pc0 := 146) (pc' := 149) (same := false) rfl (hb hby at_146) rfl (decide_eq_false fun q_ => ne_b19_b39.symm (Value.ref.inj q_)) (by decide) (by decide) ?_
      refine XS.aload X39.here hx rfl (hb hby at_149) rfl rfl ?_
      refine XS.lloadN X39.here hx rfl (hb hby at_151) rfl ?_
      refine XS.iload X39.here hx rfl (hb hby at_152) rfl ?_
      refine XS.iconst X39.here hx rfl (hb hby at_154) ?_
      exact k
    have f40 : AI Z T39.heap b19 .byte 10 (f0_g134a j0 i1) := (V37.keep K39 nin0)
    obtain ⟨_, _, ⟨T41, L41, k41, n41⟩, -, X41, ⟨Lc41, hQ41, l41, y41, z41⟩, st41⟩ := Jvm.LawKit.callS X39 hx (y := (⟨"com/example/penelope/penelope/KeysPastTenantPinLaw", "same", "([BJIB)Z"⟩ : MethodName)) hown (mvT hZ (hw _ (List.mem_of_getElem? (i := 18) rfl))) (mvT hZ (hw _ (List.mem_of_getElem? (i := 19) rfl))) (mvT hZ (hw _ (List.mem_of_getElem? (i := 3) rfl))) (mvT hZ (hw _ (List.mem_of_getElem? (i := 20) rfl))) (by decide) (backOf (W := 0) (rmsm8 l Z a0 hw [] b19 j0 (1 : Int32) (f0_g134a j0 i1) T39.heap n0 f40) hZ (hw _ (List.mem_of_getElem? (i := 20) rfl)) (hw _ (List.mem_of_getElem? (i := 3) rfl)) (by decide) (by decide)) (g := (mkF m 155 #[.val (.long j0), .second, .val (.int i1), .val (.int (1 : Int32)), .val (.int (8 : Int32)), .val (.ref b19), .val (.ref b39)] [(.int (1 : Int32)), (.int (8 : Int32)), (.long j0), (.ref b19)])) rfl (by rw [hml]; rfl) (argsL := [(.ref b19), (.long j0), (.int (8 : Int32)), (.int (1 : Int32))]) (rest := []) (lenOf pd_3 rfl) rfl (by show 2 * 0 + _ ≤ _; exact Nat.le_of_eq rfl) (hb hby at_155) (fun _ _ => ⟨rfl, rfl, (by decide : 2 + 0 ≤ _), (by decide : 20 + 0 ≤ _)⟩)
    dsimp only [Pt.U, Pt.locs, Pt.cells, Pt.slots] at X41 l41 y41 z41 st41 hQ41
    subst l41 y41 z41
    obtain ⟨rfl, N41q, e41⟩ := hQ41
    have N41 := Fr.app N39 N41q
    obtain ⟨Lh41, X41, N41⟩ := hide X41 N41 (C := 2) (S := 20) (by decide) (by decide)
    refine Outs.of st41 ?_
    refine Outs.of (U' := T41.setTop (mkF m 167 #[.val (.long j0), .second, .val (.int i1), .val (.int (1 : Int32)), .val (.int (8 : Int32)), .val (.ref b19), .val (.ref b39)] [(.int (2 : Int32)), (.int (8 : Int32)), (.long j0), (.ref b39)])) (fun t k => ?_) ?_
    · refine XS.ifNo X41.here hx rfl (hb hby at_158) rfl ((if0 _ _).trans (feq (law_p8 j0 i1)).1) ?_
      refine XS.aload X41.here hx rfl (hb hby at_161) rfl rfl ?_
      refine XS.lloadN X41.here hx rfl (hb hby at_163) rfl ?_
      refine XS.iload X41.here hx rfl (hb hby at_164) rfl ?_
      refine XS.iconst X41.here hx rfl (hb hby at_166) ?_
      exact k
    obtain ⟨_, _, ⟨T42, L42, k42, n42⟩, -, X42, ⟨Lc42, hQ42, l42, y42, z42⟩, st42⟩ := Jvm.LawKit.callS X41 hx (y := (⟨"com/example/penelope/penelope/KeysPastTenantPinLaw", "same", "([BJIB)Z"⟩ : MethodName)) hown (mvT hZ (hw _ (List.mem_of_getElem? (i := 18) rfl))) (mvT hZ (hw _ (List.mem_of_getElem? (i := 19) rfl))) (mvT hZ (hw _ (List.mem_of_getElem? (i := 3) rfl))) (mvT hZ (hw _ (List.mem_of_getElem? (i := 20) rfl))) (by decide) (backOf (W := 0) (rmsm8 l Z a0 hw [] b39 j0 (2 : Int32) (pt8_g18 (f0_g134a j0 i1)) T39.heap n0 u39_0) hZ (hw _ (List.mem_of_getElem? (i := 20) rfl)) (hw _ (List.mem_of_getElem? (i := 3) rfl)) (by decide) (by decide)) (g := (mkF m 167 #[.val (.long j0), .second, .val (.int i1), .val (.int (1 : Int32)), .val (.int (8 : Int32)), .val (.ref b19), .val (.ref b39)] [(.int (2 : Int32)), (.int (8 : Int32)), (.long j0), (.ref b39)])) rfl (by rw [hml]; rfl) (argsL := [(.ref b39), (.long j0), (.int (8 : Int32)), (.int (2 : Int32))]) (rest := []) (lenOf pd_3 rfl) rfl (by show 2 * 0 + _ ≤ _; exact Nat.le_of_eq rfl) (hb hby at_167) (fun _ _ => ⟨rfl, e41, (by decide : 2 + 0 ≤ _), (by decide : 20 + 0 ≤ _)⟩)
    dsimp only [Pt.U, Pt.locs, Pt.cells, Pt.slots] at X42 l42 y42 z42 st42 hQ42
    subst l42 y42 z42
    obtain ⟨rfl, N42q, e42⟩ := hQ42
    have N42 := Fr.app N41 N42q
    obtain ⟨Lh42, X42, N42⟩ := hide X42 N42 (C := 2) (S := 20) (by decide) (by decide)
    refine Outs.of st42 ?_
    refine Outs.of (U' := T42.setTop (mkF m 178 #[.val (.long j0), .second, .val (.int i1), .val (.int (1 : Int32)), .val (.int (8 : Int32)), .val (.ref b19), .val (.ref b39)] [(.int (1 : Int32))])) (fun t k => ?_) ?_
    · refine XS.ifNo X42.here hx rfl (hb hby at_170) rfl ((if0 _ _).trans (feq (law_r8 j0 i1)).1) ?_
      refine XS.iconst X42.here hx rfl (hb hby at_173) ?_
      refine XS.goto X42.here hx rfl (pc0 := 174) (pc' := 178) rfl (hb hby at_174) (by decide) (by decide) ?_
      exact k
    exact Outs.retN (t := .boolean) (z := (1 : Int32)) X42 hx hret (by simp) (hb hby at_178) hlk (by decide) (by decide) e42 ⟨rfl, N42⟩
set_option maxRecDepth 65536 in
set_option maxHeartbeats 40000000 in
theorem comes_1 {Post : Tables → Env → Array Value → State → Outcome → State → Prop} (hpost : ∀ tb e args s v u, (limb_1_1.after args s (.returned v) u = true ∧ limb_1_2.after args s (.returned v) u = true ∧ True) → FrameEnd s (.returned v) u (Jvm.fieldLocs frame_1_writes args s ++ Jvm.arrayLocs frame_1_arrays args s ++ Jvm.staticLocs frame_1_statics s) 16 128 → Post tb e args s (.returned v) u) :
    ArmFor flags0 classFile x code maxLocals ret World_1 tables_1 room_1 Calls_1 rest_1 Pre_1 Post := by
  intro l hfl _ _ p e ha hc hk s m args below hf hA hF happ hP
  obtain ⟨hcalls, hrest, hpre⟩ := hP
  obtain ⟨-, -, -, hnamed, -, -, -, hat⟩ := (Spec.applies_iff hf).mp happ
  obtain ⟨hg, hn⟩ := and_e (Cond.before_iff.mp (show (Jvm.Cond.and given_1 narrow_1).before args s = true from hpre))
  obtain ⟨g1, g2⟩ := and_e hg
  obtain ⟨g3, g4⟩ := and_e g2
  obtain ⟨w0, w1, rfl⟩ : ∃ w0 w1 : Value, args = #[w0, w1] := by
    have hs : args.size = 2 := by simpa [Cond.value, given_1] using g1
    obtain ⟨L⟩ := args
    match L, hs with
    | [w0, w1], _ => exact ⟨w0, w1, rfl⟩
  have hw := fun d (hd : d ∈ tables_1) => atoms_spec (ws := Jvm.Cond.code x code maxLocals ret :: tables_1) hat d (List.mem_cons_of_mem _ hd)
  obtain ⟨i0, ei0⟩ := isL_v g3
  obtain rfl : w0 = (.long i0) := Option.some.inj ei0
  obtain ⟨i1, ei1⟩ := is_v g4
  obtain rfl : w1 = (.int i1) := Option.some.inj ei1
  obtain ⟨n, o, h1, h2, h3, v, L, rfl, hQ0, hq⟩ := rm0 l s _ hw tables_1 i0 i1 s.heap s.heap.size (Nat.le_refl _) p e ha hc hk s m _ below hf ((Spec.applies_iff_loose hf).mp happ).1 ⟨rfl, State.Warmed39.refl s, rfl⟩ trivial
  obtain ⟨rfl, N⟩ : v = some (.int 1) ∧ Fr s.heap.size L := hQ0
  refine ⟨n, _, h1, h2, h3, hpost _ _ _ _ _ _ ⟨Cond.after_iff.mpr rfl, Cond.after_iff.mpr (eq_i res_at (Term.int_eval (1)) rfl), trivial⟩ ⟨hq.1, hq.2.1, (hq.2.2.sift fun y hy => Or.inr (N y hy)).mono (by decide) (by decide)⟩⟩
theorem main_1_1 : Claimed_1_1 := comes_1 fun _ _ _ _ _ _ h hF => ⟨h.1, hF⟩
theorem main_1_2 : Claimed_1_2 := comes_1 fun _ _ _ _ _ _ h hF => ⟨h.2.1, hF⟩
end Jvm.Pilot.@@N@@
namespace Jvm.Pilot.@@N@@
open Jvm Jvm.ClassFile Sem Op Lib Jvm.Free Jvm.Stand Jvm.Pilot.@@N@@.Jvm.D
/-! MADE BY PROGRAM (witnessworld.py) out of the Statement's table words and the real class files: 9 classes; the members and pool entries that the words name. The judged class is class 1, her method 3. -/
namespace start1
open Jvm.ClassFile
def u (s : String) : CpInfo := .utf8 (stringToUtf16 s)
/-- a pool by its gaps: so many unusable entries, then the entry; so many at the end -/
def gap : Nat → List CpInfo → List CpInfo
  | 0, r => r
  | n + 1, r => .unusable :: gap n r
def poolList (es : List (Nat × CpInfo)) (last : Nat) : List CpInfo := es.foldr (fun e r => gap e.1 (e.2 :: r)) (gap last [])
def pool (es : List (Nat × CpInfo)) (last : Nat) : Array CpInfo := ⟨poolList es last⟩
def fileOf (pool : Array CpInfo) (this : Nat) (attrs : Array Attribute := #[]) (ms : Array MethodInfo := #[]) (fl : Nat := 33) (sup : Nat := 0) (ifs : Array Nat := #[]) (fds : Array FieldInfo := #[]) : ClassFile where
  minorVersion := 0
  majorVersion := 65
  constantPool := pool
  accessFlags := fl
  thisClass := this
  superClass := sup
  interfaces := ifs
  fields := fds
  methods := ms
  attributes := attrs
def plain (name : String) (sup : Option ClassId) : Class where
  name := name
  kind := .ordinary
  loader := none
  accessFlags := 33
  super := sup
  interfaces := #[]
  cf := none
  fields := #[]
  methods := #[]
  instanceTypes := #[]
  staticTypes := #[]
  resolved := #[]
  callSites := []
  init := .initialized
  statics := none
  mirror := none

def pool0 : Array CpInfo := pool [(5, u "<init>"), (0, u "()V"), (1, .class_ 10), (1, u "java/lang/Object"), (85, u "clone"), (0, u "()Ljava/lang/Object;")] 26

def k0m0 : Method := { name := "<init>", desc := "()V", sig := { parameters := [], returnType := none }, accessFlags := 1, code := none }
def k0m1 : Method := { name := "clone", desc := "()Ljava/lang/Object;", sig := { parameters := [], returnType := some (.object "java/lang/Object") }, accessFlags := 260, code := none }
/-- java/lang/Object -/
def k0 : Class := { plain "java/lang/Object" none with
  accessFlags := 33
  interfaces := #[]
  cf := some (fileOf pool0 8 #[] #[{ accessFlags := 1, nameIndex := 5, descriptorIndex := 6, attributes := #[] }, { accessFlags := 260, nameIndex := 96, descriptorIndex := 97, attributes := #[] }] 33 0 #[] #[])
  fields := #[]
  methods := #[k0m0, k0m1]
  instanceTypes := #[]
  staticTypes := #[]
  resolved := Array.replicate 124 none
  statics := none }

def pool1 : Array CpInfo := pool [(2, .class_ 4), (1, u "java/lang/Object"), (0, u "<init>"), (0, u "()V"), (0, .methodref 8 9), (0, .class_ 10), (0, .nameAndType 11 12), (0, u "com/example/penelope/penelope/KeysPastTenantPinLaw"), (0, u "b"), (0, u "(JI)B"), (0, .methodref 14 15), (0, .class_ 16), (0, .nameAndType 17 18), (0, u "com/example/penelope/penelope/Keys"), (0, u "pastTenant"), (0, u "([B)[B"), (0, .methodref 8 20), (0, .nameAndType 21 22), (0, u "same"), (0, u "([BJIB)Z"), (3, u "law"), (0, u "(JI)Z")] 4

def k1m0 : Method := { name := "<init>", desc := "()V", sig := { parameters := [], returnType := none }, accessFlags := 2, code := none }
def k1c1 : Code := { maxStack := 4, maxLocals := 3, code := method_2_code, exceptionTable := #[], attributes := #[] }
def k1m1 : Method := { name := "b", desc := "(JI)B", sig := { parameters := [.long, .int], returnType := some .byte }, accessFlags := 10, code := some k1c1 }
def k1c2 : Code := { maxStack := 4, maxLocals := 6, code := method_3_code, exceptionTable := #[], attributes := #[] }
def k1m2 : Method := { name := "same", desc := "([BJIB)Z", sig := { parameters := [(.array .byte), .long, .int, .byte], returnType := some .boolean }, accessFlags := 10, code := some k1c2 }
def k1c3 : Code := { maxStack := 5, maxLocals := 7, code := code, exceptionTable := #[], attributes := #[] }
def k1m3 : Method := { name := "law", desc := "(JI)Z", sig := { parameters := [.long, .int], returnType := some .boolean }, accessFlags := 9, code := some k1c3 }
/-- com/example/penelope/penelope/KeysPastTenantPinLaw -/
def k1 : Class := { plain "com/example/penelope/penelope/KeysPastTenantPinLaw" (some 0) with
  accessFlags := 49
  interfaces := #[]
  cf := some (fileOf pool1 8 #[] #[{ accessFlags := 2, nameIndex := 5, descriptorIndex := 6, attributes := #[] }, { accessFlags := 10, nameIndex := 11, descriptorIndex := 12, attributes := #[] }, { accessFlags := 10, nameIndex := 21, descriptorIndex := 22, attributes := #[] }, { accessFlags := 9, nameIndex := 26, descriptorIndex := 27, attributes := #[] }] 49 2 #[] #[])
  fields := #[]
  methods := #[k1m0, k1m1, k1m2, k1m3]
  instanceTypes := #[]
  staticTypes := #[]
  resolved := Array.replicate 32 none
  statics := none }

def pool2 : Array CpInfo := pool [(4, .class_ 6), (1, u "java/lang/Object"), (0, u "<init>"), (0, u "()V"), (0, .class_ 10), (0, u "com/example/penelope/penelope/Keys"), (5, .class_ 18), (1, u "com/example/penelope/penelope/Keys$Builder"), (40, .methodref 60 61), (0, .class_ 62), (0, .nameAndType 63 64), (0, u "[B"), (0, u "clone"), (0, u "()Ljava/lang/Object;"), (64, u "META"), (0, u "B"), (2, u "KEY_INDEX"), (1, u "QUEUE"), (1, u "INBOX"), (1, u "TABLE"), (1, u "CODE_COUNT"), (1, u "LEASABLE"), (1, u "LEASE"), (1, u "READY"), (1, u "EXPIRY"), (1, u "TURN"), (1, u "MAX_ATTEMPTS"), (1, u "DEAD"), (1, u "DEATHS"), (1, u "COUNT"), (1, u "ID_BYTES"), (0, u "I"), (16, u "pastTenant"), (0, u "([B)[B")] 22

def k2m0 : Method := { name := "<init>", desc := "()V", sig := { parameters := [], returnType := none }, accessFlags := 2, code := none }
def k2c1 : Code := { maxStack := 4, maxLocals := 2, code := prog_19_method_15_code, exceptionTable := #[], attributes := #[] }
def k2m1 : Method := { name := "pastTenant", desc := "([B)[B", sig := { parameters := [(.array .byte)], returnType := some (.array .byte) }, accessFlags := 8, code := some k2c1 }
/-- com/example/penelope/penelope/Keys -/
def k2 : Class := { plain "com/example/penelope/penelope/Keys" (some 0) with
  accessFlags := 48
  interfaces := #[]
  cf := some (fileOf pool2 9 #[.nestMembers #[16]] #[{ accessFlags := 2, nameIndex := 7, descriptorIndex := 8, attributes := #[] }, { accessFlags := 8, nameIndex := 179, descriptorIndex := 180, attributes := #[] }] 48 4 #[] #[{ accessFlags := 26, nameIndex := 129, descriptorIndex := 130, attributes := #[] }, { accessFlags := 26, nameIndex := 133, descriptorIndex := 130, attributes := #[] }, { accessFlags := 26, nameIndex := 135, descriptorIndex := 130, attributes := #[] }, { accessFlags := 26, nameIndex := 137, descriptorIndex := 130, attributes := #[] }, { accessFlags := 26, nameIndex := 139, descriptorIndex := 130, attributes := #[] }, { accessFlags := 26, nameIndex := 141, descriptorIndex := 130, attributes := #[] }, { accessFlags := 26, nameIndex := 143, descriptorIndex := 130, attributes := #[] }, { accessFlags := 26, nameIndex := 145, descriptorIndex := 130, attributes := #[] }, { accessFlags := 26, nameIndex := 147, descriptorIndex := 130, attributes := #[] }, { accessFlags := 26, nameIndex := 149, descriptorIndex := 130, attributes := #[] }, { accessFlags := 26, nameIndex := 151, descriptorIndex := 130, attributes := #[] }, { accessFlags := 26, nameIndex := 153, descriptorIndex := 130, attributes := #[] }, { accessFlags := 26, nameIndex := 155, descriptorIndex := 130, attributes := #[] }, { accessFlags := 26, nameIndex := 157, descriptorIndex := 130, attributes := #[] }, { accessFlags := 26, nameIndex := 159, descriptorIndex := 130, attributes := #[] }, { accessFlags := 26, nameIndex := 161, descriptorIndex := 162, attributes := #[] }])
  fields := #[{ name := "META", type := .byte, accessFlags := 26, slot := 0, constantValue := 0 }, { name := "KEY_INDEX", type := .byte, accessFlags := 26, slot := 1, constantValue := 0 }, { name := "QUEUE", type := .byte, accessFlags := 26, slot := 2, constantValue := 0 }, { name := "INBOX", type := .byte, accessFlags := 26, slot := 3, constantValue := 0 }, { name := "TABLE", type := .byte, accessFlags := 26, slot := 4, constantValue := 0 }, { name := "CODE_COUNT", type := .byte, accessFlags := 26, slot := 5, constantValue := 0 }, { name := "LEASABLE", type := .byte, accessFlags := 26, slot := 6, constantValue := 0 }, { name := "LEASE", type := .byte, accessFlags := 26, slot := 7, constantValue := 0 }, { name := "READY", type := .byte, accessFlags := 26, slot := 8, constantValue := 0 }, { name := "EXPIRY", type := .byte, accessFlags := 26, slot := 9, constantValue := 0 }, { name := "TURN", type := .byte, accessFlags := 26, slot := 10, constantValue := 0 }, { name := "MAX_ATTEMPTS", type := .byte, accessFlags := 26, slot := 11, constantValue := 0 }, { name := "DEAD", type := .byte, accessFlags := 26, slot := 12, constantValue := 0 }, { name := "DEATHS", type := .byte, accessFlags := 26, slot := 13, constantValue := 0 }, { name := "COUNT", type := .byte, accessFlags := 26, slot := 14, constantValue := 0 }, { name := "ID_BYTES", type := .int, accessFlags := 26, slot := 15, constantValue := 0 }]
  methods := #[k2m0, k2m1]
  instanceTypes := #[]
  staticTypes := #[.byte, .byte, .byte, .byte, .byte, .byte, .byte, .byte, .byte, .byte, .byte, .byte, .byte, .byte, .byte, .int]
  resolved := Array.replicate 203 none
  statics := none }

def pool3 : Array CpInfo := pool [(1, .class_ 2), (0, u "java/lang/Cloneable"), (0, .class_ 4), (0, u "java/lang/Object")] 2

/-- java/lang/Cloneable -/
def k3 : Class := { plain "java/lang/Cloneable" (some 0) with
  accessFlags := 1537
  interfaces := #[]
  cf := some (fileOf pool3 1 #[] #[] 1537 3 #[] #[])
  fields := #[]
  methods := #[]
  instanceTypes := #[]
  staticTypes := #[]
  resolved := Array.replicate 7 none
  statics := none }

def pool4 : Array CpInfo := pool [(1, u "java/io/Serializable"), (0, .class_ 1), (0, u "java/lang/Object"), (0, .class_ 3)] 3

/-- java/io/Serializable -/
def k4 : Class := { plain "java/io/Serializable" (some 0) with
  accessFlags := 1537
  interfaces := #[]
  cf := some (fileOf pool4 2 #[] #[] 1537 4 #[] #[])
  fields := #[]
  methods := #[]
  instanceTypes := #[]
  staticTypes := #[]
  resolved := Array.replicate 8 none
  statics := none }

/-- the primitive byte -/
def k5 : Class := { plain "byte" none with kind := .primitive 'B', accessFlags := 0x411 }
/-- [B -/
def k6 : Class := { plain "[B" (some 0) with kind := .array 5 .byte, interfaces := #[3, 4], accessFlags := 1041 }

/-- the primitive int -/
def k7 : Class := { plain "int" none with kind := .primitive 'I', accessFlags := 0x411 }
/-- [I -/
def k8 : Class := { plain "[I" (some 0) with kind := .array 7 .int, interfaces := #[3, 4], accessFlags := 1041 }

def heap : Heap := #[]
def classes : Array Class := #[k0, k1, k2, k3, k4, k5, k6, k7, k8]
def interned : List (Array UInt16 × Addr) := []
def slotsUsed : Nat := 0
def theMethod : MethodId := ⟨1, 3⟩
def args0 : Array Value := #[.long 5, .int 7]
def aboutOver (below : List Frame) : State where
  vm := { classes := classes, interned := interned.toArray }
  heap := heap
  slotsUsed := slotsUsed
  threads := #[{ frames := .invoking theMethod args0 :: below }]
def below0 : List Frame := [.native { method := ⟨0, 0⟩, args := #[] }]
def about1 : State := aboutOver below0
def p0 : Program := .bare "" "" ""
def e0 : Env := launch0.env 0 0 0
theorem w_frames : about1.frames = Frame.invoking theMethod args0 :: below0 := rfl
set_option maxRecDepth 65536 in
theorem w_args : argsFit about1.vm theMethod args0 = true := by decide +kernel
set_option maxRecDepth 65536 in
theorem w_heap : heapFits about1 = true := by decide +kernel
set_option maxRecDepth 65536 in
theorem w_runnable : about1.curStatus? = some .runnable := by decide +kernel
set_option maxRecDepth 65536 in
theorem w_alone : about1.alone = true := by decide +kernel
set_option maxRecDepth 65536 in
theorem w_named : about1.methodNamed? x = some theMethod := by decide +kernel
set_option maxRecDepth 65536 in
theorem w_hears : about1.hears theMethod below0 = true := by decide +kernel
set_option maxRecDepth 65536 in
theorem w_ripe : about1.ripe theMethod args0 below0 = true := by decide +kernel
theorem w_running : about1.status = .running := rfl
set_option maxRecDepth 65536 in
theorem w_room : about1.hasRoom e0.platform room_1 = true :=
  launch0.hasRoom_least _ room_1 (by decide +kernel) (by decide +kernel) (by decide +kernel) (by decide +kernel) (by decide +kernel) (by decide +kernel)
theorem allAtoms_all (ts : List Jvm.Cond) (a : Array Jvm.Value) (st : Jvm.State) : (allAtoms ts).before a st = ts.all (fun c => c.before a st) := by
  induction ts with
  | nil => rfl
  | cons c t ih =>
    show (Jvm.Cond.and c (allAtoms t)).before a st = _
    rw [Jvm.Cond.before_and, ih, List.all_cons]
def words1 : List Jvm.Cond := Jvm.Cond.code x code maxLocals ret :: tables_1
/-- a 'code' word, met by the world's own term for the bytes: nothing is compared byte by byte -/
theorem code_word {y : MethodName} {bytes : ByteArray} {mx : Nat} {rt : Option FieldType} {a : Array Value} {s : State} {m : MethodId} {meth : Method} {c : Code} (h1 : s.methodNamed? y = some m) (h2 : s.vm.method? m = some meth) (h3 : meth.code = some c) (h4 : c.code = bytes)
    (h5 : (c.maxLocals == mx && c.exceptionTable.isEmpty && decide (c.maxStack ≤ mostOperands) && decide (meth.sig.returnType = rt) && !meth.locks && decide (parseMethodDescriptor y.desc = some meth.sig)) = true) : (Jvm.Cond.code y bytes mx rt).before a s = true := by
  simp only [Bool.and_eq_true, beq_iff_eq, Bool.not_eq_true', decide_eq_true_eq] at h5
  obtain ⟨⟨⟨⟨⟨g1, g2⟩, g3⟩, g4⟩, g5⟩, g6⟩ := h5
  simp [Cond.before, Cond.holds, Cond.value, h1, h2, h3, h4, g1, g2, g3, g4, g5, g6]
def isCode : Jvm.Cond → Bool
  | .code _ _ _ _ => true
  | _ => false
theorem all_split {L : List Jvm.Cond} {P : Jvm.Cond → Bool} (h1 : L.all (fun c => isCode c || P c) = true) (h2 : ∀ c ∈ L.filter isCode, P c = true) : L.all P = true := by
  refine List.all_eq_true.mpr fun c hc => ?_
  have h := List.all_eq_true.mp h1 c hc
  rcases Bool.eq_false_or_eq_true (isCode c) with hi | hi
  · exact h2 c (List.mem_filter.mpr ⟨hc, hi⟩)
  · simpa [hi] using h
set_option maxRecDepth 65536 in
theorem w_c0 : (Jvm.Cond.code x code maxLocals ret).before args0 about1 = true := code_word (m := ⟨1, 3⟩) (meth := k1m3) (c := k1c3) (by decide +kernel) rfl rfl rfl (by decide +kernel)
set_option maxRecDepth 65536 in
theorem w_c1 : (Jvm.Cond.code ({ cls := "com/example/penelope/penelope/KeysPastTenantPinLaw", name := "b", desc := "(JI)B" } : Jvm.MethodName) method_2_code (3 : Nat) (Option.some Jvm.ClassFile.FieldType.byte)).before args0 about1 = true := code_word (m := ⟨1, 1⟩) (meth := k1m1) (c := k1c1) (by decide +kernel) rfl rfl rfl (by decide +kernel)
set_option maxRecDepth 65536 in
theorem w_c2 : (Jvm.Cond.code ({ cls := "com/example/penelope/penelope/Keys", name := "pastTenant", desc := "([B)[B" } : Jvm.MethodName) prog_19_method_15_code (2 : Nat) (Option.some (Jvm.ClassFile.FieldType.array Jvm.ClassFile.FieldType.byte))).before args0 about1 = true := code_word (m := ⟨2, 1⟩) (meth := k2m1) (c := k2c1) (by decide +kernel) rfl rfl rfl (by decide +kernel)
set_option maxRecDepth 65536 in
theorem w_c3 : (Jvm.Cond.code ({ cls := "com/example/penelope/penelope/KeysPastTenantPinLaw", name := "same", desc := "([BJIB)Z" } : Jvm.MethodName) method_3_code (6 : Nat) (Option.some Jvm.ClassFile.FieldType.boolean)).before args0 about1 = true := code_word (m := ⟨1, 2⟩) (meth := k1m2) (c := k1c2) (by decide +kernel) rfl rfl rfl (by decide +kernel)
def codes1 : List Jvm.Cond := [Jvm.Cond.code x code maxLocals ret, Jvm.Cond.code ({ cls := "com/example/penelope/penelope/KeysPastTenantPinLaw", name := "b", desc := "(JI)B" } : Jvm.MethodName) method_2_code (3 : Nat) (Option.some Jvm.ClassFile.FieldType.byte), Jvm.Cond.code ({ cls := "com/example/penelope/penelope/Keys", name := "pastTenant", desc := "([B)[B" } : Jvm.MethodName) prog_19_method_15_code (2 : Nat) (Option.some (Jvm.ClassFile.FieldType.array Jvm.ClassFile.FieldType.byte)), Jvm.Cond.code ({ cls := "com/example/penelope/penelope/KeysPastTenantPinLaw", name := "same", desc := "([BJIB)Z" } : Jvm.MethodName) method_3_code (6 : Nat) (Option.some Jvm.ClassFile.FieldType.boolean)]
set_option maxRecDepth 65536 in
theorem codes_eq : words1.filter isCode = codes1 := rfl
theorem w_codes : ∀ c ∈ words1.filter isCode, c.before args0 about1 = true := by
  rw [codes_eq]
  intro c hc
  simp only [codes1, List.mem_cons, List.not_mem_nil, or_false] at hc
  rcases hc with rfl | rfl | rfl | rfl
  · exact w_c0
  · exact w_c1
  · exact w_c2
  · exact w_c3
set_option maxRecDepth 65536 in
theorem w_t1 : words1.all (fun c => isCode c || c.before args0 about1) = true := by decide +kernel
theorem w_tables : (allAtoms (Jvm.Cond.code x code maxLocals ret :: tables_1)).before args0 about1 = true := by
  rw [allAtoms_all]
  show words1.all (fun c => c.before args0 about1) = true
  refine all_split ?_ w_codes
  rw [w_t1]
set_option maxRecDepth 65536 in
theorem w_case : (Jvm.Cond.and given_1 narrow_1).before args0 about1 = true := by decide +kernel
theorem w_applies : (headSpec (Jvm.Cond.code x code maxLocals ret :: tables_1) room_1).applies x e0.platform about1 = true :=
  (Spec.applies_iff w_frames).mpr ⟨w_running, w_runnable, w_alone, w_named, w_hears, w_ripe, w_room, w_tables⟩
theorem atStart : AtStart classFile x code maxLocals ret World_1 tables_1 room_1 Calls_1 rest_1 Pre_1 launch0 p0 e0 about1 theMethod args0 below0 :=
  ⟨lists_1, trivial, launch0.admits_env _ _ _, launch0.least_env, fairChoices_fair.cas, fairChoices_fair.clock, w_frames, w_args, w_heap, w_applies, trivial, trivial, w_case⟩
end start1
theorem witness_1 : WitnessClaimed_1 := ⟨start1.p0, start1.e0, start1.about1, start1.theMethod, start1.args0, start1.below0, start1.atStart⟩
end Jvm.Pilot.@@N@@
