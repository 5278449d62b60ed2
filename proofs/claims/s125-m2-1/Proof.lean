import JvmDerived
import JvmDerived.Pilot.@@N@@Statement
import JvmDerived.Pilot.@@N@@Code
set_option linter.unusedVariables false
set_option linter.unusedSimpArgs false
namespace Jvm.RoadKit
open Sem ClassFile Op Lib Jvm.Stand Jvm.Free Jvm.LawKit
section Own
variable {p : Program} {l : Launch} {e : Env} {R : Room} {s : State} {m : MethodId} {args : Array Value} {below : List Frame} {meth : Method} {c : Code} {T : State} {locs : List Loc} {cells slots : Nat}
/-- from U the run ends, and Q holds of what it returns -/
def Outs (p : Program) (e : Env) (below : List Frame) (s : State) (Q : Option Value → Heap → List Loc → Prop) (C S : Nat) (U : State) : Prop :=
  ∃ s₂ o, Steps p.tables e below U s₂ ∧ s₂.status = .running ∧ Ended s₂ below o ∧ ∃ v L, o = .returned v ∧ Q v s₂.heap L ∧ FrameEnd s o s₂ L C S
variable {Q : Option Value → Heap → List Loc → Prop} {C S : Nat}
theorem Outs.of {U U' : State} (h : ∀ t, Steps p.tables e below U' t → Steps p.tables e below U t) (k : Outs p e below s Q C S U') : Outs p e below s Q C S U := by
  obtain ⟨t, o, st, r⟩ := k
  exact ⟨t, o, h t st, r⟩
theorem Outs.to {U U' : State} (h : Steps p.tables e below U U') (k : Outs p e below s Q C S U') : Outs p e below s Q C S U := by
  obtain ⟨t, o, st, r⟩ := k
  exact ⟨t, o, h.trans st, r⟩
theorem Outs.mono {U : State} {Q' : Option Value → Heap → List Loc → Prop} (k : Outs p e below s Q C S U) (h : ∀ v h L, Q v h L → Q' v h L) : Outs p e below s Q' C S U := by
  obtain ⟨t, o, st, h1, h2, v, L, h3, h4, h5⟩ := k
  exact ⟨t, o, st, h1, h2, v, L, h3, h _ _ _ h4, h5⟩
theorem Outs.ret (X : Stand p l e R s m args below meth c T locs cells slots) {g : JFrame} {v : Option Value} (hv : meth.sig.returnType = none → v = none) (hlk : meth.locks = false) (hC : cells ≤ C) (hS : slots ≤ S)
    (st : ∀ fs, (∀ (f : JFrame) (acts : List Action), f.method = m → f.locked = none → f.entered = [] → (doReturn e (T.setTop f) acts v).1 = T.setFrames fs) → Steps p.tables e below (T.setTop g) (T.setFrames fs))
    {h : Heap} (eT : T.heap = h) (q : Q v h locs) : Outs p e below s Q C S (T.setTop g) := by
  subst eT
  obtain ⟨fs, hr, hrun, hended, hW, hsame⟩ := X.leave (v := v) hv hlk
  exact ⟨_, _, st fs hr, hrun, hended, v, locs, rfl, q, ⟨_, rfl⟩, hW, hsame.mono hC hS⟩
theorem Outs.retI (X : Stand p l e R s m args below meth c T locs cells slots) (hx : p.tables.exec = Jvm.exec) {pc : Nat} {Ls : Array Slot} {z : Int32} {rest : List Value} (hret : meth.sig.returnType = some .int) (hd : decode c.code pc = .ok (.ireturn, 1)) (hlk : meth.locks = false) (hC : cells ≤ C) (hS : slots ≤ S)
    {h : Heap} (eT : T.heap = h) (q : Q (some (.int z)) h locs) : Outs p e below s Q C S (T.setTop (mkF m pc Ls (.int z :: rest))) :=
  Outs.ret X (fun h => by rw [hret] at h; cases h) hlk hC hS (fun fs hl => retOut X hx hret rfl (Or.inl ⟨rfl, Or.inl rfl, z, rfl⟩) hd hl) eT q
theorem Outs.retL (X : Stand p l e R s m args below meth c T locs cells slots) (hx : p.tables.exec = Jvm.exec) {pc : Nat} {Ls : Array Slot} {z : Int64} {rest : List Value} (hret : meth.sig.returnType = some .long) (hd : decode c.code pc = .ok (.lreturn, 1)) (hlk : meth.locks = false) (hC : cells ≤ C) (hS : slots ≤ S)
    {h : Heap} (eT : T.heap = h) (q : Q (some (.long z)) h locs) : Outs p e below s Q C S (T.setTop (mkF m pc Ls (.long z :: rest))) :=
  Outs.ret X (fun h => by rw [hret] at h; cases h) hlk hC hS (fun fs hl => retOut X hx hret rfl (Or.inr (Or.inl ⟨rfl, rfl, z, rfl⟩)) hd hl) eT q
theorem Outs.retN (X : Stand p l e R s m args below meth c T locs cells slots) (hx : p.tables.exec = Jvm.exec) {pc : Nat} {Ls : Array Slot} {z : Int32} {t : FieldType} {rest : List Value} (hret : meth.sig.returnType = some t) (ht : t = .boolean ∨ t = .byte ∨ t = .char ∨ t = .short) (hd : decode c.code pc = .ok (.ireturn, 1)) (hlk : meth.locks = false) (hC : cells ≤ C) (hS : slots ≤ S)
    {h : Heap} (eT : T.heap = h) (q : Q (some (.int (nar t z))) h locs) : Outs p e below s Q C S (T.setTop (mkF m pc Ls (.int z :: rest))) :=
  Outs.ret X (fun h => by rw [hret] at h; cases h) hlk hC hS (fun fs hl => Jvm.RoadKit.retN X hx hret ht hd hl) eT q
theorem Outs.retV (X : Stand p l e R s m args below meth c T locs cells slots) (hx : p.tables.exec = Jvm.exec) {pc : Nat} {Ls : Array Slot} (hret : meth.sig.returnType = none) (hd : decode c.code pc = .ok (.return_, 1)) (hlk : meth.locks = false) (hC : cells ≤ C) (hS : slots ≤ S)
    {h : Heap} (eT : T.heap = h) (q : Q none h locs) : Outs p e below s Q C S (T.setTop (mkF m pc Ls [])) :=
  Outs.ret X (fun _ => rfl) hlk hC hS (fun fs hl => X.returnOut hx hret hd hl) eT q
theorem Outs.retA (X : Stand p l e R s m args below meth c T locs cells slots) (hx : p.tables.exec = Jvm.exec) {pc : Nat} {Ls : Array Slot} {w : Value} {t : FieldType} {rest : List Value} (hret : meth.sig.returnType = some t) (ht : t.isReference = true) (hw : w.isRef = true) (hn : narrow t w = w) (hd : decode c.code pc = .ok (.areturn, 1)) (hlk : meth.locks = false) (hC : cells ≤ C) (hS : slots ≤ S)
    {h : Heap} (eT : T.heap = h) (q : Q (some w) h locs) : Outs p e below s Q C S (T.setTop (mkF m pc Ls (w :: rest))) :=
  Outs.ret X (fun h => by rw [hret] at h; cases h) hlk hC hS (fun fs hl => retOut X hx hret hn (Or.inr (Or.inr (Or.inr (Or.inr ⟨rfl, ht, hw⟩)))) hd hl) eT q
theorem lremM {g : JFrame} {target : State} (X : Stand p l e R s m args below meth c T locs cells slots) (hx : p.tables.exec = Jvm.exec) (hg : g.method = m) {x y : Int64} {rest : List Value} (hd : decode c.code g.pc = .ok (.lrem, 1)) (hs : g.stack = .long y :: .long x :: rest) (hy : y ≠ 0)
    (hr : Steps p.tables e below (T.setTop { g with pc := g.pc + 1, stack := .long (x % y) :: rest }) target) : Steps p.tables e below (T.setTop g) target :=
  XS.lrem X.here hx hg hd hs hy (by rw [lrem_mod]; exact hr)
/-- a body that returns v and leaves the heap as it was -/
def QR (z : Option Value) (h0 : Heap) (n0 : Nat) (v : Option Value) (h : Heap) (L : List Loc) : Prop := v = z ∧ Fr n0 L ∧ h = h0
/-- the law's own -/
def QL (n0 : Nat) (v : Option Value) (h : Heap) (L : List Loc) : Prop := v = some (.int 1) ∧ Fr n0 L
end Own
end Jvm.RoadKit
namespace Jvm.RoadKit
open Sem ClassFile Op Lib Jvm.Stand Jvm.Free Jvm.LawKit
section OwnHeap
variable {p : Program} {l : Launch} {e : Env} {R : Room} {s : State} {m : MethodId} {args : Array Value} {below : List Frame} {meth : Method} {c : Code} {T : State} {locs : List Loc} {cells slots : Nat} {Z : State} {a0 : Array Value} {h h' : Heap} {a b : Addr} {ty : FieldType} {n : Nat}
def upv {α : Type} (g : Nat → α) (k : Nat) (v : α) : Nat → α := fun j => if j = k then v else g j
theorem upv_same {α : Type} (g : Nat → α) (k : Nat) (v : α) : upv g k v k = v := if_pos rfl
theorem upv_ne {α : Type} (g : Nat → α) {k j : Nat} (v : α) (q : j ≠ k) : upv g k v j = g j := if_neg q
/-- an array of n places; place j holds f j -/
def AF (Z : State) (h : Heap) (a : Addr) (ty : FieldType) (n : Nat) (f : Nat → Value) : Prop :=
  ∃ c : Cell, Arr Z h a c ty ∧ c.slots.size = n ∧ n < 2147483648 ∧ ∀ j, j < n → c.slots[j]? = some (f j)
def AI (Z : State) (h : Heap) (a : Addr) (ty : FieldType) (n : Nat) (g : Nat → Int32) : Prop := AF Z h a ty n (fun j => .int (g j))
def AJ (Z : State) (h : Heap) (a : Addr) (ty : FieldType) (n : Nat) (g : Nat → Int64) : Prop := AF Z h a ty n (fun j => .long (g j))
theorem AF.lt {f : Nat → Value} (F : AF Z h a ty n f) : a < h.size := by obtain ⟨c, A, -⟩ := F; exact A.lt
theorem AF.ext {f : Nat → Value} (F : AF Z h a ty n f) (E : Ext h h') : AF Z h' a ty n f := by obtain ⟨c, A, r⟩ := F; exact ⟨c, A.ext E, r⟩
theorem AF.other {f : Nat → Value} {sl : Nat} {v : Value} (F : AF Z h b ty n f) (W : Wr h h' a sl v) (q : b ≠ a) : AF Z h' b ty n f := by obtain ⟨c, A, r⟩ := F; exact ⟨c, A.other W q, r⟩
theorem AF.keep {f : Nat → Value} {ws : List Addr} (F : AF Z h a ty n f) (K : Keep h h' ws) (q : a ∉ ws) : AF Z h' a ty n f := by obtain ⟨c, A, r⟩ := F; exact ⟨c, ⟨K.2.1 a c A.1 q, A.2⟩, r⟩
theorem AF.len {f : Nat → Value} (F : AF Z h a ty n f) : n < 2147483648 := by obtain ⟨c, A, -, M, -⟩ := F; exact M
theorem AF.cong {f f' : Nat → Value} (F : AF Z h a ty n f) (q : ∀ j, j < n → f j = f' j) : AF Z h a ty n f' := by
  obtain ⟨c, A, S, M, G⟩ := F
  exact ⟨c, A, S, M, fun j hj => by rw [← q j hj]; exact G j hj⟩
theorem AI.cong {g g' : Nat → Int32} (F : AI Z h a ty n g) (q : ∀ j, j < n → g j = g' j) : AI Z h a ty n g' := AF.cong F fun j hj => by rw [q j hj]
theorem AJ.cong {g g' : Nat → Int64} (F : AJ Z h a ty n g) (q : ∀ j, j < n → g j = g' j) : AJ Z h a ty n g' := AF.cong F fun j hj => by rw [q j hj]
theorem own_nat {j : Int32} {k : Nat} (hk : j.toInt = k) : j.toNatClampNeg = k := by
  show j.toInt.toNat = k
  rw [hk]; rfl
theorem own_in {cl : Cell} {j : Int32} {k : Nat} (S : cl.slots.size = n) (hk : j.toInt = k) (hn : k < n) : ¬ (j < 0 ∨ cl.slots.size ≤ j.toNatClampNeg) := by
  rw [own_nat hk, S, Int32.lt_iff_toInt_lt, hk]
  have : (0 : Int32).toInt = 0 := rfl
  omega
theorem AF.set {f : Nat → Value} {k : Nat} {v : Value} (F : AF Z h a ty n f) (W : Wr h h' a k v) : AF Z h' a ty n (upv f k v) := by
  obtain ⟨c, A, S, M, G⟩ := F
  refine ⟨c.setSlot k v, A.same W, by rw [sz_set]; exact S, M, fun j hj => ?_⟩
  have hz : j < c.slots.size := by omega
  simp only [Cell.setSlot, upv, Array.getElem?_setIfInBounds]
  by_cases q : j = k
  · subst q; simp [hz]
  · rw [if_neg (Ne.symm q), if_neg q]; exact G j hj
theorem AI.set {g : Nat → Int32} {k : Nat} {x : Int32} (F : AI Z h a ty n g) (W : Wr h h' a k (.int x)) : AI Z h' a ty n (upv g k x) :=
  AF.cong (AF.set F W) fun j _ => by simp only [upv]; split <;> rfl
theorem AJ.set {g : Nat → Int64} {k : Nat} {x : Int64} (F : AJ Z h a ty n g) (W : Wr h h' a k (.long x)) : AJ Z h' a ty n (upv g k x) :=
  AF.cong (AF.set F W) fun j _ => by simp only [upv]; split <;> rfl
theorem AF.fresh {k : ClassId} {z : Int32} {i : Nat} (A : Arr Z h a (newA k ty z) ty) (q : z.toInt = i) : AF Z h a ty i (fun _ => defaultValue ty) := by
  have S : (newA k ty z).slots.size = i := by rw [sz_new, own_nat q]
  refine ⟨_, A, S, ?_, fun j hj => ?_⟩
  · have := z.toInt_lt; omega
  · have hz : j < (newA k ty z).slots.size := by omega
    simp only [newA] at hz ⊢
    rw [Array.getElem?_eq_getElem hz]; simp
section Loads
theorem ldI (X : Stand p l e R s m args below meth c T locs cells slots) (hx : p.tables.exec = Jvm.exec) (hZ : Z.Warmed39 s.vm) (eT : T.heap = h) {g : Nat → Int32} (F : AI Z h a .int n g) {j : Int32} {k : Nat} (hk : j.toInt = k) (hn : k < n) {f : JFrame} (hg : f.method = m) {rest : List Value} (hs : f.stack = .int j :: .ref a :: rest) (hd : decode c.code f.pc = .ok (.iaload, 1)) :
    ∀ target, Steps p.tables e below (T.setTop { f with pc := f.pc + 1, stack := .int (g k) :: rest }) target → Steps p.tables e below (T.setTop f) target := by
  obtain ⟨cl, A, S, M, G⟩ := F
  intro target kt
  exact X.iaload hx (by rw [eT]; exact A.1) (State.isArrayOf_alike hZ.alike A.2.1) A.2.2 (own_in S hk hn) (by rw [own_nat hk]; exact G k hn) hg hs hd target kt
theorem ldB (X : Stand p l e R s m args below meth c T locs cells slots) (hx : p.tables.exec = Jvm.exec) (hZ : Z.Warmed39 s.vm) (eT : T.heap = h) {g : Nat → Int32} (F : AI Z h a .byte n g) {j : Int32} {k : Nat} (hk : j.toInt = k) (hn : k < n) {f : JFrame} (hg : f.method = m) {rest : List Value} (hs : f.stack = .int j :: .ref a :: rest) (hd : decode c.code f.pc = .ok (.baload, 1)) :
    ∀ target, Steps p.tables e below (T.setTop { f with pc := f.pc + 1, stack := .int (g k) :: rest }) target → Steps p.tables e below (T.setTop f) target := by
  obtain ⟨cl, A, S, M, G⟩ := F
  intro target kt
  exact X.baloadBytes hx (by rw [eT]; exact A.1) (State.isArrayOf_alike hZ.alike A.2.1) A.2.2 (own_in S hk hn) (by rw [own_nat hk]; exact G k hn) hg hs hd target kt
theorem ldJ (X : Stand p l e R s m args below meth c T locs cells slots) (hx : p.tables.exec = Jvm.exec) (hZ : Z.Warmed39 s.vm) (eT : T.heap = h) {g : Nat → Int64} (F : AJ Z h a .long n g) {j : Int32} {k : Nat} (hk : j.toInt = k) (hn : k < n) {f : JFrame} (hg : f.method = m) {rest : List Value} (hs : f.stack = .int j :: .ref a :: rest) (hd : decode c.code f.pc = .ok (.laload, 1)) :
    ∀ target, Steps p.tables e below (T.setTop { f with pc := f.pc + 1, stack := .long (g k) :: rest }) target → Steps p.tables e below (T.setTop f) target := by
  obtain ⟨cl, A, S, M, G⟩ := F
  intro target kt
  exact X.laload hx (by rw [eT]; exact A.1) (State.isArrayOf_alike hZ.alike A.2.1) A.2.2 (own_in S hk hn) (by rw [own_nat hk]; exact G k hn) hg hs hd target kt
theorem ldR (X : Stand p l e R s m args below meth c T locs cells slots) (hx : p.tables.exec = Jvm.exec) (hZ : Z.Warmed39 s.vm) (eT : T.heap = h) {g : Nat → Value} (F : AF Z h a ty n g) (hty : ty.isReference = true) {j : Int32} {k : Nat} (hk : j.toInt = k) (hn : k < n) {f : JFrame} (hg : f.method = m) {rest : List Value} (hs : f.stack = .int j :: .ref a :: rest) (hd : decode c.code f.pc = .ok (.aaload, 1)) :
    ∀ target, Steps p.tables e below (T.setTop { f with pc := f.pc + 1, stack := g k :: rest }) target → Steps p.tables e below (T.setTop f) target := by
  obtain ⟨cl, A, S, M, G⟩ := F
  intro target kt
  exact X.aaload hx (by rw [eT]; exact A.1) (State.isArrayOf_alike hZ.alike A.2.1) hty A.2.2 (own_in S hk hn) (by rw [own_nat hk]; exact G k hn) hg hs hd target kt
theorem alen (X : Stand p l e R s m args below meth c T locs cells slots) (hx : p.tables.exec = Jvm.exec) (hZ : Z.Warmed39 s.vm) (eT : T.heap = h) {g : Nat → Value} (F : AF Z h a ty n g) {z : Int32} (hz : z.toInt = n) {f : JFrame} (hg : f.method = m) {rest : List Value} (hs : f.stack = .ref a :: rest) (hd : decode c.code f.pc = .ok (.arraylength, 1)) :
    ∀ target, Steps p.tables e below (T.setTop { f with pc := f.pc + 1, stack := .int z :: rest }) target → Steps p.tables e below (T.setTop f) target := by
  obtain ⟨cl, A, S, M, G⟩ := F
  intro target kt
  have h0 : ¬ z < 0 := by
    rw [Int32.lt_iff_toInt_lt, hz]
    have : (0 : Int32).toInt = 0 := rfl
    omega
  have q : cl.slots.size.toInt32 = z := by rw [S, ← own_nat hz]; exact (back32 h0).1
  refine X.arraylength hx (by rw [eT]; exact A.1) (State.isArrayOf_alike hZ.alike A.2.1) hg hs hd target ?_
  rw [q]; exact kt
end Loads
section Stores
theorem puI (X : Stand p l e R s m args below meth c T locs cells slots) (hx : p.tables.exec = Jvm.exec) (hZ : Z.Warmed39 s.vm) (eT : T.heap = h) {g : Nat → Int32} (F : AI Z h a .int n g) {j x : Int32} {k : Nat} (hk : j.toInt = k) (hn : k < n) {f : JFrame} (hg : f.method = m) {rest : List Value} (hs : f.stack = .int x :: .int j :: .ref a :: rest) (hd : decode c.code f.pc = .ok (.iastore, 1)) :
    ∃ T' h', Stand p l e R s m args below meth c T' (locs ++ [⟨a, k⟩]) cells slots ∧ T'.heap = h' ∧ Wr h h' a k (.int x) ∧ AI Z h' a .int n (upv g k x) ∧ ∀ target, Steps p.tables e below (T'.setTop { f with pc := f.pc + 1, stack := rest }) target → Steps p.tables e below (T.setTop f) target := by
  obtain ⟨cl, A, S, M, G⟩ := id F
  obtain ⟨T', h', X', e', W, st⟩ := stI X hx hZ eT A (j := j) (own_in S hk hn) hg hs hd
  rw [own_nat hk] at X' W
  exact ⟨T', h', X', e', W, AI.set F W, st⟩
theorem puB (X : Stand p l e R s m args below meth c T locs cells slots) (hx : p.tables.exec = Jvm.exec) (hZ : Z.Warmed39 s.vm) (eT : T.heap = h) {g : Nat → Int32} (F : AI Z h a .byte n g) {j x : Int32} {k : Nat} (hk : j.toInt = k) (hn : k < n) {f : JFrame} (hg : f.method = m) {rest : List Value} (hs : f.stack = .int x :: .int j :: .ref a :: rest) (hd : decode c.code f.pc = .ok (.bastore, 1)) :
    ∃ T' h', Stand p l e R s m args below meth c T' (locs ++ [⟨a, k⟩]) cells slots ∧ T'.heap = h' ∧ Wr h h' a k (.int x.toInt8.toInt32) ∧ AI Z h' a .byte n (upv g k x.toInt8.toInt32) ∧ ∀ target, Steps p.tables e below (T'.setTop { f with pc := f.pc + 1, stack := rest }) target → Steps p.tables e below (T.setTop f) target := by
  obtain ⟨cl, A, S, M, G⟩ := id F
  obtain ⟨T', h', X', e', W, st⟩ := stB X hx hZ eT A (j := j) (own_in S hk hn) hg hs hd
  rw [own_nat hk] at X' W
  exact ⟨T', h', X', e', W, AI.set F W, st⟩
theorem puJ (X : Stand p l e R s m args below meth c T locs cells slots) (hx : p.tables.exec = Jvm.exec) (hZ : Z.Warmed39 s.vm) (eT : T.heap = h) {g : Nat → Int64} (F : AJ Z h a .long n g) {j : Int32} {x : Int64} {k : Nat} (hk : j.toInt = k) (hn : k < n) {f : JFrame} (hg : f.method = m) {rest : List Value} (hs : f.stack = .long x :: .int j :: .ref a :: rest) (hd : decode c.code f.pc = .ok (.lastore, 1)) :
    ∃ T' h', Stand p l e R s m args below meth c T' (locs ++ [⟨a, k⟩]) cells slots ∧ T'.heap = h' ∧ Wr h h' a k (.long x) ∧ AJ Z h' a .long n (upv g k x) ∧ ∀ target, Steps p.tables e below (T'.setTop { f with pc := f.pc + 1, stack := rest }) target → Steps p.tables e below (T.setTop f) target := by
  obtain ⟨cl, A, S, M, G⟩ := id F
  obtain ⟨T', h', X', e', W, st⟩ := stJ X hx hZ eT A (j := j) (own_in S hk hn) hg hs hd
  rw [own_nat hk] at X' W
  exact ⟨T', h', X', e', W, AJ.set F W, st⟩
theorem puR (X : Stand p l e R s m args below meth c T locs cells slots) (hx : p.tables.exec = Jvm.exec) (hZ : Z.Warmed39 s.vm) (eT : T.heap = h) {g : Nat → Value} (F : AF Z h a ty n g) (hty : ty.isReference = true) {j : Int32} {x : Value} (O : Sto Z h a x) {k : Nat} (hk : j.toInt = k) (hn : k < n) {f : JFrame} (hg : f.method = m) {rest : List Value} (hs : f.stack = x :: .int j :: .ref a :: rest) (hd : decode c.code f.pc = .ok (.aastore, 1)) :
    ∃ T' h', Stand p l e R s m args below meth c T' (locs ++ [⟨a, k⟩]) cells slots ∧ T'.heap = h' ∧ Wr h h' a k x ∧ AF Z h' a ty n (upv g k x) ∧ ∀ target, Steps p.tables e below (T'.setTop { f with pc := f.pc + 1, stack := rest }) target → Steps p.tables e below (T.setTop f) target := by
  obtain ⟨cl, A, S, M, G⟩ := id F
  obtain ⟨T', h', X', e', W, st⟩ := stR X hx hZ eT A (j := j) (own_in S hk hn) hty O hg hs hd
  rw [own_nat hk] at X' W
  exact ⟨T', h', X', e', W, AF.set F W, st⟩
theorem newAF (X : Stand p l e R s m args below meth c T locs cells slots) (hx : p.tables.exec = Jvm.exec) (hZ : Z.Warmed39 s.vm) {aty : ArrayType} (w : (Cond.arrayClass (newarray.typeOf aty)).before a0 Z = true) (eT : T.heap = h) {f : JFrame} (hg : f.method = m) (hd : decode c.code f.pc = .ok (.newarray aty, 2)) {z : Int32} {rest : List Value} (hs : f.stack = .int z :: rest)
    {k : Nat} (hk : z.toInt = k) {cap : Nat} (hcap : k ≤ cap) (hb : cap * 8 ≤ 536870912) (hc : cells + 1 ≤ R.cells) (hl : slots + cap ≤ R.slots) :
    ∃ T' h', Stand p l e R s m args below meth c T' locs (cells + 1) (slots + cap) ∧ T'.heap = h' ∧ Ext h h' ∧ AF Z h' h.size (newarray.typeOf aty) k (fun _ => defaultValue (newarray.typeOf aty)) ∧
      ∀ target, Steps p.tables e below (T'.setTop { f with pc := f.pc + 2, stack := .ref h.size :: rest }) target → Steps p.tables e below (T.setTop f) target := by
  have h0 : ¬ z < 0 := by
    rw [Int32.lt_iff_toInt_lt, hk]
    have : (0 : Int32).toInt = 0 := rfl
    omega
  obtain ⟨T', h', cA, X', e', E, A, st⟩ := newP X hx hZ w eT hg hd hs h0 (cap := cap) (by rw [own_nat hk]; exact hcap) hb hc hl
  exact ⟨T', h', X', e', E, AF.fresh A hk, st⟩
end Stores
theorem hide (X : Stand p l e R s m args below meth c T locs cells slots) {n0 : Nat} (N : Fr n0 locs) {C S : Nat} (hc : cells ≤ C) (hs : slots ≤ S) : ∃ L, Stand p l e R s m args below meth c T L C S ∧ Fr n0 L := ⟨locs, X.more hc hs, N⟩
theorem own_selects {args' : Array Value} {U : State} {y : MethodName} {k : Nat} (wi : (Cond.instantiable y.cls k).before args' U = true) (hpriv : U.PrivateAt y) (hinst : (Cond.instanceMethod y).before args' U = true) (hy : y.cls ≠ "java/lang/invoke/MethodHandle" ∧ y.cls ≠ "java/lang/invoke/VarHandle") : (Cond.selects y.cls y y).before args' U = true := by
  obtain ⟨c1, k1, i1, i2, -, i3, -⟩ := Cond.instantiable_spec wi
  have hni : k1.isInterface = false := by cases q : k1.isInterface <;> simp [q] at i3 ⊢
  exact Jvm.Stand.selects_self_of_private i1 i2 hni hpriv hinst hy
theorem isRef_cat {w : Value} (q : w.isRef = true) : w.category = 1 := by
  rcases ref_cases q with rfl | ⟨x, rfl⟩ <;> rfl
theorem mem1 {α : Type} (x : α) (L : List α) : x ∈ x :: L := List.mem_cons_self
theorem mem2 {α : Type} (x y : α) (L : List α) : x ∈ y :: x :: L := List.mem_cons_of_mem _ List.mem_cons_self
end OwnHeap
end Jvm.RoadKit
namespace Jvm.RoadKit
open Sem ClassFile Op Lib Jvm.Stand Jvm.Free Jvm.LawKit
section Own4
variable {p : Program} {l : Launch} {e : Env} {R : Room} {s : State} {m : MethodId} {args : Array Value} {below : List Frame} {meth : Method} {c : Code} {T : State} {locs : List Loc} {cells slots : Nat} {Z : State} {a0 : Array Value} {h h' : Heap} {a b y : Addr} {n : Nat} {C : String}
/-- the array at a takes objects of the class C -/
def OvA (Z : State) (h : Heap) (a : Addr) (C : String) : Prop := ∃ cl : Cell, h[a]? = some cl ∧ Ovr Z cl.cls C
theorem OvA.ext (F : OvA Z h a C) (E : Ext h h') : OvA Z h' a C := by obtain ⟨cl, q, r⟩ := F; exact ⟨cl, E.2 _ _ q, r⟩
theorem OvA.wr {sl : Nat} {v : Value} (F : OvA Z h a C) (W : Wr h h' b sl v) : OvA Z h' a C := by
  obtain ⟨cl, q, r⟩ := F
  obtain ⟨d1, a1, a2, -⟩ := wr_at W q
  exact ⟨d1, a1, by rw [a2]; exact r⟩
theorem OvA.keep {ws : List Addr} (F : OvA Z h a C) (K : Keep h h' ws) : OvA Z h' a C := by
  obtain ⟨cl, q, r⟩ := F
  obtain ⟨c', q1, r1, -⟩ := K.2.2 a cl q
  exact ⟨c', q1, by rw [r1]; exact r⟩
theorem OvA.sto {ty : FieldType} {g : Nat → Value} (O : OvA Z h a C) (F : AF Z h a ty n g) (I : Ins Z h y C true) : Sto Z h a (.ref y) := by
  obtain ⟨cl, q, r⟩ := O
  obtain ⟨cl', A, -⟩ := F
  cases q.symm.trans A.1
  exact Sto.of A r I
theorem AF.neT {t1 t2 : FieldType} {n' : Nat} {f g : Nat → Value} (F : AF Z h a t1 n f) (G : AF Z h b t2 n' g) (ht : t1 ≠ t2) : a ≠ b := by
  rintro rfl
  obtain ⟨c1, A, -⟩ := F
  obtain ⟨c2, B, -⟩ := G
  cases A.1.symm.trans B.1
  obtain ⟨-, k, q1, comp, q2⟩ := A.2.1
  obtain ⟨-, k', q3, comp', q4⟩ := B.2.1
  cases q1.symm.trans q3
  have q := q2.symm.trans q4
  cases q
  exact ht rfl
theorem newRF (X : Stand p l e R s m args below meth c T locs cells slots) (hx : p.tables.exec = Jvm.exec) (hZ : Z.Warmed39 s.vm) {own : String} {index : Nat} (hown : s.vm.findClass own = some m.cls) (w1 : (Cond.classLink own index C).before a0 Z = true) (w2 : (Cond.arrayOver (.object C)).before a0 Z = true) (eT : T.heap = h) {f : JFrame} (hg : f.method = m) (hd : decode c.code f.pc = .ok (.anewarray index, 3)) {z : Int32} {rest : List Value} (hs : f.stack = .int z :: rest)
    {k : Nat} (hk : z.toInt = k) {cap : Nat} (hcap : k ≤ cap) (hb : cap * 8 ≤ 536870912) (hc : cells + 1 ≤ R.cells) (hl : slots + cap ≤ R.slots) :
    ∃ T' h', Stand p l e R s m args below meth c T' locs (cells + 1) (slots + cap) ∧ T'.heap = h' ∧ Ext h h' ∧ AF Z h' h.size (.object C) k (fun _ => .null) ∧ OvA Z h' h.size C ∧
      ∀ target, Steps p.tables e below (T'.setTop { f with pc := f.pc + 3, stack := .ref h.size :: rest }) target → Steps p.tables e below (T.setTop f) target := by
  have h0 : ¬ z < 0 := by
    rw [Int32.lt_iff_toInt_lt, hk]
    have : (0 : Int32).toInt = 0 := rfl
    omega
  obtain ⟨T', h', cA, X', e', E, A, O, st⟩ := newR X hx hZ hown w1 w2 eT hg hd hs h0 (cap := cap) (by rw [own_nat hk]; exact hcap) hb hc hl
  exact ⟨T', h', X', e', E, AF.fresh A hk, ⟨_, A.1, O⟩, st⟩
/-- as Outs; the end under the wide word: a String constant may have been made on the way -/
def OutsW (p : Program) (e : Env) (below : List Frame) (s : State) (Q : Option Value → Heap → List Loc → Prop) (C S : Nat) (U : State) : Prop :=
  ∃ s₂ o, Steps p.tables e below U s₂ ∧ s₂.status = .running ∧ Ended s₂ below o ∧ ∃ v L, o = .returned v ∧ Q v s₂.heap L ∧ ReturnedEndW s o s₂ L C S
variable {Q : Option Value → Heap → List Loc → Prop} {C' S : Nat}
theorem OutsW.of {U U' : State} (h : ∀ t, Steps p.tables e below U' t → Steps p.tables e below U t) (k : OutsW p e below s Q C' S U') : OutsW p e below s Q C' S U := by
  obtain ⟨t, o, st, r⟩ := k
  exact ⟨t, o, h t st, r⟩
theorem OutsW.to {U U' : State} (h : Steps p.tables e below U U') (k : OutsW p e below s Q C' S U') : OutsW p e below s Q C' S U := by
  obtain ⟨t, o, st, r⟩ := k
  exact ⟨t, o, h.trans st, r⟩
/-- the law's own, with the heap's size -/
def QW (n0 k1 : Nat) (v : Option Value) (h : Heap) (L : List Loc) : Prop := (v = some (.int 1) ∧ Fr n0 L) ∧ k1 ≤ h.size
/-- behind the constant the walk goes on over the start with the tables at hand -/
theorem OutsW.fr {vm₁ : Vm} {k1 n0 : Nat} (hS : s.Since vm₁ k1) {U : State} (k : Outs p e below (s.setVm vm₁) (QW n0 k1) C' S U) : OutsW p e below s (QL n0) C' S U := by
  obtain ⟨t, o, st, h1, h2, v, L, h3, ⟨q, hk⟩, h5⟩ := k
  obtain ⟨a, b, c'⟩ := hS.ended (U := t) h5.2.1 hk h5.2.2
  exact ⟨t, o, st, h1, h2, v, L, h3, q, h5.1, a, b, c'⟩
end Own4
end Jvm.RoadKit
namespace Jvm.Pilot.@@N@@
open Jvm Jvm.ClassFile Sem Op Lib Jvm.Free Jvm.Stand Jvm.LawKit Jvm.RoadKit Bundle Jvm.Pilot.@@N@@.Jvm.D
theorem own_str : ∀ w ∈ Bundle.stringAtoms, w ∈ tables_1 := by decide +kernel
def own_k (x : Int32) : Nat := x.toInt.toNat
theorem ef_2 (m : MethodId) (x0 : Addr) : entryFrame m #[(.ref x0)] 1 = mkF m 0 #[.val (.ref x0)] [] := by first | (simp [entryFrame, mkF, argsToLocals, Value.category]; done) | rfl
theorem d2_0 : decode jdk_30_method_1_code 0 = .ok (.aload_n 0, 1) := by decide +kernel
theorem d2_1 : decode jdk_30_method_1_code 1 = .ok (.invokespecial 1, 3) := by decide +kernel
theorem d2_4 : decode jdk_30_method_1_code 4 = .ok (.return_, 1) := by decide +kernel
theorem pn_2 : plainName "java/lang/Record" = true := by first | (simp [plainName, overriddenIn]; done) | decide +kernel
set_option maxRecDepth 65536 in
set_option maxHeartbeats 40000000 in
theorem rm2 (l : Launch) (Z : State) (a0 : Array Value) (hw : ∀ d ∈ tables_1, d.before a0 Z = true) (ws : List Jvm.Cond) (o0 : Addr)  (h0 : Heap) (n0 : Nat)  :
    MetFree l (⟨"java/lang/Record", "<init>", "()V"⟩ : MethodName) (head1 (Jvm.Cond.code (⟨"java/lang/Record", "<init>", "()V"⟩ : MethodName) jdk_30_method_1_code 1 none :: ws) ({ frames := 1, cells := 0, slots := 0, locals := 12 } : Room)) (fun a U => a = #[(.ref o0)] ∧ Z.Warmed39 U.vm ∧ U.heap = h0) (fun _ _ _ _ _ => True) (fun _ U o U' => ∃ v L, o = .returned v ∧ QR (none) h0 n0 v U'.heap L ∧ FrameEnd U o U' L ({ frames := 1, cells := 0, slots := 0, locals := 12 } : Room).cells ({ frames := 1, cells := 0, slots := 0, locals := 12 } : Room).slots) := by
  refine MetFree.of_bodySF (plainFor_of_name pn_2) hisR ?_
  intro p e s m args below meth c s₁ Bd hml0 hP hK
  obtain ⟨rfl, hZ, hh⟩ := hP
  have hx := Bd.exec
  have hby := Bd.bytes
  have hml : c.maxLocals = 1 := hml0
  have hown : s.vm.findClass "java/lang/Record" = some m.cls := findClass_of_methodNamed Bd.named
  have hnm := (name_of_methodNamed Bd.named Bd.method).1
  have hret := Bd.returns
  have hlk : meth.locks = false := BodyLoose.notSynchronized Bd
  have X0 : Stand p l e ({ frames := 1, cells := 0, slots := 0, locals := 12 } : Room) s m #[(.ref o0)] below meth c s₁ [] 0 0 := Stand.of_body Bd
  have e0 : s₁.heap = h0 := by rw [← hh, Bd.state]; rfl
  have N0 := Fr.nil n0
  show Outs p e below s (QR (none) h0 n0) _ _ _
  refine Outs.of (U' := s₁.setTop (mkF m 0 #[.val (.ref o0)] [])) (fun t k => castTop (ef_2 m o0) k) ?_
  refine Outs.of (U' := s₁.setTop (mkF m 1 #[.val (.ref o0)] [(.ref o0)])) (fun t k => ?_) ?_
  · refine XS.aloadN X0.here hx rfl (hb hby d2_0) rfl rfl ?_
    exact k
  obtain ⟨T1, X1, e1, st1⟩ := initO X0 hx hZ hown (hw _ (List.mem_of_getElem? (i := 20) rfl)) (hw _ (List.mem_of_getElem? (i := 21) rfl)) (hw _ (List.mem_of_getElem? (i := 22) rfl)) e0 (g := (mkF m 1 #[.val (.ref o0)] [(.ref o0)])) rfl (by rw [hml]; rfl) rfl (hb hby d2_1) (by decide) (W := 0) (by show 2 * 0 + _ ≤ _; exact Nat.le_of_eq rfl) (by decide)
  refine Outs.of st1 ?_
  exact Outs.retV X1 hx hret (hb hby d2_4) hlk (by decide) (by decide) e1 ⟨rfl, N0, rfl⟩
theorem ef_1 (m : MethodId) (x0 : Addr) (x1 : Addr) : entryFrame m #[(.ref x0), (.ref x1)] 2 = mkF m 0 #[.val (.ref x0), .val (.ref x1)] [] := by first | (simp [entryFrame, mkF, argsToLocals, Value.category]; done) | rfl
theorem d1_0 : decode prog_46_method_1_code 0 = .ok (.aload_n 0, 1) := by decide +kernel
theorem pd_1 : parseMethodDescriptor "()V" = some ⟨[], none⟩ := by decide +kernel
theorem d1_1 : decode prog_46_method_1_code 1 = .ok (.invokespecial 1, 3) := by decide +kernel
theorem d1_4 : decode prog_46_method_1_code 4 = .ok (.aload_n 0, 1) := by decide +kernel
theorem d1_5 : decode prog_46_method_1_code 5 = .ok (.aload_n 1, 1) := by decide +kernel
theorem d1_6 : decode prog_46_method_1_code 6 = .ok (.putfield 7, 3) := by decide +kernel
theorem d1_9 : decode prog_46_method_1_code 9 = .ok (.return_, 1) := by decide +kernel
theorem pn_1 : plainName "com/example/knotwork/knotwork/core/Sym" = true := by first | (simp [plainName, overriddenIn]; done) | decide +kernel
def Q_f1 (Z : State) (o0 : Addr) (o1 : Addr) (h0 : Heap) (n0 : Nat) (v : Option Value) (h : Heap) (L : List Loc) : Prop := v = none ∧ Fr n0 L ∧ Keep h0 h [o0] ∧ Exa Z h o0 "com/example/knotwork/knotwork/core/Sym"
set_option maxRecDepth 65536 in
set_option maxHeartbeats 40000000 in
theorem rm1 (l : Launch) (Z : State) (a0 : Array Value) (hw : ∀ d ∈ tables_1, d.before a0 Z = true) (ws : List Jvm.Cond) (o0 : Addr) (o1 : Addr)  (h0 : Heap) (n0 : Nat) (E_o0 : Exa Z h0 o0 "com/example/knotwork/knotwork/core/Sym") (g_o0 : n0 ≤ o0) (F_o0_name : Fld Z h0 o0 "com/example/knotwork/knotwork/core/Sym" "name" "Ljava/lang/String;" .null) :
    MetFree l (⟨"com/example/knotwork/knotwork/core/Sym", "<init>", "(Ljava/lang/String;)V"⟩ : MethodName) (head1 (Jvm.Cond.code (⟨"com/example/knotwork/knotwork/core/Sym", "<init>", "(Ljava/lang/String;)V"⟩ : MethodName) prog_46_method_1_code 2 none :: ws) ({ frames := 2, cells := 0, slots := 0, locals := 24 } : Room)) (fun a U => a = #[(.ref o0), (.ref o1)] ∧ Z.Warmed39 U.vm ∧ U.heap = h0) (fun _ _ _ _ _ => True) (fun _ U o U' => ∃ v L, o = .returned v ∧ Q_f1 Z o0 o1 h0 n0 v U'.heap L ∧ FrameEnd U o U' L ({ frames := 2, cells := 0, slots := 0, locals := 24 } : Room).cells ({ frames := 2, cells := 0, slots := 0, locals := 24 } : Room).slots) := by
  refine MetFree.of_bodySF (plainFor_of_name pn_1) hisR ?_
  intro p e s m args below meth c s₁ Bd hml0 hP hK
  obtain ⟨rfl, hZ, hh⟩ := hP
  have hx := Bd.exec
  have hby := Bd.bytes
  have hml : c.maxLocals = 2 := hml0
  have hown : s.vm.findClass "com/example/knotwork/knotwork/core/Sym" = some m.cls := findClass_of_methodNamed Bd.named
  have hnm := (name_of_methodNamed Bd.named Bd.method).1
  have hret := Bd.returns
  have hlk : meth.locks = false := BodyLoose.notSynchronized Bd
  have X0 : Stand p l e ({ frames := 2, cells := 0, slots := 0, locals := 24 } : Room) s m #[(.ref o0), (.ref o1)] below meth c s₁ [] 0 0 := Stand.of_body Bd
  have e0 : s₁.heap = h0 := by rw [← hh, Bd.state]; rfl
  have N0 := Fr.nil n0
  show Outs p e below s (Q_f1 Z o0 o1 h0 n0) _ _ _
  refine Outs.of (U' := s₁.setTop (mkF m 0 #[.val (.ref o0), .val (.ref o1)] [])) (fun t k => castTop (ef_1 m o0 o1) k) ?_
  refine Outs.of (U' := s₁.setTop (mkF m 1 #[.val (.ref o0), .val (.ref o1)] [(.ref o0)])) (fun t k => ?_) ?_
  · refine XS.aloadN X0.here hx rfl (hb hby d1_0) rfl rfl ?_
    exact k
  obtain ⟨_, _, ⟨T1, L1, k1, n1⟩, -, X1, ⟨Lc1, hQ1, l1, y1, z1⟩, st1⟩ := X0.specialBack hx (y := (⟨"java/lang/Record", "<init>", "()V"⟩ : MethodName)) rfl hown (mvT hZ (hw _ (List.mem_of_getElem? (i := 15) rfl))) (mvT hZ (hw _ (List.mem_of_getElem? (i := 16) rfl))) (mvT hZ (hw _ (List.mem_of_getElem? (i := 19) rfl))) (by decide) (backOf (W := 0) (rm2 l Z a0 hw [] o0 h0 n0 ) hZ (hw _ (List.mem_of_getElem? (i := 19) rfl)) (hw _ (List.mem_of_getElem? (i := 18) rfl)) (by decide) (by decide)) (g := (mkF m 1 #[.val (.ref o0), .val (.ref o1)] [(.ref o0)])) rfl (by rw [hml]; rfl) (Steps.refl _) (a := o0) (argsL := []) (rest := []) (lenOf pd_1 rfl) rfl (by show 2 * 0 + _ ≤ _; exact Nat.le_of_eq rfl) (hb hby d1_1) (fun _ _ => ⟨rfl, e0, (by decide : 0 + 0 ≤ _), (by decide : 0 + 0 ≤ _)⟩)
  dsimp only [Pt.U, Pt.locs, Pt.cells, Pt.slots] at X1 l1 y1 z1 st1 hQ1
  subst l1 y1 z1
  obtain ⟨rfl, N1q, e1⟩ := hQ1
  have N1 := Fr.app N0 N1q
  obtain ⟨Lh1, X1, N1⟩ := hide X1 N1 (C := 0) (S := 0) (by decide) (by decide)
  refine Outs.to st1 ?_
  refine Outs.of (U' := T1.setTop (mkF m 6 #[.val (.ref o0), .val (.ref o1)] [(.ref o1), (.ref o0)])) (fun t k => ?_) ?_
  · refine XS.aloadN X1.here hx rfl (hb hby d1_4) rfl rfl ?_
    refine XS.aloadN X1.here hx rfl (hb hby d1_5) rfl rfl ?_
    exact k
  obtain ⟨T2, h2, X2, e2, W2, st2⟩ := putF X1 hx hZ hown (host := "") (Or.inl (hw _ (List.mem_of_getElem? (i := 23) rfl))) Via.refl e1 F_o0_name E_o0 (Or.inr ⟨(hw _ (List.mem_of_getElem? (i := 24) rfl)), rfl, hnm⟩) (hw _ (List.mem_of_getElem? (i := 2) rfl)) (ty := (.object "java/lang/String")) (by decide) rfl rfl (g := (mkF m 6 #[.val (.ref o0), .val (.ref o1)] [(.ref o1), (.ref o0)])) rfl rfl (hb hby d1_6)
  have F2 : Fld Z h2 o0 "com/example/knotwork/knotwork/core/Sym" "name" "Ljava/lang/String;" (.ref o1) := F_o0_name.same W2
  have N2 := Fr.snoc X2 N1 g_o0
  obtain ⟨Lh2, X2, N2⟩ := hide X2 N2 (C := 0) (S := 0) (by decide) (by decide)
  refine Outs.of st2 ?_
  have f3 : Exa Z h2 o0 "com/example/knotwork/knotwork/core/Sym" := (E_o0.wr W2)
  exact Outs.retV X2 hx hret (hb hby d1_9) hlk (by decide) (by decide) e2 ⟨rfl, N2, ((Keep.refl h0 [o0]).wr W2 (Or.inl (List.mem_of_getElem? (i := 0) rfl))), f3⟩
theorem ef_4 (m : MethodId) (x0 : Addr) (x1 : Int32) : entryFrame m #[(.ref x0), (.int x1)] 2 = mkF m 0 #[.val (.ref x0), .val (.int x1)] [] := by first | (simp [entryFrame, mkF, argsToLocals, Value.category]; done) | rfl
theorem d4_0 : decode prog_8_method_1_code 0 = .ok (.aload_n 0, 1) := by decide +kernel
theorem d4_1 : decode prog_8_method_1_code 1 = .ok (.invokespecial 1, 3) := by decide +kernel
theorem d4_4 : decode prog_8_method_1_code 4 = .ok (.aload_n 0, 1) := by decide +kernel
theorem d4_5 : decode prog_8_method_1_code 5 = .ok (.iload_n 1, 1) := by decide +kernel
theorem d4_6 : decode prog_8_method_1_code 6 = .ok (.anewarray 7, 3) := by decide +kernel
theorem d4_9 : decode prog_8_method_1_code 9 = .ok (.putfield 9, 3) := by decide +kernel
theorem d4_12 : decode prog_8_method_1_code 12 = .ok (.aload_n 0, 1) := by decide +kernel
theorem d4_13 : decode prog_8_method_1_code 13 = .ok (.iload_n 1, 1) := by decide +kernel
theorem d4_14 : decode prog_8_method_1_code 14 = .ok (.newarray .int, 2) := by decide +kernel
theorem d4_16 : decode prog_8_method_1_code 16 = .ok (.putfield 15, 3) := by decide +kernel
theorem d4_19 : decode prog_8_method_1_code 19 = .ok (.return_, 1) := by decide +kernel
theorem pn_4 : plainName "com/example/knotwork/knotwork/core/Binding" = true := by first | (simp [plainName, overriddenIn]; done) | decide +kernel
def Q_bi (Z : State) (o0 : Addr) (h0 : Heap) (n0 : Nat) (v : Option Value) (h : Heap) (L : List Loc) : Prop := ∃ b2 : Addr, n0 ≤ b2 ∧ h0.size ≤ b2 ∧ ∃ b6 : Addr, n0 ≤ b6 ∧ h0.size ≤ b6 ∧ v = none ∧ Fr n0 L ∧ Keep h0 h [o0] ∧ Exa Z h o0 "com/example/knotwork/knotwork/core/Binding" ∧ Fld Z h o0 "com/example/knotwork/knotwork/core/Binding" "values" "[Lcom/example/knotwork/knotwork/core/Item;" (.ref b2) ∧ Fld Z h o0 "com/example/knotwork/knotwork/core/Binding" "trail" "[I" (.ref b6) ∧ Fld Z h o0 "com/example/knotwork/knotwork/core/Binding" "bound" "I" (.int (0 : Int32)) ∧ AF Z h b2 (.object "com/example/knotwork/knotwork/core/Item") 3 (fun _ => Value.null) ∧ OvA Z h b2 "com/example/knotwork/knotwork/core/Item" ∧ AI Z h b6 .int 3 (fun _ => (0 : Int32))
set_option maxRecDepth 65536 in
set_option maxHeartbeats 40000000 in
theorem rmbi (l : Launch) (Z : State) (a0 : Array Value) (hw : ∀ d ∈ tables_1, d.before a0 Z = true) (ws : List Jvm.Cond) (o0 : Addr)  (h0 : Heap) (n0 : Nat) (Z0 : n0 ≤ h0.size) (E_o0 : Exa Z h0 o0 "com/example/knotwork/knotwork/core/Binding") (g_o0 : n0 ≤ o0) (F_o0_values : Fld Z h0 o0 "com/example/knotwork/knotwork/core/Binding" "values" "[Lcom/example/knotwork/knotwork/core/Item;" .null) (F_o0_trail : Fld Z h0 o0 "com/example/knotwork/knotwork/core/Binding" "trail" "[I" .null) (F_o0_bound : Fld Z h0 o0 "com/example/knotwork/knotwork/core/Binding" "bound" "I" (.int (0 : Int32))) :
    MetFree l (⟨"com/example/knotwork/knotwork/core/Binding", "<init>", "(I)V"⟩ : MethodName) (head1 (Jvm.Cond.code (⟨"com/example/knotwork/knotwork/core/Binding", "<init>", "(I)V"⟩ : MethodName) prog_8_method_1_code 2 none :: ws) ({ frames := 1, cells := 2, slots := 6, locals := 12 } : Room)) (fun a U => a = #[(.ref o0), (.int (3 : Int32))] ∧ Z.Warmed39 U.vm ∧ U.heap = h0) (fun _ _ _ _ _ => True) (fun _ U o U' => ∃ v L, o = .returned v ∧ Q_bi Z o0 h0 n0 v U'.heap L ∧ FrameEnd U o U' L ({ frames := 1, cells := 2, slots := 6, locals := 12 } : Room).cells ({ frames := 1, cells := 2, slots := 6, locals := 12 } : Room).slots) := by
  refine MetFree.of_bodySF (plainFor_of_name pn_4) hisR ?_
  intro p e s m args below meth c s₁ Bd hml0 hP hK
  obtain ⟨rfl, hZ, hh⟩ := hP
  have hx := Bd.exec
  have hby := Bd.bytes
  have hml : c.maxLocals = 2 := hml0
  have hown : s.vm.findClass "com/example/knotwork/knotwork/core/Binding" = some m.cls := findClass_of_methodNamed Bd.named
  have hnm := (name_of_methodNamed Bd.named Bd.method).1
  have hret := Bd.returns
  have hlk : meth.locks = false := BodyLoose.notSynchronized Bd
  have X0 : Stand p l e ({ frames := 1, cells := 2, slots := 6, locals := 12 } : Room) s m #[(.ref o0), (.int (3 : Int32))] below meth c s₁ [] 0 0 := Stand.of_body Bd
  have e0 : s₁.heap = h0 := by rw [← hh, Bd.state]; rfl
  have N0 := Fr.nil n0
  show Outs p e below s (Q_bi Z o0 h0 n0) _ _ _
  refine Outs.of (U' := s₁.setTop (mkF m 0 #[.val (.ref o0), .val (.int (3 : Int32))] [])) (fun t k => castTop (ef_4 m o0 (3 : Int32)) k) ?_
  refine Outs.of (U' := s₁.setTop (mkF m 1 #[.val (.ref o0), .val (.int (3 : Int32))] [(.ref o0)])) (fun t k => ?_) ?_
  · refine XS.aloadN X0.here hx rfl (hb hby d4_0) rfl rfl ?_
    exact k
  obtain ⟨T1, X1, e1, st1⟩ := initO X0 hx hZ hown (hw _ (List.mem_of_getElem? (i := 31) rfl)) (hw _ (List.mem_of_getElem? (i := 21) rfl)) (hw _ (List.mem_of_getElem? (i := 22) rfl)) e0 (g := (mkF m 1 #[.val (.ref o0), .val (.int (3 : Int32))] [(.ref o0)])) rfl (by rw [hml]; rfl) rfl (hb hby d4_1) (by decide) (W := 0) (by show 2 * 0 + _ ≤ _; exact Nat.le_of_eq rfl) (by decide)
  refine Outs.of st1 ?_
  refine Outs.of (U' := T1.setTop (mkF m 6 #[.val (.ref o0), .val (.int (3 : Int32))] [(.int (3 : Int32)), (.ref o0)])) (fun t k => ?_) ?_
  · refine XS.aloadN X1.here hx rfl (hb hby d4_4) rfl rfl ?_
    refine XS.iloadN X1.here hx rfl (hb hby d4_5) rfl ?_
    exact k
  obtain ⟨T2, h2, X2, e2, E2, A2, O2, st2⟩ := newRF X1 hx hZ hown (hw _ (List.mem_of_getElem? (i := 32) rfl)) (hw _ (List.mem_of_getElem? (i := 33) rfl)) e1 (f := (mkF m 6 #[.val (.ref o0), .val (.int (3 : Int32))] [(.int (3 : Int32)), (.ref o0)])) rfl (hb hby d4_6) rfl (k := 3) rfl (cap := 3) (by decide) (by decide) (by decide) (by decide)
  obtain ⟨b2, g2⟩ : ∃ z, z = h0.size := ⟨_, rfl⟩
  rw [← g2] at A2 O2 st2
  have g_b2 : n0 ≤ b2 := Nat.le_trans Z0 (Nat.le_of_eq g2.symm)
  have sz_b2 : h0.size ≤ b2 := Nat.le_trans (Keep.refl h0 [o0]).1 (Nat.le_of_eq g2.symm)
  have ne_o0_b2 : o0 ≠ b2 := Nat.ne_of_lt (Nat.lt_of_lt_of_eq E_o0.lt g2.symm)
  refine Outs.of st2 ?_
  have f4 : Exa Z h2 o0 "com/example/knotwork/knotwork/core/Binding" := (E_o0.ext E2)
  have f5 : Fld Z h2 o0 "com/example/knotwork/knotwork/core/Binding" "values" "[Lcom/example/knotwork/knotwork/core/Item;" .null := (F_o0_values.ext E2)
  obtain ⟨T3, h3, X3, e3, W3, st3⟩ := putF X2 hx hZ hown (host := "") (Or.inl (hw _ (List.mem_of_getElem? (i := 34) rfl))) Via.refl e2 f5 f4 (Or.inr ⟨(hw _ (List.mem_of_getElem? (i := 35) rfl)), rfl, hnm⟩) (hw _ (List.mem_of_getElem? (i := 26) rfl)) (ty := (.array (.object "com/example/knotwork/knotwork/core/Item"))) (by decide) rfl rfl (g := (mkF m 9 #[.val (.ref o0), .val (.int (3 : Int32))] [(.ref b2), (.ref o0)])) rfl rfl (hb hby d4_9)
  have F3 : Fld Z h3 o0 "com/example/knotwork/knotwork/core/Binding" "values" "[Lcom/example/knotwork/knotwork/core/Item;" (.ref b2) := f5.same W3
  have N3 := Fr.snoc X3 N0 g_o0
  obtain ⟨Lh3, X3, N3⟩ := hide X3 N3 (C := 1) (S := 3) (by decide) (by decide)
  refine Outs.of st3 ?_
  refine Outs.of (U' := T3.setTop (mkF m 14 #[.val (.ref o0), .val (.int (3 : Int32))] [(.int (3 : Int32)), (.ref o0)])) (fun t k => ?_) ?_
  · refine XS.aloadN X3.here hx rfl (hb hby d4_12) rfl rfl ?_
    refine XS.iloadN X3.here hx rfl (hb hby d4_13) rfl ?_
    exact k
  have f7 : Exa Z h3 o0 "com/example/knotwork/knotwork/core/Binding" := (f4.wr W3)
  have f8 : AF Z h3 b2 (.object "com/example/knotwork/knotwork/core/Item") 3 (fun _ => Value.null) := (A2.other W3 ne_o0_b2.symm)
  obtain ⟨T6, h6, X6, e6, E6, A6, st6⟩ := newAF X3 hx hZ (aty := .int) (hw _ (List.mem_of_getElem? (i := 36) rfl)) e3 (f := (mkF m 14 #[.val (.ref o0), .val (.int (3 : Int32))] [(.int (3 : Int32)), (.ref o0)])) rfl (hb hby d4_14) rfl (k := 3) rfl (cap := 3) (by decide) (by decide) (by decide) (by decide)
  obtain ⟨b6, g6⟩ : ∃ z, z = h3.size := ⟨_, rfl⟩
  rw [← g6] at A6 st6
  have g_b6 : n0 ≤ b6 := Nat.le_trans (Nat.le_trans (Nat.le_trans Z0 E2.1) (Keep.of_wr W3).1) (Nat.le_of_eq g6.symm)
  have sz_b6 : h0.size ≤ b6 := Nat.le_trans (((Keep.refl h0 [o0]).ext E2).wr W3 (Or.inl (List.mem_of_getElem? (i := 0) rfl))).1 (Nat.le_of_eq g6.symm)
  have ne_o0_b6 : o0 ≠ b6 := Nat.ne_of_lt (Nat.lt_of_lt_of_eq f7.lt g6.symm)
  have ne_b2_b6 : b2 ≠ b6 := Nat.ne_of_lt (Nat.lt_of_lt_of_eq f8.lt g6.symm)
  have V6 : AI Z h6 b6 .int 3 (fun _ => (0 : Int32)) := A6
  refine Outs.of st6 ?_
  have f10 : Exa Z h6 o0 "com/example/knotwork/knotwork/core/Binding" := (f7.ext E6)
  have f11 : Fld Z h6 o0 "com/example/knotwork/knotwork/core/Binding" "trail" "[I" .null := (((F_o0_trail.ext E2).other W3 (Or.inr (slot_ne (Or.inr (hw _ (List.mem_of_getElem? (i := 38) rfl))) (Or.inr (hw _ (List.mem_of_getElem? (i := 35) rfl))) (by decide) (t := (.array .int)) (t' := (.array (.object "com/example/knotwork/knotwork/core/Item"))) (by decide) (by decide)))).ext E6)
  obtain ⟨T9, h9, X9, e9, W9, st9⟩ := putF X6 hx hZ hown (host := "") (Or.inl (hw _ (List.mem_of_getElem? (i := 37) rfl))) Via.refl e6 f11 f10 (Or.inr ⟨(hw _ (List.mem_of_getElem? (i := 38) rfl)), rfl, hnm⟩) (hw _ (List.mem_of_getElem? (i := 26) rfl)) (ty := (.array .int)) (by decide) rfl rfl (g := (mkF m 16 #[.val (.ref o0), .val (.int (3 : Int32))] [(.ref b6), (.ref o0)])) rfl rfl (hb hby d4_16)
  have F9 : Fld Z h9 o0 "com/example/knotwork/knotwork/core/Binding" "trail" "[I" (.ref b6) := f11.same W9
  have N9 := Fr.snoc X9 N3 g_o0
  obtain ⟨Lh9, X9, N9⟩ := hide X9 N9 (C := 2) (S := 6) (by decide) (by decide)
  refine Outs.of st9 ?_
  have f12 : Exa Z h9 o0 "com/example/knotwork/knotwork/core/Binding" := (f10.wr W9)
  have f13 : Fld Z h9 o0 "com/example/knotwork/knotwork/core/Binding" "values" "[Lcom/example/knotwork/knotwork/core/Item;" (.ref b2) := ((F3.ext E6).other W9 (Or.inr (slot_ne (Or.inr (hw _ (List.mem_of_getElem? (i := 35) rfl))) (Or.inr (hw _ (List.mem_of_getElem? (i := 38) rfl))) (by decide) (t := (.array (.object "com/example/knotwork/knotwork/core/Item"))) (t' := (.array .int)) (by decide) (by decide))))
  have f14 : Fld Z h9 o0 "com/example/knotwork/knotwork/core/Binding" "bound" "I" (.int (0 : Int32)) := ((((F_o0_bound.ext E2).other W3 (Or.inr (slot_ne (Or.inl (hw _ (List.mem_of_getElem? (i := 46) rfl))) (Or.inr (hw _ (List.mem_of_getElem? (i := 35) rfl))) (by decide) (t := .int) (t' := (.array (.object "com/example/knotwork/knotwork/core/Item"))) (by decide) (by decide)))).ext E6).other W9 (Or.inr (slot_ne (Or.inl (hw _ (List.mem_of_getElem? (i := 46) rfl))) (Or.inr (hw _ (List.mem_of_getElem? (i := 38) rfl))) (by decide) (t := .int) (t' := (.array .int)) (by decide) (by decide))))
  have f15 : AF Z h9 b2 (.object "com/example/knotwork/knotwork/core/Item") 3 (fun _ => Value.null) := ((f8.ext E6).other W9 ne_o0_b2.symm)
  have f16 : OvA Z h9 b2 "com/example/knotwork/knotwork/core/Item" := (((O2.wr W3).ext E6).wr W9)
  have f17 : AI Z h9 b6 .int 3 (fun _ => (0 : Int32)) := (V6.other W9 ne_o0_b6.symm)
  exact Outs.retV X9 hx hret (hb hby d4_19) hlk (by decide) (by decide) e9 ⟨b2, g_b2, sz_b2, b6, g_b6, sz_b6, rfl, N9, (((((Keep.refl h0 [o0]).ext E2).wr W3 (Or.inl (List.mem_of_getElem? (i := 0) rfl))).ext E6).wr W9 (Or.inl (List.mem_of_getElem? (i := 0) rfl))), f12, f13, F9, f14, f15, f16, f17⟩
theorem ef_5 (m : MethodId) (x0 : Addr) (x1 : Int32) (x2 : Addr) : entryFrame m #[(.ref x0), (.int x1), (.ref x2)] 3 = mkF m 0 #[.val (.ref x0), .val (.int x1), .val (.ref x2)] [] := by first | (simp [entryFrame, mkF, argsToLocals, Value.category]; done) | rfl
theorem d5_0 : decode prog_8_method_4_code 0 = .ok (.aload_n 0, 1) := by decide +kernel
theorem d5_1 : decode prog_8_method_4_code 1 = .ok (.getfield 9, 3) := by decide +kernel
theorem d5_4 : decode prog_8_method_4_code 4 = .ok (.iload_n 1, 1) := by decide +kernel
theorem d5_5 : decode prog_8_method_4_code 5 = .ok (.aload_n 2, 1) := by decide +kernel
theorem d5_6 : decode prog_8_method_4_code 6 = .ok (.aastore, 1) := by decide +kernel
theorem d5_7 : decode prog_8_method_4_code 7 = .ok (.aload_n 0, 1) := by decide +kernel
theorem d5_8 : decode prog_8_method_4_code 8 = .ok (.getfield 15, 3) := by decide +kernel
theorem d5_11 : decode prog_8_method_4_code 11 = .ok (.aload_n 0, 1) := by decide +kernel
theorem d5_12 : decode prog_8_method_4_code 12 = .ok (.dup, 1) := by decide +kernel
theorem d5_13 : decode prog_8_method_4_code 13 = .ok (.getfield 19, 3) := by decide +kernel
theorem d5_16 : decode prog_8_method_4_code 16 = .ok (.dup_x1, 1) := by decide +kernel
theorem d5_17 : decode prog_8_method_4_code 17 = .ok (.iconst 1, 1) := by decide +kernel
theorem d5_18 : decode prog_8_method_4_code 18 = .ok (.iadd, 1) := by decide +kernel
theorem d5_19 : decode prog_8_method_4_code 19 = .ok (.putfield 19, 3) := by decide +kernel
theorem d5_22 : decode prog_8_method_4_code 22 = .ok (.iload_n 1, 1) := by decide +kernel
theorem d5_23 : decode prog_8_method_4_code 23 = .ok (.iastore, 1) := by decide +kernel
theorem d5_24 : decode prog_8_method_4_code 24 = .ok (.return_, 1) := by decide +kernel
def Q_bd (Z : State) (o0 : Addr) (i1 : Int32) (o2 : Addr) (a1 : Addr) (a2 : Addr) (vf : Nat → Value) (tg : Nat → Int32) (bd : Int32) (ki : Nat) (kb : Nat) (h0 : Heap) (n0 : Nat) (v : Option Value) (h : Heap) (L : List Loc) : Prop := v = none ∧ Fr n0 L ∧ Keep h0 h [o0, a1, a2] ∧ Exa Z h o0 "com/example/knotwork/knotwork/core/Binding" ∧ Fld Z h o0 "com/example/knotwork/knotwork/core/Binding" "values" "[Lcom/example/knotwork/knotwork/core/Item;" (.ref a1) ∧ Fld Z h o0 "com/example/knotwork/knotwork/core/Binding" "trail" "[I" (.ref a2) ∧ Fld Z h o0 "com/example/knotwork/knotwork/core/Binding" "bound" "I" (.int (bd + (1 : Int32))) ∧ AF Z h a1 (.object "com/example/knotwork/knotwork/core/Item") 3 (upv vf ki (.ref o2)) ∧ OvA Z h a1 "com/example/knotwork/knotwork/core/Item" ∧ AI Z h a2 .int 3 (upv tg kb i1)
set_option maxRecDepth 65536 in
set_option maxHeartbeats 40000000 in
theorem rmbd (l : Launch) (Z : State) (a0 : Array Value) (hw : ∀ d ∈ tables_1, d.before a0 Z = true) (ws : List Jvm.Cond) (o0 : Addr) (i1 : Int32) (o2 : Addr) (a1 : Addr) (a2 : Addr) (vf : Nat → Value) (tg : Nat → Int32) (bd : Int32) (ki : Nat) (kb : Nat) (h0 : Heap) (n0 : Nat) (E_o0 : Exa Z h0 o0 "com/example/knotwork/knotwork/core/Binding") (g_o0 : n0 ≤ o0) (g_a1 : n0 ≤ a1) (g_a2 : n0 ≤ a2) (ne_o0_a1 : o0 ≠ a1) (ne_o0_a2 : o0 ≠ a2) (ne_a1_a2 : a1 ≠ a2) (F_o0_values : Fld Z h0 o0 "com/example/knotwork/knotwork/core/Binding" "values" "[Lcom/example/knotwork/knotwork/core/Item;" (.ref a1)) (F_o0_trail : Fld Z h0 o0 "com/example/knotwork/knotwork/core/Binding" "trail" "[I" (.ref a2)) (F_o0_bound : Fld Z h0 o0 "com/example/knotwork/knotwork/core/Binding" "bound" "I" (.int bd)) (A_a1 : AF Z h0 a1 (.object "com/example/knotwork/knotwork/core/Item") 3 vf) (O_a1 : OvA Z h0 a1 "com/example/knotwork/knotwork/core/Item") (A_a2 : AI Z h0 a2 .int 3 tg) (E_o2 : Exa Z h0 o2 "com/example/knotwork/knotwork/core/Sym") (hk1 : i1.toInt = (ki : Int)) (hn1 : ki < 3) (hk2 : bd.toInt = (kb : Int)) (hn2 : kb < 3) :
    MetFree l (⟨"com/example/knotwork/knotwork/core/Binding", "bind", "(ILcom/example/knotwork/knotwork/core/Item;)V"⟩ : MethodName) (head1 (Jvm.Cond.code (⟨"com/example/knotwork/knotwork/core/Binding", "bind", "(ILcom/example/knotwork/knotwork/core/Item;)V"⟩ : MethodName) prog_8_method_4_code 3 none :: ws) ({ frames := 0, cells := 0, slots := 0, locals := 0 } : Room)) (fun a U => a = #[(.ref o0), (.int i1), (.ref o2)] ∧ Z.Warmed39 U.vm ∧ U.heap = h0) (fun _ _ _ _ _ => True) (fun _ U o U' => ∃ v L, o = .returned v ∧ Q_bd Z o0 i1 o2 a1 a2 vf tg bd ki kb h0 n0 v U'.heap L ∧ FrameEnd U o U' L ({ frames := 0, cells := 0, slots := 0, locals := 0 } : Room).cells ({ frames := 0, cells := 0, slots := 0, locals := 0 } : Room).slots) := by
  refine MetFree.of_bodySF (plainFor_of_name pn_4) hisR ?_
  intro p e s m args below meth c s₁ Bd hml0 hP hK
  obtain ⟨rfl, hZ, hh⟩ := hP
  have hx := Bd.exec
  have hby := Bd.bytes
  have hml : c.maxLocals = 3 := hml0
  have hown : s.vm.findClass "com/example/knotwork/knotwork/core/Binding" = some m.cls := findClass_of_methodNamed Bd.named
  have hnm := (name_of_methodNamed Bd.named Bd.method).1
  have hret := Bd.returns
  have hlk : meth.locks = false := BodyLoose.notSynchronized Bd
  have X0 : Stand p l e ({ frames := 0, cells := 0, slots := 0, locals := 0 } : Room) s m #[(.ref o0), (.int i1), (.ref o2)] below meth c s₁ [] 0 0 := Stand.of_body Bd
  have e0 : s₁.heap = h0 := by rw [← hh, Bd.state]; rfl
  have N0 := Fr.nil n0
  show Outs p e below s (Q_bd Z o0 i1 o2 a1 a2 vf tg bd ki kb h0 n0) _ _ _
  refine Outs.of (U' := s₁.setTop (mkF m 0 #[.val (.ref o0), .val (.int i1), .val (.ref o2)] [])) (fun t k => castTop (ef_5 m o0 i1 o2) k) ?_
  refine Outs.of (U' := s₁.setTop (mkF m 1 #[.val (.ref o0), .val (.int i1), .val (.ref o2)] [(.ref o0)])) (fun t k => ?_) ?_
  · refine XS.aloadN X0.here hx rfl (hb hby d5_0) rfl rfl ?_
    exact k
  obtain ⟨T1, X1, e1, st1⟩ := getF X0 hx hZ hown (host := "") (Or.inl (hw _ (List.mem_of_getElem? (i := 34) rfl))) Via.refl e0 F_o0_values (g := (mkF m 1 #[.val (.ref o0), .val (.int i1), .val (.ref o2)] [(.ref o0)])) rfl rfl (hb hby d5_1)
  refine Outs.of st1 ?_
  refine Outs.of (U' := T1.setTop (mkF m 6 #[.val (.ref o0), .val (.int i1), .val (.ref o2)] [(.ref o2), (.int i1), (.ref a1)])) (fun t k => ?_) ?_
  · refine XS.iloadN X1.here hx rfl (hb hby d5_4) rfl ?_
    refine XS.aloadN X1.here hx rfl (hb hby d5_5) rfl rfl ?_
    exact k
  obtain ⟨T2, h2, X2, e2, W2, V2, st2⟩ := puR X1 hx hZ e1 A_a1 rfl (O_a1.sto A_a1 (Ins.of_exa E_o2 (hw _ (List.mem_of_getElem? (i := 44) rfl)))) (j := i1) (k := ki) hk1 hn1 (f := (mkF m 6 #[.val (.ref o0), .val (.int i1), .val (.ref o2)] [(.ref o2), (.int i1), (.ref a1)])) rfl rfl (hb hby d5_6)
  replace V2 : AF Z h2 a1 (.object "com/example/knotwork/knotwork/core/Item") 3 (upv vf ki (.ref o2)) := V2
  have N2 := Fr.snoc X2 N0 g_a1
  obtain ⟨Lh2, X2, N2⟩ := hide X2 N2 (C := 0) (S := 0) (by decide) (by decide)
  refine Outs.of st2 ?_
  refine Outs.of (U' := T2.setTop (mkF m 8 #[.val (.ref o0), .val (.int i1), .val (.ref o2)] [(.ref o0)])) (fun t k => ?_) ?_
  · refine XS.aloadN X2.here hx rfl (hb hby d5_7) rfl rfl ?_
    exact k
  have f4 : Fld Z h2 o0 "com/example/knotwork/knotwork/core/Binding" "trail" "[I" (.ref a2) := (F_o0_trail.other W2 (Or.inl ne_o0_a1))
  obtain ⟨T3, X3, e3, st3⟩ := getF X2 hx hZ hown (host := "") (Or.inl (hw _ (List.mem_of_getElem? (i := 37) rfl))) Via.refl e2 f4 (g := (mkF m 8 #[.val (.ref o0), .val (.int i1), .val (.ref o2)] [(.ref o0)])) rfl rfl (hb hby d5_8)
  refine Outs.of st3 ?_
  refine Outs.of (U' := T3.setTop (mkF m 13 #[.val (.ref o0), .val (.int i1), .val (.ref o2)] [(.ref o0), (.ref o0), (.ref a2)])) (fun t k => ?_) ?_
  · refine XS.aloadN X3.here hx rfl (hb hby d5_11) rfl rfl ?_
    refine XS.dup X3.here hx rfl (hb hby d5_12) rfl rfl ?_
    exact k
  have f6 : Fld Z h2 o0 "com/example/knotwork/knotwork/core/Binding" "bound" "I" (.int bd) := (F_o0_bound.other W2 (Or.inl ne_o0_a1))
  obtain ⟨T5, X5, e5, st5⟩ := getF X3 hx hZ hown (host := "") (Or.inl (hw _ (List.mem_of_getElem? (i := 45) rfl))) Via.refl e3 f6 (g := (mkF m 13 #[.val (.ref o0), .val (.int i1), .val (.ref o2)] [(.ref o0), (.ref o0), (.ref a2)])) rfl rfl (hb hby d5_13)
  refine Outs.of st5 ?_
  refine Outs.of (U' := T5.setTop (mkF m 19 #[.val (.ref o0), .val (.int i1), .val (.ref o2)] [(.int (bd + (1 : Int32))), (.ref o0), (.int bd), (.ref a2)])) (fun t k => ?_) ?_
  · refine XS.dupX1 X5.here hx rfl (hb hby d5_16) rfl rfl rfl ?_
    refine XS.iconst X5.here hx rfl (hb hby d5_17) ?_
    refine XS.iadd X5.here hx rfl (hb hby d5_18) rfl ?_
    exact k
  have f8 : Exa Z h2 o0 "com/example/knotwork/knotwork/core/Binding" := (E_o0.wr W2)
  obtain ⟨T7, h7, X7, e7, W7, st7⟩ := putF X5 hx hZ hown (host := "") (Or.inl (hw _ (List.mem_of_getElem? (i := 45) rfl))) Via.refl e5 f6 f8 (Or.inl (hw _ (List.mem_of_getElem? (i := 46) rfl))) (hw _ (List.mem_of_getElem? (i := 26) rfl)) (ty := .int) (by decide) rfl rfl (g := (mkF m 19 #[.val (.ref o0), .val (.int i1), .val (.ref o2)] [(.int (bd + (1 : Int32))), (.ref o0), (.int bd), (.ref a2)])) rfl rfl (hb hby d5_19)
  have F7 : Fld Z h7 o0 "com/example/knotwork/knotwork/core/Binding" "bound" "I" (.int (bd + (1 : Int32))) := f6.same W7
  have N7 := Fr.snoc X7 N2 g_o0
  obtain ⟨Lh7, X7, N7⟩ := hide X7 N7 (C := 0) (S := 0) (by decide) (by decide)
  refine Outs.of st7 ?_
  refine Outs.of (U' := T7.setTop (mkF m 23 #[.val (.ref o0), .val (.int i1), .val (.ref o2)] [(.int i1), (.int bd), (.ref a2)])) (fun t k => ?_) ?_
  · refine XS.iloadN X7.here hx rfl (hb hby d5_22) rfl ?_
    exact k
  have f9 : AI Z h7 a2 .int 3 tg := ((A_a2.other W2 ne_a1_a2.symm).other W7 ne_o0_a2.symm)
  obtain ⟨T10, h10, X10, e10, W10, V10, st10⟩ := puI X7 hx hZ e7 f9 (j := bd) (x := i1) (k := kb) hk2 hn2 (f := (mkF m 23 #[.val (.ref o0), .val (.int i1), .val (.ref o2)] [(.int i1), (.int bd), (.ref a2)])) rfl rfl (hb hby d5_23)
  replace V10 : AI Z h10 a2 .int 3 (upv tg kb i1) := V10
  have N10 := Fr.snoc X10 N7 g_a2
  obtain ⟨Lh10, X10, N10⟩ := hide X10 N10 (C := 0) (S := 0) (by decide) (by decide)
  refine Outs.of st10 ?_
  have f11 : Exa Z h10 o0 "com/example/knotwork/knotwork/core/Binding" := ((f8.wr W7).wr W10)
  have f12 : Fld Z h10 o0 "com/example/knotwork/knotwork/core/Binding" "values" "[Lcom/example/knotwork/knotwork/core/Item;" (.ref a1) := (((F_o0_values.other W2 (Or.inl ne_o0_a1)).other W7 (Or.inr (slot_ne (Or.inr (hw _ (List.mem_of_getElem? (i := 35) rfl))) (Or.inl (hw _ (List.mem_of_getElem? (i := 46) rfl))) (by decide) (t := (.array (.object "com/example/knotwork/knotwork/core/Item"))) (t' := .int) (by decide) (by decide)))).other W10 (Or.inl ne_o0_a2))
  have f13 : Fld Z h10 o0 "com/example/knotwork/knotwork/core/Binding" "trail" "[I" (.ref a2) := ((f4.other W7 (Or.inr (slot_ne (Or.inr (hw _ (List.mem_of_getElem? (i := 38) rfl))) (Or.inl (hw _ (List.mem_of_getElem? (i := 46) rfl))) (by decide) (t := (.array .int)) (t' := .int) (by decide) (by decide)))).other W10 (Or.inl ne_o0_a2))
  have f14 : Fld Z h10 o0 "com/example/knotwork/knotwork/core/Binding" "bound" "I" (.int (bd + (1 : Int32))) := (F7.other W10 (Or.inl ne_o0_a2))
  have f15 : AF Z h10 a1 (.object "com/example/knotwork/knotwork/core/Item") 3 (upv vf ki (.ref o2)) := ((V2.other W7 ne_o0_a1.symm).other W10 ne_a1_a2)
  have f16 : OvA Z h10 a1 "com/example/knotwork/knotwork/core/Item" := (((O_a1.wr W2).wr W7).wr W10)
  exact Outs.retV X10 hx hret (hb hby d5_24) hlk (by decide) (by decide) e10 ⟨rfl, N10, ((((Keep.refl h0 [o0, a1, a2]).wr W2 (Or.inl (List.mem_of_getElem? (i := 1) rfl))).wr W7 (Or.inl (List.mem_of_getElem? (i := 0) rfl))).wr W10 (Or.inl (List.mem_of_getElem? (i := 2) rfl))), f11, f12, f13, f14, f15, f16, V10⟩
theorem ef_6 (m : MethodId) (x0 : Addr) (x1 : Int32) : entryFrame m #[(.ref x0), (.int x1)] 2 = mkF m 0 #[.val (.ref x0), .val (.int x1)] [] := by first | (simp [entryFrame, mkF, argsToLocals, Value.category]; done) | rfl
theorem d6_0 : decode prog_8_method_8_code 0 = .ok (.aload_n 0, 1) := by decide +kernel
theorem d6_1 : decode prog_8_method_8_code 1 = .ok (.getfield 19, 3) := by decide +kernel
theorem d6_4 : decode prog_8_method_8_code 4 = .ok (.iload_n 1, 1) := by decide +kernel
theorem d6_5 : decode prog_8_method_8_code 5 = .ok (.if_icmp .le 28, 3) := by decide +kernel
theorem d6_33 : decode prog_8_method_8_code 33 = .ok (.return_, 1) := by decide +kernel
def Q_un00 (Z : State) (o0 : Addr) (a1 : Addr) (a2 : Addr) (vf : Nat → Value) (tg : Nat → Int32) (h0 : Heap) (n0 : Nat) (v : Option Value) (h : Heap) (L : List Loc) : Prop := v = none ∧ Fr n0 L ∧ Keep h0 h [o0, a1, a2] ∧ Exa Z h o0 "com/example/knotwork/knotwork/core/Binding" ∧ Fld Z h o0 "com/example/knotwork/knotwork/core/Binding" "values" "[Lcom/example/knotwork/knotwork/core/Item;" (.ref a1) ∧ Fld Z h o0 "com/example/knotwork/knotwork/core/Binding" "trail" "[I" (.ref a2) ∧ Fld Z h o0 "com/example/knotwork/knotwork/core/Binding" "bound" "I" (.int (0 : Int32)) ∧ AF Z h a1 (.object "com/example/knotwork/knotwork/core/Item") 3 vf ∧ OvA Z h a1 "com/example/knotwork/knotwork/core/Item" ∧ AI Z h a2 .int 3 tg
set_option maxRecDepth 65536 in
set_option maxHeartbeats 40000000 in
theorem rmun00 (l : Launch) (Z : State) (a0 : Array Value) (hw : ∀ d ∈ tables_1, d.before a0 Z = true) (ws : List Jvm.Cond) (o0 : Addr) (a1 : Addr) (a2 : Addr) (vf : Nat → Value) (tg : Nat → Int32) (h0 : Heap) (n0 : Nat) (E_o0 : Exa Z h0 o0 "com/example/knotwork/knotwork/core/Binding") (g_o0 : n0 ≤ o0) (g_a1 : n0 ≤ a1) (g_a2 : n0 ≤ a2) (ne_o0_a1 : o0 ≠ a1) (ne_o0_a2 : o0 ≠ a2) (ne_a1_a2 : a1 ≠ a2) (F_o0_values : Fld Z h0 o0 "com/example/knotwork/knotwork/core/Binding" "values" "[Lcom/example/knotwork/knotwork/core/Item;" (.ref a1)) (F_o0_trail : Fld Z h0 o0 "com/example/knotwork/knotwork/core/Binding" "trail" "[I" (.ref a2)) (F_o0_bound : Fld Z h0 o0 "com/example/knotwork/knotwork/core/Binding" "bound" "I" (.int (0 : Int32))) (A_a1 : AF Z h0 a1 (.object "com/example/knotwork/knotwork/core/Item") 3 vf) (O_a1 : OvA Z h0 a1 "com/example/knotwork/knotwork/core/Item") (A_a2 : AI Z h0 a2 .int 3 tg) :
    MetFree l (⟨"com/example/knotwork/knotwork/core/Binding", "undo", "(I)V"⟩ : MethodName) (head1 (Jvm.Cond.code (⟨"com/example/knotwork/knotwork/core/Binding", "undo", "(I)V"⟩ : MethodName) prog_8_method_8_code 2 none :: ws) ({ frames := 0, cells := 0, slots := 0, locals := 0 } : Room)) (fun a U => a = #[(.ref o0), (.int (0 : Int32))] ∧ Z.Warmed39 U.vm ∧ U.heap = h0) (fun _ _ _ _ _ => True) (fun _ U o U' => ∃ v L, o = .returned v ∧ Q_un00 Z o0 a1 a2 vf tg h0 n0 v U'.heap L ∧ FrameEnd U o U' L ({ frames := 0, cells := 0, slots := 0, locals := 0 } : Room).cells ({ frames := 0, cells := 0, slots := 0, locals := 0 } : Room).slots) := by
  refine MetFree.of_bodySF (plainFor_of_name pn_4) hisR ?_
  intro p e s m args below meth c s₁ Bd hml0 hP hK
  obtain ⟨rfl, hZ, hh⟩ := hP
  have hx := Bd.exec
  have hby := Bd.bytes
  have hml : c.maxLocals = 2 := hml0
  have hown : s.vm.findClass "com/example/knotwork/knotwork/core/Binding" = some m.cls := findClass_of_methodNamed Bd.named
  have hnm := (name_of_methodNamed Bd.named Bd.method).1
  have hret := Bd.returns
  have hlk : meth.locks = false := BodyLoose.notSynchronized Bd
  have X0 : Stand p l e ({ frames := 0, cells := 0, slots := 0, locals := 0 } : Room) s m #[(.ref o0), (.int (0 : Int32))] below meth c s₁ [] 0 0 := Stand.of_body Bd
  have e0 : s₁.heap = h0 := by rw [← hh, Bd.state]; rfl
  have N0 := Fr.nil n0
  show Outs p e below s (Q_un00 Z o0 a1 a2 vf tg h0 n0) _ _ _
  refine Outs.of (U' := s₁.setTop (mkF m 0 #[.val (.ref o0), .val (.int (0 : Int32))] [])) (fun t k => castTop (ef_6 m o0 (0 : Int32)) k) ?_
  refine Outs.of (U' := s₁.setTop (mkF m 1 #[.val (.ref o0), .val (.int (0 : Int32))] [(.ref o0)])) (fun t k => ?_) ?_
  · refine XS.aloadN X0.here hx rfl (hb hby d6_0) rfl rfl ?_
    exact k
  obtain ⟨T1, X1, e1, st1⟩ := getF X0 hx hZ hown (host := "") (Or.inl (hw _ (List.mem_of_getElem? (i := 45) rfl))) Via.refl e0 F_o0_bound (g := (mkF m 1 #[.val (.ref o0), .val (.int (0 : Int32))] [(.ref o0)])) rfl rfl (hb hby d6_1)
  refine Outs.of st1 ?_
  refine Outs.of (U' := T1.setTop (mkF m 33 #[.val (.ref o0), .val (.int (0 : Int32))] [])) (fun t k => ?_) ?_
  · refine XS.iloadN X1.here hx rfl (hb hby d6_4) rfl ?_
    refine XS.icmpYes X1.here hx rfl (pc0 := 5) (pc' := 33) rfl (hb hby d6_5) rfl (flt (show ¬ ((0 : Int32) < (0 : Int32)) from (by decide))).2.2.2 (by decide) (by decide) ?_
    exact k
  exact Outs.retV X1 hx hret (hb hby d6_33) hlk (by decide) (by decide) e1 ⟨rfl, N0, (Keep.refl h0 [o0, a1, a2]), E_o0, F_o0_values, F_o0_trail, F_o0_bound, A_a1, O_a1, A_a2⟩
theorem d6_8 : decode prog_8_method_8_code 8 = .ok (.aload_n 0, 1) := by decide +kernel
theorem d6_9 : decode prog_8_method_8_code 9 = .ok (.getfield 9, 3) := by decide +kernel
theorem d6_12 : decode prog_8_method_8_code 12 = .ok (.aload_n 0, 1) := by decide +kernel
theorem d6_13 : decode prog_8_method_8_code 13 = .ok (.getfield 15, 3) := by decide +kernel
theorem d6_16 : decode prog_8_method_8_code 16 = .ok (.aload_n 0, 1) := by decide +kernel
theorem d6_17 : decode prog_8_method_8_code 17 = .ok (.dup, 1) := by decide +kernel
theorem d6_18 : decode prog_8_method_8_code 18 = .ok (.getfield 19, 3) := by decide +kernel
theorem d6_21 : decode prog_8_method_8_code 21 = .ok (.iconst 1, 1) := by decide +kernel
theorem d6_22 : decode prog_8_method_8_code 22 = .ok (.isub, 1) := by decide +kernel
theorem d6_23 : decode prog_8_method_8_code 23 = .ok (.dup_x1, 1) := by decide +kernel
theorem d6_24 : decode prog_8_method_8_code 24 = .ok (.putfield 19, 3) := by decide +kernel
theorem d6_27 : decode prog_8_method_8_code 27 = .ok (.iaload, 1) := by decide +kernel
theorem d6_28 : decode prog_8_method_8_code 28 = .ok (.aconst_null, 1) := by decide +kernel
theorem d6_29 : decode prog_8_method_8_code 29 = .ok (.aastore, 1) := by decide +kernel
theorem d6_30 : decode prog_8_method_8_code 30 = .ok (.goto (-30), 3) := by decide +kernel
def Q_un10 (Z : State) (o0 : Addr) (a1 : Addr) (a2 : Addr) (vf : Nat → Value) (tg : Nat → Int32) (t0 : Nat) (h0 : Heap) (n0 : Nat) (v : Option Value) (h : Heap) (L : List Loc) : Prop := v = none ∧ Fr n0 L ∧ Keep h0 h [o0, a1, a2] ∧ Exa Z h o0 "com/example/knotwork/knotwork/core/Binding" ∧ Fld Z h o0 "com/example/knotwork/knotwork/core/Binding" "values" "[Lcom/example/knotwork/knotwork/core/Item;" (.ref a1) ∧ Fld Z h o0 "com/example/knotwork/knotwork/core/Binding" "trail" "[I" (.ref a2) ∧ Fld Z h o0 "com/example/knotwork/knotwork/core/Binding" "bound" "I" (.int (0 : Int32)) ∧ AF Z h a1 (.object "com/example/knotwork/knotwork/core/Item") 3 (upv vf t0 .null) ∧ OvA Z h a1 "com/example/knotwork/knotwork/core/Item" ∧ AI Z h a2 .int 3 tg
set_option maxRecDepth 65536 in
set_option maxHeartbeats 40000000 in
theorem rmun10 (l : Launch) (Z : State) (a0 : Array Value) (hw : ∀ d ∈ tables_1, d.before a0 Z = true) (ws : List Jvm.Cond) (o0 : Addr) (a1 : Addr) (a2 : Addr) (vf : Nat → Value) (tg : Nat → Int32) (t0 : Nat) (h0 : Heap) (n0 : Nat) (E_o0 : Exa Z h0 o0 "com/example/knotwork/knotwork/core/Binding") (g_o0 : n0 ≤ o0) (g_a1 : n0 ≤ a1) (g_a2 : n0 ≤ a2) (ne_o0_a1 : o0 ≠ a1) (ne_o0_a2 : o0 ≠ a2) (ne_a1_a2 : a1 ≠ a2) (F_o0_values : Fld Z h0 o0 "com/example/knotwork/knotwork/core/Binding" "values" "[Lcom/example/knotwork/knotwork/core/Item;" (.ref a1)) (F_o0_trail : Fld Z h0 o0 "com/example/knotwork/knotwork/core/Binding" "trail" "[I" (.ref a2)) (F_o0_bound : Fld Z h0 o0 "com/example/knotwork/knotwork/core/Binding" "bound" "I" (.int (1 : Int32))) (A_a1 : AF Z h0 a1 (.object "com/example/knotwork/knotwork/core/Item") 3 vf) (O_a1 : OvA Z h0 a1 "com/example/knotwork/knotwork/core/Item") (A_a2 : AI Z h0 a2 .int 3 tg) (hk0 : (tg 0).toInt = (t0 : Int)) (hn0 : t0 < 3) :
    MetFree l (⟨"com/example/knotwork/knotwork/core/Binding", "undo", "(I)V"⟩ : MethodName) (head1 (Jvm.Cond.code (⟨"com/example/knotwork/knotwork/core/Binding", "undo", "(I)V"⟩ : MethodName) prog_8_method_8_code 2 none :: ws) ({ frames := 0, cells := 0, slots := 0, locals := 0 } : Room)) (fun a U => a = #[(.ref o0), (.int (0 : Int32))] ∧ Z.Warmed39 U.vm ∧ U.heap = h0) (fun _ _ _ _ _ => True) (fun _ U o U' => ∃ v L, o = .returned v ∧ Q_un10 Z o0 a1 a2 vf tg t0 h0 n0 v U'.heap L ∧ FrameEnd U o U' L ({ frames := 0, cells := 0, slots := 0, locals := 0 } : Room).cells ({ frames := 0, cells := 0, slots := 0, locals := 0 } : Room).slots) := by
  refine MetFree.of_bodySF (plainFor_of_name pn_4) hisR ?_
  intro p e s m args below meth c s₁ Bd hml0 hP hK
  obtain ⟨rfl, hZ, hh⟩ := hP
  have hx := Bd.exec
  have hby := Bd.bytes
  have hml : c.maxLocals = 2 := hml0
  have hown : s.vm.findClass "com/example/knotwork/knotwork/core/Binding" = some m.cls := findClass_of_methodNamed Bd.named
  have hnm := (name_of_methodNamed Bd.named Bd.method).1
  have hret := Bd.returns
  have hlk : meth.locks = false := BodyLoose.notSynchronized Bd
  have X0 : Stand p l e ({ frames := 0, cells := 0, slots := 0, locals := 0 } : Room) s m #[(.ref o0), (.int (0 : Int32))] below meth c s₁ [] 0 0 := Stand.of_body Bd
  have e0 : s₁.heap = h0 := by rw [← hh, Bd.state]; rfl
  have N0 := Fr.nil n0
  show Outs p e below s (Q_un10 Z o0 a1 a2 vf tg t0 h0 n0) _ _ _
  refine Outs.of (U' := s₁.setTop (mkF m 0 #[.val (.ref o0), .val (.int (0 : Int32))] [])) (fun t k => castTop (ef_6 m o0 (0 : Int32)) k) ?_
  refine Outs.of (U' := s₁.setTop (mkF m 1 #[.val (.ref o0), .val (.int (0 : Int32))] [(.ref o0)])) (fun t k => ?_) ?_
  · refine XS.aloadN X0.here hx rfl (hb hby d6_0) rfl rfl ?_
    exact k
  obtain ⟨T1, X1, e1, st1⟩ := getF X0 hx hZ hown (host := "") (Or.inl (hw _ (List.mem_of_getElem? (i := 45) rfl))) Via.refl e0 F_o0_bound (g := (mkF m 1 #[.val (.ref o0), .val (.int (0 : Int32))] [(.ref o0)])) rfl rfl (hb hby d6_1)
  refine Outs.of st1 ?_
  refine Outs.of (U' := T1.setTop (mkF m 9 #[.val (.ref o0), .val (.int (0 : Int32))] [(.ref o0)])) (fun t k => ?_) ?_
  · refine XS.iloadN X1.here hx rfl (hb hby d6_4) rfl ?_
    refine XS.icmpNo X1.here hx rfl (hb hby d6_5) rfl (tlt (show (0 : Int32) < (1 : Int32) from (by decide))).2.2.2 ?_
    refine XS.aloadN X1.here hx rfl (hb hby d6_8) rfl rfl ?_
    exact k
  obtain ⟨T2, X2, e2, st2⟩ := getF X1 hx hZ hown (host := "") (Or.inl (hw _ (List.mem_of_getElem? (i := 34) rfl))) Via.refl e1 F_o0_values (g := (mkF m 9 #[.val (.ref o0), .val (.int (0 : Int32))] [(.ref o0)])) rfl rfl (hb hby d6_9)
  refine Outs.of st2 ?_
  refine Outs.of (U' := T2.setTop (mkF m 13 #[.val (.ref o0), .val (.int (0 : Int32))] [(.ref o0), (.ref a1)])) (fun t k => ?_) ?_
  · refine XS.aloadN X2.here hx rfl (hb hby d6_12) rfl rfl ?_
    exact k
  obtain ⟨T3, X3, e3, st3⟩ := getF X2 hx hZ hown (host := "") (Or.inl (hw _ (List.mem_of_getElem? (i := 37) rfl))) Via.refl e2 F_o0_trail (g := (mkF m 13 #[.val (.ref o0), .val (.int (0 : Int32))] [(.ref o0), (.ref a1)])) rfl rfl (hb hby d6_13)
  refine Outs.of st3 ?_
  refine Outs.of (U' := T3.setTop (mkF m 18 #[.val (.ref o0), .val (.int (0 : Int32))] [(.ref o0), (.ref o0), (.ref a2), (.ref a1)])) (fun t k => ?_) ?_
  · refine XS.aloadN X3.here hx rfl (hb hby d6_16) rfl rfl ?_
    refine XS.dup X3.here hx rfl (hb hby d6_17) rfl rfl ?_
    exact k
  obtain ⟨T4, X4, e4, st4⟩ := getF X3 hx hZ hown (host := "") (Or.inl (hw _ (List.mem_of_getElem? (i := 45) rfl))) Via.refl e3 F_o0_bound (g := (mkF m 18 #[.val (.ref o0), .val (.int (0 : Int32))] [(.ref o0), (.ref o0), (.ref a2), (.ref a1)])) rfl rfl (hb hby d6_18)
  refine Outs.of st4 ?_
  refine Outs.of (U' := T4.setTop (mkF m 24 #[.val (.ref o0), .val (.int (0 : Int32))] [(.int (0 : Int32)), (.ref o0), (.int (0 : Int32)), (.ref a2), (.ref a1)])) (fun t k => ?_) ?_
  · refine XS.iconst X4.here hx rfl (hb hby d6_21) ?_
    refine XS.isub X4.here hx rfl (hb hby d6_22) rfl ?_
    refine XS.dupX1 X4.here hx rfl (hb hby d6_23) rfl rfl rfl ?_
    exact k
  obtain ⟨T5, h5, X5, e5, W5, st5⟩ := putF X4 hx hZ hown (host := "") (Or.inl (hw _ (List.mem_of_getElem? (i := 45) rfl))) Via.refl e4 F_o0_bound E_o0 (Or.inl (hw _ (List.mem_of_getElem? (i := 46) rfl))) (hw _ (List.mem_of_getElem? (i := 26) rfl)) (ty := .int) (by decide) rfl rfl (g := (mkF m 24 #[.val (.ref o0), .val (.int (0 : Int32))] [(.int (0 : Int32)), (.ref o0), (.int (0 : Int32)), (.ref a2), (.ref a1)])) rfl rfl (hb hby d6_24)
  have F5 : Fld Z h5 o0 "com/example/knotwork/knotwork/core/Binding" "bound" "I" (.int (0 : Int32)) := F_o0_bound.same W5
  have N5 := Fr.snoc X5 N0 g_o0
  obtain ⟨Lh5, X5, N5⟩ := hide X5 N5 (C := 0) (S := 0) (by decide) (by decide)
  refine Outs.of st5 ?_
  have f6 : AI Z h5 a2 .int 3 tg := (A_a2.other W5 ne_o0_a2.symm)
  refine Outs.of (ldI X5 hx hZ e5 f6 (j := (0 : Int32)) (k := 0) rfl (by decide) (f := (mkF m 27 #[.val (.ref o0), .val (.int (0 : Int32))] [(.int (0 : Int32)), (.ref a2), (.ref a1)])) rfl rfl (hb hby d6_27)) ?_
  refine Outs.of (U' := T5.setTop (mkF m 29 #[.val (.ref o0), .val (.int (0 : Int32))] [.null, (.int (tg 0)), (.ref a1)])) (fun t k => ?_) ?_
  · refine XS.aconstNull X5.here hx rfl (hb hby d6_28) ?_
    exact k
  have f7 : AF Z h5 a1 (.object "com/example/knotwork/knotwork/core/Item") 3 vf := (A_a1.other W5 ne_o0_a1.symm)
  obtain ⟨T8, h8, X8, e8, W8, V8, st8⟩ := puR X5 hx hZ e5 f7 rfl (Or.inl rfl) (j := (tg 0)) (k := t0) hk0 hn0 (f := (mkF m 29 #[.val (.ref o0), .val (.int (0 : Int32))] [.null, (.int (tg 0)), (.ref a1)])) rfl rfl (hb hby d6_29)
  replace V8 : AF Z h8 a1 (.object "com/example/knotwork/knotwork/core/Item") 3 (upv vf t0 .null) := V8
  have N8 := Fr.snoc X8 N5 g_a1
  obtain ⟨Lh8, X8, N8⟩ := hide X8 N8 (C := 0) (S := 0) (by decide) (by decide)
  refine Outs.of st8 ?_
  refine Outs.of (U' := T8.setTop (mkF m 1 #[.val (.ref o0), .val (.int (0 : Int32))] [(.ref o0)])) (fun t k => ?_) ?_
  · refine XS.goto X8.here hx rfl (pc0 := 30) (pc' := 0) rfl (hb hby d6_30) (by decide) (by decide) ?_
    refine XS.aloadN X8.here hx rfl (hb hby d6_0) rfl rfl ?_
    exact k
  have f10 : Fld Z h8 o0 "com/example/knotwork/knotwork/core/Binding" "bound" "I" (.int (0 : Int32)) := (F5.other W8 (Or.inl ne_o0_a1))
  obtain ⟨T9, X9, e9, st9⟩ := getF X8 hx hZ hown (host := "") (Or.inl (hw _ (List.mem_of_getElem? (i := 45) rfl))) Via.refl e8 f10 (g := (mkF m 1 #[.val (.ref o0), .val (.int (0 : Int32))] [(.ref o0)])) rfl rfl (hb hby d6_1)
  refine Outs.of st9 ?_
  refine Outs.of (U' := T9.setTop (mkF m 33 #[.val (.ref o0), .val (.int (0 : Int32))] [])) (fun t k => ?_) ?_
  · refine XS.iloadN X9.here hx rfl (hb hby d6_4) rfl ?_
    refine XS.icmpYes X9.here hx rfl (pc0 := 5) (pc' := 33) rfl (hb hby d6_5) rfl (flt (show ¬ ((0 : Int32) < (0 : Int32)) from (by decide))).2.2.2 (by decide) (by decide) ?_
    exact k
  have f11 : Exa Z h8 o0 "com/example/knotwork/knotwork/core/Binding" := ((E_o0.wr W5).wr W8)
  have f12 : Fld Z h8 o0 "com/example/knotwork/knotwork/core/Binding" "values" "[Lcom/example/knotwork/knotwork/core/Item;" (.ref a1) := ((F_o0_values.other W5 (Or.inr (slot_ne (Or.inr (hw _ (List.mem_of_getElem? (i := 35) rfl))) (Or.inl (hw _ (List.mem_of_getElem? (i := 46) rfl))) (by decide) (t := (.array (.object "com/example/knotwork/knotwork/core/Item"))) (t' := .int) (by decide) (by decide)))).other W8 (Or.inl ne_o0_a1))
  have f13 : Fld Z h8 o0 "com/example/knotwork/knotwork/core/Binding" "trail" "[I" (.ref a2) := ((F_o0_trail.other W5 (Or.inr (slot_ne (Or.inr (hw _ (List.mem_of_getElem? (i := 38) rfl))) (Or.inl (hw _ (List.mem_of_getElem? (i := 46) rfl))) (by decide) (t := (.array .int)) (t' := .int) (by decide) (by decide)))).other W8 (Or.inl ne_o0_a1))
  have f14 : OvA Z h8 a1 "com/example/knotwork/knotwork/core/Item" := ((O_a1.wr W5).wr W8)
  have f15 : AI Z h8 a2 .int 3 tg := (f6.other W8 ne_a1_a2.symm)
  exact Outs.retV X9 hx hret (hb hby d6_33) hlk (by decide) (by decide) e9 ⟨rfl, N8, (((Keep.refl h0 [o0, a1, a2]).wr W5 (Or.inl (List.mem_of_getElem? (i := 0) rfl))).wr W8 (Or.inl (List.mem_of_getElem? (i := 1) rfl))), f11, f12, f13, f10, V8, f14, f15⟩
def Q_un11 (Z : State) (o0 : Addr) (a1 : Addr) (a2 : Addr) (vf : Nat → Value) (tg : Nat → Int32) (h0 : Heap) (n0 : Nat) (v : Option Value) (h : Heap) (L : List Loc) : Prop := v = none ∧ Fr n0 L ∧ Keep h0 h [o0, a1, a2] ∧ Exa Z h o0 "com/example/knotwork/knotwork/core/Binding" ∧ Fld Z h o0 "com/example/knotwork/knotwork/core/Binding" "values" "[Lcom/example/knotwork/knotwork/core/Item;" (.ref a1) ∧ Fld Z h o0 "com/example/knotwork/knotwork/core/Binding" "trail" "[I" (.ref a2) ∧ Fld Z h o0 "com/example/knotwork/knotwork/core/Binding" "bound" "I" (.int (1 : Int32)) ∧ AF Z h a1 (.object "com/example/knotwork/knotwork/core/Item") 3 vf ∧ OvA Z h a1 "com/example/knotwork/knotwork/core/Item" ∧ AI Z h a2 .int 3 tg
set_option maxRecDepth 65536 in
set_option maxHeartbeats 40000000 in
theorem rmun11 (l : Launch) (Z : State) (a0 : Array Value) (hw : ∀ d ∈ tables_1, d.before a0 Z = true) (ws : List Jvm.Cond) (o0 : Addr) (a1 : Addr) (a2 : Addr) (vf : Nat → Value) (tg : Nat → Int32) (h0 : Heap) (n0 : Nat) (E_o0 : Exa Z h0 o0 "com/example/knotwork/knotwork/core/Binding") (g_o0 : n0 ≤ o0) (g_a1 : n0 ≤ a1) (g_a2 : n0 ≤ a2) (ne_o0_a1 : o0 ≠ a1) (ne_o0_a2 : o0 ≠ a2) (ne_a1_a2 : a1 ≠ a2) (F_o0_values : Fld Z h0 o0 "com/example/knotwork/knotwork/core/Binding" "values" "[Lcom/example/knotwork/knotwork/core/Item;" (.ref a1)) (F_o0_trail : Fld Z h0 o0 "com/example/knotwork/knotwork/core/Binding" "trail" "[I" (.ref a2)) (F_o0_bound : Fld Z h0 o0 "com/example/knotwork/knotwork/core/Binding" "bound" "I" (.int (1 : Int32))) (A_a1 : AF Z h0 a1 (.object "com/example/knotwork/knotwork/core/Item") 3 vf) (O_a1 : OvA Z h0 a1 "com/example/knotwork/knotwork/core/Item") (A_a2 : AI Z h0 a2 .int 3 tg) :
    MetFree l (⟨"com/example/knotwork/knotwork/core/Binding", "undo", "(I)V"⟩ : MethodName) (head1 (Jvm.Cond.code (⟨"com/example/knotwork/knotwork/core/Binding", "undo", "(I)V"⟩ : MethodName) prog_8_method_8_code 2 none :: ws) ({ frames := 0, cells := 0, slots := 0, locals := 0 } : Room)) (fun a U => a = #[(.ref o0), (.int (1 : Int32))] ∧ Z.Warmed39 U.vm ∧ U.heap = h0) (fun _ _ _ _ _ => True) (fun _ U o U' => ∃ v L, o = .returned v ∧ Q_un11 Z o0 a1 a2 vf tg h0 n0 v U'.heap L ∧ FrameEnd U o U' L ({ frames := 0, cells := 0, slots := 0, locals := 0 } : Room).cells ({ frames := 0, cells := 0, slots := 0, locals := 0 } : Room).slots) := by
  refine MetFree.of_bodySF (plainFor_of_name pn_4) hisR ?_
  intro p e s m args below meth c s₁ Bd hml0 hP hK
  obtain ⟨rfl, hZ, hh⟩ := hP
  have hx := Bd.exec
  have hby := Bd.bytes
  have hml : c.maxLocals = 2 := hml0
  have hown : s.vm.findClass "com/example/knotwork/knotwork/core/Binding" = some m.cls := findClass_of_methodNamed Bd.named
  have hnm := (name_of_methodNamed Bd.named Bd.method).1
  have hret := Bd.returns
  have hlk : meth.locks = false := BodyLoose.notSynchronized Bd
  have X0 : Stand p l e ({ frames := 0, cells := 0, slots := 0, locals := 0 } : Room) s m #[(.ref o0), (.int (1 : Int32))] below meth c s₁ [] 0 0 := Stand.of_body Bd
  have e0 : s₁.heap = h0 := by rw [← hh, Bd.state]; rfl
  have N0 := Fr.nil n0
  show Outs p e below s (Q_un11 Z o0 a1 a2 vf tg h0 n0) _ _ _
  refine Outs.of (U' := s₁.setTop (mkF m 0 #[.val (.ref o0), .val (.int (1 : Int32))] [])) (fun t k => castTop (ef_6 m o0 (1 : Int32)) k) ?_
  refine Outs.of (U' := s₁.setTop (mkF m 1 #[.val (.ref o0), .val (.int (1 : Int32))] [(.ref o0)])) (fun t k => ?_) ?_
  · refine XS.aloadN X0.here hx rfl (hb hby d6_0) rfl rfl ?_
    exact k
  obtain ⟨T1, X1, e1, st1⟩ := getF X0 hx hZ hown (host := "") (Or.inl (hw _ (List.mem_of_getElem? (i := 45) rfl))) Via.refl e0 F_o0_bound (g := (mkF m 1 #[.val (.ref o0), .val (.int (1 : Int32))] [(.ref o0)])) rfl rfl (hb hby d6_1)
  refine Outs.of st1 ?_
  refine Outs.of (U' := T1.setTop (mkF m 33 #[.val (.ref o0), .val (.int (1 : Int32))] [])) (fun t k => ?_) ?_
  · refine XS.iloadN X1.here hx rfl (hb hby d6_4) rfl ?_
    refine XS.icmpYes X1.here hx rfl (pc0 := 5) (pc' := 33) rfl (hb hby d6_5) rfl (flt (show ¬ ((1 : Int32) < (1 : Int32)) from (by decide))).2.2.2 (by decide) (by decide) ?_
    exact k
  exact Outs.retV X1 hx hret (hb hby d6_33) hlk (by decide) (by decide) e1 ⟨rfl, N0, (Keep.refl h0 [o0, a1, a2]), E_o0, F_o0_values, F_o0_trail, F_o0_bound, A_a1, O_a1, A_a2⟩
def Q_un20 (Z : State) (o0 : Addr) (a1 : Addr) (a2 : Addr) (vf : Nat → Value) (tg : Nat → Int32) (t0 : Nat) (t1 : Nat) (h0 : Heap) (n0 : Nat) (v : Option Value) (h : Heap) (L : List Loc) : Prop := v = none ∧ Fr n0 L ∧ Keep h0 h [o0, a1, a2] ∧ Exa Z h o0 "com/example/knotwork/knotwork/core/Binding" ∧ Fld Z h o0 "com/example/knotwork/knotwork/core/Binding" "values" "[Lcom/example/knotwork/knotwork/core/Item;" (.ref a1) ∧ Fld Z h o0 "com/example/knotwork/knotwork/core/Binding" "trail" "[I" (.ref a2) ∧ Fld Z h o0 "com/example/knotwork/knotwork/core/Binding" "bound" "I" (.int (0 : Int32)) ∧ AF Z h a1 (.object "com/example/knotwork/knotwork/core/Item") 3 (upv (upv vf t1 .null) t0 .null) ∧ OvA Z h a1 "com/example/knotwork/knotwork/core/Item" ∧ AI Z h a2 .int 3 tg
set_option maxRecDepth 65536 in
set_option maxHeartbeats 40000000 in
theorem rmun20 (l : Launch) (Z : State) (a0 : Array Value) (hw : ∀ d ∈ tables_1, d.before a0 Z = true) (ws : List Jvm.Cond) (o0 : Addr) (a1 : Addr) (a2 : Addr) (vf : Nat → Value) (tg : Nat → Int32) (t0 : Nat) (t1 : Nat) (h0 : Heap) (n0 : Nat) (E_o0 : Exa Z h0 o0 "com/example/knotwork/knotwork/core/Binding") (g_o0 : n0 ≤ o0) (g_a1 : n0 ≤ a1) (g_a2 : n0 ≤ a2) (ne_o0_a1 : o0 ≠ a1) (ne_o0_a2 : o0 ≠ a2) (ne_a1_a2 : a1 ≠ a2) (F_o0_values : Fld Z h0 o0 "com/example/knotwork/knotwork/core/Binding" "values" "[Lcom/example/knotwork/knotwork/core/Item;" (.ref a1)) (F_o0_trail : Fld Z h0 o0 "com/example/knotwork/knotwork/core/Binding" "trail" "[I" (.ref a2)) (F_o0_bound : Fld Z h0 o0 "com/example/knotwork/knotwork/core/Binding" "bound" "I" (.int (2 : Int32))) (A_a1 : AF Z h0 a1 (.object "com/example/knotwork/knotwork/core/Item") 3 vf) (O_a1 : OvA Z h0 a1 "com/example/knotwork/knotwork/core/Item") (A_a2 : AI Z h0 a2 .int 3 tg) (hk0 : (tg 0).toInt = (t0 : Int)) (hn0 : t0 < 3) (hk1 : (tg 1).toInt = (t1 : Int)) (hn1 : t1 < 3) :
    MetFree l (⟨"com/example/knotwork/knotwork/core/Binding", "undo", "(I)V"⟩ : MethodName) (head1 (Jvm.Cond.code (⟨"com/example/knotwork/knotwork/core/Binding", "undo", "(I)V"⟩ : MethodName) prog_8_method_8_code 2 none :: ws) ({ frames := 0, cells := 0, slots := 0, locals := 0 } : Room)) (fun a U => a = #[(.ref o0), (.int (0 : Int32))] ∧ Z.Warmed39 U.vm ∧ U.heap = h0) (fun _ _ _ _ _ => True) (fun _ U o U' => ∃ v L, o = .returned v ∧ Q_un20 Z o0 a1 a2 vf tg t0 t1 h0 n0 v U'.heap L ∧ FrameEnd U o U' L ({ frames := 0, cells := 0, slots := 0, locals := 0 } : Room).cells ({ frames := 0, cells := 0, slots := 0, locals := 0 } : Room).slots) := by
  refine MetFree.of_bodySF (plainFor_of_name pn_4) hisR ?_
  intro p e s m args below meth c s₁ Bd hml0 hP hK
  obtain ⟨rfl, hZ, hh⟩ := hP
  have hx := Bd.exec
  have hby := Bd.bytes
  have hml : c.maxLocals = 2 := hml0
  have hown : s.vm.findClass "com/example/knotwork/knotwork/core/Binding" = some m.cls := findClass_of_methodNamed Bd.named
  have hnm := (name_of_methodNamed Bd.named Bd.method).1
  have hret := Bd.returns
  have hlk : meth.locks = false := BodyLoose.notSynchronized Bd
  have X0 : Stand p l e ({ frames := 0, cells := 0, slots := 0, locals := 0 } : Room) s m #[(.ref o0), (.int (0 : Int32))] below meth c s₁ [] 0 0 := Stand.of_body Bd
  have e0 : s₁.heap = h0 := by rw [← hh, Bd.state]; rfl
  have N0 := Fr.nil n0
  show Outs p e below s (Q_un20 Z o0 a1 a2 vf tg t0 t1 h0 n0) _ _ _
  refine Outs.of (U' := s₁.setTop (mkF m 0 #[.val (.ref o0), .val (.int (0 : Int32))] [])) (fun t k => castTop (ef_6 m o0 (0 : Int32)) k) ?_
  refine Outs.of (U' := s₁.setTop (mkF m 1 #[.val (.ref o0), .val (.int (0 : Int32))] [(.ref o0)])) (fun t k => ?_) ?_
  · refine XS.aloadN X0.here hx rfl (hb hby d6_0) rfl rfl ?_
    exact k
  obtain ⟨T1, X1, e1, st1⟩ := getF X0 hx hZ hown (host := "") (Or.inl (hw _ (List.mem_of_getElem? (i := 45) rfl))) Via.refl e0 F_o0_bound (g := (mkF m 1 #[.val (.ref o0), .val (.int (0 : Int32))] [(.ref o0)])) rfl rfl (hb hby d6_1)
  refine Outs.of st1 ?_
  refine Outs.of (U' := T1.setTop (mkF m 9 #[.val (.ref o0), .val (.int (0 : Int32))] [(.ref o0)])) (fun t k => ?_) ?_
  · refine XS.iloadN X1.here hx rfl (hb hby d6_4) rfl ?_
    refine XS.icmpNo X1.here hx rfl (hb hby d6_5) rfl (tlt (show (0 : Int32) < (2 : Int32) from (by decide))).2.2.2 ?_
    refine XS.aloadN X1.here hx rfl (hb hby d6_8) rfl rfl ?_
    exact k
  obtain ⟨T2, X2, e2, st2⟩ := getF X1 hx hZ hown (host := "") (Or.inl (hw _ (List.mem_of_getElem? (i := 34) rfl))) Via.refl e1 F_o0_values (g := (mkF m 9 #[.val (.ref o0), .val (.int (0 : Int32))] [(.ref o0)])) rfl rfl (hb hby d6_9)
  refine Outs.of st2 ?_
  refine Outs.of (U' := T2.setTop (mkF m 13 #[.val (.ref o0), .val (.int (0 : Int32))] [(.ref o0), (.ref a1)])) (fun t k => ?_) ?_
  · refine XS.aloadN X2.here hx rfl (hb hby d6_12) rfl rfl ?_
    exact k
  obtain ⟨T3, X3, e3, st3⟩ := getF X2 hx hZ hown (host := "") (Or.inl (hw _ (List.mem_of_getElem? (i := 37) rfl))) Via.refl e2 F_o0_trail (g := (mkF m 13 #[.val (.ref o0), .val (.int (0 : Int32))] [(.ref o0), (.ref a1)])) rfl rfl (hb hby d6_13)
  refine Outs.of st3 ?_
  refine Outs.of (U' := T3.setTop (mkF m 18 #[.val (.ref o0), .val (.int (0 : Int32))] [(.ref o0), (.ref o0), (.ref a2), (.ref a1)])) (fun t k => ?_) ?_
  · refine XS.aloadN X3.here hx rfl (hb hby d6_16) rfl rfl ?_
    refine XS.dup X3.here hx rfl (hb hby d6_17) rfl rfl ?_
    exact k
  obtain ⟨T4, X4, e4, st4⟩ := getF X3 hx hZ hown (host := "") (Or.inl (hw _ (List.mem_of_getElem? (i := 45) rfl))) Via.refl e3 F_o0_bound (g := (mkF m 18 #[.val (.ref o0), .val (.int (0 : Int32))] [(.ref o0), (.ref o0), (.ref a2), (.ref a1)])) rfl rfl (hb hby d6_18)
  refine Outs.of st4 ?_
  refine Outs.of (U' := T4.setTop (mkF m 24 #[.val (.ref o0), .val (.int (0 : Int32))] [(.int (1 : Int32)), (.ref o0), (.int (1 : Int32)), (.ref a2), (.ref a1)])) (fun t k => ?_) ?_
  · refine XS.iconst X4.here hx rfl (hb hby d6_21) ?_
    refine XS.isub X4.here hx rfl (hb hby d6_22) rfl ?_
    refine XS.dupX1 X4.here hx rfl (hb hby d6_23) rfl rfl rfl ?_
    exact k
  obtain ⟨T5, h5, X5, e5, W5, st5⟩ := putF X4 hx hZ hown (host := "") (Or.inl (hw _ (List.mem_of_getElem? (i := 45) rfl))) Via.refl e4 F_o0_bound E_o0 (Or.inl (hw _ (List.mem_of_getElem? (i := 46) rfl))) (hw _ (List.mem_of_getElem? (i := 26) rfl)) (ty := .int) (by decide) rfl rfl (g := (mkF m 24 #[.val (.ref o0), .val (.int (0 : Int32))] [(.int (1 : Int32)), (.ref o0), (.int (1 : Int32)), (.ref a2), (.ref a1)])) rfl rfl (hb hby d6_24)
  have F5 : Fld Z h5 o0 "com/example/knotwork/knotwork/core/Binding" "bound" "I" (.int (1 : Int32)) := F_o0_bound.same W5
  have N5 := Fr.snoc X5 N0 g_o0
  obtain ⟨Lh5, X5, N5⟩ := hide X5 N5 (C := 0) (S := 0) (by decide) (by decide)
  refine Outs.of st5 ?_
  have f6 : AI Z h5 a2 .int 3 tg := (A_a2.other W5 ne_o0_a2.symm)
  refine Outs.of (ldI X5 hx hZ e5 f6 (j := (1 : Int32)) (k := 1) rfl (by decide) (f := (mkF m 27 #[.val (.ref o0), .val (.int (0 : Int32))] [(.int (1 : Int32)), (.ref a2), (.ref a1)])) rfl rfl (hb hby d6_27)) ?_
  refine Outs.of (U' := T5.setTop (mkF m 29 #[.val (.ref o0), .val (.int (0 : Int32))] [.null, (.int (tg 1)), (.ref a1)])) (fun t k => ?_) ?_
  · refine XS.aconstNull X5.here hx rfl (hb hby d6_28) ?_
    exact k
  have f7 : AF Z h5 a1 (.object "com/example/knotwork/knotwork/core/Item") 3 vf := (A_a1.other W5 ne_o0_a1.symm)
  obtain ⟨T8, h8, X8, e8, W8, V8, st8⟩ := puR X5 hx hZ e5 f7 rfl (Or.inl rfl) (j := (tg 1)) (k := t1) hk1 hn1 (f := (mkF m 29 #[.val (.ref o0), .val (.int (0 : Int32))] [.null, (.int (tg 1)), (.ref a1)])) rfl rfl (hb hby d6_29)
  replace V8 : AF Z h8 a1 (.object "com/example/knotwork/knotwork/core/Item") 3 (upv vf t1 .null) := V8
  have N8 := Fr.snoc X8 N5 g_a1
  obtain ⟨Lh8, X8, N8⟩ := hide X8 N8 (C := 0) (S := 0) (by decide) (by decide)
  refine Outs.of st8 ?_
  refine Outs.of (U' := T8.setTop (mkF m 1 #[.val (.ref o0), .val (.int (0 : Int32))] [(.ref o0)])) (fun t k => ?_) ?_
  · refine XS.goto X8.here hx rfl (pc0 := 30) (pc' := 0) rfl (hb hby d6_30) (by decide) (by decide) ?_
    refine XS.aloadN X8.here hx rfl (hb hby d6_0) rfl rfl ?_
    exact k
  have f10 : Fld Z h8 o0 "com/example/knotwork/knotwork/core/Binding" "bound" "I" (.int (1 : Int32)) := (F5.other W8 (Or.inl ne_o0_a1))
  obtain ⟨T9, X9, e9, st9⟩ := getF X8 hx hZ hown (host := "") (Or.inl (hw _ (List.mem_of_getElem? (i := 45) rfl))) Via.refl e8 f10 (g := (mkF m 1 #[.val (.ref o0), .val (.int (0 : Int32))] [(.ref o0)])) rfl rfl (hb hby d6_1)
  refine Outs.of st9 ?_
  refine Outs.of (U' := T9.setTop (mkF m 9 #[.val (.ref o0), .val (.int (0 : Int32))] [(.ref o0)])) (fun t k => ?_) ?_
  · refine XS.iloadN X9.here hx rfl (hb hby d6_4) rfl ?_
    refine XS.icmpNo X9.here hx rfl (hb hby d6_5) rfl (tlt (show (0 : Int32) < (1 : Int32) from (by decide))).2.2.2 ?_
    refine XS.aloadN X9.here hx rfl (hb hby d6_8) rfl rfl ?_
    exact k
  have f12 : Fld Z h8 o0 "com/example/knotwork/knotwork/core/Binding" "values" "[Lcom/example/knotwork/knotwork/core/Item;" (.ref a1) := ((F_o0_values.other W5 (Or.inr (slot_ne (Or.inr (hw _ (List.mem_of_getElem? (i := 35) rfl))) (Or.inl (hw _ (List.mem_of_getElem? (i := 46) rfl))) (by decide) (t := (.array (.object "com/example/knotwork/knotwork/core/Item"))) (t' := .int) (by decide) (by decide)))).other W8 (Or.inl ne_o0_a1))
  obtain ⟨T11, X11, e11, st11⟩ := getF X9 hx hZ hown (host := "") (Or.inl (hw _ (List.mem_of_getElem? (i := 34) rfl))) Via.refl e9 f12 (g := (mkF m 9 #[.val (.ref o0), .val (.int (0 : Int32))] [(.ref o0)])) rfl rfl (hb hby d6_9)
  refine Outs.of st11 ?_
  refine Outs.of (U' := T11.setTop (mkF m 13 #[.val (.ref o0), .val (.int (0 : Int32))] [(.ref o0), (.ref a1)])) (fun t k => ?_) ?_
  · refine XS.aloadN X11.here hx rfl (hb hby d6_12) rfl rfl ?_
    exact k
  have f14 : Fld Z h8 o0 "com/example/knotwork/knotwork/core/Binding" "trail" "[I" (.ref a2) := ((F_o0_trail.other W5 (Or.inr (slot_ne (Or.inr (hw _ (List.mem_of_getElem? (i := 38) rfl))) (Or.inl (hw _ (List.mem_of_getElem? (i := 46) rfl))) (by decide) (t := (.array .int)) (t' := .int) (by decide) (by decide)))).other W8 (Or.inl ne_o0_a1))
  obtain ⟨T13, X13, e13, st13⟩ := getF X11 hx hZ hown (host := "") (Or.inl (hw _ (List.mem_of_getElem? (i := 37) rfl))) Via.refl e11 f14 (g := (mkF m 13 #[.val (.ref o0), .val (.int (0 : Int32))] [(.ref o0), (.ref a1)])) rfl rfl (hb hby d6_13)
  refine Outs.of st13 ?_
  refine Outs.of (U' := T13.setTop (mkF m 18 #[.val (.ref o0), .val (.int (0 : Int32))] [(.ref o0), (.ref o0), (.ref a2), (.ref a1)])) (fun t k => ?_) ?_
  · refine XS.aloadN X13.here hx rfl (hb hby d6_16) rfl rfl ?_
    refine XS.dup X13.here hx rfl (hb hby d6_17) rfl rfl ?_
    exact k
  obtain ⟨T15, X15, e15, st15⟩ := getF X13 hx hZ hown (host := "") (Or.inl (hw _ (List.mem_of_getElem? (i := 45) rfl))) Via.refl e13 f10 (g := (mkF m 18 #[.val (.ref o0), .val (.int (0 : Int32))] [(.ref o0), (.ref o0), (.ref a2), (.ref a1)])) rfl rfl (hb hby d6_18)
  refine Outs.of st15 ?_
  refine Outs.of (U' := T15.setTop (mkF m 24 #[.val (.ref o0), .val (.int (0 : Int32))] [(.int (0 : Int32)), (.ref o0), (.int (0 : Int32)), (.ref a2), (.ref a1)])) (fun t k => ?_) ?_
  · refine XS.iconst X15.here hx rfl (hb hby d6_21) ?_
    refine XS.isub X15.here hx rfl (hb hby d6_22) rfl ?_
    refine XS.dupX1 X15.here hx rfl (hb hby d6_23) rfl rfl rfl ?_
    exact k
  have f17 : Exa Z h8 o0 "com/example/knotwork/knotwork/core/Binding" := ((E_o0.wr W5).wr W8)
  obtain ⟨T16, h16, X16, e16, W16, st16⟩ := putF X15 hx hZ hown (host := "") (Or.inl (hw _ (List.mem_of_getElem? (i := 45) rfl))) Via.refl e15 f10 f17 (Or.inl (hw _ (List.mem_of_getElem? (i := 46) rfl))) (hw _ (List.mem_of_getElem? (i := 26) rfl)) (ty := .int) (by decide) rfl rfl (g := (mkF m 24 #[.val (.ref o0), .val (.int (0 : Int32))] [(.int (0 : Int32)), (.ref o0), (.int (0 : Int32)), (.ref a2), (.ref a1)])) rfl rfl (hb hby d6_24)
  have F16 : Fld Z h16 o0 "com/example/knotwork/knotwork/core/Binding" "bound" "I" (.int (0 : Int32)) := f10.same W16
  have N16 := Fr.snoc X16 N8 g_o0
  obtain ⟨Lh16, X16, N16⟩ := hide X16 N16 (C := 0) (S := 0) (by decide) (by decide)
  refine Outs.of st16 ?_
  have f18 : AI Z h16 a2 .int 3 tg := ((f6.other W8 ne_a1_a2.symm).other W16 ne_o0_a2.symm)
  refine Outs.of (ldI X16 hx hZ e16 f18 (j := (0 : Int32)) (k := 0) rfl (by decide) (f := (mkF m 27 #[.val (.ref o0), .val (.int (0 : Int32))] [(.int (0 : Int32)), (.ref a2), (.ref a1)])) rfl rfl (hb hby d6_27)) ?_
  refine Outs.of (U' := T16.setTop (mkF m 29 #[.val (.ref o0), .val (.int (0 : Int32))] [.null, (.int (tg 0)), (.ref a1)])) (fun t k => ?_) ?_
  · refine XS.aconstNull X16.here hx rfl (hb hby d6_28) ?_
    exact k
  have f19 : AF Z h16 a1 (.object "com/example/knotwork/knotwork/core/Item") 3 (upv vf t1 .null) := (V8.other W16 ne_o0_a1.symm)
  obtain ⟨T20, h20, X20, e20, W20, V20, st20⟩ := puR X16 hx hZ e16 f19 rfl (Or.inl rfl) (j := (tg 0)) (k := t0) hk0 hn0 (f := (mkF m 29 #[.val (.ref o0), .val (.int (0 : Int32))] [.null, (.int (tg 0)), (.ref a1)])) rfl rfl (hb hby d6_29)
  replace V20 : AF Z h20 a1 (.object "com/example/knotwork/knotwork/core/Item") 3 (upv (upv vf t1 .null) t0 .null) := V20
  have N20 := Fr.snoc X20 N16 g_a1
  obtain ⟨Lh20, X20, N20⟩ := hide X20 N20 (C := 0) (S := 0) (by decide) (by decide)
  refine Outs.of st20 ?_
  refine Outs.of (U' := T20.setTop (mkF m 1 #[.val (.ref o0), .val (.int (0 : Int32))] [(.ref o0)])) (fun t k => ?_) ?_
  · refine XS.goto X20.here hx rfl (pc0 := 30) (pc' := 0) rfl (hb hby d6_30) (by decide) (by decide) ?_
    refine XS.aloadN X20.here hx rfl (hb hby d6_0) rfl rfl ?_
    exact k
  have f22 : Fld Z h20 o0 "com/example/knotwork/knotwork/core/Binding" "bound" "I" (.int (0 : Int32)) := (F16.other W20 (Or.inl ne_o0_a1))
  obtain ⟨T21, X21, e21, st21⟩ := getF X20 hx hZ hown (host := "") (Or.inl (hw _ (List.mem_of_getElem? (i := 45) rfl))) Via.refl e20 f22 (g := (mkF m 1 #[.val (.ref o0), .val (.int (0 : Int32))] [(.ref o0)])) rfl rfl (hb hby d6_1)
  refine Outs.of st21 ?_
  refine Outs.of (U' := T21.setTop (mkF m 33 #[.val (.ref o0), .val (.int (0 : Int32))] [])) (fun t k => ?_) ?_
  · refine XS.iloadN X21.here hx rfl (hb hby d6_4) rfl ?_
    refine XS.icmpYes X21.here hx rfl (pc0 := 5) (pc' := 33) rfl (hb hby d6_5) rfl (flt (show ¬ ((0 : Int32) < (0 : Int32)) from (by decide))).2.2.2 (by decide) (by decide) ?_
    exact k
  have f23 : Exa Z h20 o0 "com/example/knotwork/knotwork/core/Binding" := ((f17.wr W16).wr W20)
  have f24 : Fld Z h20 o0 "com/example/knotwork/knotwork/core/Binding" "values" "[Lcom/example/knotwork/knotwork/core/Item;" (.ref a1) := ((f12.other W16 (Or.inr (slot_ne (Or.inr (hw _ (List.mem_of_getElem? (i := 35) rfl))) (Or.inl (hw _ (List.mem_of_getElem? (i := 46) rfl))) (by decide) (t := (.array (.object "com/example/knotwork/knotwork/core/Item"))) (t' := .int) (by decide) (by decide)))).other W20 (Or.inl ne_o0_a1))
  have f25 : Fld Z h20 o0 "com/example/knotwork/knotwork/core/Binding" "trail" "[I" (.ref a2) := ((f14.other W16 (Or.inr (slot_ne (Or.inr (hw _ (List.mem_of_getElem? (i := 38) rfl))) (Or.inl (hw _ (List.mem_of_getElem? (i := 46) rfl))) (by decide) (t := (.array .int)) (t' := .int) (by decide) (by decide)))).other W20 (Or.inl ne_o0_a1))
  have f26 : OvA Z h20 a1 "com/example/knotwork/knotwork/core/Item" := ((((O_a1.wr W5).wr W8).wr W16).wr W20)
  have f27 : AI Z h20 a2 .int 3 tg := (f18.other W20 ne_a1_a2.symm)
  exact Outs.retV X21 hx hret (hb hby d6_33) hlk (by decide) (by decide) e21 ⟨rfl, N20, (((((Keep.refl h0 [o0, a1, a2]).wr W5 (Or.inl (List.mem_of_getElem? (i := 0) rfl))).wr W8 (Or.inl (List.mem_of_getElem? (i := 1) rfl))).wr W16 (Or.inl (List.mem_of_getElem? (i := 0) rfl))).wr W20 (Or.inl (List.mem_of_getElem? (i := 1) rfl))), f23, f24, f25, f22, V20, f26, f27⟩
def Q_un21 (Z : State) (o0 : Addr) (a1 : Addr) (a2 : Addr) (vf : Nat → Value) (tg : Nat → Int32) (t1 : Nat) (h0 : Heap) (n0 : Nat) (v : Option Value) (h : Heap) (L : List Loc) : Prop := v = none ∧ Fr n0 L ∧ Keep h0 h [o0, a1, a2] ∧ Exa Z h o0 "com/example/knotwork/knotwork/core/Binding" ∧ Fld Z h o0 "com/example/knotwork/knotwork/core/Binding" "values" "[Lcom/example/knotwork/knotwork/core/Item;" (.ref a1) ∧ Fld Z h o0 "com/example/knotwork/knotwork/core/Binding" "trail" "[I" (.ref a2) ∧ Fld Z h o0 "com/example/knotwork/knotwork/core/Binding" "bound" "I" (.int (1 : Int32)) ∧ AF Z h a1 (.object "com/example/knotwork/knotwork/core/Item") 3 (upv vf t1 .null) ∧ OvA Z h a1 "com/example/knotwork/knotwork/core/Item" ∧ AI Z h a2 .int 3 tg
set_option maxRecDepth 65536 in
set_option maxHeartbeats 40000000 in
theorem rmun21 (l : Launch) (Z : State) (a0 : Array Value) (hw : ∀ d ∈ tables_1, d.before a0 Z = true) (ws : List Jvm.Cond) (o0 : Addr) (a1 : Addr) (a2 : Addr) (vf : Nat → Value) (tg : Nat → Int32) (t1 : Nat) (h0 : Heap) (n0 : Nat) (E_o0 : Exa Z h0 o0 "com/example/knotwork/knotwork/core/Binding") (g_o0 : n0 ≤ o0) (g_a1 : n0 ≤ a1) (g_a2 : n0 ≤ a2) (ne_o0_a1 : o0 ≠ a1) (ne_o0_a2 : o0 ≠ a2) (ne_a1_a2 : a1 ≠ a2) (F_o0_values : Fld Z h0 o0 "com/example/knotwork/knotwork/core/Binding" "values" "[Lcom/example/knotwork/knotwork/core/Item;" (.ref a1)) (F_o0_trail : Fld Z h0 o0 "com/example/knotwork/knotwork/core/Binding" "trail" "[I" (.ref a2)) (F_o0_bound : Fld Z h0 o0 "com/example/knotwork/knotwork/core/Binding" "bound" "I" (.int (2 : Int32))) (A_a1 : AF Z h0 a1 (.object "com/example/knotwork/knotwork/core/Item") 3 vf) (O_a1 : OvA Z h0 a1 "com/example/knotwork/knotwork/core/Item") (A_a2 : AI Z h0 a2 .int 3 tg) (hk1 : (tg 1).toInt = (t1 : Int)) (hn1 : t1 < 3) :
    MetFree l (⟨"com/example/knotwork/knotwork/core/Binding", "undo", "(I)V"⟩ : MethodName) (head1 (Jvm.Cond.code (⟨"com/example/knotwork/knotwork/core/Binding", "undo", "(I)V"⟩ : MethodName) prog_8_method_8_code 2 none :: ws) ({ frames := 0, cells := 0, slots := 0, locals := 0 } : Room)) (fun a U => a = #[(.ref o0), (.int (1 : Int32))] ∧ Z.Warmed39 U.vm ∧ U.heap = h0) (fun _ _ _ _ _ => True) (fun _ U o U' => ∃ v L, o = .returned v ∧ Q_un21 Z o0 a1 a2 vf tg t1 h0 n0 v U'.heap L ∧ FrameEnd U o U' L ({ frames := 0, cells := 0, slots := 0, locals := 0 } : Room).cells ({ frames := 0, cells := 0, slots := 0, locals := 0 } : Room).slots) := by
  refine MetFree.of_bodySF (plainFor_of_name pn_4) hisR ?_
  intro p e s m args below meth c s₁ Bd hml0 hP hK
  obtain ⟨rfl, hZ, hh⟩ := hP
  have hx := Bd.exec
  have hby := Bd.bytes
  have hml : c.maxLocals = 2 := hml0
  have hown : s.vm.findClass "com/example/knotwork/knotwork/core/Binding" = some m.cls := findClass_of_methodNamed Bd.named
  have hnm := (name_of_methodNamed Bd.named Bd.method).1
  have hret := Bd.returns
  have hlk : meth.locks = false := BodyLoose.notSynchronized Bd
  have X0 : Stand p l e ({ frames := 0, cells := 0, slots := 0, locals := 0 } : Room) s m #[(.ref o0), (.int (1 : Int32))] below meth c s₁ [] 0 0 := Stand.of_body Bd
  have e0 : s₁.heap = h0 := by rw [← hh, Bd.state]; rfl
  have N0 := Fr.nil n0
  show Outs p e below s (Q_un21 Z o0 a1 a2 vf tg t1 h0 n0) _ _ _
  refine Outs.of (U' := s₁.setTop (mkF m 0 #[.val (.ref o0), .val (.int (1 : Int32))] [])) (fun t k => castTop (ef_6 m o0 (1 : Int32)) k) ?_
  refine Outs.of (U' := s₁.setTop (mkF m 1 #[.val (.ref o0), .val (.int (1 : Int32))] [(.ref o0)])) (fun t k => ?_) ?_
  · refine XS.aloadN X0.here hx rfl (hb hby d6_0) rfl rfl ?_
    exact k
  obtain ⟨T1, X1, e1, st1⟩ := getF X0 hx hZ hown (host := "") (Or.inl (hw _ (List.mem_of_getElem? (i := 45) rfl))) Via.refl e0 F_o0_bound (g := (mkF m 1 #[.val (.ref o0), .val (.int (1 : Int32))] [(.ref o0)])) rfl rfl (hb hby d6_1)
  refine Outs.of st1 ?_
  refine Outs.of (U' := T1.setTop (mkF m 9 #[.val (.ref o0), .val (.int (1 : Int32))] [(.ref o0)])) (fun t k => ?_) ?_
  · refine XS.iloadN X1.here hx rfl (hb hby d6_4) rfl ?_
    refine XS.icmpNo X1.here hx rfl (hb hby d6_5) rfl (tlt (show (1 : Int32) < (2 : Int32) from (by decide))).2.2.2 ?_
    refine XS.aloadN X1.here hx rfl (hb hby d6_8) rfl rfl ?_
    exact k
  obtain ⟨T2, X2, e2, st2⟩ := getF X1 hx hZ hown (host := "") (Or.inl (hw _ (List.mem_of_getElem? (i := 34) rfl))) Via.refl e1 F_o0_values (g := (mkF m 9 #[.val (.ref o0), .val (.int (1 : Int32))] [(.ref o0)])) rfl rfl (hb hby d6_9)
  refine Outs.of st2 ?_
  refine Outs.of (U' := T2.setTop (mkF m 13 #[.val (.ref o0), .val (.int (1 : Int32))] [(.ref o0), (.ref a1)])) (fun t k => ?_) ?_
  · refine XS.aloadN X2.here hx rfl (hb hby d6_12) rfl rfl ?_
    exact k
  obtain ⟨T3, X3, e3, st3⟩ := getF X2 hx hZ hown (host := "") (Or.inl (hw _ (List.mem_of_getElem? (i := 37) rfl))) Via.refl e2 F_o0_trail (g := (mkF m 13 #[.val (.ref o0), .val (.int (1 : Int32))] [(.ref o0), (.ref a1)])) rfl rfl (hb hby d6_13)
  refine Outs.of st3 ?_
  refine Outs.of (U' := T3.setTop (mkF m 18 #[.val (.ref o0), .val (.int (1 : Int32))] [(.ref o0), (.ref o0), (.ref a2), (.ref a1)])) (fun t k => ?_) ?_
  · refine XS.aloadN X3.here hx rfl (hb hby d6_16) rfl rfl ?_
    refine XS.dup X3.here hx rfl (hb hby d6_17) rfl rfl ?_
    exact k
  obtain ⟨T4, X4, e4, st4⟩ := getF X3 hx hZ hown (host := "") (Or.inl (hw _ (List.mem_of_getElem? (i := 45) rfl))) Via.refl e3 F_o0_bound (g := (mkF m 18 #[.val (.ref o0), .val (.int (1 : Int32))] [(.ref o0), (.ref o0), (.ref a2), (.ref a1)])) rfl rfl (hb hby d6_18)
  refine Outs.of st4 ?_
  refine Outs.of (U' := T4.setTop (mkF m 24 #[.val (.ref o0), .val (.int (1 : Int32))] [(.int (1 : Int32)), (.ref o0), (.int (1 : Int32)), (.ref a2), (.ref a1)])) (fun t k => ?_) ?_
  · refine XS.iconst X4.here hx rfl (hb hby d6_21) ?_
    refine XS.isub X4.here hx rfl (hb hby d6_22) rfl ?_
    refine XS.dupX1 X4.here hx rfl (hb hby d6_23) rfl rfl rfl ?_
    exact k
  obtain ⟨T5, h5, X5, e5, W5, st5⟩ := putF X4 hx hZ hown (host := "") (Or.inl (hw _ (List.mem_of_getElem? (i := 45) rfl))) Via.refl e4 F_o0_bound E_o0 (Or.inl (hw _ (List.mem_of_getElem? (i := 46) rfl))) (hw _ (List.mem_of_getElem? (i := 26) rfl)) (ty := .int) (by decide) rfl rfl (g := (mkF m 24 #[.val (.ref o0), .val (.int (1 : Int32))] [(.int (1 : Int32)), (.ref o0), (.int (1 : Int32)), (.ref a2), (.ref a1)])) rfl rfl (hb hby d6_24)
  have F5 : Fld Z h5 o0 "com/example/knotwork/knotwork/core/Binding" "bound" "I" (.int (1 : Int32)) := F_o0_bound.same W5
  have N5 := Fr.snoc X5 N0 g_o0
  obtain ⟨Lh5, X5, N5⟩ := hide X5 N5 (C := 0) (S := 0) (by decide) (by decide)
  refine Outs.of st5 ?_
  have f6 : AI Z h5 a2 .int 3 tg := (A_a2.other W5 ne_o0_a2.symm)
  refine Outs.of (ldI X5 hx hZ e5 f6 (j := (1 : Int32)) (k := 1) rfl (by decide) (f := (mkF m 27 #[.val (.ref o0), .val (.int (1 : Int32))] [(.int (1 : Int32)), (.ref a2), (.ref a1)])) rfl rfl (hb hby d6_27)) ?_
  refine Outs.of (U' := T5.setTop (mkF m 29 #[.val (.ref o0), .val (.int (1 : Int32))] [.null, (.int (tg 1)), (.ref a1)])) (fun t k => ?_) ?_
  · refine XS.aconstNull X5.here hx rfl (hb hby d6_28) ?_
    exact k
  have f7 : AF Z h5 a1 (.object "com/example/knotwork/knotwork/core/Item") 3 vf := (A_a1.other W5 ne_o0_a1.symm)
  obtain ⟨T8, h8, X8, e8, W8, V8, st8⟩ := puR X5 hx hZ e5 f7 rfl (Or.inl rfl) (j := (tg 1)) (k := t1) hk1 hn1 (f := (mkF m 29 #[.val (.ref o0), .val (.int (1 : Int32))] [.null, (.int (tg 1)), (.ref a1)])) rfl rfl (hb hby d6_29)
  replace V8 : AF Z h8 a1 (.object "com/example/knotwork/knotwork/core/Item") 3 (upv vf t1 .null) := V8
  have N8 := Fr.snoc X8 N5 g_a1
  obtain ⟨Lh8, X8, N8⟩ := hide X8 N8 (C := 0) (S := 0) (by decide) (by decide)
  refine Outs.of st8 ?_
  refine Outs.of (U' := T8.setTop (mkF m 1 #[.val (.ref o0), .val (.int (1 : Int32))] [(.ref o0)])) (fun t k => ?_) ?_
  · refine XS.goto X8.here hx rfl (pc0 := 30) (pc' := 0) rfl (hb hby d6_30) (by decide) (by decide) ?_
    refine XS.aloadN X8.here hx rfl (hb hby d6_0) rfl rfl ?_
    exact k
  have f10 : Fld Z h8 o0 "com/example/knotwork/knotwork/core/Binding" "bound" "I" (.int (1 : Int32)) := (F5.other W8 (Or.inl ne_o0_a1))
  obtain ⟨T9, X9, e9, st9⟩ := getF X8 hx hZ hown (host := "") (Or.inl (hw _ (List.mem_of_getElem? (i := 45) rfl))) Via.refl e8 f10 (g := (mkF m 1 #[.val (.ref o0), .val (.int (1 : Int32))] [(.ref o0)])) rfl rfl (hb hby d6_1)
  refine Outs.of st9 ?_
  refine Outs.of (U' := T9.setTop (mkF m 33 #[.val (.ref o0), .val (.int (1 : Int32))] [])) (fun t k => ?_) ?_
  · refine XS.iloadN X9.here hx rfl (hb hby d6_4) rfl ?_
    refine XS.icmpYes X9.here hx rfl (pc0 := 5) (pc' := 33) rfl (hb hby d6_5) rfl (flt (show ¬ ((1 : Int32) < (1 : Int32)) from (by decide))).2.2.2 (by decide) (by decide) ?_
    exact k
  have f11 : Exa Z h8 o0 "com/example/knotwork/knotwork/core/Binding" := ((E_o0.wr W5).wr W8)
  have f12 : Fld Z h8 o0 "com/example/knotwork/knotwork/core/Binding" "values" "[Lcom/example/knotwork/knotwork/core/Item;" (.ref a1) := ((F_o0_values.other W5 (Or.inr (slot_ne (Or.inr (hw _ (List.mem_of_getElem? (i := 35) rfl))) (Or.inl (hw _ (List.mem_of_getElem? (i := 46) rfl))) (by decide) (t := (.array (.object "com/example/knotwork/knotwork/core/Item"))) (t' := .int) (by decide) (by decide)))).other W8 (Or.inl ne_o0_a1))
  have f13 : Fld Z h8 o0 "com/example/knotwork/knotwork/core/Binding" "trail" "[I" (.ref a2) := ((F_o0_trail.other W5 (Or.inr (slot_ne (Or.inr (hw _ (List.mem_of_getElem? (i := 38) rfl))) (Or.inl (hw _ (List.mem_of_getElem? (i := 46) rfl))) (by decide) (t := (.array .int)) (t' := .int) (by decide) (by decide)))).other W8 (Or.inl ne_o0_a1))
  have f14 : OvA Z h8 a1 "com/example/knotwork/knotwork/core/Item" := ((O_a1.wr W5).wr W8)
  have f15 : AI Z h8 a2 .int 3 tg := (f6.other W8 ne_a1_a2.symm)
  exact Outs.retV X9 hx hret (hb hby d6_33) hlk (by decide) (by decide) e9 ⟨rfl, N8, (((Keep.refl h0 [o0, a1, a2]).wr W5 (Or.inl (List.mem_of_getElem? (i := 0) rfl))).wr W8 (Or.inl (List.mem_of_getElem? (i := 1) rfl))), f11, f12, f13, f10, V8, f14, f15⟩
def Q_un22 (Z : State) (o0 : Addr) (a1 : Addr) (a2 : Addr) (vf : Nat → Value) (tg : Nat → Int32) (h0 : Heap) (n0 : Nat) (v : Option Value) (h : Heap) (L : List Loc) : Prop := v = none ∧ Fr n0 L ∧ Keep h0 h [o0, a1, a2] ∧ Exa Z h o0 "com/example/knotwork/knotwork/core/Binding" ∧ Fld Z h o0 "com/example/knotwork/knotwork/core/Binding" "values" "[Lcom/example/knotwork/knotwork/core/Item;" (.ref a1) ∧ Fld Z h o0 "com/example/knotwork/knotwork/core/Binding" "trail" "[I" (.ref a2) ∧ Fld Z h o0 "com/example/knotwork/knotwork/core/Binding" "bound" "I" (.int (2 : Int32)) ∧ AF Z h a1 (.object "com/example/knotwork/knotwork/core/Item") 3 vf ∧ OvA Z h a1 "com/example/knotwork/knotwork/core/Item" ∧ AI Z h a2 .int 3 tg
set_option maxRecDepth 65536 in
set_option maxHeartbeats 40000000 in
theorem rmun22 (l : Launch) (Z : State) (a0 : Array Value) (hw : ∀ d ∈ tables_1, d.before a0 Z = true) (ws : List Jvm.Cond) (o0 : Addr) (a1 : Addr) (a2 : Addr) (vf : Nat → Value) (tg : Nat → Int32) (h0 : Heap) (n0 : Nat) (E_o0 : Exa Z h0 o0 "com/example/knotwork/knotwork/core/Binding") (g_o0 : n0 ≤ o0) (g_a1 : n0 ≤ a1) (g_a2 : n0 ≤ a2) (ne_o0_a1 : o0 ≠ a1) (ne_o0_a2 : o0 ≠ a2) (ne_a1_a2 : a1 ≠ a2) (F_o0_values : Fld Z h0 o0 "com/example/knotwork/knotwork/core/Binding" "values" "[Lcom/example/knotwork/knotwork/core/Item;" (.ref a1)) (F_o0_trail : Fld Z h0 o0 "com/example/knotwork/knotwork/core/Binding" "trail" "[I" (.ref a2)) (F_o0_bound : Fld Z h0 o0 "com/example/knotwork/knotwork/core/Binding" "bound" "I" (.int (2 : Int32))) (A_a1 : AF Z h0 a1 (.object "com/example/knotwork/knotwork/core/Item") 3 vf) (O_a1 : OvA Z h0 a1 "com/example/knotwork/knotwork/core/Item") (A_a2 : AI Z h0 a2 .int 3 tg) :
    MetFree l (⟨"com/example/knotwork/knotwork/core/Binding", "undo", "(I)V"⟩ : MethodName) (head1 (Jvm.Cond.code (⟨"com/example/knotwork/knotwork/core/Binding", "undo", "(I)V"⟩ : MethodName) prog_8_method_8_code 2 none :: ws) ({ frames := 0, cells := 0, slots := 0, locals := 0 } : Room)) (fun a U => a = #[(.ref o0), (.int (2 : Int32))] ∧ Z.Warmed39 U.vm ∧ U.heap = h0) (fun _ _ _ _ _ => True) (fun _ U o U' => ∃ v L, o = .returned v ∧ Q_un22 Z o0 a1 a2 vf tg h0 n0 v U'.heap L ∧ FrameEnd U o U' L ({ frames := 0, cells := 0, slots := 0, locals := 0 } : Room).cells ({ frames := 0, cells := 0, slots := 0, locals := 0 } : Room).slots) := by
  refine MetFree.of_bodySF (plainFor_of_name pn_4) hisR ?_
  intro p e s m args below meth c s₁ Bd hml0 hP hK
  obtain ⟨rfl, hZ, hh⟩ := hP
  have hx := Bd.exec
  have hby := Bd.bytes
  have hml : c.maxLocals = 2 := hml0
  have hown : s.vm.findClass "com/example/knotwork/knotwork/core/Binding" = some m.cls := findClass_of_methodNamed Bd.named
  have hnm := (name_of_methodNamed Bd.named Bd.method).1
  have hret := Bd.returns
  have hlk : meth.locks = false := BodyLoose.notSynchronized Bd
  have X0 : Stand p l e ({ frames := 0, cells := 0, slots := 0, locals := 0 } : Room) s m #[(.ref o0), (.int (2 : Int32))] below meth c s₁ [] 0 0 := Stand.of_body Bd
  have e0 : s₁.heap = h0 := by rw [← hh, Bd.state]; rfl
  have N0 := Fr.nil n0
  show Outs p e below s (Q_un22 Z o0 a1 a2 vf tg h0 n0) _ _ _
  refine Outs.of (U' := s₁.setTop (mkF m 0 #[.val (.ref o0), .val (.int (2 : Int32))] [])) (fun t k => castTop (ef_6 m o0 (2 : Int32)) k) ?_
  refine Outs.of (U' := s₁.setTop (mkF m 1 #[.val (.ref o0), .val (.int (2 : Int32))] [(.ref o0)])) (fun t k => ?_) ?_
  · refine XS.aloadN X0.here hx rfl (hb hby d6_0) rfl rfl ?_
    exact k
  obtain ⟨T1, X1, e1, st1⟩ := getF X0 hx hZ hown (host := "") (Or.inl (hw _ (List.mem_of_getElem? (i := 45) rfl))) Via.refl e0 F_o0_bound (g := (mkF m 1 #[.val (.ref o0), .val (.int (2 : Int32))] [(.ref o0)])) rfl rfl (hb hby d6_1)
  refine Outs.of st1 ?_
  refine Outs.of (U' := T1.setTop (mkF m 33 #[.val (.ref o0), .val (.int (2 : Int32))] [])) (fun t k => ?_) ?_
  · refine XS.iloadN X1.here hx rfl (hb hby d6_4) rfl ?_
    refine XS.icmpYes X1.here hx rfl (pc0 := 5) (pc' := 33) rfl (hb hby d6_5) rfl (flt (show ¬ ((2 : Int32) < (2 : Int32)) from (by decide))).2.2.2 (by decide) (by decide) ?_
    exact k
  exact Outs.retV X1 hx hret (hb hby d6_33) hlk (by decide) (by decide) e1 ⟨rfl, N0, (Keep.refl h0 [o0, a1, a2]), E_o0, F_o0_values, F_o0_trail, F_o0_bound, A_a1, O_a1, A_a2⟩
def Q_un30 (Z : State) (o0 : Addr) (a1 : Addr) (a2 : Addr) (vf : Nat → Value) (tg : Nat → Int32) (t0 : Nat) (t1 : Nat) (t2 : Nat) (h0 : Heap) (n0 : Nat) (v : Option Value) (h : Heap) (L : List Loc) : Prop := v = none ∧ Fr n0 L ∧ Keep h0 h [o0, a1, a2] ∧ Exa Z h o0 "com/example/knotwork/knotwork/core/Binding" ∧ Fld Z h o0 "com/example/knotwork/knotwork/core/Binding" "values" "[Lcom/example/knotwork/knotwork/core/Item;" (.ref a1) ∧ Fld Z h o0 "com/example/knotwork/knotwork/core/Binding" "trail" "[I" (.ref a2) ∧ Fld Z h o0 "com/example/knotwork/knotwork/core/Binding" "bound" "I" (.int (0 : Int32)) ∧ AF Z h a1 (.object "com/example/knotwork/knotwork/core/Item") 3 (upv (upv (upv vf t2 .null) t1 .null) t0 .null) ∧ OvA Z h a1 "com/example/knotwork/knotwork/core/Item" ∧ AI Z h a2 .int 3 tg
set_option maxRecDepth 65536 in
set_option maxHeartbeats 40000000 in
theorem rmun30 (l : Launch) (Z : State) (a0 : Array Value) (hw : ∀ d ∈ tables_1, d.before a0 Z = true) (ws : List Jvm.Cond) (o0 : Addr) (a1 : Addr) (a2 : Addr) (vf : Nat → Value) (tg : Nat → Int32) (t0 : Nat) (t1 : Nat) (t2 : Nat) (h0 : Heap) (n0 : Nat) (E_o0 : Exa Z h0 o0 "com/example/knotwork/knotwork/core/Binding") (g_o0 : n0 ≤ o0) (g_a1 : n0 ≤ a1) (g_a2 : n0 ≤ a2) (ne_o0_a1 : o0 ≠ a1) (ne_o0_a2 : o0 ≠ a2) (ne_a1_a2 : a1 ≠ a2) (F_o0_values : Fld Z h0 o0 "com/example/knotwork/knotwork/core/Binding" "values" "[Lcom/example/knotwork/knotwork/core/Item;" (.ref a1)) (F_o0_trail : Fld Z h0 o0 "com/example/knotwork/knotwork/core/Binding" "trail" "[I" (.ref a2)) (F_o0_bound : Fld Z h0 o0 "com/example/knotwork/knotwork/core/Binding" "bound" "I" (.int (3 : Int32))) (A_a1 : AF Z h0 a1 (.object "com/example/knotwork/knotwork/core/Item") 3 vf) (O_a1 : OvA Z h0 a1 "com/example/knotwork/knotwork/core/Item") (A_a2 : AI Z h0 a2 .int 3 tg) (hk0 : (tg 0).toInt = (t0 : Int)) (hn0 : t0 < 3) (hk1 : (tg 1).toInt = (t1 : Int)) (hn1 : t1 < 3) (hk2 : (tg 2).toInt = (t2 : Int)) (hn2 : t2 < 3) :
    MetFree l (⟨"com/example/knotwork/knotwork/core/Binding", "undo", "(I)V"⟩ : MethodName) (head1 (Jvm.Cond.code (⟨"com/example/knotwork/knotwork/core/Binding", "undo", "(I)V"⟩ : MethodName) prog_8_method_8_code 2 none :: ws) ({ frames := 0, cells := 0, slots := 0, locals := 0 } : Room)) (fun a U => a = #[(.ref o0), (.int (0 : Int32))] ∧ Z.Warmed39 U.vm ∧ U.heap = h0) (fun _ _ _ _ _ => True) (fun _ U o U' => ∃ v L, o = .returned v ∧ Q_un30 Z o0 a1 a2 vf tg t0 t1 t2 h0 n0 v U'.heap L ∧ FrameEnd U o U' L ({ frames := 0, cells := 0, slots := 0, locals := 0 } : Room).cells ({ frames := 0, cells := 0, slots := 0, locals := 0 } : Room).slots) := by
  refine MetFree.of_bodySF (plainFor_of_name pn_4) hisR ?_
  intro p e s m args below meth c s₁ Bd hml0 hP hK
  obtain ⟨rfl, hZ, hh⟩ := hP
  have hx := Bd.exec
  have hby := Bd.bytes
  have hml : c.maxLocals = 2 := hml0
  have hown : s.vm.findClass "com/example/knotwork/knotwork/core/Binding" = some m.cls := findClass_of_methodNamed Bd.named
  have hnm := (name_of_methodNamed Bd.named Bd.method).1
  have hret := Bd.returns
  have hlk : meth.locks = false := BodyLoose.notSynchronized Bd
  have X0 : Stand p l e ({ frames := 0, cells := 0, slots := 0, locals := 0 } : Room) s m #[(.ref o0), (.int (0 : Int32))] below meth c s₁ [] 0 0 := Stand.of_body Bd
  have e0 : s₁.heap = h0 := by rw [← hh, Bd.state]; rfl
  have N0 := Fr.nil n0
  show Outs p e below s (Q_un30 Z o0 a1 a2 vf tg t0 t1 t2 h0 n0) _ _ _
  refine Outs.of (U' := s₁.setTop (mkF m 0 #[.val (.ref o0), .val (.int (0 : Int32))] [])) (fun t k => castTop (ef_6 m o0 (0 : Int32)) k) ?_
  refine Outs.of (U' := s₁.setTop (mkF m 1 #[.val (.ref o0), .val (.int (0 : Int32))] [(.ref o0)])) (fun t k => ?_) ?_
  · refine XS.aloadN X0.here hx rfl (hb hby d6_0) rfl rfl ?_
    exact k
  obtain ⟨T1, X1, e1, st1⟩ := getF X0 hx hZ hown (host := "") (Or.inl (hw _ (List.mem_of_getElem? (i := 45) rfl))) Via.refl e0 F_o0_bound (g := (mkF m 1 #[.val (.ref o0), .val (.int (0 : Int32))] [(.ref o0)])) rfl rfl (hb hby d6_1)
  refine Outs.of st1 ?_
  refine Outs.of (U' := T1.setTop (mkF m 9 #[.val (.ref o0), .val (.int (0 : Int32))] [(.ref o0)])) (fun t k => ?_) ?_
  · refine XS.iloadN X1.here hx rfl (hb hby d6_4) rfl ?_
    refine XS.icmpNo X1.here hx rfl (hb hby d6_5) rfl (tlt (show (0 : Int32) < (3 : Int32) from (by decide))).2.2.2 ?_
    refine XS.aloadN X1.here hx rfl (hb hby d6_8) rfl rfl ?_
    exact k
  obtain ⟨T2, X2, e2, st2⟩ := getF X1 hx hZ hown (host := "") (Or.inl (hw _ (List.mem_of_getElem? (i := 34) rfl))) Via.refl e1 F_o0_values (g := (mkF m 9 #[.val (.ref o0), .val (.int (0 : Int32))] [(.ref o0)])) rfl rfl (hb hby d6_9)
  refine Outs.of st2 ?_
  refine Outs.of (U' := T2.setTop (mkF m 13 #[.val (.ref o0), .val (.int (0 : Int32))] [(.ref o0), (.ref a1)])) (fun t k => ?_) ?_
  · refine XS.aloadN X2.here hx rfl (hb hby d6_12) rfl rfl ?_
    exact k
  obtain ⟨T3, X3, e3, st3⟩ := getF X2 hx hZ hown (host := "") (Or.inl (hw _ (List.mem_of_getElem? (i := 37) rfl))) Via.refl e2 F_o0_trail (g := (mkF m 13 #[.val (.ref o0), .val (.int (0 : Int32))] [(.ref o0), (.ref a1)])) rfl rfl (hb hby d6_13)
  refine Outs.of st3 ?_
  refine Outs.of (U' := T3.setTop (mkF m 18 #[.val (.ref o0), .val (.int (0 : Int32))] [(.ref o0), (.ref o0), (.ref a2), (.ref a1)])) (fun t k => ?_) ?_
  · refine XS.aloadN X3.here hx rfl (hb hby d6_16) rfl rfl ?_
    refine XS.dup X3.here hx rfl (hb hby d6_17) rfl rfl ?_
    exact k
  obtain ⟨T4, X4, e4, st4⟩ := getF X3 hx hZ hown (host := "") (Or.inl (hw _ (List.mem_of_getElem? (i := 45) rfl))) Via.refl e3 F_o0_bound (g := (mkF m 18 #[.val (.ref o0), .val (.int (0 : Int32))] [(.ref o0), (.ref o0), (.ref a2), (.ref a1)])) rfl rfl (hb hby d6_18)
  refine Outs.of st4 ?_
  refine Outs.of (U' := T4.setTop (mkF m 24 #[.val (.ref o0), .val (.int (0 : Int32))] [(.int (2 : Int32)), (.ref o0), (.int (2 : Int32)), (.ref a2), (.ref a1)])) (fun t k => ?_) ?_
  · refine XS.iconst X4.here hx rfl (hb hby d6_21) ?_
    refine XS.isub X4.here hx rfl (hb hby d6_22) rfl ?_
    refine XS.dupX1 X4.here hx rfl (hb hby d6_23) rfl rfl rfl ?_
    exact k
  obtain ⟨T5, h5, X5, e5, W5, st5⟩ := putF X4 hx hZ hown (host := "") (Or.inl (hw _ (List.mem_of_getElem? (i := 45) rfl))) Via.refl e4 F_o0_bound E_o0 (Or.inl (hw _ (List.mem_of_getElem? (i := 46) rfl))) (hw _ (List.mem_of_getElem? (i := 26) rfl)) (ty := .int) (by decide) rfl rfl (g := (mkF m 24 #[.val (.ref o0), .val (.int (0 : Int32))] [(.int (2 : Int32)), (.ref o0), (.int (2 : Int32)), (.ref a2), (.ref a1)])) rfl rfl (hb hby d6_24)
  have F5 : Fld Z h5 o0 "com/example/knotwork/knotwork/core/Binding" "bound" "I" (.int (2 : Int32)) := F_o0_bound.same W5
  have N5 := Fr.snoc X5 N0 g_o0
  obtain ⟨Lh5, X5, N5⟩ := hide X5 N5 (C := 0) (S := 0) (by decide) (by decide)
  refine Outs.of st5 ?_
  have f6 : AI Z h5 a2 .int 3 tg := (A_a2.other W5 ne_o0_a2.symm)
  refine Outs.of (ldI X5 hx hZ e5 f6 (j := (2 : Int32)) (k := 2) rfl (by decide) (f := (mkF m 27 #[.val (.ref o0), .val (.int (0 : Int32))] [(.int (2 : Int32)), (.ref a2), (.ref a1)])) rfl rfl (hb hby d6_27)) ?_
  refine Outs.of (U' := T5.setTop (mkF m 29 #[.val (.ref o0), .val (.int (0 : Int32))] [.null, (.int (tg 2)), (.ref a1)])) (fun t k => ?_) ?_
  · refine XS.aconstNull X5.here hx rfl (hb hby d6_28) ?_
    exact k
  have f7 : AF Z h5 a1 (.object "com/example/knotwork/knotwork/core/Item") 3 vf := (A_a1.other W5 ne_o0_a1.symm)
  obtain ⟨T8, h8, X8, e8, W8, V8, st8⟩ := puR X5 hx hZ e5 f7 rfl (Or.inl rfl) (j := (tg 2)) (k := t2) hk2 hn2 (f := (mkF m 29 #[.val (.ref o0), .val (.int (0 : Int32))] [.null, (.int (tg 2)), (.ref a1)])) rfl rfl (hb hby d6_29)
  replace V8 : AF Z h8 a1 (.object "com/example/knotwork/knotwork/core/Item") 3 (upv vf t2 .null) := V8
  have N8 := Fr.snoc X8 N5 g_a1
  obtain ⟨Lh8, X8, N8⟩ := hide X8 N8 (C := 0) (S := 0) (by decide) (by decide)
  refine Outs.of st8 ?_
  refine Outs.of (U' := T8.setTop (mkF m 1 #[.val (.ref o0), .val (.int (0 : Int32))] [(.ref o0)])) (fun t k => ?_) ?_
  · refine XS.goto X8.here hx rfl (pc0 := 30) (pc' := 0) rfl (hb hby d6_30) (by decide) (by decide) ?_
    refine XS.aloadN X8.here hx rfl (hb hby d6_0) rfl rfl ?_
    exact k
  have f10 : Fld Z h8 o0 "com/example/knotwork/knotwork/core/Binding" "bound" "I" (.int (2 : Int32)) := (F5.other W8 (Or.inl ne_o0_a1))
  obtain ⟨T9, X9, e9, st9⟩ := getF X8 hx hZ hown (host := "") (Or.inl (hw _ (List.mem_of_getElem? (i := 45) rfl))) Via.refl e8 f10 (g := (mkF m 1 #[.val (.ref o0), .val (.int (0 : Int32))] [(.ref o0)])) rfl rfl (hb hby d6_1)
  refine Outs.of st9 ?_
  refine Outs.of (U' := T9.setTop (mkF m 9 #[.val (.ref o0), .val (.int (0 : Int32))] [(.ref o0)])) (fun t k => ?_) ?_
  · refine XS.iloadN X9.here hx rfl (hb hby d6_4) rfl ?_
    refine XS.icmpNo X9.here hx rfl (hb hby d6_5) rfl (tlt (show (0 : Int32) < (2 : Int32) from (by decide))).2.2.2 ?_
    refine XS.aloadN X9.here hx rfl (hb hby d6_8) rfl rfl ?_
    exact k
  have f12 : Fld Z h8 o0 "com/example/knotwork/knotwork/core/Binding" "values" "[Lcom/example/knotwork/knotwork/core/Item;" (.ref a1) := ((F_o0_values.other W5 (Or.inr (slot_ne (Or.inr (hw _ (List.mem_of_getElem? (i := 35) rfl))) (Or.inl (hw _ (List.mem_of_getElem? (i := 46) rfl))) (by decide) (t := (.array (.object "com/example/knotwork/knotwork/core/Item"))) (t' := .int) (by decide) (by decide)))).other W8 (Or.inl ne_o0_a1))
  obtain ⟨T11, X11, e11, st11⟩ := getF X9 hx hZ hown (host := "") (Or.inl (hw _ (List.mem_of_getElem? (i := 34) rfl))) Via.refl e9 f12 (g := (mkF m 9 #[.val (.ref o0), .val (.int (0 : Int32))] [(.ref o0)])) rfl rfl (hb hby d6_9)
  refine Outs.of st11 ?_
  refine Outs.of (U' := T11.setTop (mkF m 13 #[.val (.ref o0), .val (.int (0 : Int32))] [(.ref o0), (.ref a1)])) (fun t k => ?_) ?_
  · refine XS.aloadN X11.here hx rfl (hb hby d6_12) rfl rfl ?_
    exact k
  have f14 : Fld Z h8 o0 "com/example/knotwork/knotwork/core/Binding" "trail" "[I" (.ref a2) := ((F_o0_trail.other W5 (Or.inr (slot_ne (Or.inr (hw _ (List.mem_of_getElem? (i := 38) rfl))) (Or.inl (hw _ (List.mem_of_getElem? (i := 46) rfl))) (by decide) (t := (.array .int)) (t' := .int) (by decide) (by decide)))).other W8 (Or.inl ne_o0_a1))
  obtain ⟨T13, X13, e13, st13⟩ := getF X11 hx hZ hown (host := "") (Or.inl (hw _ (List.mem_of_getElem? (i := 37) rfl))) Via.refl e11 f14 (g := (mkF m 13 #[.val (.ref o0), .val (.int (0 : Int32))] [(.ref o0), (.ref a1)])) rfl rfl (hb hby d6_13)
  refine Outs.of st13 ?_
  refine Outs.of (U' := T13.setTop (mkF m 18 #[.val (.ref o0), .val (.int (0 : Int32))] [(.ref o0), (.ref o0), (.ref a2), (.ref a1)])) (fun t k => ?_) ?_
  · refine XS.aloadN X13.here hx rfl (hb hby d6_16) rfl rfl ?_
    refine XS.dup X13.here hx rfl (hb hby d6_17) rfl rfl ?_
    exact k
  obtain ⟨T15, X15, e15, st15⟩ := getF X13 hx hZ hown (host := "") (Or.inl (hw _ (List.mem_of_getElem? (i := 45) rfl))) Via.refl e13 f10 (g := (mkF m 18 #[.val (.ref o0), .val (.int (0 : Int32))] [(.ref o0), (.ref o0), (.ref a2), (.ref a1)])) rfl rfl (hb hby d6_18)
  refine Outs.of st15 ?_
  refine Outs.of (U' := T15.setTop (mkF m 24 #[.val (.ref o0), .val (.int (0 : Int32))] [(.int (1 : Int32)), (.ref o0), (.int (1 : Int32)), (.ref a2), (.ref a1)])) (fun t k => ?_) ?_
  · refine XS.iconst X15.here hx rfl (hb hby d6_21) ?_
    refine XS.isub X15.here hx rfl (hb hby d6_22) rfl ?_
    refine XS.dupX1 X15.here hx rfl (hb hby d6_23) rfl rfl rfl ?_
    exact k
  have f17 : Exa Z h8 o0 "com/example/knotwork/knotwork/core/Binding" := ((E_o0.wr W5).wr W8)
  obtain ⟨T16, h16, X16, e16, W16, st16⟩ := putF X15 hx hZ hown (host := "") (Or.inl (hw _ (List.mem_of_getElem? (i := 45) rfl))) Via.refl e15 f10 f17 (Or.inl (hw _ (List.mem_of_getElem? (i := 46) rfl))) (hw _ (List.mem_of_getElem? (i := 26) rfl)) (ty := .int) (by decide) rfl rfl (g := (mkF m 24 #[.val (.ref o0), .val (.int (0 : Int32))] [(.int (1 : Int32)), (.ref o0), (.int (1 : Int32)), (.ref a2), (.ref a1)])) rfl rfl (hb hby d6_24)
  have F16 : Fld Z h16 o0 "com/example/knotwork/knotwork/core/Binding" "bound" "I" (.int (1 : Int32)) := f10.same W16
  have N16 := Fr.snoc X16 N8 g_o0
  obtain ⟨Lh16, X16, N16⟩ := hide X16 N16 (C := 0) (S := 0) (by decide) (by decide)
  refine Outs.of st16 ?_
  have f18 : AI Z h16 a2 .int 3 tg := ((f6.other W8 ne_a1_a2.symm).other W16 ne_o0_a2.symm)
  refine Outs.of (ldI X16 hx hZ e16 f18 (j := (1 : Int32)) (k := 1) rfl (by decide) (f := (mkF m 27 #[.val (.ref o0), .val (.int (0 : Int32))] [(.int (1 : Int32)), (.ref a2), (.ref a1)])) rfl rfl (hb hby d6_27)) ?_
  refine Outs.of (U' := T16.setTop (mkF m 29 #[.val (.ref o0), .val (.int (0 : Int32))] [.null, (.int (tg 1)), (.ref a1)])) (fun t k => ?_) ?_
  · refine XS.aconstNull X16.here hx rfl (hb hby d6_28) ?_
    exact k
  have f19 : AF Z h16 a1 (.object "com/example/knotwork/knotwork/core/Item") 3 (upv vf t2 .null) := (V8.other W16 ne_o0_a1.symm)
  obtain ⟨T20, h20, X20, e20, W20, V20, st20⟩ := puR X16 hx hZ e16 f19 rfl (Or.inl rfl) (j := (tg 1)) (k := t1) hk1 hn1 (f := (mkF m 29 #[.val (.ref o0), .val (.int (0 : Int32))] [.null, (.int (tg 1)), (.ref a1)])) rfl rfl (hb hby d6_29)
  replace V20 : AF Z h20 a1 (.object "com/example/knotwork/knotwork/core/Item") 3 (upv (upv vf t2 .null) t1 .null) := V20
  have N20 := Fr.snoc X20 N16 g_a1
  obtain ⟨Lh20, X20, N20⟩ := hide X20 N20 (C := 0) (S := 0) (by decide) (by decide)
  refine Outs.of st20 ?_
  refine Outs.of (U' := T20.setTop (mkF m 1 #[.val (.ref o0), .val (.int (0 : Int32))] [(.ref o0)])) (fun t k => ?_) ?_
  · refine XS.goto X20.here hx rfl (pc0 := 30) (pc' := 0) rfl (hb hby d6_30) (by decide) (by decide) ?_
    refine XS.aloadN X20.here hx rfl (hb hby d6_0) rfl rfl ?_
    exact k
  have f22 : Fld Z h20 o0 "com/example/knotwork/knotwork/core/Binding" "bound" "I" (.int (1 : Int32)) := (F16.other W20 (Or.inl ne_o0_a1))
  obtain ⟨T21, X21, e21, st21⟩ := getF X20 hx hZ hown (host := "") (Or.inl (hw _ (List.mem_of_getElem? (i := 45) rfl))) Via.refl e20 f22 (g := (mkF m 1 #[.val (.ref o0), .val (.int (0 : Int32))] [(.ref o0)])) rfl rfl (hb hby d6_1)
  refine Outs.of st21 ?_
  refine Outs.of (U' := T21.setTop (mkF m 9 #[.val (.ref o0), .val (.int (0 : Int32))] [(.ref o0)])) (fun t k => ?_) ?_
  · refine XS.iloadN X21.here hx rfl (hb hby d6_4) rfl ?_
    refine XS.icmpNo X21.here hx rfl (hb hby d6_5) rfl (tlt (show (0 : Int32) < (1 : Int32) from (by decide))).2.2.2 ?_
    refine XS.aloadN X21.here hx rfl (hb hby d6_8) rfl rfl ?_
    exact k
  have f24 : Fld Z h20 o0 "com/example/knotwork/knotwork/core/Binding" "values" "[Lcom/example/knotwork/knotwork/core/Item;" (.ref a1) := ((f12.other W16 (Or.inr (slot_ne (Or.inr (hw _ (List.mem_of_getElem? (i := 35) rfl))) (Or.inl (hw _ (List.mem_of_getElem? (i := 46) rfl))) (by decide) (t := (.array (.object "com/example/knotwork/knotwork/core/Item"))) (t' := .int) (by decide) (by decide)))).other W20 (Or.inl ne_o0_a1))
  obtain ⟨T23, X23, e23, st23⟩ := getF X21 hx hZ hown (host := "") (Or.inl (hw _ (List.mem_of_getElem? (i := 34) rfl))) Via.refl e21 f24 (g := (mkF m 9 #[.val (.ref o0), .val (.int (0 : Int32))] [(.ref o0)])) rfl rfl (hb hby d6_9)
  refine Outs.of st23 ?_
  refine Outs.of (U' := T23.setTop (mkF m 13 #[.val (.ref o0), .val (.int (0 : Int32))] [(.ref o0), (.ref a1)])) (fun t k => ?_) ?_
  · refine XS.aloadN X23.here hx rfl (hb hby d6_12) rfl rfl ?_
    exact k
  have f26 : Fld Z h20 o0 "com/example/knotwork/knotwork/core/Binding" "trail" "[I" (.ref a2) := ((f14.other W16 (Or.inr (slot_ne (Or.inr (hw _ (List.mem_of_getElem? (i := 38) rfl))) (Or.inl (hw _ (List.mem_of_getElem? (i := 46) rfl))) (by decide) (t := (.array .int)) (t' := .int) (by decide) (by decide)))).other W20 (Or.inl ne_o0_a1))
  obtain ⟨T25, X25, e25, st25⟩ := getF X23 hx hZ hown (host := "") (Or.inl (hw _ (List.mem_of_getElem? (i := 37) rfl))) Via.refl e23 f26 (g := (mkF m 13 #[.val (.ref o0), .val (.int (0 : Int32))] [(.ref o0), (.ref a1)])) rfl rfl (hb hby d6_13)
  refine Outs.of st25 ?_
  refine Outs.of (U' := T25.setTop (mkF m 18 #[.val (.ref o0), .val (.int (0 : Int32))] [(.ref o0), (.ref o0), (.ref a2), (.ref a1)])) (fun t k => ?_) ?_
  · refine XS.aloadN X25.here hx rfl (hb hby d6_16) rfl rfl ?_
    refine XS.dup X25.here hx rfl (hb hby d6_17) rfl rfl ?_
    exact k
  obtain ⟨T27, X27, e27, st27⟩ := getF X25 hx hZ hown (host := "") (Or.inl (hw _ (List.mem_of_getElem? (i := 45) rfl))) Via.refl e25 f22 (g := (mkF m 18 #[.val (.ref o0), .val (.int (0 : Int32))] [(.ref o0), (.ref o0), (.ref a2), (.ref a1)])) rfl rfl (hb hby d6_18)
  refine Outs.of st27 ?_
  refine Outs.of (U' := T27.setTop (mkF m 24 #[.val (.ref o0), .val (.int (0 : Int32))] [(.int (0 : Int32)), (.ref o0), (.int (0 : Int32)), (.ref a2), (.ref a1)])) (fun t k => ?_) ?_
  · refine XS.iconst X27.here hx rfl (hb hby d6_21) ?_
    refine XS.isub X27.here hx rfl (hb hby d6_22) rfl ?_
    refine XS.dupX1 X27.here hx rfl (hb hby d6_23) rfl rfl rfl ?_
    exact k
  have f29 : Exa Z h20 o0 "com/example/knotwork/knotwork/core/Binding" := ((f17.wr W16).wr W20)
  obtain ⟨T28, h28, X28, e28, W28, st28⟩ := putF X27 hx hZ hown (host := "") (Or.inl (hw _ (List.mem_of_getElem? (i := 45) rfl))) Via.refl e27 f22 f29 (Or.inl (hw _ (List.mem_of_getElem? (i := 46) rfl))) (hw _ (List.mem_of_getElem? (i := 26) rfl)) (ty := .int) (by decide) rfl rfl (g := (mkF m 24 #[.val (.ref o0), .val (.int (0 : Int32))] [(.int (0 : Int32)), (.ref o0), (.int (0 : Int32)), (.ref a2), (.ref a1)])) rfl rfl (hb hby d6_24)
  have F28 : Fld Z h28 o0 "com/example/knotwork/knotwork/core/Binding" "bound" "I" (.int (0 : Int32)) := f22.same W28
  have N28 := Fr.snoc X28 N20 g_o0
  obtain ⟨Lh28, X28, N28⟩ := hide X28 N28 (C := 0) (S := 0) (by decide) (by decide)
  refine Outs.of st28 ?_
  have f30 : AI Z h28 a2 .int 3 tg := ((f18.other W20 ne_a1_a2.symm).other W28 ne_o0_a2.symm)
  refine Outs.of (ldI X28 hx hZ e28 f30 (j := (0 : Int32)) (k := 0) rfl (by decide) (f := (mkF m 27 #[.val (.ref o0), .val (.int (0 : Int32))] [(.int (0 : Int32)), (.ref a2), (.ref a1)])) rfl rfl (hb hby d6_27)) ?_
  refine Outs.of (U' := T28.setTop (mkF m 29 #[.val (.ref o0), .val (.int (0 : Int32))] [.null, (.int (tg 0)), (.ref a1)])) (fun t k => ?_) ?_
  · refine XS.aconstNull X28.here hx rfl (hb hby d6_28) ?_
    exact k
  have f31 : AF Z h28 a1 (.object "com/example/knotwork/knotwork/core/Item") 3 (upv (upv vf t2 .null) t1 .null) := (V20.other W28 ne_o0_a1.symm)
  obtain ⟨T32, h32, X32, e32, W32, V32, st32⟩ := puR X28 hx hZ e28 f31 rfl (Or.inl rfl) (j := (tg 0)) (k := t0) hk0 hn0 (f := (mkF m 29 #[.val (.ref o0), .val (.int (0 : Int32))] [.null, (.int (tg 0)), (.ref a1)])) rfl rfl (hb hby d6_29)
  replace V32 : AF Z h32 a1 (.object "com/example/knotwork/knotwork/core/Item") 3 (upv (upv (upv vf t2 .null) t1 .null) t0 .null) := V32
  have N32 := Fr.snoc X32 N28 g_a1
  obtain ⟨Lh32, X32, N32⟩ := hide X32 N32 (C := 0) (S := 0) (by decide) (by decide)
  refine Outs.of st32 ?_
  refine Outs.of (U' := T32.setTop (mkF m 1 #[.val (.ref o0), .val (.int (0 : Int32))] [(.ref o0)])) (fun t k => ?_) ?_
  · refine XS.goto X32.here hx rfl (pc0 := 30) (pc' := 0) rfl (hb hby d6_30) (by decide) (by decide) ?_
    refine XS.aloadN X32.here hx rfl (hb hby d6_0) rfl rfl ?_
    exact k
  have f34 : Fld Z h32 o0 "com/example/knotwork/knotwork/core/Binding" "bound" "I" (.int (0 : Int32)) := (F28.other W32 (Or.inl ne_o0_a1))
  obtain ⟨T33, X33, e33, st33⟩ := getF X32 hx hZ hown (host := "") (Or.inl (hw _ (List.mem_of_getElem? (i := 45) rfl))) Via.refl e32 f34 (g := (mkF m 1 #[.val (.ref o0), .val (.int (0 : Int32))] [(.ref o0)])) rfl rfl (hb hby d6_1)
  refine Outs.of st33 ?_
  refine Outs.of (U' := T33.setTop (mkF m 33 #[.val (.ref o0), .val (.int (0 : Int32))] [])) (fun t k => ?_) ?_
  · refine XS.iloadN X33.here hx rfl (hb hby d6_4) rfl ?_
    refine XS.icmpYes X33.here hx rfl (pc0 := 5) (pc' := 33) rfl (hb hby d6_5) rfl (flt (show ¬ ((0 : Int32) < (0 : Int32)) from (by decide))).2.2.2 (by decide) (by decide) ?_
    exact k
  have f35 : Exa Z h32 o0 "com/example/knotwork/knotwork/core/Binding" := ((f29.wr W28).wr W32)
  have f36 : Fld Z h32 o0 "com/example/knotwork/knotwork/core/Binding" "values" "[Lcom/example/knotwork/knotwork/core/Item;" (.ref a1) := ((f24.other W28 (Or.inr (slot_ne (Or.inr (hw _ (List.mem_of_getElem? (i := 35) rfl))) (Or.inl (hw _ (List.mem_of_getElem? (i := 46) rfl))) (by decide) (t := (.array (.object "com/example/knotwork/knotwork/core/Item"))) (t' := .int) (by decide) (by decide)))).other W32 (Or.inl ne_o0_a1))
  have f37 : Fld Z h32 o0 "com/example/knotwork/knotwork/core/Binding" "trail" "[I" (.ref a2) := ((f26.other W28 (Or.inr (slot_ne (Or.inr (hw _ (List.mem_of_getElem? (i := 38) rfl))) (Or.inl (hw _ (List.mem_of_getElem? (i := 46) rfl))) (by decide) (t := (.array .int)) (t' := .int) (by decide) (by decide)))).other W32 (Or.inl ne_o0_a1))
  have f38 : OvA Z h32 a1 "com/example/knotwork/knotwork/core/Item" := ((((((O_a1.wr W5).wr W8).wr W16).wr W20).wr W28).wr W32)
  have f39 : AI Z h32 a2 .int 3 tg := (f30.other W32 ne_a1_a2.symm)
  exact Outs.retV X33 hx hret (hb hby d6_33) hlk (by decide) (by decide) e33 ⟨rfl, N32, (((((((Keep.refl h0 [o0, a1, a2]).wr W5 (Or.inl (List.mem_of_getElem? (i := 0) rfl))).wr W8 (Or.inl (List.mem_of_getElem? (i := 1) rfl))).wr W16 (Or.inl (List.mem_of_getElem? (i := 0) rfl))).wr W20 (Or.inl (List.mem_of_getElem? (i := 1) rfl))).wr W28 (Or.inl (List.mem_of_getElem? (i := 0) rfl))).wr W32 (Or.inl (List.mem_of_getElem? (i := 1) rfl))), f35, f36, f37, f34, V32, f38, f39⟩
def Q_un31 (Z : State) (o0 : Addr) (a1 : Addr) (a2 : Addr) (vf : Nat → Value) (tg : Nat → Int32) (t1 : Nat) (t2 : Nat) (h0 : Heap) (n0 : Nat) (v : Option Value) (h : Heap) (L : List Loc) : Prop := v = none ∧ Fr n0 L ∧ Keep h0 h [o0, a1, a2] ∧ Exa Z h o0 "com/example/knotwork/knotwork/core/Binding" ∧ Fld Z h o0 "com/example/knotwork/knotwork/core/Binding" "values" "[Lcom/example/knotwork/knotwork/core/Item;" (.ref a1) ∧ Fld Z h o0 "com/example/knotwork/knotwork/core/Binding" "trail" "[I" (.ref a2) ∧ Fld Z h o0 "com/example/knotwork/knotwork/core/Binding" "bound" "I" (.int (1 : Int32)) ∧ AF Z h a1 (.object "com/example/knotwork/knotwork/core/Item") 3 (upv (upv vf t2 .null) t1 .null) ∧ OvA Z h a1 "com/example/knotwork/knotwork/core/Item" ∧ AI Z h a2 .int 3 tg
set_option maxRecDepth 65536 in
set_option maxHeartbeats 40000000 in
theorem rmun31 (l : Launch) (Z : State) (a0 : Array Value) (hw : ∀ d ∈ tables_1, d.before a0 Z = true) (ws : List Jvm.Cond) (o0 : Addr) (a1 : Addr) (a2 : Addr) (vf : Nat → Value) (tg : Nat → Int32) (t1 : Nat) (t2 : Nat) (h0 : Heap) (n0 : Nat) (E_o0 : Exa Z h0 o0 "com/example/knotwork/knotwork/core/Binding") (g_o0 : n0 ≤ o0) (g_a1 : n0 ≤ a1) (g_a2 : n0 ≤ a2) (ne_o0_a1 : o0 ≠ a1) (ne_o0_a2 : o0 ≠ a2) (ne_a1_a2 : a1 ≠ a2) (F_o0_values : Fld Z h0 o0 "com/example/knotwork/knotwork/core/Binding" "values" "[Lcom/example/knotwork/knotwork/core/Item;" (.ref a1)) (F_o0_trail : Fld Z h0 o0 "com/example/knotwork/knotwork/core/Binding" "trail" "[I" (.ref a2)) (F_o0_bound : Fld Z h0 o0 "com/example/knotwork/knotwork/core/Binding" "bound" "I" (.int (3 : Int32))) (A_a1 : AF Z h0 a1 (.object "com/example/knotwork/knotwork/core/Item") 3 vf) (O_a1 : OvA Z h0 a1 "com/example/knotwork/knotwork/core/Item") (A_a2 : AI Z h0 a2 .int 3 tg) (hk1 : (tg 1).toInt = (t1 : Int)) (hn1 : t1 < 3) (hk2 : (tg 2).toInt = (t2 : Int)) (hn2 : t2 < 3) :
    MetFree l (⟨"com/example/knotwork/knotwork/core/Binding", "undo", "(I)V"⟩ : MethodName) (head1 (Jvm.Cond.code (⟨"com/example/knotwork/knotwork/core/Binding", "undo", "(I)V"⟩ : MethodName) prog_8_method_8_code 2 none :: ws) ({ frames := 0, cells := 0, slots := 0, locals := 0 } : Room)) (fun a U => a = #[(.ref o0), (.int (1 : Int32))] ∧ Z.Warmed39 U.vm ∧ U.heap = h0) (fun _ _ _ _ _ => True) (fun _ U o U' => ∃ v L, o = .returned v ∧ Q_un31 Z o0 a1 a2 vf tg t1 t2 h0 n0 v U'.heap L ∧ FrameEnd U o U' L ({ frames := 0, cells := 0, slots := 0, locals := 0 } : Room).cells ({ frames := 0, cells := 0, slots := 0, locals := 0 } : Room).slots) := by
  refine MetFree.of_bodySF (plainFor_of_name pn_4) hisR ?_
  intro p e s m args below meth c s₁ Bd hml0 hP hK
  obtain ⟨rfl, hZ, hh⟩ := hP
  have hx := Bd.exec
  have hby := Bd.bytes
  have hml : c.maxLocals = 2 := hml0
  have hown : s.vm.findClass "com/example/knotwork/knotwork/core/Binding" = some m.cls := findClass_of_methodNamed Bd.named
  have hnm := (name_of_methodNamed Bd.named Bd.method).1
  have hret := Bd.returns
  have hlk : meth.locks = false := BodyLoose.notSynchronized Bd
  have X0 : Stand p l e ({ frames := 0, cells := 0, slots := 0, locals := 0 } : Room) s m #[(.ref o0), (.int (1 : Int32))] below meth c s₁ [] 0 0 := Stand.of_body Bd
  have e0 : s₁.heap = h0 := by rw [← hh, Bd.state]; rfl
  have N0 := Fr.nil n0
  show Outs p e below s (Q_un31 Z o0 a1 a2 vf tg t1 t2 h0 n0) _ _ _
  refine Outs.of (U' := s₁.setTop (mkF m 0 #[.val (.ref o0), .val (.int (1 : Int32))] [])) (fun t k => castTop (ef_6 m o0 (1 : Int32)) k) ?_
  refine Outs.of (U' := s₁.setTop (mkF m 1 #[.val (.ref o0), .val (.int (1 : Int32))] [(.ref o0)])) (fun t k => ?_) ?_
  · refine XS.aloadN X0.here hx rfl (hb hby d6_0) rfl rfl ?_
    exact k
  obtain ⟨T1, X1, e1, st1⟩ := getF X0 hx hZ hown (host := "") (Or.inl (hw _ (List.mem_of_getElem? (i := 45) rfl))) Via.refl e0 F_o0_bound (g := (mkF m 1 #[.val (.ref o0), .val (.int (1 : Int32))] [(.ref o0)])) rfl rfl (hb hby d6_1)
  refine Outs.of st1 ?_
  refine Outs.of (U' := T1.setTop (mkF m 9 #[.val (.ref o0), .val (.int (1 : Int32))] [(.ref o0)])) (fun t k => ?_) ?_
  · refine XS.iloadN X1.here hx rfl (hb hby d6_4) rfl ?_
    refine XS.icmpNo X1.here hx rfl (hb hby d6_5) rfl (tlt (show (1 : Int32) < (3 : Int32) from (by decide))).2.2.2 ?_
    refine XS.aloadN X1.here hx rfl (hb hby d6_8) rfl rfl ?_
    exact k
  obtain ⟨T2, X2, e2, st2⟩ := getF X1 hx hZ hown (host := "") (Or.inl (hw _ (List.mem_of_getElem? (i := 34) rfl))) Via.refl e1 F_o0_values (g := (mkF m 9 #[.val (.ref o0), .val (.int (1 : Int32))] [(.ref o0)])) rfl rfl (hb hby d6_9)
  refine Outs.of st2 ?_
  refine Outs.of (U' := T2.setTop (mkF m 13 #[.val (.ref o0), .val (.int (1 : Int32))] [(.ref o0), (.ref a1)])) (fun t k => ?_) ?_
  · refine XS.aloadN X2.here hx rfl (hb hby d6_12) rfl rfl ?_
    exact k
  obtain ⟨T3, X3, e3, st3⟩ := getF X2 hx hZ hown (host := "") (Or.inl (hw _ (List.mem_of_getElem? (i := 37) rfl))) Via.refl e2 F_o0_trail (g := (mkF m 13 #[.val (.ref o0), .val (.int (1 : Int32))] [(.ref o0), (.ref a1)])) rfl rfl (hb hby d6_13)
  refine Outs.of st3 ?_
  refine Outs.of (U' := T3.setTop (mkF m 18 #[.val (.ref o0), .val (.int (1 : Int32))] [(.ref o0), (.ref o0), (.ref a2), (.ref a1)])) (fun t k => ?_) ?_
  · refine XS.aloadN X3.here hx rfl (hb hby d6_16) rfl rfl ?_
    refine XS.dup X3.here hx rfl (hb hby d6_17) rfl rfl ?_
    exact k
  obtain ⟨T4, X4, e4, st4⟩ := getF X3 hx hZ hown (host := "") (Or.inl (hw _ (List.mem_of_getElem? (i := 45) rfl))) Via.refl e3 F_o0_bound (g := (mkF m 18 #[.val (.ref o0), .val (.int (1 : Int32))] [(.ref o0), (.ref o0), (.ref a2), (.ref a1)])) rfl rfl (hb hby d6_18)
  refine Outs.of st4 ?_
  refine Outs.of (U' := T4.setTop (mkF m 24 #[.val (.ref o0), .val (.int (1 : Int32))] [(.int (2 : Int32)), (.ref o0), (.int (2 : Int32)), (.ref a2), (.ref a1)])) (fun t k => ?_) ?_
  · refine XS.iconst X4.here hx rfl (hb hby d6_21) ?_
    refine XS.isub X4.here hx rfl (hb hby d6_22) rfl ?_
    refine XS.dupX1 X4.here hx rfl (hb hby d6_23) rfl rfl rfl ?_
    exact k
  obtain ⟨T5, h5, X5, e5, W5, st5⟩ := putF X4 hx hZ hown (host := "") (Or.inl (hw _ (List.mem_of_getElem? (i := 45) rfl))) Via.refl e4 F_o0_bound E_o0 (Or.inl (hw _ (List.mem_of_getElem? (i := 46) rfl))) (hw _ (List.mem_of_getElem? (i := 26) rfl)) (ty := .int) (by decide) rfl rfl (g := (mkF m 24 #[.val (.ref o0), .val (.int (1 : Int32))] [(.int (2 : Int32)), (.ref o0), (.int (2 : Int32)), (.ref a2), (.ref a1)])) rfl rfl (hb hby d6_24)
  have F5 : Fld Z h5 o0 "com/example/knotwork/knotwork/core/Binding" "bound" "I" (.int (2 : Int32)) := F_o0_bound.same W5
  have N5 := Fr.snoc X5 N0 g_o0
  obtain ⟨Lh5, X5, N5⟩ := hide X5 N5 (C := 0) (S := 0) (by decide) (by decide)
  refine Outs.of st5 ?_
  have f6 : AI Z h5 a2 .int 3 tg := (A_a2.other W5 ne_o0_a2.symm)
  refine Outs.of (ldI X5 hx hZ e5 f6 (j := (2 : Int32)) (k := 2) rfl (by decide) (f := (mkF m 27 #[.val (.ref o0), .val (.int (1 : Int32))] [(.int (2 : Int32)), (.ref a2), (.ref a1)])) rfl rfl (hb hby d6_27)) ?_
  refine Outs.of (U' := T5.setTop (mkF m 29 #[.val (.ref o0), .val (.int (1 : Int32))] [.null, (.int (tg 2)), (.ref a1)])) (fun t k => ?_) ?_
  · refine XS.aconstNull X5.here hx rfl (hb hby d6_28) ?_
    exact k
  have f7 : AF Z h5 a1 (.object "com/example/knotwork/knotwork/core/Item") 3 vf := (A_a1.other W5 ne_o0_a1.symm)
  obtain ⟨T8, h8, X8, e8, W8, V8, st8⟩ := puR X5 hx hZ e5 f7 rfl (Or.inl rfl) (j := (tg 2)) (k := t2) hk2 hn2 (f := (mkF m 29 #[.val (.ref o0), .val (.int (1 : Int32))] [.null, (.int (tg 2)), (.ref a1)])) rfl rfl (hb hby d6_29)
  replace V8 : AF Z h8 a1 (.object "com/example/knotwork/knotwork/core/Item") 3 (upv vf t2 .null) := V8
  have N8 := Fr.snoc X8 N5 g_a1
  obtain ⟨Lh8, X8, N8⟩ := hide X8 N8 (C := 0) (S := 0) (by decide) (by decide)
  refine Outs.of st8 ?_
  refine Outs.of (U' := T8.setTop (mkF m 1 #[.val (.ref o0), .val (.int (1 : Int32))] [(.ref o0)])) (fun t k => ?_) ?_
  · refine XS.goto X8.here hx rfl (pc0 := 30) (pc' := 0) rfl (hb hby d6_30) (by decide) (by decide) ?_
    refine XS.aloadN X8.here hx rfl (hb hby d6_0) rfl rfl ?_
    exact k
  have f10 : Fld Z h8 o0 "com/example/knotwork/knotwork/core/Binding" "bound" "I" (.int (2 : Int32)) := (F5.other W8 (Or.inl ne_o0_a1))
  obtain ⟨T9, X9, e9, st9⟩ := getF X8 hx hZ hown (host := "") (Or.inl (hw _ (List.mem_of_getElem? (i := 45) rfl))) Via.refl e8 f10 (g := (mkF m 1 #[.val (.ref o0), .val (.int (1 : Int32))] [(.ref o0)])) rfl rfl (hb hby d6_1)
  refine Outs.of st9 ?_
  refine Outs.of (U' := T9.setTop (mkF m 9 #[.val (.ref o0), .val (.int (1 : Int32))] [(.ref o0)])) (fun t k => ?_) ?_
  · refine XS.iloadN X9.here hx rfl (hb hby d6_4) rfl ?_
    refine XS.icmpNo X9.here hx rfl (hb hby d6_5) rfl (tlt (show (1 : Int32) < (2 : Int32) from (by decide))).2.2.2 ?_
    refine XS.aloadN X9.here hx rfl (hb hby d6_8) rfl rfl ?_
    exact k
  have f12 : Fld Z h8 o0 "com/example/knotwork/knotwork/core/Binding" "values" "[Lcom/example/knotwork/knotwork/core/Item;" (.ref a1) := ((F_o0_values.other W5 (Or.inr (slot_ne (Or.inr (hw _ (List.mem_of_getElem? (i := 35) rfl))) (Or.inl (hw _ (List.mem_of_getElem? (i := 46) rfl))) (by decide) (t := (.array (.object "com/example/knotwork/knotwork/core/Item"))) (t' := .int) (by decide) (by decide)))).other W8 (Or.inl ne_o0_a1))
  obtain ⟨T11, X11, e11, st11⟩ := getF X9 hx hZ hown (host := "") (Or.inl (hw _ (List.mem_of_getElem? (i := 34) rfl))) Via.refl e9 f12 (g := (mkF m 9 #[.val (.ref o0), .val (.int (1 : Int32))] [(.ref o0)])) rfl rfl (hb hby d6_9)
  refine Outs.of st11 ?_
  refine Outs.of (U' := T11.setTop (mkF m 13 #[.val (.ref o0), .val (.int (1 : Int32))] [(.ref o0), (.ref a1)])) (fun t k => ?_) ?_
  · refine XS.aloadN X11.here hx rfl (hb hby d6_12) rfl rfl ?_
    exact k
  have f14 : Fld Z h8 o0 "com/example/knotwork/knotwork/core/Binding" "trail" "[I" (.ref a2) := ((F_o0_trail.other W5 (Or.inr (slot_ne (Or.inr (hw _ (List.mem_of_getElem? (i := 38) rfl))) (Or.inl (hw _ (List.mem_of_getElem? (i := 46) rfl))) (by decide) (t := (.array .int)) (t' := .int) (by decide) (by decide)))).other W8 (Or.inl ne_o0_a1))
  obtain ⟨T13, X13, e13, st13⟩ := getF X11 hx hZ hown (host := "") (Or.inl (hw _ (List.mem_of_getElem? (i := 37) rfl))) Via.refl e11 f14 (g := (mkF m 13 #[.val (.ref o0), .val (.int (1 : Int32))] [(.ref o0), (.ref a1)])) rfl rfl (hb hby d6_13)
  refine Outs.of st13 ?_
  refine Outs.of (U' := T13.setTop (mkF m 18 #[.val (.ref o0), .val (.int (1 : Int32))] [(.ref o0), (.ref o0), (.ref a2), (.ref a1)])) (fun t k => ?_) ?_
  · refine XS.aloadN X13.here hx rfl (hb hby d6_16) rfl rfl ?_
    refine XS.dup X13.here hx rfl (hb hby d6_17) rfl rfl ?_
    exact k
  obtain ⟨T15, X15, e15, st15⟩ := getF X13 hx hZ hown (host := "") (Or.inl (hw _ (List.mem_of_getElem? (i := 45) rfl))) Via.refl e13 f10 (g := (mkF m 18 #[.val (.ref o0), .val (.int (1 : Int32))] [(.ref o0), (.ref o0), (.ref a2), (.ref a1)])) rfl rfl (hb hby d6_18)
  refine Outs.of st15 ?_
  refine Outs.of (U' := T15.setTop (mkF m 24 #[.val (.ref o0), .val (.int (1 : Int32))] [(.int (1 : Int32)), (.ref o0), (.int (1 : Int32)), (.ref a2), (.ref a1)])) (fun t k => ?_) ?_
  · refine XS.iconst X15.here hx rfl (hb hby d6_21) ?_
    refine XS.isub X15.here hx rfl (hb hby d6_22) rfl ?_
    refine XS.dupX1 X15.here hx rfl (hb hby d6_23) rfl rfl rfl ?_
    exact k
  have f17 : Exa Z h8 o0 "com/example/knotwork/knotwork/core/Binding" := ((E_o0.wr W5).wr W8)
  obtain ⟨T16, h16, X16, e16, W16, st16⟩ := putF X15 hx hZ hown (host := "") (Or.inl (hw _ (List.mem_of_getElem? (i := 45) rfl))) Via.refl e15 f10 f17 (Or.inl (hw _ (List.mem_of_getElem? (i := 46) rfl))) (hw _ (List.mem_of_getElem? (i := 26) rfl)) (ty := .int) (by decide) rfl rfl (g := (mkF m 24 #[.val (.ref o0), .val (.int (1 : Int32))] [(.int (1 : Int32)), (.ref o0), (.int (1 : Int32)), (.ref a2), (.ref a1)])) rfl rfl (hb hby d6_24)
  have F16 : Fld Z h16 o0 "com/example/knotwork/knotwork/core/Binding" "bound" "I" (.int (1 : Int32)) := f10.same W16
  have N16 := Fr.snoc X16 N8 g_o0
  obtain ⟨Lh16, X16, N16⟩ := hide X16 N16 (C := 0) (S := 0) (by decide) (by decide)
  refine Outs.of st16 ?_
  have f18 : AI Z h16 a2 .int 3 tg := ((f6.other W8 ne_a1_a2.symm).other W16 ne_o0_a2.symm)
  refine Outs.of (ldI X16 hx hZ e16 f18 (j := (1 : Int32)) (k := 1) rfl (by decide) (f := (mkF m 27 #[.val (.ref o0), .val (.int (1 : Int32))] [(.int (1 : Int32)), (.ref a2), (.ref a1)])) rfl rfl (hb hby d6_27)) ?_
  refine Outs.of (U' := T16.setTop (mkF m 29 #[.val (.ref o0), .val (.int (1 : Int32))] [.null, (.int (tg 1)), (.ref a1)])) (fun t k => ?_) ?_
  · refine XS.aconstNull X16.here hx rfl (hb hby d6_28) ?_
    exact k
  have f19 : AF Z h16 a1 (.object "com/example/knotwork/knotwork/core/Item") 3 (upv vf t2 .null) := (V8.other W16 ne_o0_a1.symm)
  obtain ⟨T20, h20, X20, e20, W20, V20, st20⟩ := puR X16 hx hZ e16 f19 rfl (Or.inl rfl) (j := (tg 1)) (k := t1) hk1 hn1 (f := (mkF m 29 #[.val (.ref o0), .val (.int (1 : Int32))] [.null, (.int (tg 1)), (.ref a1)])) rfl rfl (hb hby d6_29)
  replace V20 : AF Z h20 a1 (.object "com/example/knotwork/knotwork/core/Item") 3 (upv (upv vf t2 .null) t1 .null) := V20
  have N20 := Fr.snoc X20 N16 g_a1
  obtain ⟨Lh20, X20, N20⟩ := hide X20 N20 (C := 0) (S := 0) (by decide) (by decide)
  refine Outs.of st20 ?_
  refine Outs.of (U' := T20.setTop (mkF m 1 #[.val (.ref o0), .val (.int (1 : Int32))] [(.ref o0)])) (fun t k => ?_) ?_
  · refine XS.goto X20.here hx rfl (pc0 := 30) (pc' := 0) rfl (hb hby d6_30) (by decide) (by decide) ?_
    refine XS.aloadN X20.here hx rfl (hb hby d6_0) rfl rfl ?_
    exact k
  have f22 : Fld Z h20 o0 "com/example/knotwork/knotwork/core/Binding" "bound" "I" (.int (1 : Int32)) := (F16.other W20 (Or.inl ne_o0_a1))
  obtain ⟨T21, X21, e21, st21⟩ := getF X20 hx hZ hown (host := "") (Or.inl (hw _ (List.mem_of_getElem? (i := 45) rfl))) Via.refl e20 f22 (g := (mkF m 1 #[.val (.ref o0), .val (.int (1 : Int32))] [(.ref o0)])) rfl rfl (hb hby d6_1)
  refine Outs.of st21 ?_
  refine Outs.of (U' := T21.setTop (mkF m 33 #[.val (.ref o0), .val (.int (1 : Int32))] [])) (fun t k => ?_) ?_
  · refine XS.iloadN X21.here hx rfl (hb hby d6_4) rfl ?_
    refine XS.icmpYes X21.here hx rfl (pc0 := 5) (pc' := 33) rfl (hb hby d6_5) rfl (flt (show ¬ ((1 : Int32) < (1 : Int32)) from (by decide))).2.2.2 (by decide) (by decide) ?_
    exact k
  have f23 : Exa Z h20 o0 "com/example/knotwork/knotwork/core/Binding" := ((f17.wr W16).wr W20)
  have f24 : Fld Z h20 o0 "com/example/knotwork/knotwork/core/Binding" "values" "[Lcom/example/knotwork/knotwork/core/Item;" (.ref a1) := ((f12.other W16 (Or.inr (slot_ne (Or.inr (hw _ (List.mem_of_getElem? (i := 35) rfl))) (Or.inl (hw _ (List.mem_of_getElem? (i := 46) rfl))) (by decide) (t := (.array (.object "com/example/knotwork/knotwork/core/Item"))) (t' := .int) (by decide) (by decide)))).other W20 (Or.inl ne_o0_a1))
  have f25 : Fld Z h20 o0 "com/example/knotwork/knotwork/core/Binding" "trail" "[I" (.ref a2) := ((f14.other W16 (Or.inr (slot_ne (Or.inr (hw _ (List.mem_of_getElem? (i := 38) rfl))) (Or.inl (hw _ (List.mem_of_getElem? (i := 46) rfl))) (by decide) (t := (.array .int)) (t' := .int) (by decide) (by decide)))).other W20 (Or.inl ne_o0_a1))
  have f26 : OvA Z h20 a1 "com/example/knotwork/knotwork/core/Item" := ((((O_a1.wr W5).wr W8).wr W16).wr W20)
  have f27 : AI Z h20 a2 .int 3 tg := (f18.other W20 ne_a1_a2.symm)
  exact Outs.retV X21 hx hret (hb hby d6_33) hlk (by decide) (by decide) e21 ⟨rfl, N20, (((((Keep.refl h0 [o0, a1, a2]).wr W5 (Or.inl (List.mem_of_getElem? (i := 0) rfl))).wr W8 (Or.inl (List.mem_of_getElem? (i := 1) rfl))).wr W16 (Or.inl (List.mem_of_getElem? (i := 0) rfl))).wr W20 (Or.inl (List.mem_of_getElem? (i := 1) rfl))), f23, f24, f25, f22, V20, f26, f27⟩
def Q_un32 (Z : State) (o0 : Addr) (a1 : Addr) (a2 : Addr) (vf : Nat → Value) (tg : Nat → Int32) (t2 : Nat) (h0 : Heap) (n0 : Nat) (v : Option Value) (h : Heap) (L : List Loc) : Prop := v = none ∧ Fr n0 L ∧ Keep h0 h [o0, a1, a2] ∧ Exa Z h o0 "com/example/knotwork/knotwork/core/Binding" ∧ Fld Z h o0 "com/example/knotwork/knotwork/core/Binding" "values" "[Lcom/example/knotwork/knotwork/core/Item;" (.ref a1) ∧ Fld Z h o0 "com/example/knotwork/knotwork/core/Binding" "trail" "[I" (.ref a2) ∧ Fld Z h o0 "com/example/knotwork/knotwork/core/Binding" "bound" "I" (.int (2 : Int32)) ∧ AF Z h a1 (.object "com/example/knotwork/knotwork/core/Item") 3 (upv vf t2 .null) ∧ OvA Z h a1 "com/example/knotwork/knotwork/core/Item" ∧ AI Z h a2 .int 3 tg
set_option maxRecDepth 65536 in
set_option maxHeartbeats 40000000 in
theorem rmun32 (l : Launch) (Z : State) (a0 : Array Value) (hw : ∀ d ∈ tables_1, d.before a0 Z = true) (ws : List Jvm.Cond) (o0 : Addr) (a1 : Addr) (a2 : Addr) (vf : Nat → Value) (tg : Nat → Int32) (t2 : Nat) (h0 : Heap) (n0 : Nat) (E_o0 : Exa Z h0 o0 "com/example/knotwork/knotwork/core/Binding") (g_o0 : n0 ≤ o0) (g_a1 : n0 ≤ a1) (g_a2 : n0 ≤ a2) (ne_o0_a1 : o0 ≠ a1) (ne_o0_a2 : o0 ≠ a2) (ne_a1_a2 : a1 ≠ a2) (F_o0_values : Fld Z h0 o0 "com/example/knotwork/knotwork/core/Binding" "values" "[Lcom/example/knotwork/knotwork/core/Item;" (.ref a1)) (F_o0_trail : Fld Z h0 o0 "com/example/knotwork/knotwork/core/Binding" "trail" "[I" (.ref a2)) (F_o0_bound : Fld Z h0 o0 "com/example/knotwork/knotwork/core/Binding" "bound" "I" (.int (3 : Int32))) (A_a1 : AF Z h0 a1 (.object "com/example/knotwork/knotwork/core/Item") 3 vf) (O_a1 : OvA Z h0 a1 "com/example/knotwork/knotwork/core/Item") (A_a2 : AI Z h0 a2 .int 3 tg) (hk2 : (tg 2).toInt = (t2 : Int)) (hn2 : t2 < 3) :
    MetFree l (⟨"com/example/knotwork/knotwork/core/Binding", "undo", "(I)V"⟩ : MethodName) (head1 (Jvm.Cond.code (⟨"com/example/knotwork/knotwork/core/Binding", "undo", "(I)V"⟩ : MethodName) prog_8_method_8_code 2 none :: ws) ({ frames := 0, cells := 0, slots := 0, locals := 0 } : Room)) (fun a U => a = #[(.ref o0), (.int (2 : Int32))] ∧ Z.Warmed39 U.vm ∧ U.heap = h0) (fun _ _ _ _ _ => True) (fun _ U o U' => ∃ v L, o = .returned v ∧ Q_un32 Z o0 a1 a2 vf tg t2 h0 n0 v U'.heap L ∧ FrameEnd U o U' L ({ frames := 0, cells := 0, slots := 0, locals := 0 } : Room).cells ({ frames := 0, cells := 0, slots := 0, locals := 0 } : Room).slots) := by
  refine MetFree.of_bodySF (plainFor_of_name pn_4) hisR ?_
  intro p e s m args below meth c s₁ Bd hml0 hP hK
  obtain ⟨rfl, hZ, hh⟩ := hP
  have hx := Bd.exec
  have hby := Bd.bytes
  have hml : c.maxLocals = 2 := hml0
  have hown : s.vm.findClass "com/example/knotwork/knotwork/core/Binding" = some m.cls := findClass_of_methodNamed Bd.named
  have hnm := (name_of_methodNamed Bd.named Bd.method).1
  have hret := Bd.returns
  have hlk : meth.locks = false := BodyLoose.notSynchronized Bd
  have X0 : Stand p l e ({ frames := 0, cells := 0, slots := 0, locals := 0 } : Room) s m #[(.ref o0), (.int (2 : Int32))] below meth c s₁ [] 0 0 := Stand.of_body Bd
  have e0 : s₁.heap = h0 := by rw [← hh, Bd.state]; rfl
  have N0 := Fr.nil n0
  show Outs p e below s (Q_un32 Z o0 a1 a2 vf tg t2 h0 n0) _ _ _
  refine Outs.of (U' := s₁.setTop (mkF m 0 #[.val (.ref o0), .val (.int (2 : Int32))] [])) (fun t k => castTop (ef_6 m o0 (2 : Int32)) k) ?_
  refine Outs.of (U' := s₁.setTop (mkF m 1 #[.val (.ref o0), .val (.int (2 : Int32))] [(.ref o0)])) (fun t k => ?_) ?_
  · refine XS.aloadN X0.here hx rfl (hb hby d6_0) rfl rfl ?_
    exact k
  obtain ⟨T1, X1, e1, st1⟩ := getF X0 hx hZ hown (host := "") (Or.inl (hw _ (List.mem_of_getElem? (i := 45) rfl))) Via.refl e0 F_o0_bound (g := (mkF m 1 #[.val (.ref o0), .val (.int (2 : Int32))] [(.ref o0)])) rfl rfl (hb hby d6_1)
  refine Outs.of st1 ?_
  refine Outs.of (U' := T1.setTop (mkF m 9 #[.val (.ref o0), .val (.int (2 : Int32))] [(.ref o0)])) (fun t k => ?_) ?_
  · refine XS.iloadN X1.here hx rfl (hb hby d6_4) rfl ?_
    refine XS.icmpNo X1.here hx rfl (hb hby d6_5) rfl (tlt (show (2 : Int32) < (3 : Int32) from (by decide))).2.2.2 ?_
    refine XS.aloadN X1.here hx rfl (hb hby d6_8) rfl rfl ?_
    exact k
  obtain ⟨T2, X2, e2, st2⟩ := getF X1 hx hZ hown (host := "") (Or.inl (hw _ (List.mem_of_getElem? (i := 34) rfl))) Via.refl e1 F_o0_values (g := (mkF m 9 #[.val (.ref o0), .val (.int (2 : Int32))] [(.ref o0)])) rfl rfl (hb hby d6_9)
  refine Outs.of st2 ?_
  refine Outs.of (U' := T2.setTop (mkF m 13 #[.val (.ref o0), .val (.int (2 : Int32))] [(.ref o0), (.ref a1)])) (fun t k => ?_) ?_
  · refine XS.aloadN X2.here hx rfl (hb hby d6_12) rfl rfl ?_
    exact k
  obtain ⟨T3, X3, e3, st3⟩ := getF X2 hx hZ hown (host := "") (Or.inl (hw _ (List.mem_of_getElem? (i := 37) rfl))) Via.refl e2 F_o0_trail (g := (mkF m 13 #[.val (.ref o0), .val (.int (2 : Int32))] [(.ref o0), (.ref a1)])) rfl rfl (hb hby d6_13)
  refine Outs.of st3 ?_
  refine Outs.of (U' := T3.setTop (mkF m 18 #[.val (.ref o0), .val (.int (2 : Int32))] [(.ref o0), (.ref o0), (.ref a2), (.ref a1)])) (fun t k => ?_) ?_
  · refine XS.aloadN X3.here hx rfl (hb hby d6_16) rfl rfl ?_
    refine XS.dup X3.here hx rfl (hb hby d6_17) rfl rfl ?_
    exact k
  obtain ⟨T4, X4, e4, st4⟩ := getF X3 hx hZ hown (host := "") (Or.inl (hw _ (List.mem_of_getElem? (i := 45) rfl))) Via.refl e3 F_o0_bound (g := (mkF m 18 #[.val (.ref o0), .val (.int (2 : Int32))] [(.ref o0), (.ref o0), (.ref a2), (.ref a1)])) rfl rfl (hb hby d6_18)
  refine Outs.of st4 ?_
  refine Outs.of (U' := T4.setTop (mkF m 24 #[.val (.ref o0), .val (.int (2 : Int32))] [(.int (2 : Int32)), (.ref o0), (.int (2 : Int32)), (.ref a2), (.ref a1)])) (fun t k => ?_) ?_
  · refine XS.iconst X4.here hx rfl (hb hby d6_21) ?_
    refine XS.isub X4.here hx rfl (hb hby d6_22) rfl ?_
    refine XS.dupX1 X4.here hx rfl (hb hby d6_23) rfl rfl rfl ?_
    exact k
  obtain ⟨T5, h5, X5, e5, W5, st5⟩ := putF X4 hx hZ hown (host := "") (Or.inl (hw _ (List.mem_of_getElem? (i := 45) rfl))) Via.refl e4 F_o0_bound E_o0 (Or.inl (hw _ (List.mem_of_getElem? (i := 46) rfl))) (hw _ (List.mem_of_getElem? (i := 26) rfl)) (ty := .int) (by decide) rfl rfl (g := (mkF m 24 #[.val (.ref o0), .val (.int (2 : Int32))] [(.int (2 : Int32)), (.ref o0), (.int (2 : Int32)), (.ref a2), (.ref a1)])) rfl rfl (hb hby d6_24)
  have F5 : Fld Z h5 o0 "com/example/knotwork/knotwork/core/Binding" "bound" "I" (.int (2 : Int32)) := F_o0_bound.same W5
  have N5 := Fr.snoc X5 N0 g_o0
  obtain ⟨Lh5, X5, N5⟩ := hide X5 N5 (C := 0) (S := 0) (by decide) (by decide)
  refine Outs.of st5 ?_
  have f6 : AI Z h5 a2 .int 3 tg := (A_a2.other W5 ne_o0_a2.symm)
  refine Outs.of (ldI X5 hx hZ e5 f6 (j := (2 : Int32)) (k := 2) rfl (by decide) (f := (mkF m 27 #[.val (.ref o0), .val (.int (2 : Int32))] [(.int (2 : Int32)), (.ref a2), (.ref a1)])) rfl rfl (hb hby d6_27)) ?_
  refine Outs.of (U' := T5.setTop (mkF m 29 #[.val (.ref o0), .val (.int (2 : Int32))] [.null, (.int (tg 2)), (.ref a1)])) (fun t k => ?_) ?_
  · refine XS.aconstNull X5.here hx rfl (hb hby d6_28) ?_
    exact k
  have f7 : AF Z h5 a1 (.object "com/example/knotwork/knotwork/core/Item") 3 vf := (A_a1.other W5 ne_o0_a1.symm)
  obtain ⟨T8, h8, X8, e8, W8, V8, st8⟩ := puR X5 hx hZ e5 f7 rfl (Or.inl rfl) (j := (tg 2)) (k := t2) hk2 hn2 (f := (mkF m 29 #[.val (.ref o0), .val (.int (2 : Int32))] [.null, (.int (tg 2)), (.ref a1)])) rfl rfl (hb hby d6_29)
  replace V8 : AF Z h8 a1 (.object "com/example/knotwork/knotwork/core/Item") 3 (upv vf t2 .null) := V8
  have N8 := Fr.snoc X8 N5 g_a1
  obtain ⟨Lh8, X8, N8⟩ := hide X8 N8 (C := 0) (S := 0) (by decide) (by decide)
  refine Outs.of st8 ?_
  refine Outs.of (U' := T8.setTop (mkF m 1 #[.val (.ref o0), .val (.int (2 : Int32))] [(.ref o0)])) (fun t k => ?_) ?_
  · refine XS.goto X8.here hx rfl (pc0 := 30) (pc' := 0) rfl (hb hby d6_30) (by decide) (by decide) ?_
    refine XS.aloadN X8.here hx rfl (hb hby d6_0) rfl rfl ?_
    exact k
  have f10 : Fld Z h8 o0 "com/example/knotwork/knotwork/core/Binding" "bound" "I" (.int (2 : Int32)) := (F5.other W8 (Or.inl ne_o0_a1))
  obtain ⟨T9, X9, e9, st9⟩ := getF X8 hx hZ hown (host := "") (Or.inl (hw _ (List.mem_of_getElem? (i := 45) rfl))) Via.refl e8 f10 (g := (mkF m 1 #[.val (.ref o0), .val (.int (2 : Int32))] [(.ref o0)])) rfl rfl (hb hby d6_1)
  refine Outs.of st9 ?_
  refine Outs.of (U' := T9.setTop (mkF m 33 #[.val (.ref o0), .val (.int (2 : Int32))] [])) (fun t k => ?_) ?_
  · refine XS.iloadN X9.here hx rfl (hb hby d6_4) rfl ?_
    refine XS.icmpYes X9.here hx rfl (pc0 := 5) (pc' := 33) rfl (hb hby d6_5) rfl (flt (show ¬ ((2 : Int32) < (2 : Int32)) from (by decide))).2.2.2 (by decide) (by decide) ?_
    exact k
  have f11 : Exa Z h8 o0 "com/example/knotwork/knotwork/core/Binding" := ((E_o0.wr W5).wr W8)
  have f12 : Fld Z h8 o0 "com/example/knotwork/knotwork/core/Binding" "values" "[Lcom/example/knotwork/knotwork/core/Item;" (.ref a1) := ((F_o0_values.other W5 (Or.inr (slot_ne (Or.inr (hw _ (List.mem_of_getElem? (i := 35) rfl))) (Or.inl (hw _ (List.mem_of_getElem? (i := 46) rfl))) (by decide) (t := (.array (.object "com/example/knotwork/knotwork/core/Item"))) (t' := .int) (by decide) (by decide)))).other W8 (Or.inl ne_o0_a1))
  have f13 : Fld Z h8 o0 "com/example/knotwork/knotwork/core/Binding" "trail" "[I" (.ref a2) := ((F_o0_trail.other W5 (Or.inr (slot_ne (Or.inr (hw _ (List.mem_of_getElem? (i := 38) rfl))) (Or.inl (hw _ (List.mem_of_getElem? (i := 46) rfl))) (by decide) (t := (.array .int)) (t' := .int) (by decide) (by decide)))).other W8 (Or.inl ne_o0_a1))
  have f14 : OvA Z h8 a1 "com/example/knotwork/knotwork/core/Item" := ((O_a1.wr W5).wr W8)
  have f15 : AI Z h8 a2 .int 3 tg := (f6.other W8 ne_a1_a2.symm)
  exact Outs.retV X9 hx hret (hb hby d6_33) hlk (by decide) (by decide) e9 ⟨rfl, N8, (((Keep.refl h0 [o0, a1, a2]).wr W5 (Or.inl (List.mem_of_getElem? (i := 0) rfl))).wr W8 (Or.inl (List.mem_of_getElem? (i := 1) rfl))), f11, f12, f13, f10, V8, f14, f15⟩
def Q_un33 (Z : State) (o0 : Addr) (a1 : Addr) (a2 : Addr) (vf : Nat → Value) (tg : Nat → Int32) (h0 : Heap) (n0 : Nat) (v : Option Value) (h : Heap) (L : List Loc) : Prop := v = none ∧ Fr n0 L ∧ Keep h0 h [o0, a1, a2] ∧ Exa Z h o0 "com/example/knotwork/knotwork/core/Binding" ∧ Fld Z h o0 "com/example/knotwork/knotwork/core/Binding" "values" "[Lcom/example/knotwork/knotwork/core/Item;" (.ref a1) ∧ Fld Z h o0 "com/example/knotwork/knotwork/core/Binding" "trail" "[I" (.ref a2) ∧ Fld Z h o0 "com/example/knotwork/knotwork/core/Binding" "bound" "I" (.int (3 : Int32)) ∧ AF Z h a1 (.object "com/example/knotwork/knotwork/core/Item") 3 vf ∧ OvA Z h a1 "com/example/knotwork/knotwork/core/Item" ∧ AI Z h a2 .int 3 tg
set_option maxRecDepth 65536 in
set_option maxHeartbeats 40000000 in
theorem rmun33 (l : Launch) (Z : State) (a0 : Array Value) (hw : ∀ d ∈ tables_1, d.before a0 Z = true) (ws : List Jvm.Cond) (o0 : Addr) (a1 : Addr) (a2 : Addr) (vf : Nat → Value) (tg : Nat → Int32) (h0 : Heap) (n0 : Nat) (E_o0 : Exa Z h0 o0 "com/example/knotwork/knotwork/core/Binding") (g_o0 : n0 ≤ o0) (g_a1 : n0 ≤ a1) (g_a2 : n0 ≤ a2) (ne_o0_a1 : o0 ≠ a1) (ne_o0_a2 : o0 ≠ a2) (ne_a1_a2 : a1 ≠ a2) (F_o0_values : Fld Z h0 o0 "com/example/knotwork/knotwork/core/Binding" "values" "[Lcom/example/knotwork/knotwork/core/Item;" (.ref a1)) (F_o0_trail : Fld Z h0 o0 "com/example/knotwork/knotwork/core/Binding" "trail" "[I" (.ref a2)) (F_o0_bound : Fld Z h0 o0 "com/example/knotwork/knotwork/core/Binding" "bound" "I" (.int (3 : Int32))) (A_a1 : AF Z h0 a1 (.object "com/example/knotwork/knotwork/core/Item") 3 vf) (O_a1 : OvA Z h0 a1 "com/example/knotwork/knotwork/core/Item") (A_a2 : AI Z h0 a2 .int 3 tg) :
    MetFree l (⟨"com/example/knotwork/knotwork/core/Binding", "undo", "(I)V"⟩ : MethodName) (head1 (Jvm.Cond.code (⟨"com/example/knotwork/knotwork/core/Binding", "undo", "(I)V"⟩ : MethodName) prog_8_method_8_code 2 none :: ws) ({ frames := 0, cells := 0, slots := 0, locals := 0 } : Room)) (fun a U => a = #[(.ref o0), (.int (3 : Int32))] ∧ Z.Warmed39 U.vm ∧ U.heap = h0) (fun _ _ _ _ _ => True) (fun _ U o U' => ∃ v L, o = .returned v ∧ Q_un33 Z o0 a1 a2 vf tg h0 n0 v U'.heap L ∧ FrameEnd U o U' L ({ frames := 0, cells := 0, slots := 0, locals := 0 } : Room).cells ({ frames := 0, cells := 0, slots := 0, locals := 0 } : Room).slots) := by
  refine MetFree.of_bodySF (plainFor_of_name pn_4) hisR ?_
  intro p e s m args below meth c s₁ Bd hml0 hP hK
  obtain ⟨rfl, hZ, hh⟩ := hP
  have hx := Bd.exec
  have hby := Bd.bytes
  have hml : c.maxLocals = 2 := hml0
  have hown : s.vm.findClass "com/example/knotwork/knotwork/core/Binding" = some m.cls := findClass_of_methodNamed Bd.named
  have hnm := (name_of_methodNamed Bd.named Bd.method).1
  have hret := Bd.returns
  have hlk : meth.locks = false := BodyLoose.notSynchronized Bd
  have X0 : Stand p l e ({ frames := 0, cells := 0, slots := 0, locals := 0 } : Room) s m #[(.ref o0), (.int (3 : Int32))] below meth c s₁ [] 0 0 := Stand.of_body Bd
  have e0 : s₁.heap = h0 := by rw [← hh, Bd.state]; rfl
  have N0 := Fr.nil n0
  show Outs p e below s (Q_un33 Z o0 a1 a2 vf tg h0 n0) _ _ _
  refine Outs.of (U' := s₁.setTop (mkF m 0 #[.val (.ref o0), .val (.int (3 : Int32))] [])) (fun t k => castTop (ef_6 m o0 (3 : Int32)) k) ?_
  refine Outs.of (U' := s₁.setTop (mkF m 1 #[.val (.ref o0), .val (.int (3 : Int32))] [(.ref o0)])) (fun t k => ?_) ?_
  · refine XS.aloadN X0.here hx rfl (hb hby d6_0) rfl rfl ?_
    exact k
  obtain ⟨T1, X1, e1, st1⟩ := getF X0 hx hZ hown (host := "") (Or.inl (hw _ (List.mem_of_getElem? (i := 45) rfl))) Via.refl e0 F_o0_bound (g := (mkF m 1 #[.val (.ref o0), .val (.int (3 : Int32))] [(.ref o0)])) rfl rfl (hb hby d6_1)
  refine Outs.of st1 ?_
  refine Outs.of (U' := T1.setTop (mkF m 33 #[.val (.ref o0), .val (.int (3 : Int32))] [])) (fun t k => ?_) ?_
  · refine XS.iloadN X1.here hx rfl (hb hby d6_4) rfl ?_
    refine XS.icmpYes X1.here hx rfl (pc0 := 5) (pc' := 33) rfl (hb hby d6_5) rfl (flt (show ¬ ((3 : Int32) < (3 : Int32)) from (by decide))).2.2.2 (by decide) (by decide) ?_
    exact k
  exact Outs.retV X1 hx hret (hb hby d6_33) hlk (by decide) (by decide) e1 ⟨rfl, N0, (Keep.refl h0 [o0, a1, a2]), E_o0, F_o0_values, F_o0_trail, F_o0_bound, A_a1, O_a1, A_a2⟩
theorem ef_9 (m : MethodId) (x0 : Int32) (x1 : Int32) (x2 : Int32) (x3 : Int32) (x4 : Int32) : entryFrame m #[(.int x0), (.int x1), (.int x2), (.int x3), (.int x4)] 5 = mkF m 0 #[.val (.int x0), .val (.int x1), .val (.int x2), .val (.int x3), .val (.int x4)] [] := by first | (simp [entryFrame, mkF, argsToLocals, Value.category]; done) | rfl
theorem d9_0 : decode method_2_code 0 = .ok (.iload_n 1, 1) := by decide +kernel
theorem d9_1 : decode method_2_code 1 = .ok (.ifCond .le 8, 3) := by decide +kernel
theorem d9_4 : decode method_2_code 4 = .ok (.iload_n 0, 1) := by decide +kernel
theorem d9_5 : decode method_2_code 5 = .ok (.iload_n 2, 1) := by decide +kernel
theorem d9_6 : decode method_2_code 6 = .ok (.if_icmp .eq 24, 3) := by decide +kernel
theorem d9_30 : decode method_2_code 30 = .ok (.iconst 1, 1) := by decide +kernel
theorem d9_31 : decode method_2_code 31 = .ok (.goto 4, 3) := by decide +kernel
theorem d9_9 : decode method_2_code 9 = .ok (.iload_n 1, 1) := by decide +kernel
theorem d9_10 : decode method_2_code 10 = .ok (.iconst 1, 1) := by decide +kernel
theorem d9_11 : decode method_2_code 11 = .ok (.if_icmp .le 8, 3) := by decide +kernel
theorem d9_14 : decode method_2_code 14 = .ok (.iload_n 0, 1) := by decide +kernel
theorem d9_15 : decode method_2_code 15 = .ok (.iload_n 3, 1) := by decide +kernel
theorem d9_16 : decode method_2_code 16 = .ok (.if_icmp .eq 14, 3) := by decide +kernel
theorem d9_19 : decode method_2_code 19 = .ok (.iload_n 1, 1) := by decide +kernel
theorem d9_20 : decode method_2_code 20 = .ok (.iconst 2, 1) := by decide +kernel
theorem d9_21 : decode method_2_code 21 = .ok (.if_icmp .le 13, 3) := by decide +kernel
theorem d9_24 : decode method_2_code 24 = .ok (.iload_n 0, 1) := by decide +kernel
theorem d9_25 : decode method_2_code 25 = .ok (.iload 4, 2) := by decide +kernel
theorem d9_27 : decode method_2_code 27 = .ok (.if_icmp .ne 7, 3) := by decide +kernel
theorem d9_34 : decode method_2_code 34 = .ok (.iconst 0, 1) := by decide +kernel
theorem d9_35 : decode method_2_code 35 = .ok (.ireturn, 1) := by decide +kernel
theorem pn_0 : plainName "com/example/knotwork/knotwork/core/BindingUndoPinLaw" = true := by first | (simp [plainName, overriddenIn]; done) | decide +kernel
def f9_1_s0 (i0 : Int32) (i1 : Int32) (i2 : Int32) (i3 : Int32) (i4 : Int32) : Int32 := (if (0 : Int32) < i1 then (if i0 = i2 then (1 : Int32) else (if (1 : Int32) < i1 then (if i0 = i3 then (1 : Int32) else (if (2 : Int32) < i1 then (if i0 = i4 then (1 : Int32) else (0 : Int32)) else (0 : Int32))) else (if (2 : Int32) < i1 then (if i0 = i4 then (1 : Int32) else (0 : Int32)) else (0 : Int32)))) else (if (1 : Int32) < i1 then (if i0 = i3 then (1 : Int32) else (if (2 : Int32) < i1 then (if i0 = i4 then (1 : Int32) else (0 : Int32)) else (0 : Int32))) else (if (2 : Int32) < i1 then (if i0 = i4 then (1 : Int32) else (0 : Int32)) else (0 : Int32))))
def F_f9 (i0 : Int32) (i1 : Int32) (i2 : Int32) (i3 : Int32) (i4 : Int32) : Int32 := (nar .boolean (f9_1_s0 i0 i1 i2 i3 i4))
set_option maxRecDepth 65536 in
set_option maxHeartbeats 40000000 in
theorem rm9 (l : Launch) (Z : State) (a0 : Array Value) (hw : ∀ d ∈ tables_1, d.before a0 Z = true) (ws : List Jvm.Cond) (i0 : Int32) (i1 : Int32) (i2 : Int32) (i3 : Int32) (i4 : Int32)  (h0 : Heap) (n0 : Nat)  :
    MetFree l (⟨"com/example/knotwork/knotwork/core/BindingUndoPinLaw", "held", "(IIIII)Z"⟩ : MethodName) (head1 (Jvm.Cond.code (⟨"com/example/knotwork/knotwork/core/BindingUndoPinLaw", "held", "(IIIII)Z"⟩ : MethodName) method_2_code 5 (some .boolean) :: ws) ({ frames := 0, cells := 0, slots := 0, locals := 0 } : Room)) (fun a U => a = #[(.int i0), (.int i1), (.int i2), (.int i3), (.int i4)] ∧ Z.Warmed39 U.vm ∧ U.heap = h0) (fun _ _ _ _ _ => True) (fun _ U o U' => ∃ v L, o = .returned v ∧ QR (some (.int (F_f9 i0 i1 i2 i3 i4))) h0 n0 v U'.heap L ∧ FrameEnd U o U' L ({ frames := 0, cells := 0, slots := 0, locals := 0 } : Room).cells ({ frames := 0, cells := 0, slots := 0, locals := 0 } : Room).slots) := by
  refine MetFree.of_bodySF (plainFor_of_name pn_0) hisR ?_
  intro p e s m args below meth c s₁ Bd hml0 hP hK
  obtain ⟨rfl, hZ, hh⟩ := hP
  have hx := Bd.exec
  have hby := Bd.bytes
  have hml : c.maxLocals = 5 := hml0
  have hown : s.vm.findClass "com/example/knotwork/knotwork/core/BindingUndoPinLaw" = some m.cls := findClass_of_methodNamed Bd.named
  have hnm := (name_of_methodNamed Bd.named Bd.method).1
  have hret := Bd.returns
  have hlk : meth.locks = false := BodyLoose.notSynchronized Bd
  have X0 : Stand p l e ({ frames := 0, cells := 0, slots := 0, locals := 0 } : Room) s m #[(.int i0), (.int i1), (.int i2), (.int i3), (.int i4)] below meth c s₁ [] 0 0 := Stand.of_body Bd
  have e0 : s₁.heap = h0 := by rw [← hh, Bd.state]; rfl
  have N0 := Fr.nil n0
  show Outs p e below s (QR (some (.int (F_f9 i0 i1 i2 i3 i4))) h0 n0) _ _ _
  refine Outs.of (U' := s₁.setTop (mkF m 0 #[.val (.int i0), .val (.int i1), .val (.int i2), .val (.int i3), .val (.int i4)] [])) (fun t k => castTop (ef_9 m i0 i1 i2 i3 i4) k) ?_
  refine Outs.of (U' := s₁.setTop (mkF m 35 #[.val (.int i0), .val (.int i1), .val (.int i2), .val (.int i3), .val (.int i4)] [(.int (f9_1_s0 i0 i1 i2 i3 i4))])) (fun t k => ?_) ?_
  · refine XS.iloadN X0.here hx rfl (hb hby d9_0) rfl ?_
    by_cases hc1 : (0 : Int32) < i1
    · refine XS.ifNo X0.here hx rfl (hb hby d9_1) rfl ((if0 _ _).trans (tlt hc1).2.2.2) ?_
      refine XS.iloadN X0.here hx rfl (hb hby d9_4) rfl ?_
      refine XS.iloadN X0.here hx rfl (hb hby d9_5) rfl ?_
      by_cases hc6 : i0 = i2
      · refine XS.icmpYes X0.here hx rfl (pc0 := 6) (pc' := 30) rfl (hb hby d9_6) rfl (teq hc6).1 (by decide) (by decide) ?_
        refine XS.iconst X0.here hx rfl (hb hby d9_30) ?_
        refine XS.goto X0.here hx rfl (pc0 := 31) (pc' := 35) rfl (hb hby d9_31) (by decide) (by decide) ?_
        rw [show (f9_1_s0 i0 i1 i2 i3 i4) = (1 : Int32) from ((if_pos hc1).trans (if_pos hc6))] at k
        exact k
      · refine XS.icmpNo X0.here hx rfl (hb hby d9_6) rfl (feq hc6).1 ?_
        refine XS.iloadN X0.here hx rfl (hb hby d9_9) rfl ?_
        refine XS.iconst X0.here hx rfl (hb hby d9_10) ?_
        by_cases hc11 : (1 : Int32) < i1
        · refine XS.icmpNo X0.here hx rfl (hb hby d9_11) rfl (tlt hc11).2.2.2 ?_
          refine XS.iloadN X0.here hx rfl (hb hby d9_14) rfl ?_
          refine XS.iloadN X0.here hx rfl (hb hby d9_15) rfl ?_
          by_cases hc16 : i0 = i3
          · refine XS.icmpYes X0.here hx rfl (pc0 := 16) (pc' := 30) rfl (hb hby d9_16) rfl (teq hc16).1 (by decide) (by decide) ?_
            refine XS.iconst X0.here hx rfl (hb hby d9_30) ?_
            refine XS.goto X0.here hx rfl (pc0 := 31) (pc' := 35) rfl (hb hby d9_31) (by decide) (by decide) ?_
            rw [show (f9_1_s0 i0 i1 i2 i3 i4) = (1 : Int32) from ((if_pos hc1).trans ((if_neg hc6).trans ((if_pos hc11).trans (if_pos hc16))))] at k
            exact k
          · refine XS.icmpNo X0.here hx rfl (hb hby d9_16) rfl (feq hc16).1 ?_
            refine XS.iloadN X0.here hx rfl (hb hby d9_19) rfl ?_
            refine XS.iconst X0.here hx rfl (hb hby d9_20) ?_
            by_cases hc21 : (2 : Int32) < i1
            · refine XS.icmpNo X0.here hx rfl (hb hby d9_21) rfl (tlt hc21).2.2.2 ?_
              refine XS.iloadN X0.here hx rfl (hb hby d9_24) rfl ?_
              refine XS.iload X0.here hx rfl (hb hby d9_25) rfl ?_
              by_cases hc27 : i0 = i4
              · refine XS.icmpNo X0.here hx rfl (hb hby d9_27) rfl (teq hc27).2 ?_
                refine XS.iconst X0.here hx rfl (hb hby d9_30) ?_
                refine XS.goto X0.here hx rfl (pc0 := 31) (pc' := 35) rfl (hb hby d9_31) (by decide) (by decide) ?_
                rw [show (f9_1_s0 i0 i1 i2 i3 i4) = (1 : Int32) from ((if_pos hc1).trans ((if_neg hc6).trans ((if_pos hc11).trans ((if_neg hc16).trans ((if_pos hc21).trans (if_pos hc27))))))] at k
                exact k
              · refine XS.icmpYes X0.here hx rfl (pc0 := 27) (pc' := 34) rfl (hb hby d9_27) rfl (feq hc27).2 (by decide) (by decide) ?_
                refine XS.iconst X0.here hx rfl (hb hby d9_34) ?_
                rw [show (f9_1_s0 i0 i1 i2 i3 i4) = (0 : Int32) from ((if_pos hc1).trans ((if_neg hc6).trans ((if_pos hc11).trans ((if_neg hc16).trans ((if_pos hc21).trans (if_neg hc27))))))] at k
                exact k
            · refine XS.icmpYes X0.here hx rfl (pc0 := 21) (pc' := 34) rfl (hb hby d9_21) rfl (flt hc21).2.2.2 (by decide) (by decide) ?_
              refine XS.iconst X0.here hx rfl (hb hby d9_34) ?_
              rw [show (f9_1_s0 i0 i1 i2 i3 i4) = (0 : Int32) from ((if_pos hc1).trans ((if_neg hc6).trans ((if_pos hc11).trans ((if_neg hc16).trans (if_neg hc21)))))] at k
              exact k
        · refine XS.icmpYes X0.here hx rfl (pc0 := 11) (pc' := 19) rfl (hb hby d9_11) rfl (flt hc11).2.2.2 (by decide) (by decide) ?_
          refine XS.iloadN X0.here hx rfl (hb hby d9_19) rfl ?_
          refine XS.iconst X0.here hx rfl (hb hby d9_20) ?_
          by_cases hc21 : (2 : Int32) < i1
          · refine XS.icmpNo X0.here hx rfl (hb hby d9_21) rfl (tlt hc21).2.2.2 ?_
            refine XS.iloadN X0.here hx rfl (hb hby d9_24) rfl ?_
            refine XS.iload X0.here hx rfl (hb hby d9_25) rfl ?_
            by_cases hc27 : i0 = i4
            · refine XS.icmpNo X0.here hx rfl (hb hby d9_27) rfl (teq hc27).2 ?_
              refine XS.iconst X0.here hx rfl (hb hby d9_30) ?_
              refine XS.goto X0.here hx rfl (pc0 := 31) (pc' := 35) rfl (hb hby d9_31) (by decide) (by decide) ?_
              rw [show (f9_1_s0 i0 i1 i2 i3 i4) = (1 : Int32) from ((if_pos hc1).trans ((if_neg hc6).trans ((if_neg hc11).trans ((if_pos hc21).trans (if_pos hc27)))))] at k
              exact k
            · refine XS.icmpYes X0.here hx rfl (pc0 := 27) (pc' := 34) rfl (hb hby d9_27) rfl (feq hc27).2 (by decide) (by decide) ?_
              refine XS.iconst X0.here hx rfl (hb hby d9_34) ?_
              rw [show (f9_1_s0 i0 i1 i2 i3 i4) = (0 : Int32) from ((if_pos hc1).trans ((if_neg hc6).trans ((if_neg hc11).trans ((if_pos hc21).trans (if_neg hc27)))))] at k
              exact k
          · refine XS.icmpYes X0.here hx rfl (pc0 := 21) (pc' := 34) rfl (hb hby d9_21) rfl (flt hc21).2.2.2 (by decide) (by decide) ?_
            refine XS.iconst X0.here hx rfl (hb hby d9_34) ?_
            rw [show (f9_1_s0 i0 i1 i2 i3 i4) = (0 : Int32) from ((if_pos hc1).trans ((if_neg hc6).trans ((if_neg hc11).trans (if_neg hc21))))] at k
            exact k
    · refine XS.ifYes X0.here hx rfl (pc0 := 1) (pc' := 9) rfl (hb hby d9_1) rfl ((if0 _ _).trans (flt hc1).2.2.2) (by decide) (by decide) ?_
      refine XS.iloadN X0.here hx rfl (hb hby d9_9) rfl ?_
      refine XS.iconst X0.here hx rfl (hb hby d9_10) ?_
      by_cases hc11 : (1 : Int32) < i1
      · refine XS.icmpNo X0.here hx rfl (hb hby d9_11) rfl (tlt hc11).2.2.2 ?_
        refine XS.iloadN X0.here hx rfl (hb hby d9_14) rfl ?_
        refine XS.iloadN X0.here hx rfl (hb hby d9_15) rfl ?_
        by_cases hc16 : i0 = i3
        · refine XS.icmpYes X0.here hx rfl (pc0 := 16) (pc' := 30) rfl (hb hby d9_16) rfl (teq hc16).1 (by decide) (by decide) ?_
          refine XS.iconst X0.here hx rfl (hb hby d9_30) ?_
          refine XS.goto X0.here hx rfl (pc0 := 31) (pc' := 35) rfl (hb hby d9_31) (by decide) (by decide) ?_
          rw [show (f9_1_s0 i0 i1 i2 i3 i4) = (1 : Int32) from ((if_neg hc1).trans ((if_pos hc11).trans (if_pos hc16)))] at k
          exact k
        · refine XS.icmpNo X0.here hx rfl (hb hby d9_16) rfl (feq hc16).1 ?_
          refine XS.iloadN X0.here hx rfl (hb hby d9_19) rfl ?_
          refine XS.iconst X0.here hx rfl (hb hby d9_20) ?_
          by_cases hc21 : (2 : Int32) < i1
          · refine XS.icmpNo X0.here hx rfl (hb hby d9_21) rfl (tlt hc21).2.2.2 ?_
            refine XS.iloadN X0.here hx rfl (hb hby d9_24) rfl ?_
            refine XS.iload X0.here hx rfl (hb hby d9_25) rfl ?_
            by_cases hc27 : i0 = i4
            · refine XS.icmpNo X0.here hx rfl (hb hby d9_27) rfl (teq hc27).2 ?_
              refine XS.iconst X0.here hx rfl (hb hby d9_30) ?_
              refine XS.goto X0.here hx rfl (pc0 := 31) (pc' := 35) rfl (hb hby d9_31) (by decide) (by decide) ?_
              rw [show (f9_1_s0 i0 i1 i2 i3 i4) = (1 : Int32) from ((if_neg hc1).trans ((if_pos hc11).trans ((if_neg hc16).trans ((if_pos hc21).trans (if_pos hc27)))))] at k
              exact k
            · refine XS.icmpYes X0.here hx rfl (pc0 := 27) (pc' := 34) rfl (hb hby d9_27) rfl (feq hc27).2 (by decide) (by decide) ?_
              refine XS.iconst X0.here hx rfl (hb hby d9_34) ?_
              rw [show (f9_1_s0 i0 i1 i2 i3 i4) = (0 : Int32) from ((if_neg hc1).trans ((if_pos hc11).trans ((if_neg hc16).trans ((if_pos hc21).trans (if_neg hc27)))))] at k
              exact k
          · refine XS.icmpYes X0.here hx rfl (pc0 := 21) (pc' := 34) rfl (hb hby d9_21) rfl (flt hc21).2.2.2 (by decide) (by decide) ?_
            refine XS.iconst X0.here hx rfl (hb hby d9_34) ?_
            rw [show (f9_1_s0 i0 i1 i2 i3 i4) = (0 : Int32) from ((if_neg hc1).trans ((if_pos hc11).trans ((if_neg hc16).trans (if_neg hc21))))] at k
            exact k
      · refine XS.icmpYes X0.here hx rfl (pc0 := 11) (pc' := 19) rfl (hb hby d9_11) rfl (flt hc11).2.2.2 (by decide) (by decide) ?_
        refine XS.iloadN X0.here hx rfl (hb hby d9_19) rfl ?_
        refine XS.iconst X0.here hx rfl (hb hby d9_20) ?_
        by_cases hc21 : (2 : Int32) < i1
        · refine XS.icmpNo X0.here hx rfl (hb hby d9_21) rfl (tlt hc21).2.2.2 ?_
          refine XS.iloadN X0.here hx rfl (hb hby d9_24) rfl ?_
          refine XS.iload X0.here hx rfl (hb hby d9_25) rfl ?_
          by_cases hc27 : i0 = i4
          · refine XS.icmpNo X0.here hx rfl (hb hby d9_27) rfl (teq hc27).2 ?_
            refine XS.iconst X0.here hx rfl (hb hby d9_30) ?_
            refine XS.goto X0.here hx rfl (pc0 := 31) (pc' := 35) rfl (hb hby d9_31) (by decide) (by decide) ?_
            rw [show (f9_1_s0 i0 i1 i2 i3 i4) = (1 : Int32) from ((if_neg hc1).trans ((if_neg hc11).trans ((if_pos hc21).trans (if_pos hc27))))] at k
            exact k
          · refine XS.icmpYes X0.here hx rfl (pc0 := 27) (pc' := 34) rfl (hb hby d9_27) rfl (feq hc27).2 (by decide) (by decide) ?_
            refine XS.iconst X0.here hx rfl (hb hby d9_34) ?_
            rw [show (f9_1_s0 i0 i1 i2 i3 i4) = (0 : Int32) from ((if_neg hc1).trans ((if_neg hc11).trans ((if_pos hc21).trans (if_neg hc27))))] at k
            exact k
        · refine XS.icmpYes X0.here hx rfl (pc0 := 21) (pc' := 34) rfl (hb hby d9_21) rfl (flt hc21).2.2.2 (by decide) (by decide) ?_
          refine XS.iconst X0.here hx rfl (hb hby d9_34) ?_
          rw [show (f9_1_s0 i0 i1 i2 i3 i4) = (0 : Int32) from ((if_neg hc1).trans ((if_neg hc11).trans (if_neg hc21)))] at k
          exact k
  exact Outs.retN (t := .boolean) (z := (f9_1_s0 i0 i1 i2 i3 i4)) X0 hx hret (by simp) (hb hby d9_35) hlk (by decide) (by decide) e0 ⟨congrArg (fun z_ => some (Value.int z_)) (show (F_f9 i0 i1 i2 i3 i4) = (nar .boolean (f9_1_s0 i0 i1 i2 i3 i4)) from rfl).symm, N0, rfl⟩
theorem ef_8 (m : MethodId) (x0 : Addr) (x1 : Int32) : entryFrame m #[(.ref x0), (.int x1)] 2 = mkF m 0 #[.val (.ref x0), .val (.int x1)] [] := by first | (simp [entryFrame, mkF, argsToLocals, Value.category]; done) | rfl
theorem d8_0 : decode prog_8_method_3_code 0 = .ok (.aload_n 0, 1) := by decide +kernel
theorem d8_1 : decode prog_8_method_3_code 1 = .ok (.getfield 9, 3) := by decide +kernel
theorem d8_4 : decode prog_8_method_3_code 4 = .ok (.iload_n 1, 1) := by decide +kernel
theorem d8_5 : decode prog_8_method_3_code 5 = .ok (.aaload, 1) := by decide +kernel
theorem d8_6 : decode prog_8_method_3_code 6 = .ok (.areturn, 1) := by decide +kernel
set_option maxRecDepth 65536 in
set_option maxHeartbeats 40000000 in
theorem rmgA (l : Launch) (Z : State) (a0 : Array Value) (hw : ∀ d ∈ tables_1, d.before a0 Z = true) (ws : List Jvm.Cond) (o0 : Addr) (i1 : Int32) (a1 : Addr) (vf : Nat → Value) (ki : Nat) (b9 : Addr) (h0 : Heap) (n0 : Nat) (F_o0_values : Fld Z h0 o0 "com/example/knotwork/knotwork/core/Binding" "values" "[Lcom/example/knotwork/knotwork/core/Item;" (.ref a1)) (A_a1 : AF Z h0 a1 (.object "com/example/knotwork/knotwork/core/Item") 3 vf) (hk0 : i1.toInt = (ki : Int)) (hn0 : ki < 3) (hv : vf ki = .ref b9) :
    MetFree l (⟨"com/example/knotwork/knotwork/core/Binding", "get", "(I)Lcom/example/knotwork/knotwork/core/Item;"⟩ : MethodName) (head1 (Jvm.Cond.code (⟨"com/example/knotwork/knotwork/core/Binding", "get", "(I)Lcom/example/knotwork/knotwork/core/Item;"⟩ : MethodName) prog_8_method_3_code 2 (some (.object "com/example/knotwork/knotwork/core/Item")) :: ws) ({ frames := 0, cells := 0, slots := 0, locals := 0 } : Room)) (fun a U => a = #[(.ref o0), (.int i1)] ∧ Z.Warmed39 U.vm ∧ U.heap = h0) (fun _ _ _ _ _ => True) (fun _ U o U' => ∃ v L, o = .returned v ∧ QR (some (.ref b9)) h0 n0 v U'.heap L ∧ FrameEnd U o U' L ({ frames := 0, cells := 0, slots := 0, locals := 0 } : Room).cells ({ frames := 0, cells := 0, slots := 0, locals := 0 } : Room).slots) := by
  refine MetFree.of_bodySF (plainFor_of_name pn_4) hisR ?_
  intro p e s m args below meth c s₁ Bd hml0 hP hK
  obtain ⟨rfl, hZ, hh⟩ := hP
  have hx := Bd.exec
  have hby := Bd.bytes
  have hml : c.maxLocals = 2 := hml0
  have hown : s.vm.findClass "com/example/knotwork/knotwork/core/Binding" = some m.cls := findClass_of_methodNamed Bd.named
  have hnm := (name_of_methodNamed Bd.named Bd.method).1
  have hret := Bd.returns
  have hlk : meth.locks = false := BodyLoose.notSynchronized Bd
  have X0 : Stand p l e ({ frames := 0, cells := 0, slots := 0, locals := 0 } : Room) s m #[(.ref o0), (.int i1)] below meth c s₁ [] 0 0 := Stand.of_body Bd
  have e0 : s₁.heap = h0 := by rw [← hh, Bd.state]; rfl
  have N0 := Fr.nil n0
  show Outs p e below s (QR (some (.ref b9)) h0 n0) _ _ _
  refine Outs.of (U' := s₁.setTop (mkF m 0 #[.val (.ref o0), .val (.int i1)] [])) (fun t k => castTop (ef_8 m o0 i1) k) ?_
  refine Outs.of (U' := s₁.setTop (mkF m 1 #[.val (.ref o0), .val (.int i1)] [(.ref o0)])) (fun t k => ?_) ?_
  · refine XS.aloadN X0.here hx rfl (hb hby d8_0) rfl rfl ?_
    exact k
  obtain ⟨T1, X1, e1, st1⟩ := getF X0 hx hZ hown (host := "") (Or.inl (hw _ (List.mem_of_getElem? (i := 34) rfl))) Via.refl e0 F_o0_values (g := (mkF m 1 #[.val (.ref o0), .val (.int i1)] [(.ref o0)])) rfl rfl (hb hby d8_1)
  refine Outs.of st1 ?_
  refine Outs.of (U' := T1.setTop (mkF m 5 #[.val (.ref o0), .val (.int i1)] [(.int i1), (.ref a1)])) (fun t k => ?_) ?_
  · refine XS.iloadN X1.here hx rfl (hb hby d8_4) rfl ?_
    exact k
  refine Outs.of (ldR X1 hx hZ e1 A_a1 rfl (j := i1) (k := ki) hk0 hn0 (f := (mkF m 5 #[.val (.ref o0), .val (.int i1)] [(.int i1), (.ref a1)])) rfl rfl (hb hby d8_5)) ?_
  rw [hv]
  exact Outs.retA (w := (.ref b9)) X1 hx hret rfl rfl rfl (hb hby d8_6) hlk (by decide) (by decide) e1 ⟨rfl, N0, rfl⟩
set_option maxRecDepth 65536 in
set_option maxHeartbeats 40000000 in
theorem rmgN (l : Launch) (Z : State) (a0 : Array Value) (hw : ∀ d ∈ tables_1, d.before a0 Z = true) (ws : List Jvm.Cond) (o0 : Addr) (i1 : Int32) (a1 : Addr) (vf : Nat → Value) (ki : Nat) (h0 : Heap) (n0 : Nat) (F_o0_values : Fld Z h0 o0 "com/example/knotwork/knotwork/core/Binding" "values" "[Lcom/example/knotwork/knotwork/core/Item;" (.ref a1)) (A_a1 : AF Z h0 a1 (.object "com/example/knotwork/knotwork/core/Item") 3 vf) (hk0 : i1.toInt = (ki : Int)) (hn0 : ki < 3) (hv : vf ki = .null) :
    MetFree l (⟨"com/example/knotwork/knotwork/core/Binding", "get", "(I)Lcom/example/knotwork/knotwork/core/Item;"⟩ : MethodName) (head1 (Jvm.Cond.code (⟨"com/example/knotwork/knotwork/core/Binding", "get", "(I)Lcom/example/knotwork/knotwork/core/Item;"⟩ : MethodName) prog_8_method_3_code 2 (some (.object "com/example/knotwork/knotwork/core/Item")) :: ws) ({ frames := 0, cells := 0, slots := 0, locals := 0 } : Room)) (fun a U => a = #[(.ref o0), (.int i1)] ∧ Z.Warmed39 U.vm ∧ U.heap = h0) (fun _ _ _ _ _ => True) (fun _ U o U' => ∃ v L, o = .returned v ∧ QR (some .null) h0 n0 v U'.heap L ∧ FrameEnd U o U' L ({ frames := 0, cells := 0, slots := 0, locals := 0 } : Room).cells ({ frames := 0, cells := 0, slots := 0, locals := 0 } : Room).slots) := by
  refine MetFree.of_bodySF (plainFor_of_name pn_4) hisR ?_
  intro p e s m args below meth c s₁ Bd hml0 hP hK
  obtain ⟨rfl, hZ, hh⟩ := hP
  have hx := Bd.exec
  have hby := Bd.bytes
  have hml : c.maxLocals = 2 := hml0
  have hown : s.vm.findClass "com/example/knotwork/knotwork/core/Binding" = some m.cls := findClass_of_methodNamed Bd.named
  have hnm := (name_of_methodNamed Bd.named Bd.method).1
  have hret := Bd.returns
  have hlk : meth.locks = false := BodyLoose.notSynchronized Bd
  have X0 : Stand p l e ({ frames := 0, cells := 0, slots := 0, locals := 0 } : Room) s m #[(.ref o0), (.int i1)] below meth c s₁ [] 0 0 := Stand.of_body Bd
  have e0 : s₁.heap = h0 := by rw [← hh, Bd.state]; rfl
  have N0 := Fr.nil n0
  show Outs p e below s (QR (some .null) h0 n0) _ _ _
  refine Outs.of (U' := s₁.setTop (mkF m 0 #[.val (.ref o0), .val (.int i1)] [])) (fun t k => castTop (ef_8 m o0 i1) k) ?_
  refine Outs.of (U' := s₁.setTop (mkF m 1 #[.val (.ref o0), .val (.int i1)] [(.ref o0)])) (fun t k => ?_) ?_
  · refine XS.aloadN X0.here hx rfl (hb hby d8_0) rfl rfl ?_
    exact k
  obtain ⟨T1, X1, e1, st1⟩ := getF X0 hx hZ hown (host := "") (Or.inl (hw _ (List.mem_of_getElem? (i := 34) rfl))) Via.refl e0 F_o0_values (g := (mkF m 1 #[.val (.ref o0), .val (.int i1)] [(.ref o0)])) rfl rfl (hb hby d8_1)
  refine Outs.of st1 ?_
  refine Outs.of (U' := T1.setTop (mkF m 5 #[.val (.ref o0), .val (.int i1)] [(.int i1), (.ref a1)])) (fun t k => ?_) ?_
  · refine XS.iloadN X1.here hx rfl (hb hby d8_4) rfl ?_
    exact k
  refine Outs.of (ldR X1 hx hZ e1 A_a1 rfl (j := i1) (k := ki) hk0 hn0 (f := (mkF m 5 #[.val (.ref o0), .val (.int i1)] [(.int i1), (.ref a1)])) rfl rfl (hb hby d8_5)) ?_
  rw [hv]
  exact Outs.retA (w := .null) X1 hx hret rfl rfl rfl (hb hby d8_6) hlk (by decide) (by decide) e1 ⟨rfl, N0, rfl⟩
theorem ef_7 (m : MethodId) (x0 : Addr) (x1 : Addr) (x2 : Int32) (x3 : Int32) (x4 : Int32) (x5 : Int32) (x6 : Int32) : entryFrame m #[(.ref x0), (.ref x1), (.int x2), (.int x3), (.int x4), (.int x5), (.int x6)] 8 = mkF m 0 #[.val (.ref x0), .val (.ref x1), .val (.int x2), .val (.int x3), .val (.int x4), .val (.int x5), .val (.int x6), .unset] [] := by first | (simp [entryFrame, mkF, argsToLocals, Value.category]; done) | rfl
theorem d7_0 : decode method_3_code 0 = .ok (.aload_n 0, 1) := by decide +kernel
theorem d7_1 : decode method_3_code 1 = .ok (.iload_n 2, 1) := by decide +kernel
theorem pd_5 : parseMethodDescriptor "(I)Lcom/example/knotwork/knotwork/core/Item;" = some ⟨[.int], some (.object "com/example/knotwork/knotwork/core/Item")⟩ := by decide +kernel
theorem d7_2 : decode method_3_code 2 = .ok (.invokevirtual 7, 3) := by decide +kernel
theorem d7_5 : decode method_3_code 5 = .ok (.astore 7, 2) := by decide +kernel
theorem d7_7 : decode method_3_code 7 = .ok (.iload_n 2, 1) := by decide +kernel
theorem d7_8 : decode method_3_code 8 = .ok (.iload_n 3, 1) := by decide +kernel
theorem d7_9 : decode method_3_code 9 = .ok (.iload 4, 2) := by decide +kernel
theorem d7_11 : decode method_3_code 11 = .ok (.iload 5, 2) := by decide +kernel
theorem d7_13 : decode method_3_code 13 = .ok (.iload 6, 2) := by decide +kernel
theorem pd_6 : parseMethodDescriptor "(IIIII)Z" = some ⟨[.int, .int, .int, .int, .int], some .boolean⟩ := by decide +kernel
theorem d7_15 : decode method_3_code 15 = .ok (.invokestatic 13, 3) := by decide +kernel
theorem d7_18 : decode method_3_code 18 = .ok (.ifCond .eq 15, 3) := by decide +kernel
theorem d7_21 : decode method_3_code 21 = .ok (.aload 7, 2) := by decide +kernel
theorem d7_23 : decode method_3_code 23 = .ok (.aload_n 1, 1) := by decide +kernel
theorem d7_24 : decode method_3_code 24 = .ok (.if_acmp .ne 7, 3) := by decide +kernel
theorem d7_27 : decode method_3_code 27 = .ok (.iconst 1, 1) := by decide +kernel
theorem d7_28 : decode method_3_code 28 = .ok (.goto 4, 3) := by decide +kernel
theorem d7_32 : decode method_3_code 32 = .ok (.ireturn, 1) := by decide +kernel
def F_sA (i2 : Int32) (i3 : Int32) (i4 : Int32) (i5 : Int32) (i6 : Int32) (vf : Nat → Value) (ki : Nat) : Int32 := (1 : Int32)
set_option maxRecDepth 65536 in
set_option maxHeartbeats 40000000 in
theorem rmsA (l : Launch) (Z : State) (a0 : Array Value) (hw : ∀ d ∈ tables_1, d.before a0 Z = true) (ws : List Jvm.Cond) (o0 : Addr) (o1 : Addr) (i2 : Int32) (i3 : Int32) (i4 : Int32) (i5 : Int32) (i6 : Int32) (a1 : Addr) (vf : Nat → Value) (ki : Nat) (h0 : Heap) (n0 : Nat) (E_o0 : Exa Z h0 o0 "com/example/knotwork/knotwork/core/Binding") (F_o0_values : Fld Z h0 o0 "com/example/knotwork/knotwork/core/Binding" "values" "[Lcom/example/knotwork/knotwork/core/Item;" (.ref a1)) (A_a1 : AF Z h0 a1 (.object "com/example/knotwork/knotwork/core/Item") 3 vf) (hk0 : i2.toInt = (ki : Int)) (hn0 : ki < 3) (hv : vf ki = .ref o1) (hq0 : ¬ (F_f9 i2 i3 i4 i5 i6) = (0 : Int32)) :
    MetFree l (⟨"com/example/knotwork/knotwork/core/BindingUndoPinLaw", "slotOk", "(Lcom/example/knotwork/knotwork/core/Binding;Lcom/example/knotwork/knotwork/core/Item;IIIII)Z"⟩ : MethodName) (head1 (Jvm.Cond.code (⟨"com/example/knotwork/knotwork/core/BindingUndoPinLaw", "slotOk", "(Lcom/example/knotwork/knotwork/core/Binding;Lcom/example/knotwork/knotwork/core/Item;IIIII)Z"⟩ : MethodName) method_3_code 8 (some .boolean) :: ws) ({ frames := 1, cells := 0, slots := 0, locals := 16 } : Room)) (fun a U => a = #[(.ref o0), (.ref o1), (.int i2), (.int i3), (.int i4), (.int i5), (.int i6)] ∧ Z.Warmed39 U.vm ∧ U.heap = h0) (fun _ _ _ _ _ => True) (fun _ U o U' => ∃ v L, o = .returned v ∧ QR (some (.int (F_sA i2 i3 i4 i5 i6 vf ki))) h0 n0 v U'.heap L ∧ FrameEnd U o U' L ({ frames := 1, cells := 0, slots := 0, locals := 16 } : Room).cells ({ frames := 1, cells := 0, slots := 0, locals := 16 } : Room).slots) := by
  refine MetFree.of_bodySF (plainFor_of_name pn_0) hisR ?_
  intro p e s m args below meth c s₁ Bd hml0 hP hK
  obtain ⟨rfl, hZ, hh⟩ := hP
  have hx := Bd.exec
  have hby := Bd.bytes
  have hml : c.maxLocals = 8 := hml0
  have hown : s.vm.findClass "com/example/knotwork/knotwork/core/BindingUndoPinLaw" = some m.cls := findClass_of_methodNamed Bd.named
  have hnm := (name_of_methodNamed Bd.named Bd.method).1
  have hret := Bd.returns
  have hlk : meth.locks = false := BodyLoose.notSynchronized Bd
  have X0 : Stand p l e ({ frames := 1, cells := 0, slots := 0, locals := 16 } : Room) s m #[(.ref o0), (.ref o1), (.int i2), (.int i3), (.int i4), (.int i5), (.int i6)] below meth c s₁ [] 0 0 := Stand.of_body Bd
  have e0 : s₁.heap = h0 := by rw [← hh, Bd.state]; rfl
  have N0 := Fr.nil n0
  show Outs p e below s (QR (some (.int (F_sA i2 i3 i4 i5 i6 vf ki))) h0 n0) _ _ _
  refine Outs.of (U' := s₁.setTop (mkF m 0 #[.val (.ref o0), .val (.ref o1), .val (.int i2), .val (.int i3), .val (.int i4), .val (.int i5), .val (.int i6), .unset] [])) (fun t k => castTop (ef_7 m o0 o1 i2 i3 i4 i5 i6) k) ?_
  refine Outs.of (U' := s₁.setTop (mkF m 2 #[.val (.ref o0), .val (.ref o1), .val (.int i2), .val (.int i3), .val (.int i4), .val (.int i5), .val (.int i6), .unset] [(.int i2), (.ref o0)])) (fun t k => ?_) ?_
  · refine XS.aloadN X0.here hx rfl (hb hby d7_0) rfl rfl ?_
    refine XS.iloadN X0.here hx rfl (hb hby d7_1) rfl ?_
    exact k
  obtain ⟨cq1, kq1, q1a, q1b, q1c⟩ := isOf hZ e0 E_o0
  obtain ⟨_, _, ⟨T1, L1, k1, n1⟩, -, X1, ⟨Lc1, hQ1, l1, y1, z1⟩, st1⟩ := X0.virtualBack hx (y := (⟨"com/example/knotwork/knotwork/core/Binding", "get", "(I)Lcom/example/knotwork/knotwork/core/Item;"⟩ : MethodName)) (z := (⟨"com/example/knotwork/knotwork/core/Binding", "get", "(I)Lcom/example/knotwork/knotwork/core/Item;"⟩ : MethodName)) hown (mvT hZ (hw _ (List.mem_of_getElem? (i := 56) rfl))) (mvT hZ (hw _ (List.mem_of_getElem? (i := 57) rfl))) (notFace_of_selects (args := #[]) (mvT hZ (hw _ (List.mem_of_getElem? (i := 59) rfl)))) (mvT hZ (hw _ (List.mem_of_getElem? (i := 59) rfl))) (mvT hZ (hw _ (List.mem_of_getElem? (i := 58) rfl))) (by decide) (backOf (W := 0) (rmgA l Z a0 hw [] o0 i2 a1 vf ki o1 h0 n0 F_o0_values A_a1 hk0 hn0 hv) hZ (hw _ (List.mem_of_getElem? (i := 60) rfl)) (hw _ (List.mem_of_getElem? (i := 27) rfl)) (by decide) (by decide)) q1a q1c (g := (mkF m 2 #[.val (.ref o0), .val (.ref o1), .val (.int i2), .val (.int i3), .val (.int i4), .val (.int i5), .val (.int i6), .unset] [(.int i2), (.ref o0)])) rfl (by rw [hml]; rfl) (Steps.refl _) (argsL := [(.int i2)]) (rest := []) (lenOf pd_5 rfl) rfl (by show 2 * 0 + _ ≤ _; exact Nat.le_of_eq rfl) (hb hby d7_2) (fun _ _ => ⟨rfl, e0, (by decide : 0 + 0 ≤ _), (by decide : 0 + 0 ≤ _)⟩)
  dsimp only [Pt.U, Pt.locs, Pt.cells, Pt.slots] at X1 l1 y1 z1 st1 hQ1
  subst l1 y1 z1
  obtain ⟨rfl, N1q, e1⟩ := hQ1
  have N1 := Fr.app N0 N1q
  obtain ⟨Lh1, X1, N1⟩ := hide X1 N1 (C := 0) (S := 0) (by decide) (by decide)
  refine Outs.to st1 ?_
  refine Outs.of (U' := T1.setTop (mkF m 15 #[.val (.ref o0), .val (.ref o1), .val (.int i2), .val (.int i3), .val (.int i4), .val (.int i5), .val (.int i6), .val (.ref o1)] [(.int i6), (.int i5), (.int i4), (.int i3), (.int i2)])) (fun t k => ?_) ?_
  · refine XS.astore X1.here hx rfl (hb hby d7_5) rfl rfl (l' := #[.val (.ref o0), .val (.ref o1), .val (.int i2), .val (.int i3), .val (.int i4), .val (.int i5), .val (.int i6), .val (.ref o1)]) rfl ?_
    refine XS.iloadN X1.here hx rfl (hb hby d7_7) rfl ?_
    refine XS.iloadN X1.here hx rfl (hb hby d7_8) rfl ?_
    refine XS.iload X1.here hx rfl (hb hby d7_9) rfl ?_
    refine XS.iload X1.here hx rfl (hb hby d7_11) rfl ?_
    refine XS.iload X1.here hx rfl (hb hby d7_13) rfl ?_
    exact k
  obtain ⟨_, _, ⟨T2, L2, k2, n2⟩, -, X2, ⟨Lc2, hQ2, l2, y2, z2⟩, st2⟩ := Jvm.LawKit.callS X1 hx (y := (⟨"com/example/knotwork/knotwork/core/BindingUndoPinLaw", "held", "(IIIII)Z"⟩ : MethodName)) hown (mvT hZ (hw _ (List.mem_of_getElem? (i := 61) rfl))) (mvT hZ (hw _ (List.mem_of_getElem? (i := 62) rfl))) (mvT hZ (hw _ (List.mem_of_getElem? (i := 54) rfl))) (mvT hZ (hw _ (List.mem_of_getElem? (i := 63) rfl))) (by decide) (backOf (W := 0) (rm9 l Z a0 hw [] i2 i3 i4 i5 i6 h0 n0 ) hZ (hw _ (List.mem_of_getElem? (i := 63) rfl)) (hw _ (List.mem_of_getElem? (i := 54) rfl)) (by decide) (by decide)) (g := (mkF m 15 #[.val (.ref o0), .val (.ref o1), .val (.int i2), .val (.int i3), .val (.int i4), .val (.int i5), .val (.int i6), .val (.ref o1)] [(.int i6), (.int i5), (.int i4), (.int i3), (.int i2)])) rfl (by rw [hml]; rfl) (argsL := [(.int i2), (.int i3), (.int i4), (.int i5), (.int i6)]) (rest := []) (lenOf pd_6 rfl) rfl (by show 2 * 0 + _ ≤ _; exact Nat.le_of_eq rfl) (hb hby d7_15) (fun _ _ => ⟨rfl, e1, (by decide : 0 + 0 ≤ _), (by decide : 0 + 0 ≤ _)⟩)
  dsimp only [Pt.U, Pt.locs, Pt.cells, Pt.slots] at X2 l2 y2 z2 st2 hQ2
  subst l2 y2 z2
  obtain ⟨rfl, N2q, e2⟩ := hQ2
  have N2 := Fr.app N1 N2q
  obtain ⟨Lh2, X2, N2⟩ := hide X2 N2 (C := 0) (S := 0) (by decide) (by decide)
  refine Outs.of st2 ?_
  refine Outs.of (U' := T2.setTop (mkF m 32 #[.val (.ref o0), .val (.ref o1), .val (.int i2), .val (.int i3), .val (.int i4), .val (.int i5), .val (.int i6), .val (.ref o1)] [(.int (1 : Int32))])) (fun t k => ?_) ?_
  · refine XS.ifNo X2.here hx rfl (hb hby d7_18) rfl ((if0 _ _).trans (feq hq0).1) ?_
    refine XS.aload X2.here hx rfl (hb hby d7_21) rfl rfl ?_
    refine XS.aloadN X2.here hx rfl (hb hby d7_23) rfl rfl ?_
    refine Jvm.RoadKit.acmp (g := (mkF m 24 #[.val (.ref o0), .val (.ref o1), .val (.int i2), .val (.int i3), .val (.int i4), .val (.int i5), .val (.int i6), .val (.ref o1)] [(.ref o1), (.ref o1)])) X2 hx rfl rfl rfl (pc0 := 24) (pc' := 27) (same := true) rfl (hb hby d7_24) rfl (decide_eq_true rfl) (by decide) (by decide) ?_
    refine XS.iconst X2.here hx rfl (hb hby d7_27) ?_
    refine XS.goto X2.here hx rfl (pc0 := 28) (pc' := 32) rfl (hb hby d7_28) (by decide) (by decide) ?_
    exact k
  exact Outs.retN (t := .boolean) (z := (1 : Int32)) X2 hx hret (by simp) (hb hby d7_32) hlk (by decide) (by decide) e2 ⟨congrArg (fun z_ => some (Value.int z_)) (show (F_sA i2 i3 i4 i5 i6 vf ki) = (1 : Int32) from rfl).symm, N2, rfl⟩
theorem d7_33 : decode method_3_code 33 = .ok (.aload 7, 2) := by decide +kernel
theorem d7_35 : decode method_3_code 35 = .ok (.ifnonnull 7, 3) := by decide +kernel
theorem d7_38 : decode method_3_code 38 = .ok (.iconst 1, 1) := by decide +kernel
theorem d7_39 : decode method_3_code 39 = .ok (.goto 4, 3) := by decide +kernel
theorem d7_43 : decode method_3_code 43 = .ok (.ireturn, 1) := by decide +kernel
def F_sN (i2 : Int32) (i3 : Int32) (i4 : Int32) (i5 : Int32) (i6 : Int32) (vf : Nat → Value) (ki : Nat) : Int32 := (1 : Int32)
set_option maxRecDepth 65536 in
set_option maxHeartbeats 40000000 in
theorem rmsN (l : Launch) (Z : State) (a0 : Array Value) (hw : ∀ d ∈ tables_1, d.before a0 Z = true) (ws : List Jvm.Cond) (o0 : Addr) (o1 : Addr) (i2 : Int32) (i3 : Int32) (i4 : Int32) (i5 : Int32) (i6 : Int32) (a1 : Addr) (vf : Nat → Value) (ki : Nat) (h0 : Heap) (n0 : Nat) (E_o0 : Exa Z h0 o0 "com/example/knotwork/knotwork/core/Binding") (F_o0_values : Fld Z h0 o0 "com/example/knotwork/knotwork/core/Binding" "values" "[Lcom/example/knotwork/knotwork/core/Item;" (.ref a1)) (A_a1 : AF Z h0 a1 (.object "com/example/knotwork/knotwork/core/Item") 3 vf) (hk0 : i2.toInt = (ki : Int)) (hn0 : ki < 3) (hv : vf ki = .null) (hq0 : (F_f9 i2 i3 i4 i5 i6) = (0 : Int32)) :
    MetFree l (⟨"com/example/knotwork/knotwork/core/BindingUndoPinLaw", "slotOk", "(Lcom/example/knotwork/knotwork/core/Binding;Lcom/example/knotwork/knotwork/core/Item;IIIII)Z"⟩ : MethodName) (head1 (Jvm.Cond.code (⟨"com/example/knotwork/knotwork/core/BindingUndoPinLaw", "slotOk", "(Lcom/example/knotwork/knotwork/core/Binding;Lcom/example/knotwork/knotwork/core/Item;IIIII)Z"⟩ : MethodName) method_3_code 8 (some .boolean) :: ws) ({ frames := 1, cells := 0, slots := 0, locals := 16 } : Room)) (fun a U => a = #[(.ref o0), (.ref o1), (.int i2), (.int i3), (.int i4), (.int i5), (.int i6)] ∧ Z.Warmed39 U.vm ∧ U.heap = h0) (fun _ _ _ _ _ => True) (fun _ U o U' => ∃ v L, o = .returned v ∧ QR (some (.int (F_sN i2 i3 i4 i5 i6 vf ki))) h0 n0 v U'.heap L ∧ FrameEnd U o U' L ({ frames := 1, cells := 0, slots := 0, locals := 16 } : Room).cells ({ frames := 1, cells := 0, slots := 0, locals := 16 } : Room).slots) := by
  refine MetFree.of_bodySF (plainFor_of_name pn_0) hisR ?_
  intro p e s m args below meth c s₁ Bd hml0 hP hK
  obtain ⟨rfl, hZ, hh⟩ := hP
  have hx := Bd.exec
  have hby := Bd.bytes
  have hml : c.maxLocals = 8 := hml0
  have hown : s.vm.findClass "com/example/knotwork/knotwork/core/BindingUndoPinLaw" = some m.cls := findClass_of_methodNamed Bd.named
  have hnm := (name_of_methodNamed Bd.named Bd.method).1
  have hret := Bd.returns
  have hlk : meth.locks = false := BodyLoose.notSynchronized Bd
  have X0 : Stand p l e ({ frames := 1, cells := 0, slots := 0, locals := 16 } : Room) s m #[(.ref o0), (.ref o1), (.int i2), (.int i3), (.int i4), (.int i5), (.int i6)] below meth c s₁ [] 0 0 := Stand.of_body Bd
  have e0 : s₁.heap = h0 := by rw [← hh, Bd.state]; rfl
  have N0 := Fr.nil n0
  show Outs p e below s (QR (some (.int (F_sN i2 i3 i4 i5 i6 vf ki))) h0 n0) _ _ _
  refine Outs.of (U' := s₁.setTop (mkF m 0 #[.val (.ref o0), .val (.ref o1), .val (.int i2), .val (.int i3), .val (.int i4), .val (.int i5), .val (.int i6), .unset] [])) (fun t k => castTop (ef_7 m o0 o1 i2 i3 i4 i5 i6) k) ?_
  refine Outs.of (U' := s₁.setTop (mkF m 2 #[.val (.ref o0), .val (.ref o1), .val (.int i2), .val (.int i3), .val (.int i4), .val (.int i5), .val (.int i6), .unset] [(.int i2), (.ref o0)])) (fun t k => ?_) ?_
  · refine XS.aloadN X0.here hx rfl (hb hby d7_0) rfl rfl ?_
    refine XS.iloadN X0.here hx rfl (hb hby d7_1) rfl ?_
    exact k
  obtain ⟨cq1, kq1, q1a, q1b, q1c⟩ := isOf hZ e0 E_o0
  obtain ⟨_, _, ⟨T1, L1, k1, n1⟩, -, X1, ⟨Lc1, hQ1, l1, y1, z1⟩, st1⟩ := X0.virtualBack hx (y := (⟨"com/example/knotwork/knotwork/core/Binding", "get", "(I)Lcom/example/knotwork/knotwork/core/Item;"⟩ : MethodName)) (z := (⟨"com/example/knotwork/knotwork/core/Binding", "get", "(I)Lcom/example/knotwork/knotwork/core/Item;"⟩ : MethodName)) hown (mvT hZ (hw _ (List.mem_of_getElem? (i := 56) rfl))) (mvT hZ (hw _ (List.mem_of_getElem? (i := 57) rfl))) (notFace_of_selects (args := #[]) (mvT hZ (hw _ (List.mem_of_getElem? (i := 59) rfl)))) (mvT hZ (hw _ (List.mem_of_getElem? (i := 59) rfl))) (mvT hZ (hw _ (List.mem_of_getElem? (i := 58) rfl))) (by decide) (backOf (W := 0) (rmgN l Z a0 hw [] o0 i2 a1 vf ki h0 n0 F_o0_values A_a1 hk0 hn0 hv) hZ (hw _ (List.mem_of_getElem? (i := 60) rfl)) (hw _ (List.mem_of_getElem? (i := 27) rfl)) (by decide) (by decide)) q1a q1c (g := (mkF m 2 #[.val (.ref o0), .val (.ref o1), .val (.int i2), .val (.int i3), .val (.int i4), .val (.int i5), .val (.int i6), .unset] [(.int i2), (.ref o0)])) rfl (by rw [hml]; rfl) (Steps.refl _) (argsL := [(.int i2)]) (rest := []) (lenOf pd_5 rfl) rfl (by show 2 * 0 + _ ≤ _; exact Nat.le_of_eq rfl) (hb hby d7_2) (fun _ _ => ⟨rfl, e0, (by decide : 0 + 0 ≤ _), (by decide : 0 + 0 ≤ _)⟩)
  dsimp only [Pt.U, Pt.locs, Pt.cells, Pt.slots] at X1 l1 y1 z1 st1 hQ1
  subst l1 y1 z1
  obtain ⟨rfl, N1q, e1⟩ := hQ1
  have N1 := Fr.app N0 N1q
  obtain ⟨Lh1, X1, N1⟩ := hide X1 N1 (C := 0) (S := 0) (by decide) (by decide)
  refine Outs.to st1 ?_
  refine Outs.of (U' := T1.setTop (mkF m 15 #[.val (.ref o0), .val (.ref o1), .val (.int i2), .val (.int i3), .val (.int i4), .val (.int i5), .val (.int i6), .val .null] [(.int i6), (.int i5), (.int i4), (.int i3), (.int i2)])) (fun t k => ?_) ?_
  · refine XS.astore X1.here hx rfl (hb hby d7_5) rfl rfl (l' := #[.val (.ref o0), .val (.ref o1), .val (.int i2), .val (.int i3), .val (.int i4), .val (.int i5), .val (.int i6), .val .null]) rfl ?_
    refine XS.iloadN X1.here hx rfl (hb hby d7_7) rfl ?_
    refine XS.iloadN X1.here hx rfl (hb hby d7_8) rfl ?_
    refine XS.iload X1.here hx rfl (hb hby d7_9) rfl ?_
    refine XS.iload X1.here hx rfl (hb hby d7_11) rfl ?_
    refine XS.iload X1.here hx rfl (hb hby d7_13) rfl ?_
    exact k
  obtain ⟨_, _, ⟨T2, L2, k2, n2⟩, -, X2, ⟨Lc2, hQ2, l2, y2, z2⟩, st2⟩ := Jvm.LawKit.callS X1 hx (y := (⟨"com/example/knotwork/knotwork/core/BindingUndoPinLaw", "held", "(IIIII)Z"⟩ : MethodName)) hown (mvT hZ (hw _ (List.mem_of_getElem? (i := 61) rfl))) (mvT hZ (hw _ (List.mem_of_getElem? (i := 62) rfl))) (mvT hZ (hw _ (List.mem_of_getElem? (i := 54) rfl))) (mvT hZ (hw _ (List.mem_of_getElem? (i := 63) rfl))) (by decide) (backOf (W := 0) (rm9 l Z a0 hw [] i2 i3 i4 i5 i6 h0 n0 ) hZ (hw _ (List.mem_of_getElem? (i := 63) rfl)) (hw _ (List.mem_of_getElem? (i := 54) rfl)) (by decide) (by decide)) (g := (mkF m 15 #[.val (.ref o0), .val (.ref o1), .val (.int i2), .val (.int i3), .val (.int i4), .val (.int i5), .val (.int i6), .val .null] [(.int i6), (.int i5), (.int i4), (.int i3), (.int i2)])) rfl (by rw [hml]; rfl) (argsL := [(.int i2), (.int i3), (.int i4), (.int i5), (.int i6)]) (rest := []) (lenOf pd_6 rfl) rfl (by show 2 * 0 + _ ≤ _; exact Nat.le_of_eq rfl) (hb hby d7_15) (fun _ _ => ⟨rfl, e1, (by decide : 0 + 0 ≤ _), (by decide : 0 + 0 ≤ _)⟩)
  dsimp only [Pt.U, Pt.locs, Pt.cells, Pt.slots] at X2 l2 y2 z2 st2 hQ2
  subst l2 y2 z2
  obtain ⟨rfl, N2q, e2⟩ := hQ2
  have N2 := Fr.app N1 N2q
  obtain ⟨Lh2, X2, N2⟩ := hide X2 N2 (C := 0) (S := 0) (by decide) (by decide)
  refine Outs.of st2 ?_
  refine Outs.of (U' := T2.setTop (mkF m 43 #[.val (.ref o0), .val (.ref o1), .val (.int i2), .val (.int i3), .val (.int i4), .val (.int i5), .val (.int i6), .val .null] [(.int (1 : Int32))])) (fun t k => ?_) ?_
  · refine XS.ifYes X2.here hx rfl (pc0 := 18) (pc' := 33) rfl (hb hby d7_18) rfl ((if0 _ _).trans (teq hq0).1) (by decide) (by decide) ?_
    refine XS.aload X2.here hx rfl (hb hby d7_33) rfl rfl ?_
    refine XS.ifnonnullNo X2.here hx rfl (hb hby d7_35) rfl ?_
    refine XS.iconst X2.here hx rfl (hb hby d7_38) ?_
    refine XS.goto X2.here hx rfl (pc0 := 39) (pc' := 43) rfl (hb hby d7_39) (by decide) (by decide) ?_
    exact k
  exact Outs.retN (t := .boolean) (z := (1 : Int32)) X2 hx hret (by simp) (hb hby d7_43) hlk (by decide) (by decide) e2 ⟨congrArg (fun z_ => some (Value.int z_)) (show (F_sN i2 i3 i4 i5 i6 vf ki) = (1 : Int32) from rfl).symm, N2, rfl⟩
set_option maxRecDepth 65536 in
set_option maxHeartbeats 40000000 in
theorem rmso (l : Launch) (Z : State) (a0 : Array Value) (hw : ∀ d ∈ tables_1, d.before a0 Z = true) (ws : List Jvm.Cond) (o0 : Addr) (o1 : Addr) (i2 : Int32) (i3 : Int32) (i4 : Int32) (i5 : Int32) (i6 : Int32) (a1 : Addr) (vf : Nat → Value) (ki : Nat) (h0 : Heap) (n0 : Nat) (E_o0 : Exa Z h0 o0 "com/example/knotwork/knotwork/core/Binding") (F_o0_values : Fld Z h0 o0 "com/example/knotwork/knotwork/core/Binding" "values" "[Lcom/example/knotwork/knotwork/core/Item;" (.ref a1)) (A_a1 : AF Z h0 a1 (.object "com/example/knotwork/knotwork/core/Item") 3 vf) (hk0 : i2.toInt = (ki : Int)) (hn0 : ki < 3) (hd : (vf ki = .ref o1 ∧ ¬ (F_f9 i2 i3 i4 i5 i6) = (0 : Int32)) ∨ (vf ki = .null ∧ (F_f9 i2 i3 i4 i5 i6) = (0 : Int32))) :
    MetFree l (⟨"com/example/knotwork/knotwork/core/BindingUndoPinLaw", "slotOk", "(Lcom/example/knotwork/knotwork/core/Binding;Lcom/example/knotwork/knotwork/core/Item;IIIII)Z"⟩ : MethodName) (head1 (Jvm.Cond.code (⟨"com/example/knotwork/knotwork/core/BindingUndoPinLaw", "slotOk", "(Lcom/example/knotwork/knotwork/core/Binding;Lcom/example/knotwork/knotwork/core/Item;IIIII)Z"⟩ : MethodName) method_3_code 8 (some .boolean) :: ws) ({ frames := 1, cells := 0, slots := 0, locals := 16 } : Room)) (fun a U => a = #[(.ref o0), (.ref o1), (.int i2), (.int i3), (.int i4), (.int i5), (.int i6)] ∧ Z.Warmed39 U.vm ∧ U.heap = h0) (fun _ _ _ _ _ => True) (fun _ U o U' => ∃ v L, o = .returned v ∧ QR (some (.int (1 : Int32))) h0 n0 v U'.heap L ∧ FrameEnd U o U' L ({ frames := 1, cells := 0, slots := 0, locals := 16 } : Room).cells ({ frames := 1, cells := 0, slots := 0, locals := 16 } : Room).slots) := by
  rcases hd with ⟨hv, hq0⟩ | ⟨hv, hq0⟩
  · exact rmsA l Z a0 hw ws o0 o1 i2 i3 i4 i5 i6 a1 vf ki h0 n0 E_o0 F_o0_values A_a1 hk0 hn0 hv hq0
  · exact rmsN l Z a0 hw ws o0 o1 i2 i3 i4 i5 i6 a1 vf ki h0 n0 E_o0 F_o0_values A_a1 hk0 hn0 hv hq0
theorem ef_10 (m : MethodId) (x0 : Addr) : entryFrame m #[(.ref x0)] 1 = mkF m 0 #[.val (.ref x0)] [] := by first | (simp [entryFrame, mkF, argsToLocals, Value.category]; done) | rfl
theorem d10_0 : decode prog_8_method_6_code 0 = .ok (.aload_n 0, 1) := by decide +kernel
theorem d10_1 : decode prog_8_method_6_code 1 = .ok (.getfield 19, 3) := by decide +kernel
theorem d10_4 : decode prog_8_method_6_code 4 = .ok (.ireturn, 1) := by decide +kernel
def F_f10 (bv : Int32) : Int32 := bv
set_option maxRecDepth 65536 in
set_option maxHeartbeats 40000000 in
theorem rm10 (l : Launch) (Z : State) (a0 : Array Value) (hw : ∀ d ∈ tables_1, d.before a0 Z = true) (ws : List Jvm.Cond) (o0 : Addr) (bv : Int32) (h0 : Heap) (n0 : Nat) (F_o0_bound : Fld Z h0 o0 "com/example/knotwork/knotwork/core/Binding" "bound" "I" (.int bv)) :
    MetFree l (⟨"com/example/knotwork/knotwork/core/Binding", "mark", "()I"⟩ : MethodName) (head1 (Jvm.Cond.code (⟨"com/example/knotwork/knotwork/core/Binding", "mark", "()I"⟩ : MethodName) prog_8_method_6_code 1 (some .int) :: ws) ({ frames := 0, cells := 0, slots := 0, locals := 0 } : Room)) (fun a U => a = #[(.ref o0)] ∧ Z.Warmed39 U.vm ∧ U.heap = h0) (fun _ _ _ _ _ => True) (fun _ U o U' => ∃ v L, o = .returned v ∧ QR (some (.int (F_f10 bv))) h0 n0 v U'.heap L ∧ FrameEnd U o U' L ({ frames := 0, cells := 0, slots := 0, locals := 0 } : Room).cells ({ frames := 0, cells := 0, slots := 0, locals := 0 } : Room).slots) := by
  refine MetFree.of_bodySF (plainFor_of_name pn_4) hisR ?_
  intro p e s m args below meth c s₁ Bd hml0 hP hK
  obtain ⟨rfl, hZ, hh⟩ := hP
  have hx := Bd.exec
  have hby := Bd.bytes
  have hml : c.maxLocals = 1 := hml0
  have hown : s.vm.findClass "com/example/knotwork/knotwork/core/Binding" = some m.cls := findClass_of_methodNamed Bd.named
  have hnm := (name_of_methodNamed Bd.named Bd.method).1
  have hret := Bd.returns
  have hlk : meth.locks = false := BodyLoose.notSynchronized Bd
  have X0 : Stand p l e ({ frames := 0, cells := 0, slots := 0, locals := 0 } : Room) s m #[(.ref o0)] below meth c s₁ [] 0 0 := Stand.of_body Bd
  have e0 : s₁.heap = h0 := by rw [← hh, Bd.state]; rfl
  have N0 := Fr.nil n0
  show Outs p e below s (QR (some (.int (F_f10 bv))) h0 n0) _ _ _
  refine Outs.of (U' := s₁.setTop (mkF m 0 #[.val (.ref o0)] [])) (fun t k => castTop (ef_10 m o0) k) ?_
  refine Outs.of (U' := s₁.setTop (mkF m 1 #[.val (.ref o0)] [(.ref o0)])) (fun t k => ?_) ?_
  · refine XS.aloadN X0.here hx rfl (hb hby d10_0) rfl rfl ?_
    exact k
  obtain ⟨T1, X1, e1, st1⟩ := getF X0 hx hZ hown (host := "") (Or.inl (hw _ (List.mem_of_getElem? (i := 45) rfl))) Via.refl e0 F_o0_bound (g := (mkF m 1 #[.val (.ref o0)] [(.ref o0)])) rfl rfl (hb hby d10_1)
  refine Outs.of st1 ?_
  exact Outs.retI X1 hx hret (hb hby d10_4) hlk (by decide) (by decide) e1 ⟨congrArg (fun z_ => some (Value.int z_)) (show (F_f10 bv) = bv from rfl).symm, N0, rfl⟩
def f0_v7 (i0 : Int32) : Int32 := ((i0 &&& (2147483647 : Int32)) % (6 : Int32))
def f0_v11 (i0 : Int32) : Int32 := ((f0_v7 i0) / (2 : Int32))
def f0_15_s0 (i0 : Int32) : Int32 := (if (f0_v11 i0) = (0 : Int32) then (1 : Int32) else (0 : Int32))
def f0_28_s0 (i0 : Int32) : Int32 := (if (f0_v11 i0) = (2 : Int32) then (1 : Int32) else (2 : Int32))
def f0_41_s0 (i0 : Int32) : Int32 := (if ((f0_v7 i0) % (2 : Int32)) = (0 : Int32) then (f0_15_s0 i0) else (f0_28_s0 i0))
def f0_v60 (i0 : Int32) : Int32 := (((3 : Int32) - (f0_v11 i0)) - (f0_41_s0 i0))
def f0_v68 (i1 : Int32) : Int32 := ((i1 &&& (2147483647 : Int32)) % (4 : Int32))
def f0_v79 (i1 : Int32) (i2 : Int32) : Int32 := ((i2 &&& (2147483647 : Int32)) % ((f0_v68 i1) + (1 : Int32)))
theorem own_lit (x : Int32) (d : Int32) (q : Int) (hd : d.toInt = q) (h : x.toInt = q) : x = d := Int32.toInt_inj.mp (h.trans hd.symm)
theorem own_a6 (i0 : Int32) : f0_v7 i0 = 0 ∨ f0_v7 i0 = 1 ∨ f0_v7 i0 = 2 ∨ f0_v7 i0 = 3 ∨ f0_v7 i0 = 4 ∨ f0_v7 i0 = 5 := by
  have a := c_mask i0 2147483647 31 (by decide) (by decide)
  have r := (c_irem (i0 &&& (2147483647 : Int32)) 6 6 (by decide)).1 (by omega)
  have e : (f0_v7 i0).toInt = (i0 &&& (2147483647 : Int32)).toInt % 6 := r
  rcases (by omega : (f0_v7 i0).toInt = 0 ∨ (f0_v7 i0).toInt = 1 ∨ (f0_v7 i0).toInt = 2 ∨ (f0_v7 i0).toInt = 3 ∨ (f0_v7 i0).toInt = 4 ∨ (f0_v7 i0).toInt = 5) with h | h | h | h | h | h
  · exact .inl (own_lit _ 0 0 (by decide) h)
  · exact .inr (.inl (own_lit _ 1 1 (by decide) h))
  · exact .inr (.inr (.inl (own_lit _ 2 2 (by decide) h)))
  · exact .inr (.inr (.inr (.inl (own_lit _ 3 3 (by decide) h))))
  · exact .inr (.inr (.inr (.inr (.inl (own_lit _ 4 4 (by decide) h)))))
  · exact .inr (.inr (.inr (.inr (.inr (own_lit _ 5 5 (by decide) h)))))
theorem own_abc (i0 : Int32) : (f0_v11 i0 = 0 ∧ f0_41_s0 i0 = 1 ∧ f0_v60 i0 = 2) ∨ (f0_v11 i0 = 0 ∧ f0_41_s0 i0 = 2 ∧ f0_v60 i0 = 1) ∨ (f0_v11 i0 = 1 ∧ f0_41_s0 i0 = 0 ∧ f0_v60 i0 = 2) ∨ (f0_v11 i0 = 1 ∧ f0_41_s0 i0 = 2 ∧ f0_v60 i0 = 0) ∨ (f0_v11 i0 = 2 ∧ f0_41_s0 i0 = 0 ∧ f0_v60 i0 = 1) ∨ (f0_v11 i0 = 2 ∧ f0_41_s0 i0 = 1 ∧ f0_v60 i0 = 0) := by
  unfold f0_v60 f0_41_s0 f0_28_s0 f0_15_s0 f0_v11
  rcases own_a6 i0 with h | h | h | h | h | h <;> rw [h] <;> decide
theorem law_s0 (i0 : Int32) : (f0_v11 i0).toInt = ((own_k (f0_v11 i0) : Nat) : Int) ∧ own_k (f0_v11 i0) < 3 := by
  rcases own_abc i0 with ⟨h, -, -⟩ | ⟨h, -, -⟩ | ⟨h, -, -⟩ | ⟨h, -, -⟩ | ⟨h, -, -⟩ | ⟨h, -, -⟩ <;> rw [h] <;> decide
theorem law_s1 (i0 : Int32) : (f0_41_s0 i0).toInt = ((own_k (f0_41_s0 i0) : Nat) : Int) ∧ own_k (f0_41_s0 i0) < 3 := by
  rcases own_abc i0 with ⟨-, h, -⟩ | ⟨-, h, -⟩ | ⟨-, h, -⟩ | ⟨-, h, -⟩ | ⟨-, h, -⟩ | ⟨-, h, -⟩ <;> rw [h] <;> decide
theorem law_s2 (i0 : Int32) : (f0_v60 i0).toInt = ((own_k (f0_v60 i0) : Nat) : Int) ∧ own_k (f0_v60 i0) < 3 := by
  rcases own_abc i0 with ⟨-, -, h⟩ | ⟨-, -, h⟩ | ⟨-, -, h⟩ | ⟨-, -, h⟩ | ⟨-, -, h⟩ | ⟨-, -, h⟩ <;> rw [h] <;> decide
theorem own_n4 (i1 : Int32) : f0_v68 i1 = 0 ∨ f0_v68 i1 = 1 ∨ f0_v68 i1 = 2 ∨ f0_v68 i1 = 3 := by
  have a := c_mask i1 2147483647 31 (by decide) (by decide)
  have r := (c_irem (i1 &&& (2147483647 : Int32)) 4 4 (by decide)).1 (by omega)
  have e : (f0_v68 i1).toInt = (i1 &&& (2147483647 : Int32)).toInt % 4 := r
  rcases (by omega : (f0_v68 i1).toInt = 0 ∨ (f0_v68 i1).toInt = 1 ∨ (f0_v68 i1).toInt = 2 ∨ (f0_v68 i1).toInt = 3) with h | h | h | h
  · exact .inl (own_lit _ 0 0 (by decide) h)
  · exact .inr (.inl (own_lit _ 1 1 (by decide) h))
  · exact .inr (.inr (.inl (own_lit _ 2 2 (by decide) h)))
  · exact .inr (.inr (.inr (own_lit _ 3 3 (by decide) h)))
theorem law_nz (i1 : Int32) : (f0_v68 i1) + (1 : Int32) ≠ 0 := by
  rcases own_n4 i1 with h | h | h | h <;> rw [h] <;> decide
theorem own_m4 (i2 d : Int32) (q : Int) (hd : d.toInt = q) (hq : 0 < q) : 0 ≤ ((i2 &&& (2147483647 : Int32)) % d).toInt ∧ ((i2 &&& (2147483647 : Int32)) % d).toInt < q := by
  have a := c_mask i2 2147483647 31 (by decide) (by decide)
  have r := (c_irem (i2 &&& (2147483647 : Int32)) d q hd).1 (by omega)
  rw [r]
  exact ⟨Int.emod_nonneg _ (by omega), Int.emod_lt_of_pos _ hq⟩
theorem own_nm (i1 i2 : Int32) : (f0_v68 i1 = 0 ∧ f0_v79 i1 i2 = 0) ∨ (f0_v68 i1 = 1 ∧ f0_v79 i1 i2 = 0) ∨ (f0_v68 i1 = 1 ∧ f0_v79 i1 i2 = 1) ∨ (f0_v68 i1 = 2 ∧ f0_v79 i1 i2 = 0) ∨ (f0_v68 i1 = 2 ∧ f0_v79 i1 i2 = 1) ∨ (f0_v68 i1 = 2 ∧ f0_v79 i1 i2 = 2) ∨ (f0_v68 i1 = 3 ∧ f0_v79 i1 i2 = 0) ∨ (f0_v68 i1 = 3 ∧ f0_v79 i1 i2 = 1) ∨ (f0_v68 i1 = 3 ∧ f0_v79 i1 i2 = 2) ∨ (f0_v68 i1 = 3 ∧ f0_v79 i1 i2 = 3) := by
  have z : ∀ d : Int32, ∀ q : Int, (f0_v68 i1) + (1 : Int32) = d → d.toInt = q → 0 < q → 0 ≤ (f0_v79 i1 i2).toInt ∧ (f0_v79 i1 i2).toInt < q := fun d q h1 h2 h3 => by
    have := own_m4 i2 d q h2 h3
    unfold f0_v79; rw [h1]; exact this
  have l0 := own_lit (f0_v79 i1 i2) 0 0 (by decide)
  have l1 := own_lit (f0_v79 i1 i2) 1 1 (by decide)
  have l2 := own_lit (f0_v79 i1 i2) 2 2 (by decide)
  have l3 := own_lit (f0_v79 i1 i2) 3 3 (by decide)
  rcases own_n4 i1 with h | h | h | h
  · have y := z 1 1 (by rw [h]; decide) (by decide) (by decide)
    exact .inl ⟨h, l0 (by omega)⟩
  · have y := z 2 2 (by rw [h]; decide) (by decide) (by decide)
    rcases (by omega : (f0_v79 i1 i2).toInt = 0 ∨ (f0_v79 i1 i2).toInt = 1) with k | k
    · exact .inr (.inl ⟨h, l0 k⟩)
    · exact .inr (.inr (.inl ⟨h, l1 k⟩))
  · have y := z 3 3 (by rw [h]; decide) (by decide) (by decide)
    rcases (by omega : (f0_v79 i1 i2).toInt = 0 ∨ (f0_v79 i1 i2).toInt = 1 ∨ (f0_v79 i1 i2).toInt = 2) with k | k | k
    · exact .inr (.inr (.inr (.inl ⟨h, l0 k⟩)))
    · exact .inr (.inr (.inr (.inr (.inl ⟨h, l1 k⟩))))
    · exact .inr (.inr (.inr (.inr (.inr (.inl ⟨h, l2 k⟩)))))
  · have y := z 4 4 (by rw [h]; decide) (by decide) (by decide)
    rcases (by omega : (f0_v79 i1 i2).toInt = 0 ∨ (f0_v79 i1 i2).toInt = 1 ∨ (f0_v79 i1 i2).toInt = 2 ∨ (f0_v79 i1 i2).toInt = 3) with k | k | k | k
    · exact .inr (.inr (.inr (.inr (.inr (.inr (.inl ⟨h, l0 k⟩))))))
    · exact .inr (.inr (.inr (.inr (.inr (.inr (.inr (.inl ⟨h, l1 k⟩)))))))
    · exact .inr (.inr (.inr (.inr (.inr (.inr (.inr (.inr (.inl ⟨h, l2 k⟩))))))))
    · exact .inr (.inr (.inr (.inr (.inr (.inr (.inr (.inr (.inr ⟨h, l3 k⟩))))))))
theorem law_d000 (i0 : Int32) (b9 : Addr) : (((fun _ => Value.null) 0) = .ref b9 ∧ ¬ (F_f9 (0 : Int32) (0 : Int32) (f0_v11 i0) (f0_41_s0 i0) (f0_v60 i0)) = (0 : Int32)) ∨ (((fun _ => Value.null) 0) = .null ∧ (F_f9 (0 : Int32) (0 : Int32) (f0_v11 i0) (f0_41_s0 i0) (f0_v60 i0)) = (0 : Int32)) := by
  rcases own_abc i0 with ⟨h0, h1, h2⟩ | ⟨h0, h1, h2⟩ | ⟨h0, h1, h2⟩ | ⟨h0, h1, h2⟩ | ⟨h0, h1, h2⟩ | ⟨h0, h1, h2⟩ <;> rw [h0, h1, h2] <;> first | exact .inl ⟨rfl, by decide⟩ | exact .inr ⟨rfl, by decide⟩
theorem law_d001 (i0 : Int32) (b9 : Addr) : (((fun _ => Value.null) 1) = .ref b9 ∧ ¬ (F_f9 (1 : Int32) (0 : Int32) (f0_v11 i0) (f0_41_s0 i0) (f0_v60 i0)) = (0 : Int32)) ∨ (((fun _ => Value.null) 1) = .null ∧ (F_f9 (1 : Int32) (0 : Int32) (f0_v11 i0) (f0_41_s0 i0) (f0_v60 i0)) = (0 : Int32)) := by
  rcases own_abc i0 with ⟨h0, h1, h2⟩ | ⟨h0, h1, h2⟩ | ⟨h0, h1, h2⟩ | ⟨h0, h1, h2⟩ | ⟨h0, h1, h2⟩ | ⟨h0, h1, h2⟩ <;> rw [h0, h1, h2] <;> first | exact .inl ⟨rfl, by decide⟩ | exact .inr ⟨rfl, by decide⟩
theorem law_d002 (i0 : Int32) (b9 : Addr) : (((fun _ => Value.null) 2) = .ref b9 ∧ ¬ (F_f9 (2 : Int32) (0 : Int32) (f0_v11 i0) (f0_41_s0 i0) (f0_v60 i0)) = (0 : Int32)) ∨ (((fun _ => Value.null) 2) = .null ∧ (F_f9 (2 : Int32) (0 : Int32) (f0_v11 i0) (f0_41_s0 i0) (f0_v60 i0)) = (0 : Int32)) := by
  rcases own_abc i0 with ⟨h0, h1, h2⟩ | ⟨h0, h1, h2⟩ | ⟨h0, h1, h2⟩ | ⟨h0, h1, h2⟩ | ⟨h0, h1, h2⟩ | ⟨h0, h1, h2⟩ <;> rw [h0, h1, h2] <;> first | exact .inl ⟨rfl, by decide⟩ | exact .inr ⟨rfl, by decide⟩
theorem law_d100 (i0 : Int32) (b9 : Addr) : (((upv (upv (fun _ => Value.null) (own_k (f0_v11 i0)) (.ref b9)) (own_k (f0_v11 i0)) .null) 0) = .ref b9 ∧ ¬ (F_f9 (0 : Int32) (0 : Int32) (f0_v11 i0) (f0_41_s0 i0) (f0_v60 i0)) = (0 : Int32)) ∨ (((upv (upv (fun _ => Value.null) (own_k (f0_v11 i0)) (.ref b9)) (own_k (f0_v11 i0)) .null) 0) = .null ∧ (F_f9 (0 : Int32) (0 : Int32) (f0_v11 i0) (f0_41_s0 i0) (f0_v60 i0)) = (0 : Int32)) := by
  rcases own_abc i0 with ⟨h0, h1, h2⟩ | ⟨h0, h1, h2⟩ | ⟨h0, h1, h2⟩ | ⟨h0, h1, h2⟩ | ⟨h0, h1, h2⟩ | ⟨h0, h1, h2⟩ <;> rw [h0, h1, h2] <;> first | exact .inl ⟨rfl, by decide⟩ | exact .inr ⟨rfl, by decide⟩
theorem law_d101 (i0 : Int32) (b9 : Addr) : (((upv (upv (fun _ => Value.null) (own_k (f0_v11 i0)) (.ref b9)) (own_k (f0_v11 i0)) .null) 1) = .ref b9 ∧ ¬ (F_f9 (1 : Int32) (0 : Int32) (f0_v11 i0) (f0_41_s0 i0) (f0_v60 i0)) = (0 : Int32)) ∨ (((upv (upv (fun _ => Value.null) (own_k (f0_v11 i0)) (.ref b9)) (own_k (f0_v11 i0)) .null) 1) = .null ∧ (F_f9 (1 : Int32) (0 : Int32) (f0_v11 i0) (f0_41_s0 i0) (f0_v60 i0)) = (0 : Int32)) := by
  rcases own_abc i0 with ⟨h0, h1, h2⟩ | ⟨h0, h1, h2⟩ | ⟨h0, h1, h2⟩ | ⟨h0, h1, h2⟩ | ⟨h0, h1, h2⟩ | ⟨h0, h1, h2⟩ <;> rw [h0, h1, h2] <;> first | exact .inl ⟨rfl, by decide⟩ | exact .inr ⟨rfl, by decide⟩
theorem law_d102 (i0 : Int32) (b9 : Addr) : (((upv (upv (fun _ => Value.null) (own_k (f0_v11 i0)) (.ref b9)) (own_k (f0_v11 i0)) .null) 2) = .ref b9 ∧ ¬ (F_f9 (2 : Int32) (0 : Int32) (f0_v11 i0) (f0_41_s0 i0) (f0_v60 i0)) = (0 : Int32)) ∨ (((upv (upv (fun _ => Value.null) (own_k (f0_v11 i0)) (.ref b9)) (own_k (f0_v11 i0)) .null) 2) = .null ∧ (F_f9 (2 : Int32) (0 : Int32) (f0_v11 i0) (f0_41_s0 i0) (f0_v60 i0)) = (0 : Int32)) := by
  rcases own_abc i0 with ⟨h0, h1, h2⟩ | ⟨h0, h1, h2⟩ | ⟨h0, h1, h2⟩ | ⟨h0, h1, h2⟩ | ⟨h0, h1, h2⟩ | ⟨h0, h1, h2⟩ <;> rw [h0, h1, h2] <;> first | exact .inl ⟨rfl, by decide⟩ | exact .inr ⟨rfl, by decide⟩
theorem law_d110 (i0 : Int32) (b9 : Addr) : (((upv (fun _ => Value.null) (own_k (f0_v11 i0)) (.ref b9)) 0) = .ref b9 ∧ ¬ (F_f9 (0 : Int32) (1 : Int32) (f0_v11 i0) (f0_41_s0 i0) (f0_v60 i0)) = (0 : Int32)) ∨ (((upv (fun _ => Value.null) (own_k (f0_v11 i0)) (.ref b9)) 0) = .null ∧ (F_f9 (0 : Int32) (1 : Int32) (f0_v11 i0) (f0_41_s0 i0) (f0_v60 i0)) = (0 : Int32)) := by
  rcases own_abc i0 with ⟨h0, h1, h2⟩ | ⟨h0, h1, h2⟩ | ⟨h0, h1, h2⟩ | ⟨h0, h1, h2⟩ | ⟨h0, h1, h2⟩ | ⟨h0, h1, h2⟩ <;> rw [h0, h1, h2] <;> first | exact .inl ⟨rfl, by decide⟩ | exact .inr ⟨rfl, by decide⟩
theorem law_d111 (i0 : Int32) (b9 : Addr) : (((upv (fun _ => Value.null) (own_k (f0_v11 i0)) (.ref b9)) 1) = .ref b9 ∧ ¬ (F_f9 (1 : Int32) (1 : Int32) (f0_v11 i0) (f0_41_s0 i0) (f0_v60 i0)) = (0 : Int32)) ∨ (((upv (fun _ => Value.null) (own_k (f0_v11 i0)) (.ref b9)) 1) = .null ∧ (F_f9 (1 : Int32) (1 : Int32) (f0_v11 i0) (f0_41_s0 i0) (f0_v60 i0)) = (0 : Int32)) := by
  rcases own_abc i0 with ⟨h0, h1, h2⟩ | ⟨h0, h1, h2⟩ | ⟨h0, h1, h2⟩ | ⟨h0, h1, h2⟩ | ⟨h0, h1, h2⟩ | ⟨h0, h1, h2⟩ <;> rw [h0, h1, h2] <;> first | exact .inl ⟨rfl, by decide⟩ | exact .inr ⟨rfl, by decide⟩
theorem law_d112 (i0 : Int32) (b9 : Addr) : (((upv (fun _ => Value.null) (own_k (f0_v11 i0)) (.ref b9)) 2) = .ref b9 ∧ ¬ (F_f9 (2 : Int32) (1 : Int32) (f0_v11 i0) (f0_41_s0 i0) (f0_v60 i0)) = (0 : Int32)) ∨ (((upv (fun _ => Value.null) (own_k (f0_v11 i0)) (.ref b9)) 2) = .null ∧ (F_f9 (2 : Int32) (1 : Int32) (f0_v11 i0) (f0_41_s0 i0) (f0_v60 i0)) = (0 : Int32)) := by
  rcases own_abc i0 with ⟨h0, h1, h2⟩ | ⟨h0, h1, h2⟩ | ⟨h0, h1, h2⟩ | ⟨h0, h1, h2⟩ | ⟨h0, h1, h2⟩ | ⟨h0, h1, h2⟩ <;> rw [h0, h1, h2] <;> first | exact .inl ⟨rfl, by decide⟩ | exact .inr ⟨rfl, by decide⟩
theorem law_d200 (i0 : Int32) (b9 : Addr) : (((upv (upv (upv (upv (fun _ => Value.null) (own_k (f0_v11 i0)) (.ref b9)) (own_k (f0_41_s0 i0)) (.ref b9)) (own_k (f0_41_s0 i0)) .null) (own_k (f0_v11 i0)) .null) 0) = .ref b9 ∧ ¬ (F_f9 (0 : Int32) (0 : Int32) (f0_v11 i0) (f0_41_s0 i0) (f0_v60 i0)) = (0 : Int32)) ∨ (((upv (upv (upv (upv (fun _ => Value.null) (own_k (f0_v11 i0)) (.ref b9)) (own_k (f0_41_s0 i0)) (.ref b9)) (own_k (f0_41_s0 i0)) .null) (own_k (f0_v11 i0)) .null) 0) = .null ∧ (F_f9 (0 : Int32) (0 : Int32) (f0_v11 i0) (f0_41_s0 i0) (f0_v60 i0)) = (0 : Int32)) := by
  rcases own_abc i0 with ⟨h0, h1, h2⟩ | ⟨h0, h1, h2⟩ | ⟨h0, h1, h2⟩ | ⟨h0, h1, h2⟩ | ⟨h0, h1, h2⟩ | ⟨h0, h1, h2⟩ <;> rw [h0, h1, h2] <;> first | exact .inl ⟨rfl, by decide⟩ | exact .inr ⟨rfl, by decide⟩
theorem law_d201 (i0 : Int32) (b9 : Addr) : (((upv (upv (upv (upv (fun _ => Value.null) (own_k (f0_v11 i0)) (.ref b9)) (own_k (f0_41_s0 i0)) (.ref b9)) (own_k (f0_41_s0 i0)) .null) (own_k (f0_v11 i0)) .null) 1) = .ref b9 ∧ ¬ (F_f9 (1 : Int32) (0 : Int32) (f0_v11 i0) (f0_41_s0 i0) (f0_v60 i0)) = (0 : Int32)) ∨ (((upv (upv (upv (upv (fun _ => Value.null) (own_k (f0_v11 i0)) (.ref b9)) (own_k (f0_41_s0 i0)) (.ref b9)) (own_k (f0_41_s0 i0)) .null) (own_k (f0_v11 i0)) .null) 1) = .null ∧ (F_f9 (1 : Int32) (0 : Int32) (f0_v11 i0) (f0_41_s0 i0) (f0_v60 i0)) = (0 : Int32)) := by
  rcases own_abc i0 with ⟨h0, h1, h2⟩ | ⟨h0, h1, h2⟩ | ⟨h0, h1, h2⟩ | ⟨h0, h1, h2⟩ | ⟨h0, h1, h2⟩ | ⟨h0, h1, h2⟩ <;> rw [h0, h1, h2] <;> first | exact .inl ⟨rfl, by decide⟩ | exact .inr ⟨rfl, by decide⟩
theorem law_d202 (i0 : Int32) (b9 : Addr) : (((upv (upv (upv (upv (fun _ => Value.null) (own_k (f0_v11 i0)) (.ref b9)) (own_k (f0_41_s0 i0)) (.ref b9)) (own_k (f0_41_s0 i0)) .null) (own_k (f0_v11 i0)) .null) 2) = .ref b9 ∧ ¬ (F_f9 (2 : Int32) (0 : Int32) (f0_v11 i0) (f0_41_s0 i0) (f0_v60 i0)) = (0 : Int32)) ∨ (((upv (upv (upv (upv (fun _ => Value.null) (own_k (f0_v11 i0)) (.ref b9)) (own_k (f0_41_s0 i0)) (.ref b9)) (own_k (f0_41_s0 i0)) .null) (own_k (f0_v11 i0)) .null) 2) = .null ∧ (F_f9 (2 : Int32) (0 : Int32) (f0_v11 i0) (f0_41_s0 i0) (f0_v60 i0)) = (0 : Int32)) := by
  rcases own_abc i0 with ⟨h0, h1, h2⟩ | ⟨h0, h1, h2⟩ | ⟨h0, h1, h2⟩ | ⟨h0, h1, h2⟩ | ⟨h0, h1, h2⟩ | ⟨h0, h1, h2⟩ <;> rw [h0, h1, h2] <;> first | exact .inl ⟨rfl, by decide⟩ | exact .inr ⟨rfl, by decide⟩
theorem law_d210 (i0 : Int32) (b9 : Addr) : (((upv (upv (upv (fun _ => Value.null) (own_k (f0_v11 i0)) (.ref b9)) (own_k (f0_41_s0 i0)) (.ref b9)) (own_k (f0_41_s0 i0)) .null) 0) = .ref b9 ∧ ¬ (F_f9 (0 : Int32) (1 : Int32) (f0_v11 i0) (f0_41_s0 i0) (f0_v60 i0)) = (0 : Int32)) ∨ (((upv (upv (upv (fun _ => Value.null) (own_k (f0_v11 i0)) (.ref b9)) (own_k (f0_41_s0 i0)) (.ref b9)) (own_k (f0_41_s0 i0)) .null) 0) = .null ∧ (F_f9 (0 : Int32) (1 : Int32) (f0_v11 i0) (f0_41_s0 i0) (f0_v60 i0)) = (0 : Int32)) := by
  rcases own_abc i0 with ⟨h0, h1, h2⟩ | ⟨h0, h1, h2⟩ | ⟨h0, h1, h2⟩ | ⟨h0, h1, h2⟩ | ⟨h0, h1, h2⟩ | ⟨h0, h1, h2⟩ <;> rw [h0, h1, h2] <;> first | exact .inl ⟨rfl, by decide⟩ | exact .inr ⟨rfl, by decide⟩
theorem law_d211 (i0 : Int32) (b9 : Addr) : (((upv (upv (upv (fun _ => Value.null) (own_k (f0_v11 i0)) (.ref b9)) (own_k (f0_41_s0 i0)) (.ref b9)) (own_k (f0_41_s0 i0)) .null) 1) = .ref b9 ∧ ¬ (F_f9 (1 : Int32) (1 : Int32) (f0_v11 i0) (f0_41_s0 i0) (f0_v60 i0)) = (0 : Int32)) ∨ (((upv (upv (upv (fun _ => Value.null) (own_k (f0_v11 i0)) (.ref b9)) (own_k (f0_41_s0 i0)) (.ref b9)) (own_k (f0_41_s0 i0)) .null) 1) = .null ∧ (F_f9 (1 : Int32) (1 : Int32) (f0_v11 i0) (f0_41_s0 i0) (f0_v60 i0)) = (0 : Int32)) := by
  rcases own_abc i0 with ⟨h0, h1, h2⟩ | ⟨h0, h1, h2⟩ | ⟨h0, h1, h2⟩ | ⟨h0, h1, h2⟩ | ⟨h0, h1, h2⟩ | ⟨h0, h1, h2⟩ <;> rw [h0, h1, h2] <;> first | exact .inl ⟨rfl, by decide⟩ | exact .inr ⟨rfl, by decide⟩
theorem law_d212 (i0 : Int32) (b9 : Addr) : (((upv (upv (upv (fun _ => Value.null) (own_k (f0_v11 i0)) (.ref b9)) (own_k (f0_41_s0 i0)) (.ref b9)) (own_k (f0_41_s0 i0)) .null) 2) = .ref b9 ∧ ¬ (F_f9 (2 : Int32) (1 : Int32) (f0_v11 i0) (f0_41_s0 i0) (f0_v60 i0)) = (0 : Int32)) ∨ (((upv (upv (upv (fun _ => Value.null) (own_k (f0_v11 i0)) (.ref b9)) (own_k (f0_41_s0 i0)) (.ref b9)) (own_k (f0_41_s0 i0)) .null) 2) = .null ∧ (F_f9 (2 : Int32) (1 : Int32) (f0_v11 i0) (f0_41_s0 i0) (f0_v60 i0)) = (0 : Int32)) := by
  rcases own_abc i0 with ⟨h0, h1, h2⟩ | ⟨h0, h1, h2⟩ | ⟨h0, h1, h2⟩ | ⟨h0, h1, h2⟩ | ⟨h0, h1, h2⟩ | ⟨h0, h1, h2⟩ <;> rw [h0, h1, h2] <;> first | exact .inl ⟨rfl, by decide⟩ | exact .inr ⟨rfl, by decide⟩
theorem law_d220 (i0 : Int32) (b9 : Addr) : (((upv (upv (fun _ => Value.null) (own_k (f0_v11 i0)) (.ref b9)) (own_k (f0_41_s0 i0)) (.ref b9)) 0) = .ref b9 ∧ ¬ (F_f9 (0 : Int32) (2 : Int32) (f0_v11 i0) (f0_41_s0 i0) (f0_v60 i0)) = (0 : Int32)) ∨ (((upv (upv (fun _ => Value.null) (own_k (f0_v11 i0)) (.ref b9)) (own_k (f0_41_s0 i0)) (.ref b9)) 0) = .null ∧ (F_f9 (0 : Int32) (2 : Int32) (f0_v11 i0) (f0_41_s0 i0) (f0_v60 i0)) = (0 : Int32)) := by
  rcases own_abc i0 with ⟨h0, h1, h2⟩ | ⟨h0, h1, h2⟩ | ⟨h0, h1, h2⟩ | ⟨h0, h1, h2⟩ | ⟨h0, h1, h2⟩ | ⟨h0, h1, h2⟩ <;> rw [h0, h1, h2] <;> first | exact .inl ⟨rfl, by decide⟩ | exact .inr ⟨rfl, by decide⟩
theorem law_d221 (i0 : Int32) (b9 : Addr) : (((upv (upv (fun _ => Value.null) (own_k (f0_v11 i0)) (.ref b9)) (own_k (f0_41_s0 i0)) (.ref b9)) 1) = .ref b9 ∧ ¬ (F_f9 (1 : Int32) (2 : Int32) (f0_v11 i0) (f0_41_s0 i0) (f0_v60 i0)) = (0 : Int32)) ∨ (((upv (upv (fun _ => Value.null) (own_k (f0_v11 i0)) (.ref b9)) (own_k (f0_41_s0 i0)) (.ref b9)) 1) = .null ∧ (F_f9 (1 : Int32) (2 : Int32) (f0_v11 i0) (f0_41_s0 i0) (f0_v60 i0)) = (0 : Int32)) := by
  rcases own_abc i0 with ⟨h0, h1, h2⟩ | ⟨h0, h1, h2⟩ | ⟨h0, h1, h2⟩ | ⟨h0, h1, h2⟩ | ⟨h0, h1, h2⟩ | ⟨h0, h1, h2⟩ <;> rw [h0, h1, h2] <;> first | exact .inl ⟨rfl, by decide⟩ | exact .inr ⟨rfl, by decide⟩
theorem law_d222 (i0 : Int32) (b9 : Addr) : (((upv (upv (fun _ => Value.null) (own_k (f0_v11 i0)) (.ref b9)) (own_k (f0_41_s0 i0)) (.ref b9)) 2) = .ref b9 ∧ ¬ (F_f9 (2 : Int32) (2 : Int32) (f0_v11 i0) (f0_41_s0 i0) (f0_v60 i0)) = (0 : Int32)) ∨ (((upv (upv (fun _ => Value.null) (own_k (f0_v11 i0)) (.ref b9)) (own_k (f0_41_s0 i0)) (.ref b9)) 2) = .null ∧ (F_f9 (2 : Int32) (2 : Int32) (f0_v11 i0) (f0_41_s0 i0) (f0_v60 i0)) = (0 : Int32)) := by
  rcases own_abc i0 with ⟨h0, h1, h2⟩ | ⟨h0, h1, h2⟩ | ⟨h0, h1, h2⟩ | ⟨h0, h1, h2⟩ | ⟨h0, h1, h2⟩ | ⟨h0, h1, h2⟩ <;> rw [h0, h1, h2] <;> first | exact .inl ⟨rfl, by decide⟩ | exact .inr ⟨rfl, by decide⟩
theorem law_d300 (i0 : Int32) (b9 : Addr) : (((upv (upv (upv (upv (upv (upv (fun _ => Value.null) (own_k (f0_v11 i0)) (.ref b9)) (own_k (f0_41_s0 i0)) (.ref b9)) (own_k (f0_v60 i0)) (.ref b9)) (own_k (f0_v60 i0)) .null) (own_k (f0_41_s0 i0)) .null) (own_k (f0_v11 i0)) .null) 0) = .ref b9 ∧ ¬ (F_f9 (0 : Int32) (0 : Int32) (f0_v11 i0) (f0_41_s0 i0) (f0_v60 i0)) = (0 : Int32)) ∨ (((upv (upv (upv (upv (upv (upv (fun _ => Value.null) (own_k (f0_v11 i0)) (.ref b9)) (own_k (f0_41_s0 i0)) (.ref b9)) (own_k (f0_v60 i0)) (.ref b9)) (own_k (f0_v60 i0)) .null) (own_k (f0_41_s0 i0)) .null) (own_k (f0_v11 i0)) .null) 0) = .null ∧ (F_f9 (0 : Int32) (0 : Int32) (f0_v11 i0) (f0_41_s0 i0) (f0_v60 i0)) = (0 : Int32)) := by
  rcases own_abc i0 with ⟨h0, h1, h2⟩ | ⟨h0, h1, h2⟩ | ⟨h0, h1, h2⟩ | ⟨h0, h1, h2⟩ | ⟨h0, h1, h2⟩ | ⟨h0, h1, h2⟩ <;> rw [h0, h1, h2] <;> first | exact .inl ⟨rfl, by decide⟩ | exact .inr ⟨rfl, by decide⟩
theorem law_d301 (i0 : Int32) (b9 : Addr) : (((upv (upv (upv (upv (upv (upv (fun _ => Value.null) (own_k (f0_v11 i0)) (.ref b9)) (own_k (f0_41_s0 i0)) (.ref b9)) (own_k (f0_v60 i0)) (.ref b9)) (own_k (f0_v60 i0)) .null) (own_k (f0_41_s0 i0)) .null) (own_k (f0_v11 i0)) .null) 1) = .ref b9 ∧ ¬ (F_f9 (1 : Int32) (0 : Int32) (f0_v11 i0) (f0_41_s0 i0) (f0_v60 i0)) = (0 : Int32)) ∨ (((upv (upv (upv (upv (upv (upv (fun _ => Value.null) (own_k (f0_v11 i0)) (.ref b9)) (own_k (f0_41_s0 i0)) (.ref b9)) (own_k (f0_v60 i0)) (.ref b9)) (own_k (f0_v60 i0)) .null) (own_k (f0_41_s0 i0)) .null) (own_k (f0_v11 i0)) .null) 1) = .null ∧ (F_f9 (1 : Int32) (0 : Int32) (f0_v11 i0) (f0_41_s0 i0) (f0_v60 i0)) = (0 : Int32)) := by
  rcases own_abc i0 with ⟨h0, h1, h2⟩ | ⟨h0, h1, h2⟩ | ⟨h0, h1, h2⟩ | ⟨h0, h1, h2⟩ | ⟨h0, h1, h2⟩ | ⟨h0, h1, h2⟩ <;> rw [h0, h1, h2] <;> first | exact .inl ⟨rfl, by decide⟩ | exact .inr ⟨rfl, by decide⟩
theorem law_d302 (i0 : Int32) (b9 : Addr) : (((upv (upv (upv (upv (upv (upv (fun _ => Value.null) (own_k (f0_v11 i0)) (.ref b9)) (own_k (f0_41_s0 i0)) (.ref b9)) (own_k (f0_v60 i0)) (.ref b9)) (own_k (f0_v60 i0)) .null) (own_k (f0_41_s0 i0)) .null) (own_k (f0_v11 i0)) .null) 2) = .ref b9 ∧ ¬ (F_f9 (2 : Int32) (0 : Int32) (f0_v11 i0) (f0_41_s0 i0) (f0_v60 i0)) = (0 : Int32)) ∨ (((upv (upv (upv (upv (upv (upv (fun _ => Value.null) (own_k (f0_v11 i0)) (.ref b9)) (own_k (f0_41_s0 i0)) (.ref b9)) (own_k (f0_v60 i0)) (.ref b9)) (own_k (f0_v60 i0)) .null) (own_k (f0_41_s0 i0)) .null) (own_k (f0_v11 i0)) .null) 2) = .null ∧ (F_f9 (2 : Int32) (0 : Int32) (f0_v11 i0) (f0_41_s0 i0) (f0_v60 i0)) = (0 : Int32)) := by
  rcases own_abc i0 with ⟨h0, h1, h2⟩ | ⟨h0, h1, h2⟩ | ⟨h0, h1, h2⟩ | ⟨h0, h1, h2⟩ | ⟨h0, h1, h2⟩ | ⟨h0, h1, h2⟩ <;> rw [h0, h1, h2] <;> first | exact .inl ⟨rfl, by decide⟩ | exact .inr ⟨rfl, by decide⟩
theorem law_d310 (i0 : Int32) (b9 : Addr) : (((upv (upv (upv (upv (upv (fun _ => Value.null) (own_k (f0_v11 i0)) (.ref b9)) (own_k (f0_41_s0 i0)) (.ref b9)) (own_k (f0_v60 i0)) (.ref b9)) (own_k (f0_v60 i0)) .null) (own_k (f0_41_s0 i0)) .null) 0) = .ref b9 ∧ ¬ (F_f9 (0 : Int32) (1 : Int32) (f0_v11 i0) (f0_41_s0 i0) (f0_v60 i0)) = (0 : Int32)) ∨ (((upv (upv (upv (upv (upv (fun _ => Value.null) (own_k (f0_v11 i0)) (.ref b9)) (own_k (f0_41_s0 i0)) (.ref b9)) (own_k (f0_v60 i0)) (.ref b9)) (own_k (f0_v60 i0)) .null) (own_k (f0_41_s0 i0)) .null) 0) = .null ∧ (F_f9 (0 : Int32) (1 : Int32) (f0_v11 i0) (f0_41_s0 i0) (f0_v60 i0)) = (0 : Int32)) := by
  rcases own_abc i0 with ⟨h0, h1, h2⟩ | ⟨h0, h1, h2⟩ | ⟨h0, h1, h2⟩ | ⟨h0, h1, h2⟩ | ⟨h0, h1, h2⟩ | ⟨h0, h1, h2⟩ <;> rw [h0, h1, h2] <;> first | exact .inl ⟨rfl, by decide⟩ | exact .inr ⟨rfl, by decide⟩
theorem law_d311 (i0 : Int32) (b9 : Addr) : (((upv (upv (upv (upv (upv (fun _ => Value.null) (own_k (f0_v11 i0)) (.ref b9)) (own_k (f0_41_s0 i0)) (.ref b9)) (own_k (f0_v60 i0)) (.ref b9)) (own_k (f0_v60 i0)) .null) (own_k (f0_41_s0 i0)) .null) 1) = .ref b9 ∧ ¬ (F_f9 (1 : Int32) (1 : Int32) (f0_v11 i0) (f0_41_s0 i0) (f0_v60 i0)) = (0 : Int32)) ∨ (((upv (upv (upv (upv (upv (fun _ => Value.null) (own_k (f0_v11 i0)) (.ref b9)) (own_k (f0_41_s0 i0)) (.ref b9)) (own_k (f0_v60 i0)) (.ref b9)) (own_k (f0_v60 i0)) .null) (own_k (f0_41_s0 i0)) .null) 1) = .null ∧ (F_f9 (1 : Int32) (1 : Int32) (f0_v11 i0) (f0_41_s0 i0) (f0_v60 i0)) = (0 : Int32)) := by
  rcases own_abc i0 with ⟨h0, h1, h2⟩ | ⟨h0, h1, h2⟩ | ⟨h0, h1, h2⟩ | ⟨h0, h1, h2⟩ | ⟨h0, h1, h2⟩ | ⟨h0, h1, h2⟩ <;> rw [h0, h1, h2] <;> first | exact .inl ⟨rfl, by decide⟩ | exact .inr ⟨rfl, by decide⟩
theorem law_d312 (i0 : Int32) (b9 : Addr) : (((upv (upv (upv (upv (upv (fun _ => Value.null) (own_k (f0_v11 i0)) (.ref b9)) (own_k (f0_41_s0 i0)) (.ref b9)) (own_k (f0_v60 i0)) (.ref b9)) (own_k (f0_v60 i0)) .null) (own_k (f0_41_s0 i0)) .null) 2) = .ref b9 ∧ ¬ (F_f9 (2 : Int32) (1 : Int32) (f0_v11 i0) (f0_41_s0 i0) (f0_v60 i0)) = (0 : Int32)) ∨ (((upv (upv (upv (upv (upv (fun _ => Value.null) (own_k (f0_v11 i0)) (.ref b9)) (own_k (f0_41_s0 i0)) (.ref b9)) (own_k (f0_v60 i0)) (.ref b9)) (own_k (f0_v60 i0)) .null) (own_k (f0_41_s0 i0)) .null) 2) = .null ∧ (F_f9 (2 : Int32) (1 : Int32) (f0_v11 i0) (f0_41_s0 i0) (f0_v60 i0)) = (0 : Int32)) := by
  rcases own_abc i0 with ⟨h0, h1, h2⟩ | ⟨h0, h1, h2⟩ | ⟨h0, h1, h2⟩ | ⟨h0, h1, h2⟩ | ⟨h0, h1, h2⟩ | ⟨h0, h1, h2⟩ <;> rw [h0, h1, h2] <;> first | exact .inl ⟨rfl, by decide⟩ | exact .inr ⟨rfl, by decide⟩
theorem law_d320 (i0 : Int32) (b9 : Addr) : (((upv (upv (upv (upv (fun _ => Value.null) (own_k (f0_v11 i0)) (.ref b9)) (own_k (f0_41_s0 i0)) (.ref b9)) (own_k (f0_v60 i0)) (.ref b9)) (own_k (f0_v60 i0)) .null) 0) = .ref b9 ∧ ¬ (F_f9 (0 : Int32) (2 : Int32) (f0_v11 i0) (f0_41_s0 i0) (f0_v60 i0)) = (0 : Int32)) ∨ (((upv (upv (upv (upv (fun _ => Value.null) (own_k (f0_v11 i0)) (.ref b9)) (own_k (f0_41_s0 i0)) (.ref b9)) (own_k (f0_v60 i0)) (.ref b9)) (own_k (f0_v60 i0)) .null) 0) = .null ∧ (F_f9 (0 : Int32) (2 : Int32) (f0_v11 i0) (f0_41_s0 i0) (f0_v60 i0)) = (0 : Int32)) := by
  rcases own_abc i0 with ⟨h0, h1, h2⟩ | ⟨h0, h1, h2⟩ | ⟨h0, h1, h2⟩ | ⟨h0, h1, h2⟩ | ⟨h0, h1, h2⟩ | ⟨h0, h1, h2⟩ <;> rw [h0, h1, h2] <;> first | exact .inl ⟨rfl, by decide⟩ | exact .inr ⟨rfl, by decide⟩
theorem law_d321 (i0 : Int32) (b9 : Addr) : (((upv (upv (upv (upv (fun _ => Value.null) (own_k (f0_v11 i0)) (.ref b9)) (own_k (f0_41_s0 i0)) (.ref b9)) (own_k (f0_v60 i0)) (.ref b9)) (own_k (f0_v60 i0)) .null) 1) = .ref b9 ∧ ¬ (F_f9 (1 : Int32) (2 : Int32) (f0_v11 i0) (f0_41_s0 i0) (f0_v60 i0)) = (0 : Int32)) ∨ (((upv (upv (upv (upv (fun _ => Value.null) (own_k (f0_v11 i0)) (.ref b9)) (own_k (f0_41_s0 i0)) (.ref b9)) (own_k (f0_v60 i0)) (.ref b9)) (own_k (f0_v60 i0)) .null) 1) = .null ∧ (F_f9 (1 : Int32) (2 : Int32) (f0_v11 i0) (f0_41_s0 i0) (f0_v60 i0)) = (0 : Int32)) := by
  rcases own_abc i0 with ⟨h0, h1, h2⟩ | ⟨h0, h1, h2⟩ | ⟨h0, h1, h2⟩ | ⟨h0, h1, h2⟩ | ⟨h0, h1, h2⟩ | ⟨h0, h1, h2⟩ <;> rw [h0, h1, h2] <;> first | exact .inl ⟨rfl, by decide⟩ | exact .inr ⟨rfl, by decide⟩
theorem law_d322 (i0 : Int32) (b9 : Addr) : (((upv (upv (upv (upv (fun _ => Value.null) (own_k (f0_v11 i0)) (.ref b9)) (own_k (f0_41_s0 i0)) (.ref b9)) (own_k (f0_v60 i0)) (.ref b9)) (own_k (f0_v60 i0)) .null) 2) = .ref b9 ∧ ¬ (F_f9 (2 : Int32) (2 : Int32) (f0_v11 i0) (f0_41_s0 i0) (f0_v60 i0)) = (0 : Int32)) ∨ (((upv (upv (upv (upv (fun _ => Value.null) (own_k (f0_v11 i0)) (.ref b9)) (own_k (f0_41_s0 i0)) (.ref b9)) (own_k (f0_v60 i0)) (.ref b9)) (own_k (f0_v60 i0)) .null) 2) = .null ∧ (F_f9 (2 : Int32) (2 : Int32) (f0_v11 i0) (f0_41_s0 i0) (f0_v60 i0)) = (0 : Int32)) := by
  rcases own_abc i0 with ⟨h0, h1, h2⟩ | ⟨h0, h1, h2⟩ | ⟨h0, h1, h2⟩ | ⟨h0, h1, h2⟩ | ⟨h0, h1, h2⟩ | ⟨h0, h1, h2⟩ <;> rw [h0, h1, h2] <;> first | exact .inl ⟨rfl, by decide⟩ | exact .inr ⟨rfl, by decide⟩
theorem law_d330 (i0 : Int32) (b9 : Addr) : (((upv (upv (upv (fun _ => Value.null) (own_k (f0_v11 i0)) (.ref b9)) (own_k (f0_41_s0 i0)) (.ref b9)) (own_k (f0_v60 i0)) (.ref b9)) 0) = .ref b9 ∧ ¬ (F_f9 (0 : Int32) (3 : Int32) (f0_v11 i0) (f0_41_s0 i0) (f0_v60 i0)) = (0 : Int32)) ∨ (((upv (upv (upv (fun _ => Value.null) (own_k (f0_v11 i0)) (.ref b9)) (own_k (f0_41_s0 i0)) (.ref b9)) (own_k (f0_v60 i0)) (.ref b9)) 0) = .null ∧ (F_f9 (0 : Int32) (3 : Int32) (f0_v11 i0) (f0_41_s0 i0) (f0_v60 i0)) = (0 : Int32)) := by
  rcases own_abc i0 with ⟨h0, h1, h2⟩ | ⟨h0, h1, h2⟩ | ⟨h0, h1, h2⟩ | ⟨h0, h1, h2⟩ | ⟨h0, h1, h2⟩ | ⟨h0, h1, h2⟩ <;> rw [h0, h1, h2] <;> first | exact .inl ⟨rfl, by decide⟩ | exact .inr ⟨rfl, by decide⟩
theorem law_d331 (i0 : Int32) (b9 : Addr) : (((upv (upv (upv (fun _ => Value.null) (own_k (f0_v11 i0)) (.ref b9)) (own_k (f0_41_s0 i0)) (.ref b9)) (own_k (f0_v60 i0)) (.ref b9)) 1) = .ref b9 ∧ ¬ (F_f9 (1 : Int32) (3 : Int32) (f0_v11 i0) (f0_41_s0 i0) (f0_v60 i0)) = (0 : Int32)) ∨ (((upv (upv (upv (fun _ => Value.null) (own_k (f0_v11 i0)) (.ref b9)) (own_k (f0_41_s0 i0)) (.ref b9)) (own_k (f0_v60 i0)) (.ref b9)) 1) = .null ∧ (F_f9 (1 : Int32) (3 : Int32) (f0_v11 i0) (f0_41_s0 i0) (f0_v60 i0)) = (0 : Int32)) := by
  rcases own_abc i0 with ⟨h0, h1, h2⟩ | ⟨h0, h1, h2⟩ | ⟨h0, h1, h2⟩ | ⟨h0, h1, h2⟩ | ⟨h0, h1, h2⟩ | ⟨h0, h1, h2⟩ <;> rw [h0, h1, h2] <;> first | exact .inl ⟨rfl, by decide⟩ | exact .inr ⟨rfl, by decide⟩
theorem law_d332 (i0 : Int32) (b9 : Addr) : (((upv (upv (upv (fun _ => Value.null) (own_k (f0_v11 i0)) (.ref b9)) (own_k (f0_41_s0 i0)) (.ref b9)) (own_k (f0_v60 i0)) (.ref b9)) 2) = .ref b9 ∧ ¬ (F_f9 (2 : Int32) (3 : Int32) (f0_v11 i0) (f0_41_s0 i0) (f0_v60 i0)) = (0 : Int32)) ∨ (((upv (upv (upv (fun _ => Value.null) (own_k (f0_v11 i0)) (.ref b9)) (own_k (f0_41_s0 i0)) (.ref b9)) (own_k (f0_v60 i0)) (.ref b9)) 2) = .null ∧ (F_f9 (2 : Int32) (3 : Int32) (f0_v11 i0) (f0_41_s0 i0) (f0_v60 i0)) = (0 : Int32)) := by
  rcases own_abc i0 with ⟨h0, h1, h2⟩ | ⟨h0, h1, h2⟩ | ⟨h0, h1, h2⟩ | ⟨h0, h1, h2⟩ | ⟨h0, h1, h2⟩ | ⟨h0, h1, h2⟩ <;> rw [h0, h1, h2] <;> first | exact .inl ⟨rfl, by decide⟩ | exact .inr ⟨rfl, by decide⟩
theorem ef_0 (m : MethodId) (x0 : Int32) (x1 : Int32) (x2 : Int32) : entryFrame m #[(.int x0), (.int x1), (.int x2)] maxLocals = mkF m 0 #[.val (.int x0), .val (.int x1), .val (.int x2), .unset, .unset, .unset, .unset, .unset, .unset, .unset, .unset, .unset, .unset] [] := by first | (simp [entryFrame, mkF, argsToLocals, Value.category, maxLocals]; done) | rfl
theorem pd_0 : parseMethodDescriptor "(Ljava/lang/String;)V" = some ⟨[(.object "java/lang/String")], none⟩ := by decide +kernel
theorem pd_2 : parseMethodDescriptor "(I)V" = some ⟨[.int], none⟩ := by decide +kernel
theorem pd_4 : parseMethodDescriptor "(Lcom/example/knotwork/knotwork/core/Binding;Lcom/example/knotwork/knotwork/core/Item;IIIII)Z" = some ⟨[(.object "com/example/knotwork/knotwork/core/Binding"), (.object "com/example/knotwork/knotwork/core/Item"), .int, .int, .int, .int, .int], some .boolean⟩ := by decide +kernel
theorem pd_7 : parseMethodDescriptor "()I" = some ⟨[], some .int⟩ := by decide +kernel
theorem pd_3 : parseMethodDescriptor "(ILcom/example/knotwork/knotwork/core/Item;)V" = some ⟨[.int, (.object "com/example/knotwork/knotwork/core/Item")], none⟩ := by decide +kernel
set_option maxRecDepth 65536 in
set_option maxHeartbeats 40000000 in
theorem rm0 (l : Launch) (Z : State) (a0 : Array Value) (hw : ∀ d ∈ tables_1, d.before a0 Z = true) (ws : List Jvm.Cond) (i0 : Int32) (i1 : Int32) (i2 : Int32)  (h0 : Heap) (n0 : Nat) (Z0 : n0 ≤ h0.size) :
    MetFree l x (head1 (Jvm.Cond.code x code maxLocals ret :: ws) room_1) (fun a U => a = #[(.int i0), (.int i1), (.int i2)] ∧ Z.Warmed39 U.vm ∧ U.heap = h0) (fun _ _ _ _ _ => True) (fun _ U o U' => ∃ v L, o = .returned v ∧ QL n0 v U'.heap L ∧ ReturnedEndW U o U' L room_1.cells room_1.slots) := by
  refine MetFree.of_bodySF (plainFor_of_name pn_0) hisR ?_
  intro p e s m args below meth c s₁ Bd hml0 hP hK
  obtain ⟨rfl, hZ, hh⟩ := hP
  have hx := Bd.exec
  have hby := Bd.bytes
  have hml : c.maxLocals = 13 := hml0
  have hown : s.vm.findClass "com/example/knotwork/knotwork/core/BindingUndoPinLaw" = some m.cls := findClass_of_methodNamed Bd.named
  have hnm := (name_of_methodNamed Bd.named Bd.method).1
  have hret := Bd.returns
  have hlk : meth.locks = false := BodyLoose.notSynchronized Bd
  have X0 : Stand p l e room_1 s m #[(.int i0), (.int i1), (.int i2)] below meth c s₁ [] 0 0 := Stand.of_body Bd
  have e0 : s₁.heap = h0 := by rw [← hh, Bd.state]; rfl
  have N0 := Fr.nil n0
  show OutsW p e below s (QL n0) _ _ _
  refine OutsW.of (U' := s₁.setTop (mkF m 0 #[.val (.int i0), .val (.int i1), .val (.int i2), .unset, .unset, .unset, .unset, .unset, .unset, .unset, .unset, .unset, .unset] [])) (fun t k => castTop (ef_0 m i0 i1 i2) k) ?_
  refine OutsW.of (U' := s₁.setTop (mkF m 23 #[.val (.int i0), .val (.int i1), .val (.int i2), .val (.int (f0_v7 i0)), .val (.int (f0_v11 i0)), .unset, .unset, .unset, .unset, .unset, .unset, .unset, .unset] [(.int (f0_15_s0 i0))])) (fun t k => ?_) ?_
  · refine XS.iloadN X0.here hx rfl (hb hby at_0) rfl ?_
    refine X0.ldcInt hx hown (mvT hZ (hw _ (List.mem_of_getElem? (i := 0) rfl))) (g := (mkF m 1 #[.val (.int i0), .val (.int i1), .val (.int i2), .unset, .unset, .unset, .unset, .unset, .unset, .unset, .unset, .unset, .unset] [(.int i0)])) rfl (hb hby at_1) _ ?_
    refine XS.iand X0.here hx rfl (hb hby at_3) rfl ?_
    refine XS.bipush X0.here hx rfl (hb hby at_4) ?_
    refine iremM X0 hx rfl (hb hby at_6) rfl (by decide) ?_
    refine XS.istoreN X0.here hx rfl (hb hby at_7) rfl (l' := #[.val (.int i0), .val (.int i1), .val (.int i2), .val (.int (f0_v7 i0)), .unset, .unset, .unset, .unset, .unset, .unset, .unset, .unset, .unset]) rfl ?_
    refine XS.iloadN X0.here hx rfl (hb hby at_8) rfl ?_
    refine XS.iconst X0.here hx rfl (hb hby at_9) ?_
    refine XS.idiv X0.here hx rfl (hb hby at_10) rfl (by decide) ?_
    refine XS.istore X0.here hx rfl (hb hby at_11) rfl (l' := #[.val (.int i0), .val (.int i1), .val (.int i2), .val (.int (f0_v7 i0)), .val (.int (f0_v11 i0)), .unset, .unset, .unset, .unset, .unset, .unset, .unset, .unset]) rfl ?_
    refine XS.iload X0.here hx rfl (hb hby at_13) rfl ?_
    by_cases hc15 : (f0_v11 i0) = (0 : Int32)
    · refine XS.ifNo X0.here hx rfl (hb hby at_15) rfl ((if0 _ _).trans (teq hc15).2) ?_
      refine XS.iconst X0.here hx rfl (hb hby at_18) ?_
      refine XS.goto X0.here hx rfl (pc0 := 19) (pc' := 23) rfl (hb hby at_19) (by decide) (by decide) ?_
      rw [show (f0_15_s0 i0) = (1 : Int32) from (if_pos hc15)] at k
      exact k
    · refine XS.ifYes X0.here hx rfl (pc0 := 15) (pc' := 22) rfl (hb hby at_15) rfl ((if0 _ _).trans (feq hc15).2) (by decide) (by decide) ?_
      refine XS.iconst X0.here hx rfl (hb hby at_22) ?_
      rw [show (f0_15_s0 i0) = (0 : Int32) from (if_neg hc15)] at k
      exact k
  refine OutsW.of (U' := s₁.setTop (mkF m 36 #[.val (.int i0), .val (.int i1), .val (.int i2), .val (.int (f0_v7 i0)), .val (.int (f0_v11 i0)), .val (.int (f0_15_s0 i0)), .unset, .unset, .unset, .unset, .unset, .unset, .unset] [(.int (f0_28_s0 i0))])) (fun t k => ?_) ?_
  · refine XS.istore X0.here hx rfl (hb hby at_23) rfl (l' := #[.val (.int i0), .val (.int i1), .val (.int i2), .val (.int (f0_v7 i0)), .val (.int (f0_v11 i0)), .val (.int (f0_15_s0 i0)), .unset, .unset, .unset, .unset, .unset, .unset, .unset]) rfl ?_
    refine XS.iload X0.here hx rfl (hb hby at_25) rfl ?_
    refine XS.iconst X0.here hx rfl (hb hby at_27) ?_
    by_cases hc28 : (f0_v11 i0) = (2 : Int32)
    · refine XS.icmpNo X0.here hx rfl (hb hby at_28) rfl (teq hc28).2 ?_
      refine XS.iconst X0.here hx rfl (hb hby at_31) ?_
      refine XS.goto X0.here hx rfl (pc0 := 32) (pc' := 36) rfl (hb hby at_32) (by decide) (by decide) ?_
      rw [show (f0_28_s0 i0) = (1 : Int32) from (if_pos hc28)] at k
      exact k
    · refine XS.icmpYes X0.here hx rfl (pc0 := 28) (pc' := 35) rfl (hb hby at_28) rfl (feq hc28).2 (by decide) (by decide) ?_
      refine XS.iconst X0.here hx rfl (hb hby at_35) ?_
      rw [show (f0_28_s0 i0) = (2 : Int32) from (if_neg hc28)] at k
      exact k
  refine OutsW.of (U' := s₁.setTop (mkF m 51 #[.val (.int i0), .val (.int i1), .val (.int i2), .val (.int (f0_v7 i0)), .val (.int (f0_v11 i0)), .val (.int (f0_15_s0 i0)), .val (.int (f0_28_s0 i0)), .unset, .unset, .unset, .unset, .unset, .unset] [(.int (f0_41_s0 i0))])) (fun t k => ?_) ?_
  · refine XS.istore X0.here hx rfl (hb hby at_36) rfl (l' := #[.val (.int i0), .val (.int i1), .val (.int i2), .val (.int (f0_v7 i0)), .val (.int (f0_v11 i0)), .val (.int (f0_15_s0 i0)), .val (.int (f0_28_s0 i0)), .unset, .unset, .unset, .unset, .unset, .unset]) rfl ?_
    refine XS.iloadN X0.here hx rfl (hb hby at_38) rfl ?_
    refine XS.iconst X0.here hx rfl (hb hby at_39) ?_
    refine iremM X0 hx rfl (hb hby at_40) rfl (by decide) ?_
    by_cases hc41 : ((f0_v7 i0) % (2 : Int32)) = (0 : Int32)
    · refine XS.ifNo X0.here hx rfl (hb hby at_41) rfl ((if0 _ _).trans (teq hc41).2) ?_
      refine XS.iload X0.here hx rfl (hb hby at_44) rfl ?_
      refine XS.goto X0.here hx rfl (pc0 := 46) (pc' := 51) rfl (hb hby at_46) (by decide) (by decide) ?_
      rw [show (f0_41_s0 i0) = (f0_15_s0 i0) from (if_pos hc41)] at k
      exact k
    · refine XS.ifYes X0.here hx rfl (pc0 := 41) (pc' := 49) rfl (hb hby at_41) rfl ((if0 _ _).trans (feq hc41).2) (by decide) (by decide) ?_
      refine XS.iload X0.here hx rfl (hb hby at_49) rfl ?_
      rw [show (f0_41_s0 i0) = (f0_28_s0 i0) from (if_neg hc41)] at k
      exact k
  refine OutsW.of (U' := s₁.setTop (mkF m 81 #[.val (.int i0), .val (.int i1), .val (.int i2), .val (.int (f0_v7 i0)), .val (.int (f0_v11 i0)), .val (.int (f0_15_s0 i0)), .val (.int (f0_28_s0 i0)), .val (.int (f0_41_s0 i0)), .val (.int (f0_v60 i0)), .val (.int (f0_v68 i1)), .val (.int (f0_v79 i1 i2)), .unset, .unset] [])) (fun t k => ?_) ?_
  · refine XS.istore X0.here hx rfl (hb hby at_51) rfl (l' := #[.val (.int i0), .val (.int i1), .val (.int i2), .val (.int (f0_v7 i0)), .val (.int (f0_v11 i0)), .val (.int (f0_15_s0 i0)), .val (.int (f0_28_s0 i0)), .val (.int (f0_41_s0 i0)), .unset, .unset, .unset, .unset, .unset]) rfl ?_
    refine XS.iconst X0.here hx rfl (hb hby at_53) ?_
    refine XS.iload X0.here hx rfl (hb hby at_54) rfl ?_
    refine XS.isub X0.here hx rfl (hb hby at_56) rfl ?_
    refine XS.iload X0.here hx rfl (hb hby at_57) rfl ?_
    refine XS.isub X0.here hx rfl (hb hby at_59) rfl ?_
    refine XS.istore X0.here hx rfl (hb hby at_60) rfl (l' := #[.val (.int i0), .val (.int i1), .val (.int i2), .val (.int (f0_v7 i0)), .val (.int (f0_v11 i0)), .val (.int (f0_15_s0 i0)), .val (.int (f0_28_s0 i0)), .val (.int (f0_41_s0 i0)), .val (.int (f0_v60 i0)), .unset, .unset, .unset, .unset]) rfl ?_
    refine XS.iloadN X0.here hx rfl (hb hby at_62) rfl ?_
    refine X0.ldcInt hx hown (mvT hZ (hw _ (List.mem_of_getElem? (i := 0) rfl))) (g := (mkF m 63 #[.val (.int i0), .val (.int i1), .val (.int i2), .val (.int (f0_v7 i0)), .val (.int (f0_v11 i0)), .val (.int (f0_15_s0 i0)), .val (.int (f0_28_s0 i0)), .val (.int (f0_41_s0 i0)), .val (.int (f0_v60 i0)), .unset, .unset, .unset, .unset] [(.int i1)])) rfl (hb hby at_63) _ ?_
    refine XS.iand X0.here hx rfl (hb hby at_65) rfl ?_
    refine XS.iconst X0.here hx rfl (hb hby at_66) ?_
    refine iremM X0 hx rfl (hb hby at_67) rfl (by decide) ?_
    refine XS.istore X0.here hx rfl (hb hby at_68) rfl (l' := #[.val (.int i0), .val (.int i1), .val (.int i2), .val (.int (f0_v7 i0)), .val (.int (f0_v11 i0)), .val (.int (f0_15_s0 i0)), .val (.int (f0_28_s0 i0)), .val (.int (f0_41_s0 i0)), .val (.int (f0_v60 i0)), .val (.int (f0_v68 i1)), .unset, .unset, .unset]) rfl ?_
    refine XS.iloadN X0.here hx rfl (hb hby at_70) rfl ?_
    refine X0.ldcInt hx hown (mvT hZ (hw _ (List.mem_of_getElem? (i := 0) rfl))) (g := (mkF m 71 #[.val (.int i0), .val (.int i1), .val (.int i2), .val (.int (f0_v7 i0)), .val (.int (f0_v11 i0)), .val (.int (f0_15_s0 i0)), .val (.int (f0_28_s0 i0)), .val (.int (f0_41_s0 i0)), .val (.int (f0_v60 i0)), .val (.int (f0_v68 i1)), .unset, .unset, .unset] [(.int i2)])) rfl (hb hby at_71) _ ?_
    refine XS.iand X0.here hx rfl (hb hby at_73) rfl ?_
    refine XS.iload X0.here hx rfl (hb hby at_74) rfl ?_
    refine XS.iconst X0.here hx rfl (hb hby at_76) ?_
    refine XS.iadd X0.here hx rfl (hb hby at_77) rfl ?_
    refine iremM X0 hx rfl (hb hby at_78) rfl (law_nz i1) ?_
    refine XS.istore X0.here hx rfl (hb hby at_79) rfl (l' := #[.val (.int i0), .val (.int i1), .val (.int i2), .val (.int (f0_v7 i0)), .val (.int (f0_v11 i0)), .val (.int (f0_15_s0 i0)), .val (.int (f0_28_s0 i0)), .val (.int (f0_41_s0 i0)), .val (.int (f0_v60 i0)), .val (.int (f0_v68 i1)), .val (.int (f0_v79 i1 i2)), .unset, .unset]) rfl ?_
    exact k
  obtain ⟨T1, h1, X1, e1, E1, A1, D1, -, st1⟩ := newO X0 hx hZ hown (hw _ (List.mem_of_getElem? (i := 1) rfl)) (hw _ (List.mem_of_getElem? (i := 2) rfl)) (hw _ (List.mem_of_getElem? (i := 3) rfl)) e0 (g := (mkF m 81 #[.val (.int i0), .val (.int i1), .val (.int i2), .val (.int (f0_v7 i0)), .val (.int (f0_v11 i0)), .val (.int (f0_15_s0 i0)), .val (.int (f0_28_s0 i0)), .val (.int (f0_41_s0 i0)), .val (.int (f0_v60 i0)), .val (.int (f0_v68 i1)), .val (.int (f0_v79 i1 i2)), .unset, .unset] [])) rfl (hb hby at_81) (by decide) (by decide)
  obtain ⟨b1, g1⟩ : ∃ z, z = h0.size := ⟨_, rfl⟩
  rw [← g1] at A1 D1 st1
  have g_b1 : n0 ≤ b1 := Nat.le_trans Z0 (Nat.le_of_eq g1.symm)
  have F1_24 : Fld Z h1 b1 "com/example/knotwork/knotwork/core/Sym" "name" "Ljava/lang/String;" .null := D1 (Or.inr (hw _ (List.mem_of_getElem? (i := 24) rfl))) (ty := (.object "java/lang/String")) (by decide)
  refine OutsW.of st1 ?_
  refine OutsW.of (U' := T1.setTop (mkF m 85 #[.val (.int i0), .val (.int i1), .val (.int i2), .val (.int (f0_v7 i0)), .val (.int (f0_v11 i0)), .val (.int (f0_15_s0 i0)), .val (.int (f0_28_s0 i0)), .val (.int (f0_41_s0 i0)), .val (.int (f0_v60 i0)), .val (.int (f0_v68 i1)), .val (.int (f0_v79 i1 i2)), .unset, .unset] [(.ref b1), (.ref b1)])) (fun t k => ?_) ?_
  · refine XS.dup X1.here hx rfl (hb hby at_84) rfl rfl ?_
    exact k
  obtain ⟨a2, T2, h2, k2, X2, e2, E2, S2, z2, hZ, hown, st2⟩ := ldcS (s := s) (vm0 := s.vm) X1 hx hZ hown (hw _ (List.mem_of_getElem? (i := 4) rfl)) (fun d hd => hw d (own_str d hd)) e1 (k0 := 0) ((State.WarmedH.refl s).since 0) (Nat.zero_le _) (g := (mkF m 85 #[.val (.int i0), .val (.int i1), .val (.int i2), .val (.int (f0_v7 i0)), .val (.int (f0_v11 i0)), .val (.int (f0_15_s0 i0)), .val (.int (f0_28_s0 i0)), .val (.int (f0_41_s0 i0)), .val (.int (f0_v60 i0)), .val (.int (f0_v68 i1)), .val (.int (f0_v79 i1 i2)), .unset, .unset] [(.ref b1), (.ref b1)])) rfl (hb hby at_85) (n := 4) (by decide) (by decide) (by decide) (by decide)
  refine OutsW.of st2 ?_
  refine OutsW.fr S2 ?_
  obtain ⟨Lh2, X2, N2⟩ := hide X2 N0 (C := 3) (S := 9) (by decide) (by decide)
  have f4 : Exa Z h2 b1 "com/example/knotwork/knotwork/core/Sym" := (A1.ext E2)
  have f5 : Fld Z h2 b1 "com/example/knotwork/knotwork/core/Sym" "name" "Ljava/lang/String;" .null := (F1_24.ext E2)
  obtain ⟨_, _, ⟨T3, L3, k3, n3⟩, -, X3, ⟨Lc3, hQ3, l3, y3, z3⟩, st3⟩ := X2.specialBack hx (y := (⟨"com/example/knotwork/knotwork/core/Sym", "<init>", "(Ljava/lang/String;)V"⟩ : MethodName)) rfl hown (mvT hZ (hw _ (List.mem_of_getElem? (i := 12) rfl))) (mvT hZ (hw _ (List.mem_of_getElem? (i := 13) rfl))) (mvT hZ (hw _ (List.mem_of_getElem? (i := 14) rfl))) (by decide) (backOf (W := 1) (rm1 l Z a0 hw [] b1 a2 h2 n0 f4 g_b1 f5) hZ (hw _ (List.mem_of_getElem? (i := 14) rfl)) (hw _ (List.mem_of_getElem? (i := 3) rfl)) (by decide) (by decide)) (g := (mkF m 87 #[.val (.int i0), .val (.int i1), .val (.int i2), .val (.int (f0_v7 i0)), .val (.int (f0_v11 i0)), .val (.int (f0_15_s0 i0)), .val (.int (f0_28_s0 i0)), .val (.int (f0_41_s0 i0)), .val (.int (f0_v60 i0)), .val (.int (f0_v68 i1)), .val (.int (f0_v79 i1 i2)), .unset, .unset] [(.ref a2), (.ref b1), (.ref b1)])) rfl (by rw [hml]; rfl) (Steps.refl _) (a := b1) (argsL := [(.ref a2)]) (rest := [(.ref b1)]) (lenOf pd_0 rfl) rfl (by show 2 * 0 + _ ≤ _; exact Nat.le_of_eq rfl) (hb hby at_87) (fun _ _ => ⟨rfl, e2, (by decide : 3 + 0 ≤ _), (by decide : 9 + 0 ≤ _)⟩)
  dsimp only [Pt.U, Pt.locs, Pt.cells, Pt.slots] at X3 l3 y3 z3 st3 hQ3
  subst l3 y3 z3
  obtain ⟨rfl, N3q, K3, u3_0⟩ := hQ3
  have N3 := Fr.app N2 N3q
  obtain ⟨Lh3, X3, N3⟩ := hide X3 N3 (C := 3) (S := 9) (by decide) (by decide)
  refine Outs.to st3 ?_
  refine Outs.of (U' := T3.setTop (mkF m 92 #[.val (.int i0), .val (.int i1), .val (.int i2), .val (.int (f0_v7 i0)), .val (.int (f0_v11 i0)), .val (.int (f0_15_s0 i0)), .val (.int (f0_28_s0 i0)), .val (.int (f0_41_s0 i0)), .val (.int (f0_v60 i0)), .val (.int (f0_v68 i1)), .val (.int (f0_v79 i1 i2)), .val (.ref b1), .unset] [])) (fun t k => ?_) ?_
  · refine XS.astore X3.here hx rfl (hb hby at_90) rfl rfl (l' := #[.val (.int i0), .val (.int i1), .val (.int i2), .val (.int (f0_v7 i0)), .val (.int (f0_v11 i0)), .val (.int (f0_15_s0 i0)), .val (.int (f0_28_s0 i0)), .val (.int (f0_41_s0 i0)), .val (.int (f0_v60 i0)), .val (.int (f0_v68 i1)), .val (.int (f0_v79 i1 i2)), .val (.ref b1), .unset]) rfl ?_
    exact k
  obtain ⟨T6, h6, X6, e6, E6, A6, D6, -, st6⟩ := newO X3 hx hZ hown (hw _ (List.mem_of_getElem? (i := 25) rfl)) (hw _ (List.mem_of_getElem? (i := 26) rfl)) (hw _ (List.mem_of_getElem? (i := 27) rfl)) rfl (g := (mkF m 92 #[.val (.int i0), .val (.int i1), .val (.int i2), .val (.int (f0_v7 i0)), .val (.int (f0_v11 i0)), .val (.int (f0_15_s0 i0)), .val (.int (f0_28_s0 i0)), .val (.int (f0_41_s0 i0)), .val (.int (f0_v60 i0)), .val (.int (f0_v68 i1)), .val (.int (f0_v79 i1 i2)), .val (.ref b1), .unset] [])) rfl (hb hby at_92) (by decide) (by decide)
  obtain ⟨b6, g6⟩ : ∃ z, z = T3.heap.size := ⟨_, rfl⟩
  rw [← g6] at A6 D6 st6
  have g_b6 : n0 ≤ b6 := Nat.le_trans (Nat.le_trans (Nat.le_trans (Nat.le_trans Z0 E1.1) E2.1) K3.1) (Nat.le_of_eq g6.symm)
  have ne_b1_b6 : b1 ≠ b6 := Nat.ne_of_lt (Nat.lt_of_lt_of_eq u3_0.lt g6.symm)
  have F6_35 : Fld Z h6 b6 "com/example/knotwork/knotwork/core/Binding" "values" "[Lcom/example/knotwork/knotwork/core/Item;" .null := D6 (Or.inr (hw _ (List.mem_of_getElem? (i := 35) rfl))) (ty := (.array (.object "com/example/knotwork/knotwork/core/Item"))) (by decide)
  have F6_38 : Fld Z h6 b6 "com/example/knotwork/knotwork/core/Binding" "trail" "[I" .null := D6 (Or.inr (hw _ (List.mem_of_getElem? (i := 38) rfl))) (ty := (.array .int)) (by decide)
  have F6_46 : Fld Z h6 b6 "com/example/knotwork/knotwork/core/Binding" "bound" "I" (.int (0 : Int32)) := D6 (Or.inl (hw _ (List.mem_of_getElem? (i := 46) rfl))) (ty := .int) (by decide)
  refine Outs.of st6 ?_
  refine Outs.of (U' := T6.setTop (mkF m 97 #[.val (.int i0), .val (.int i1), .val (.int i2), .val (.int (f0_v7 i0)), .val (.int (f0_v11 i0)), .val (.int (f0_15_s0 i0)), .val (.int (f0_28_s0 i0)), .val (.int (f0_41_s0 i0)), .val (.int (f0_v60 i0)), .val (.int (f0_v68 i1)), .val (.int (f0_v79 i1 i2)), .val (.ref b1), .unset] [(.int (3 : Int32)), (.ref b6), (.ref b6)])) (fun t k => ?_) ?_
  · refine XS.dup X6.here hx rfl (hb hby at_95) rfl rfl ?_
    refine XS.iconst X6.here hx rfl (hb hby at_96) ?_
    exact k
  have f8 : Exa Z h6 b1 "com/example/knotwork/knotwork/core/Sym" := (u3_0.ext E6)
  obtain ⟨_, _, ⟨T7, L7, k7, n7⟩, -, X7, ⟨Lc7, hQ7, l7, y7, z7⟩, st7⟩ := X6.specialBack hx (y := (⟨"com/example/knotwork/knotwork/core/Binding", "<init>", "(I)V"⟩ : MethodName)) rfl hown (mvT hZ (hw _ (List.mem_of_getElem? (i := 28) rfl))) (mvT hZ (hw _ (List.mem_of_getElem? (i := 29) rfl))) (mvT hZ (hw _ (List.mem_of_getElem? (i := 30) rfl))) (by decide) (backOf (W := 1) (rmbi l Z a0 hw [] b6 h6 n0 (Nat.le_trans (Nat.le_trans (Nat.le_trans (Nat.le_trans Z0 E1.1) E2.1) K3.1) E6.1) A6 g_b6 F6_35 F6_38 F6_46) hZ (hw _ (List.mem_of_getElem? (i := 30) rfl)) (hw _ (List.mem_of_getElem? (i := 27) rfl)) (by decide) (by decide)) (g := (mkF m 97 #[.val (.int i0), .val (.int i1), .val (.int i2), .val (.int (f0_v7 i0)), .val (.int (f0_v11 i0)), .val (.int (f0_15_s0 i0)), .val (.int (f0_28_s0 i0)), .val (.int (f0_41_s0 i0)), .val (.int (f0_v60 i0)), .val (.int (f0_v68 i1)), .val (.int (f0_v79 i1 i2)), .val (.ref b1), .unset] [(.int (3 : Int32)), (.ref b6), (.ref b6)])) rfl (by rw [hml]; rfl) (Steps.refl _) (a := b6) (argsL := [(.int (3 : Int32))]) (rest := [(.ref b6)]) (lenOf pd_2 rfl) rfl (by show 2 * 0 + _ ≤ _; exact Nat.le_of_eq rfl) (hb hby at_97) (fun _ _ => ⟨rfl, e6, (by decide : 4 + 2 ≤ _), (by decide : 12 + 6 ≤ _)⟩)
  dsimp only [Pt.U, Pt.locs, Pt.cells, Pt.slots] at X7 l7 y7 z7 st7 hQ7
  subst l7 y7 z7
  obtain ⟨b7, g_b7, hs_b7, b7x1, g_b7x1, hs_b7x1, rfl, N7q, K7, u7_0, u7_1, u7_2, u7_3, u7_4, u7_5, u7_6⟩ := hQ7
  have N7 := Fr.app N3 N7q
  have ne_b1_b7 : b1 ≠ b7 := Nat.ne_of_lt (Nat.lt_of_lt_of_le f8.lt hs_b7)
  have ne_b6_b7 : b6 ≠ b7 := Nat.ne_of_lt (Nat.lt_of_lt_of_le A6.lt hs_b7)
  have ne_b1_b7x1 : b1 ≠ b7x1 := Nat.ne_of_lt (Nat.lt_of_lt_of_le f8.lt hs_b7x1)
  have ne_b6_b7x1 : b6 ≠ b7x1 := Nat.ne_of_lt (Nat.lt_of_lt_of_le A6.lt hs_b7x1)
  obtain ⟨Lh7, X7, N7⟩ := hide X7 N7 (C := 6) (S := 18) (by decide) (by decide)
  refine Outs.to st7 ?_
  refine Outs.of (U' := T7.setTop (mkF m 102 #[.val (.int i0), .val (.int i1), .val (.int i2), .val (.int (f0_v7 i0)), .val (.int (f0_v11 i0)), .val (.int (f0_15_s0 i0)), .val (.int (f0_28_s0 i0)), .val (.int (f0_41_s0 i0)), .val (.int (f0_v60 i0)), .val (.int (f0_v68 i1)), .val (.int (f0_v79 i1 i2)), .val (.ref b1), .val (.ref b6)] [])) (fun t k => ?_) ?_
  · refine XS.astore X7.here hx rfl (hb hby at_100) rfl rfl (l' := #[.val (.int i0), .val (.int i1), .val (.int i2), .val (.int (f0_v7 i0)), .val (.int (f0_v11 i0)), .val (.int (f0_15_s0 i0)), .val (.int (f0_28_s0 i0)), .val (.int (f0_41_s0 i0)), .val (.int (f0_v60 i0)), .val (.int (f0_v68 i1)), .val (.int (f0_v79 i1 i2)), .val (.ref b1), .val (.ref b6)]) rfl ?_
    exact k
  rcases own_nm i1 i2 with ⟨q9, q10⟩ | ⟨q9, q10⟩ | ⟨q9, q10⟩ | ⟨q9, q10⟩ | ⟨q9, q10⟩ | ⟨q9, q10⟩ | ⟨q9, q10⟩ | ⟨q9, q10⟩ | ⟨q9, q10⟩ | ⟨q9, q10⟩
  · rw [q9, q10]
    show Outs p e below _ _ _ _ (T7.setTop (mkF m 102 #[.val (.int i0), .val (.int i1), .val (.int i2), .val (.int (f0_v7 i0)), .val (.int (f0_v11 i0)), .val (.int (f0_15_s0 i0)), .val (.int (f0_28_s0 i0)), .val (.int (f0_41_s0 i0)), .val (.int (f0_v60 i0)), .val (.int (0 : Int32)), .val (.int (0 : Int32)), .val (.ref b1), .val (.ref b6)] []))
    refine Outs.of (U' := T7.setTop (mkF m 150 #[.val (.int i0), .val (.int i1), .val (.int i2), .val (.int (f0_v7 i0)), .val (.int (f0_v11 i0)), .val (.int (f0_15_s0 i0)), .val (.int (f0_28_s0 i0)), .val (.int (f0_41_s0 i0)), .val (.int (f0_v60 i0)), .val (.int (0 : Int32)), .val (.int (0 : Int32)), .val (.ref b1), .val (.ref b6)] [(.int (0 : Int32)), (.ref b6)])) (fun t k => ?_) ?_
    · refine XS.iload X7.here hx rfl (hb hby at_102) rfl ?_
      refine XS.ifYes X7.here hx rfl (pc0 := 104) (pc' := 116) rfl (hb hby at_104) rfl ((if0 _ _).trans (flt (show ¬ ((0 : Int32) < (0 : Int32)) from (by decide))).2.2.2) (by decide) (by decide) ?_
      refine XS.iload X7.here hx rfl (hb hby at_116) rfl ?_
      refine XS.iconst X7.here hx rfl (hb hby at_118) ?_
      refine XS.icmpYes X7.here hx rfl (pc0 := 119) (pc' := 131) rfl (hb hby at_119) rfl (flt (show ¬ ((1 : Int32) < (0 : Int32)) from (by decide))).2.2.2 (by decide) (by decide) ?_
      refine XS.iload X7.here hx rfl (hb hby at_131) rfl ?_
      refine XS.iconst X7.here hx rfl (hb hby at_133) ?_
      refine XS.icmpYes X7.here hx rfl (pc0 := 134) (pc' := 146) rfl (hb hby at_134) rfl (flt (show ¬ ((2 : Int32) < (0 : Int32)) from (by decide))).2.2.2 (by decide) (by decide) ?_
      refine XS.aload X7.here hx rfl (hb hby at_146) rfl rfl ?_
      refine XS.iload X7.here hx rfl (hb hby at_148) rfl ?_
      exact k
    have ne_b7_b7x1 : b7 ≠ b7x1 := AF.neT u7_4 u7_6 (by decide)
    obtain ⟨cq9, kq9, q9a, q9b, q9c⟩ := isOf hZ rfl u7_0
    obtain ⟨_, _, ⟨T9, L9, k9, n9⟩, -, X9, ⟨Lc9, hQ9, l9, y9, z9⟩, st9⟩ := X7.virtualBack hx (y := (⟨"com/example/knotwork/knotwork/core/Binding", "undo", "(I)V"⟩ : MethodName)) (z := (⟨"com/example/knotwork/knotwork/core/Binding", "undo", "(I)V"⟩ : MethodName)) hown (mvT hZ (hw _ (List.mem_of_getElem? (i := 47) rfl))) (mvT hZ (hw _ (List.mem_of_getElem? (i := 48) rfl))) (notFace_of_selects (args := #[]) (mvT hZ (hw _ (List.mem_of_getElem? (i := 50) rfl)))) (mvT hZ (hw _ (List.mem_of_getElem? (i := 50) rfl))) (mvT hZ (hw _ (List.mem_of_getElem? (i := 49) rfl))) (by decide) (backOf (W := 0) (rmun00 l Z a0 hw [] b6 b7 b7x1 (fun _ => Value.null) (fun _ => (0 : Int32)) T7.heap n0 u7_0 g_b6 g_b7 g_b7x1 ne_b6_b7 ne_b6_b7x1 ne_b7_b7x1 u7_1 u7_2 u7_3 u7_4 u7_5 u7_6) hZ (hw _ (List.mem_of_getElem? (i := 51) rfl)) (hw _ (List.mem_of_getElem? (i := 27) rfl)) (by decide) (by decide)) q9a q9c (g := (mkF m 150 #[.val (.int i0), .val (.int i1), .val (.int i2), .val (.int (f0_v7 i0)), .val (.int (f0_v11 i0)), .val (.int (f0_15_s0 i0)), .val (.int (f0_28_s0 i0)), .val (.int (f0_41_s0 i0)), .val (.int (f0_v60 i0)), .val (.int (0 : Int32)), .val (.int (0 : Int32)), .val (.ref b1), .val (.ref b6)] [(.int (0 : Int32)), (.ref b6)])) rfl (by rw [hml]; rfl) (Steps.refl _) (argsL := [(.int (0 : Int32))]) (rest := []) (lenOf pd_2 rfl) rfl (by show 2 * 0 + _ ≤ _; exact Nat.le_of_eq rfl) (hb hby at_150) (fun _ _ => ⟨rfl, rfl, (by decide : 6 + 0 ≤ _), (by decide : 18 + 0 ≤ _)⟩)
    dsimp only [Pt.U, Pt.locs, Pt.cells, Pt.slots] at X9 l9 y9 z9 st9 hQ9
    subst l9 y9 z9
    obtain ⟨rfl, N9q, K9, u9_0, u9_1, u9_2, u9_3, u9_4, u9_5, u9_6⟩ := hQ9
    have N9 := Fr.app N7 N9q
    obtain ⟨Lh9, X9, N9⟩ := hide X9 N9 (C := 6) (S := 18) (by decide) (by decide)
    refine Outs.to st9 ?_
    refine Outs.of (U' := T9.setTop (mkF m 166 #[.val (.int i0), .val (.int i1), .val (.int i2), .val (.int (f0_v7 i0)), .val (.int (f0_v11 i0)), .val (.int (f0_15_s0 i0)), .val (.int (f0_28_s0 i0)), .val (.int (f0_41_s0 i0)), .val (.int (f0_v60 i0)), .val (.int (0 : Int32)), .val (.int (0 : Int32)), .val (.ref b1), .val (.ref b6)] [(.int (f0_v60 i0)), (.int (f0_41_s0 i0)), (.int (f0_v11 i0)), (.int (0 : Int32)), (.int (0 : Int32)), (.ref b1), (.ref b6)])) (fun t k => ?_) ?_
    · refine XS.aload X9.here hx rfl (hb hby at_153) rfl rfl ?_
      refine XS.aload X9.here hx rfl (hb hby at_155) rfl rfl ?_
      refine XS.iconst X9.here hx rfl (hb hby at_157) ?_
      refine XS.iload X9.here hx rfl (hb hby at_158) rfl ?_
      refine XS.iload X9.here hx rfl (hb hby at_160) rfl ?_
      refine XS.iload X9.here hx rfl (hb hby at_162) rfl ?_
      refine XS.iload X9.here hx rfl (hb hby at_164) rfl ?_
      exact k
    obtain ⟨_, _, ⟨T10, L10, k10, n10⟩, -, X10, ⟨Lc10, hQ10, l10, y10, z10⟩, st10⟩ := Jvm.LawKit.callS X9 hx (y := (⟨"com/example/knotwork/knotwork/core/BindingUndoPinLaw", "slotOk", "(Lcom/example/knotwork/knotwork/core/Binding;Lcom/example/knotwork/knotwork/core/Item;IIIII)Z"⟩ : MethodName)) hown (mvT hZ (hw _ (List.mem_of_getElem? (i := 52) rfl))) (mvT hZ (hw _ (List.mem_of_getElem? (i := 53) rfl))) (mvT hZ (hw _ (List.mem_of_getElem? (i := 54) rfl))) (mvT hZ (hw _ (List.mem_of_getElem? (i := 55) rfl))) (by decide) (backOf (W := 0) (rmso l Z a0 hw [] b6 b1 (0 : Int32) (0 : Int32) (f0_v11 i0) (f0_41_s0 i0) (f0_v60 i0) b7 (fun _ => Value.null) 0 T9.heap n0 u9_0 u9_1 u9_4 rfl (by decide) (law_d000 i0 b1)) hZ (hw _ (List.mem_of_getElem? (i := 55) rfl)) (hw _ (List.mem_of_getElem? (i := 54) rfl)) (by decide) (by decide)) (g := (mkF m 166 #[.val (.int i0), .val (.int i1), .val (.int i2), .val (.int (f0_v7 i0)), .val (.int (f0_v11 i0)), .val (.int (f0_15_s0 i0)), .val (.int (f0_28_s0 i0)), .val (.int (f0_41_s0 i0)), .val (.int (f0_v60 i0)), .val (.int (0 : Int32)), .val (.int (0 : Int32)), .val (.ref b1), .val (.ref b6)] [(.int (f0_v60 i0)), (.int (f0_41_s0 i0)), (.int (f0_v11 i0)), (.int (0 : Int32)), (.int (0 : Int32)), (.ref b1), (.ref b6)])) rfl (by rw [hml]; rfl) (argsL := [(.ref b6), (.ref b1), (.int (0 : Int32)), (.int (0 : Int32)), (.int (f0_v11 i0)), (.int (f0_41_s0 i0)), (.int (f0_v60 i0))]) (rest := []) (lenOf pd_4 rfl) rfl (by show 2 * 0 + _ ≤ _; exact Nat.le_of_eq rfl) (hb hby at_166) (fun _ _ => ⟨rfl, rfl, (by decide : 6 + 0 ≤ _), (by decide : 18 + 0 ≤ _)⟩)
    dsimp only [Pt.U, Pt.locs, Pt.cells, Pt.slots] at X10 l10 y10 z10 st10 hQ10
    subst l10 y10 z10
    obtain ⟨rfl, N10q, e10⟩ := hQ10
    have N10 := Fr.app N9 N10q
    obtain ⟨Lh10, X10, N10⟩ := hide X10 N10 (C := 6) (S := 18) (by decide) (by decide)
    refine Outs.of st10 ?_
    refine Outs.of (U' := T10.setTop (mkF m 185 #[.val (.int i0), .val (.int i1), .val (.int i2), .val (.int (f0_v7 i0)), .val (.int (f0_v11 i0)), .val (.int (f0_15_s0 i0)), .val (.int (f0_28_s0 i0)), .val (.int (f0_41_s0 i0)), .val (.int (f0_v60 i0)), .val (.int (0 : Int32)), .val (.int (0 : Int32)), .val (.ref b1), .val (.ref b6)] [(.int (f0_v60 i0)), (.int (f0_41_s0 i0)), (.int (f0_v11 i0)), (.int (0 : Int32)), (.int (1 : Int32)), (.ref b1), (.ref b6)])) (fun t k => ?_) ?_
    · refine XS.ifNo X10.here hx rfl (hb hby at_169) rfl ((if0 _ _).trans (feq (show ¬ ((1 : Int32) = (0 : Int32)) from (by decide))).1) ?_
      refine XS.aload X10.here hx rfl (hb hby at_172) rfl rfl ?_
      refine XS.aload X10.here hx rfl (hb hby at_174) rfl rfl ?_
      refine XS.iconst X10.here hx rfl (hb hby at_176) ?_
      refine XS.iload X10.here hx rfl (hb hby at_177) rfl ?_
      refine XS.iload X10.here hx rfl (hb hby at_179) rfl ?_
      refine XS.iload X10.here hx rfl (hb hby at_181) rfl ?_
      refine XS.iload X10.here hx rfl (hb hby at_183) rfl ?_
      exact k
    obtain ⟨_, _, ⟨T11, L11, k11, n11⟩, -, X11, ⟨Lc11, hQ11, l11, y11, z11⟩, st11⟩ := Jvm.LawKit.callS X10 hx (y := (⟨"com/example/knotwork/knotwork/core/BindingUndoPinLaw", "slotOk", "(Lcom/example/knotwork/knotwork/core/Binding;Lcom/example/knotwork/knotwork/core/Item;IIIII)Z"⟩ : MethodName)) hown (mvT hZ (hw _ (List.mem_of_getElem? (i := 52) rfl))) (mvT hZ (hw _ (List.mem_of_getElem? (i := 53) rfl))) (mvT hZ (hw _ (List.mem_of_getElem? (i := 54) rfl))) (mvT hZ (hw _ (List.mem_of_getElem? (i := 55) rfl))) (by decide) (backOf (W := 0) (rmso l Z a0 hw [] b6 b1 (1 : Int32) (0 : Int32) (f0_v11 i0) (f0_41_s0 i0) (f0_v60 i0) b7 (fun _ => Value.null) 1 T9.heap n0 u9_0 u9_1 u9_4 rfl (by decide) (law_d001 i0 b1)) hZ (hw _ (List.mem_of_getElem? (i := 55) rfl)) (hw _ (List.mem_of_getElem? (i := 54) rfl)) (by decide) (by decide)) (g := (mkF m 185 #[.val (.int i0), .val (.int i1), .val (.int i2), .val (.int (f0_v7 i0)), .val (.int (f0_v11 i0)), .val (.int (f0_15_s0 i0)), .val (.int (f0_28_s0 i0)), .val (.int (f0_41_s0 i0)), .val (.int (f0_v60 i0)), .val (.int (0 : Int32)), .val (.int (0 : Int32)), .val (.ref b1), .val (.ref b6)] [(.int (f0_v60 i0)), (.int (f0_41_s0 i0)), (.int (f0_v11 i0)), (.int (0 : Int32)), (.int (1 : Int32)), (.ref b1), (.ref b6)])) rfl (by rw [hml]; rfl) (argsL := [(.ref b6), (.ref b1), (.int (1 : Int32)), (.int (0 : Int32)), (.int (f0_v11 i0)), (.int (f0_41_s0 i0)), (.int (f0_v60 i0))]) (rest := []) (lenOf pd_4 rfl) rfl (by show 2 * 0 + _ ≤ _; exact Nat.le_of_eq rfl) (hb hby at_185) (fun _ _ => ⟨rfl, e10, (by decide : 6 + 0 ≤ _), (by decide : 18 + 0 ≤ _)⟩)
    dsimp only [Pt.U, Pt.locs, Pt.cells, Pt.slots] at X11 l11 y11 z11 st11 hQ11
    subst l11 y11 z11
    obtain ⟨rfl, N11q, e11⟩ := hQ11
    have N11 := Fr.app N10 N11q
    obtain ⟨Lh11, X11, N11⟩ := hide X11 N11 (C := 6) (S := 18) (by decide) (by decide)
    refine Outs.of st11 ?_
    refine Outs.of (U' := T11.setTop (mkF m 204 #[.val (.int i0), .val (.int i1), .val (.int i2), .val (.int (f0_v7 i0)), .val (.int (f0_v11 i0)), .val (.int (f0_15_s0 i0)), .val (.int (f0_28_s0 i0)), .val (.int (f0_41_s0 i0)), .val (.int (f0_v60 i0)), .val (.int (0 : Int32)), .val (.int (0 : Int32)), .val (.ref b1), .val (.ref b6)] [(.int (f0_v60 i0)), (.int (f0_41_s0 i0)), (.int (f0_v11 i0)), (.int (0 : Int32)), (.int (2 : Int32)), (.ref b1), (.ref b6)])) (fun t k => ?_) ?_
    · refine XS.ifNo X11.here hx rfl (hb hby at_188) rfl ((if0 _ _).trans (feq (show ¬ ((1 : Int32) = (0 : Int32)) from (by decide))).1) ?_
      refine XS.aload X11.here hx rfl (hb hby at_191) rfl rfl ?_
      refine XS.aload X11.here hx rfl (hb hby at_193) rfl rfl ?_
      refine XS.iconst X11.here hx rfl (hb hby at_195) ?_
      refine XS.iload X11.here hx rfl (hb hby at_196) rfl ?_
      refine XS.iload X11.here hx rfl (hb hby at_198) rfl ?_
      refine XS.iload X11.here hx rfl (hb hby at_200) rfl ?_
      refine XS.iload X11.here hx rfl (hb hby at_202) rfl ?_
      exact k
    obtain ⟨_, _, ⟨T12, L12, k12, n12⟩, -, X12, ⟨Lc12, hQ12, l12, y12, z12⟩, st12⟩ := Jvm.LawKit.callS X11 hx (y := (⟨"com/example/knotwork/knotwork/core/BindingUndoPinLaw", "slotOk", "(Lcom/example/knotwork/knotwork/core/Binding;Lcom/example/knotwork/knotwork/core/Item;IIIII)Z"⟩ : MethodName)) hown (mvT hZ (hw _ (List.mem_of_getElem? (i := 52) rfl))) (mvT hZ (hw _ (List.mem_of_getElem? (i := 53) rfl))) (mvT hZ (hw _ (List.mem_of_getElem? (i := 54) rfl))) (mvT hZ (hw _ (List.mem_of_getElem? (i := 55) rfl))) (by decide) (backOf (W := 0) (rmso l Z a0 hw [] b6 b1 (2 : Int32) (0 : Int32) (f0_v11 i0) (f0_41_s0 i0) (f0_v60 i0) b7 (fun _ => Value.null) 2 T9.heap n0 u9_0 u9_1 u9_4 rfl (by decide) (law_d002 i0 b1)) hZ (hw _ (List.mem_of_getElem? (i := 55) rfl)) (hw _ (List.mem_of_getElem? (i := 54) rfl)) (by decide) (by decide)) (g := (mkF m 204 #[.val (.int i0), .val (.int i1), .val (.int i2), .val (.int (f0_v7 i0)), .val (.int (f0_v11 i0)), .val (.int (f0_15_s0 i0)), .val (.int (f0_28_s0 i0)), .val (.int (f0_41_s0 i0)), .val (.int (f0_v60 i0)), .val (.int (0 : Int32)), .val (.int (0 : Int32)), .val (.ref b1), .val (.ref b6)] [(.int (f0_v60 i0)), (.int (f0_41_s0 i0)), (.int (f0_v11 i0)), (.int (0 : Int32)), (.int (2 : Int32)), (.ref b1), (.ref b6)])) rfl (by rw [hml]; rfl) (argsL := [(.ref b6), (.ref b1), (.int (2 : Int32)), (.int (0 : Int32)), (.int (f0_v11 i0)), (.int (f0_41_s0 i0)), (.int (f0_v60 i0))]) (rest := []) (lenOf pd_4 rfl) rfl (by show 2 * 0 + _ ≤ _; exact Nat.le_of_eq rfl) (hb hby at_204) (fun _ _ => ⟨rfl, e11, (by decide : 6 + 0 ≤ _), (by decide : 18 + 0 ≤ _)⟩)
    dsimp only [Pt.U, Pt.locs, Pt.cells, Pt.slots] at X12 l12 y12 z12 st12 hQ12
    subst l12 y12 z12
    obtain ⟨rfl, N12q, e12⟩ := hQ12
    have N12 := Fr.app N11 N12q
    obtain ⟨Lh12, X12, N12⟩ := hide X12 N12 (C := 6) (S := 18) (by decide) (by decide)
    refine Outs.of st12 ?_
    refine Outs.of (U' := T12.setTop (mkF m 212 #[.val (.int i0), .val (.int i1), .val (.int i2), .val (.int (f0_v7 i0)), .val (.int (f0_v11 i0)), .val (.int (f0_15_s0 i0)), .val (.int (f0_28_s0 i0)), .val (.int (f0_41_s0 i0)), .val (.int (f0_v60 i0)), .val (.int (0 : Int32)), .val (.int (0 : Int32)), .val (.ref b1), .val (.ref b6)] [(.ref b6)])) (fun t k => ?_) ?_
    · refine XS.ifNo X12.here hx rfl (hb hby at_207) rfl ((if0 _ _).trans (feq (show ¬ ((1 : Int32) = (0 : Int32)) from (by decide))).1) ?_
      refine XS.aload X12.here hx rfl (hb hby at_210) rfl rfl ?_
      exact k
    obtain ⟨cq13, kq13, q13a, q13b, q13c⟩ := isOf hZ e12 u9_0
    obtain ⟨_, _, ⟨T13, L13, k13, n13⟩, -, X13, ⟨Lc13, hQ13, l13, y13, z13⟩, st13⟩ := X12.virtualBack hx (y := (⟨"com/example/knotwork/knotwork/core/Binding", "mark", "()I"⟩ : MethodName)) (z := (⟨"com/example/knotwork/knotwork/core/Binding", "mark", "()I"⟩ : MethodName)) hown (mvT hZ (hw _ (List.mem_of_getElem? (i := 64) rfl))) (mvT hZ (hw _ (List.mem_of_getElem? (i := 65) rfl))) (notFace_of_selects (args := #[]) (mvT hZ (hw _ (List.mem_of_getElem? (i := 67) rfl)))) (mvT hZ (hw _ (List.mem_of_getElem? (i := 67) rfl))) (mvT hZ (hw _ (List.mem_of_getElem? (i := 66) rfl))) (by decide) (backOf (W := 0) (rm10 l Z a0 hw [] b6 (0 : Int32) T9.heap n0 u9_3) hZ (hw _ (List.mem_of_getElem? (i := 68) rfl)) (hw _ (List.mem_of_getElem? (i := 27) rfl)) (by decide) (by decide)) q13a q13c (g := (mkF m 212 #[.val (.int i0), .val (.int i1), .val (.int i2), .val (.int (f0_v7 i0)), .val (.int (f0_v11 i0)), .val (.int (f0_15_s0 i0)), .val (.int (f0_28_s0 i0)), .val (.int (f0_41_s0 i0)), .val (.int (f0_v60 i0)), .val (.int (0 : Int32)), .val (.int (0 : Int32)), .val (.ref b1), .val (.ref b6)] [(.ref b6)])) rfl (by rw [hml]; rfl) (Steps.refl _) (argsL := []) (rest := []) (lenOf pd_7 rfl) rfl (by show 2 * 0 + _ ≤ _; exact Nat.le_of_eq rfl) (hb hby at_212) (fun _ _ => ⟨rfl, e12, (by decide : 6 + 0 ≤ _), (by decide : 18 + 0 ≤ _)⟩)
    dsimp only [Pt.U, Pt.locs, Pt.cells, Pt.slots] at X13 l13 y13 z13 st13 hQ13
    subst l13 y13 z13
    obtain ⟨rfl, N13q, e13⟩ := hQ13
    have N13 := Fr.app N12 N13q
    obtain ⟨Lh13, X13, N13⟩ := hide X13 N13 (C := 6) (S := 18) (by decide) (by decide)
    refine Outs.to st13 ?_
    refine Outs.of (U' := T13.setTop (mkF m 225 #[.val (.int i0), .val (.int i1), .val (.int i2), .val (.int (f0_v7 i0)), .val (.int (f0_v11 i0)), .val (.int (f0_15_s0 i0)), .val (.int (f0_28_s0 i0)), .val (.int (f0_41_s0 i0)), .val (.int (f0_v60 i0)), .val (.int (0 : Int32)), .val (.int (0 : Int32)), .val (.ref b1), .val (.ref b6)] [(.int (1 : Int32))])) (fun t k => ?_) ?_
    · refine XS.iload X13.here hx rfl (hb hby at_215) rfl ?_
      refine XS.icmpNo X13.here hx rfl (hb hby at_217) rfl (teq (show (0 : Int32) = (0 : Int32) from (by decide))).2 ?_
      refine XS.iconst X13.here hx rfl (hb hby at_220) ?_
      refine XS.goto X13.here hx rfl (pc0 := 221) (pc' := 225) rfl (hb hby at_221) (by decide) (by decide) ?_
      exact k
    exact Outs.retN (t := .boolean) (z := (1 : Int32)) X13 hx hret (by simp) (hb hby at_225) hlk (by decide) (by decide) e13 ⟨⟨rfl, N13⟩, (Nat.le_trans (Nat.le_trans (Nat.le_trans (Nat.le_trans z2 K3.1) E6.1) K7.1) K9.1)⟩
  · rw [q9, q10]
    show Outs p e below _ _ _ _ (T7.setTop (mkF m 102 #[.val (.int i0), .val (.int i1), .val (.int i2), .val (.int (f0_v7 i0)), .val (.int (f0_v11 i0)), .val (.int (f0_15_s0 i0)), .val (.int (f0_28_s0 i0)), .val (.int (f0_41_s0 i0)), .val (.int (f0_v60 i0)), .val (.int (1 : Int32)), .val (.int (0 : Int32)), .val (.ref b1), .val (.ref b6)] []))
    refine Outs.of (U' := T7.setTop (mkF m 113 #[.val (.int i0), .val (.int i1), .val (.int i2), .val (.int (f0_v7 i0)), .val (.int (f0_v11 i0)), .val (.int (f0_15_s0 i0)), .val (.int (f0_28_s0 i0)), .val (.int (f0_41_s0 i0)), .val (.int (f0_v60 i0)), .val (.int (1 : Int32)), .val (.int (0 : Int32)), .val (.ref b1), .val (.ref b6)] [(.ref b1), (.int (f0_v11 i0)), (.ref b6)])) (fun t k => ?_) ?_
    · refine XS.iload X7.here hx rfl (hb hby at_102) rfl ?_
      refine XS.ifNo X7.here hx rfl (hb hby at_104) rfl ((if0 _ _).trans (tlt (show (0 : Int32) < (1 : Int32) from (by decide))).2.2.2) ?_
      refine XS.aload X7.here hx rfl (hb hby at_107) rfl rfl ?_
      refine XS.iload X7.here hx rfl (hb hby at_109) rfl ?_
      refine XS.aload X7.here hx rfl (hb hby at_111) rfl rfl ?_
      exact k
    have ne_b7_b7x1 : b7 ≠ b7x1 := AF.neT u7_4 u7_6 (by decide)
    have f15 : Exa Z T7.heap b1 "com/example/knotwork/knotwork/core/Sym" := (f8.keep K7)
    obtain ⟨cq14, kq14, q14a, q14b, q14c⟩ := isOf hZ rfl u7_0
    obtain ⟨_, _, ⟨T14, L14, k14, n14⟩, -, X14, ⟨Lc14, hQ14, l14, y14, z14⟩, st14⟩ := X7.virtualBack hx (y := (⟨"com/example/knotwork/knotwork/core/Binding", "bind", "(ILcom/example/knotwork/knotwork/core/Item;)V"⟩ : MethodName)) (z := (⟨"com/example/knotwork/knotwork/core/Binding", "bind", "(ILcom/example/knotwork/knotwork/core/Item;)V"⟩ : MethodName)) hown (mvT hZ (hw _ (List.mem_of_getElem? (i := 39) rfl))) (mvT hZ (hw _ (List.mem_of_getElem? (i := 40) rfl))) (notFace_of_selects (args := #[]) (mvT hZ (hw _ (List.mem_of_getElem? (i := 42) rfl)))) (mvT hZ (hw _ (List.mem_of_getElem? (i := 42) rfl))) (mvT hZ (hw _ (List.mem_of_getElem? (i := 41) rfl))) (by decide) (backOf (W := 0) (rmbd l Z a0 hw [] b6 (f0_v11 i0) b1 b7 b7x1 (fun _ => Value.null) (fun _ => (0 : Int32)) (0 : Int32) (own_k (f0_v11 i0)) 0 T7.heap n0 u7_0 g_b6 g_b7 g_b7x1 ne_b6_b7 ne_b6_b7x1 ne_b7_b7x1 u7_1 u7_2 u7_3 u7_4 u7_5 u7_6 f15 (law_s0 i0).1 (law_s0 i0).2 rfl (by decide)) hZ (hw _ (List.mem_of_getElem? (i := 43) rfl)) (hw _ (List.mem_of_getElem? (i := 27) rfl)) (by decide) (by decide)) q14a q14c (g := (mkF m 113 #[.val (.int i0), .val (.int i1), .val (.int i2), .val (.int (f0_v7 i0)), .val (.int (f0_v11 i0)), .val (.int (f0_15_s0 i0)), .val (.int (f0_28_s0 i0)), .val (.int (f0_41_s0 i0)), .val (.int (f0_v60 i0)), .val (.int (1 : Int32)), .val (.int (0 : Int32)), .val (.ref b1), .val (.ref b6)] [(.ref b1), (.int (f0_v11 i0)), (.ref b6)])) rfl (by rw [hml]; rfl) (Steps.refl _) (argsL := [(.int (f0_v11 i0)), (.ref b1)]) (rest := []) (lenOf pd_3 rfl) rfl (by show 2 * 0 + _ ≤ _; exact Nat.le_of_eq rfl) (hb hby at_113) (fun _ _ => ⟨rfl, rfl, (by decide : 6 + 0 ≤ _), (by decide : 18 + 0 ≤ _)⟩)
    dsimp only [Pt.U, Pt.locs, Pt.cells, Pt.slots] at X14 l14 y14 z14 st14 hQ14
    subst l14 y14 z14
    obtain ⟨rfl, N14q, K14, u14_0, u14_1, u14_2, u14_3, u14_4, u14_5, u14_6⟩ := hQ14
    have N14 := Fr.app N7 N14q
    obtain ⟨Lh14, X14, N14⟩ := hide X14 N14 (C := 6) (S := 18) (by decide) (by decide)
    refine Outs.to st14 ?_
    refine Outs.of (U' := T14.setTop (mkF m 150 #[.val (.int i0), .val (.int i1), .val (.int i2), .val (.int (f0_v7 i0)), .val (.int (f0_v11 i0)), .val (.int (f0_15_s0 i0)), .val (.int (f0_28_s0 i0)), .val (.int (f0_41_s0 i0)), .val (.int (f0_v60 i0)), .val (.int (1 : Int32)), .val (.int (0 : Int32)), .val (.ref b1), .val (.ref b6)] [(.int (0 : Int32)), (.ref b6)])) (fun t k => ?_) ?_
    · refine XS.iload X14.here hx rfl (hb hby at_116) rfl ?_
      refine XS.iconst X14.here hx rfl (hb hby at_118) ?_
      refine XS.icmpYes X14.here hx rfl (pc0 := 119) (pc' := 131) rfl (hb hby at_119) rfl (flt (show ¬ ((1 : Int32) < (1 : Int32)) from (by decide))).2.2.2 (by decide) (by decide) ?_
      refine XS.iload X14.here hx rfl (hb hby at_131) rfl ?_
      refine XS.iconst X14.here hx rfl (hb hby at_133) ?_
      refine XS.icmpYes X14.here hx rfl (pc0 := 134) (pc' := 146) rfl (hb hby at_134) rfl (flt (show ¬ ((2 : Int32) < (1 : Int32)) from (by decide))).2.2.2 (by decide) (by decide) ?_
      refine XS.aload X14.here hx rfl (hb hby at_146) rfl rfl ?_
      refine XS.iload X14.here hx rfl (hb hby at_148) rfl ?_
      exact k
    obtain ⟨cq16, kq16, q16a, q16b, q16c⟩ := isOf hZ rfl u14_0
    obtain ⟨_, _, ⟨T16, L16, k16, n16⟩, -, X16, ⟨Lc16, hQ16, l16, y16, z16⟩, st16⟩ := X14.virtualBack hx (y := (⟨"com/example/knotwork/knotwork/core/Binding", "undo", "(I)V"⟩ : MethodName)) (z := (⟨"com/example/knotwork/knotwork/core/Binding", "undo", "(I)V"⟩ : MethodName)) hown (mvT hZ (hw _ (List.mem_of_getElem? (i := 47) rfl))) (mvT hZ (hw _ (List.mem_of_getElem? (i := 48) rfl))) (notFace_of_selects (args := #[]) (mvT hZ (hw _ (List.mem_of_getElem? (i := 50) rfl)))) (mvT hZ (hw _ (List.mem_of_getElem? (i := 50) rfl))) (mvT hZ (hw _ (List.mem_of_getElem? (i := 49) rfl))) (by decide) (backOf (W := 0) (rmun10 l Z a0 hw [] b6 b7 b7x1 (upv (fun _ => Value.null) (own_k (f0_v11 i0)) (.ref b1)) (upv (fun _ => (0 : Int32)) 0 (f0_v11 i0)) (own_k (f0_v11 i0)) T14.heap n0 u14_0 g_b6 g_b7 g_b7x1 ne_b6_b7 ne_b6_b7x1 ne_b7_b7x1 u14_1 u14_2 u14_3 u14_4 u14_5 u14_6 (law_s0 i0).1 (law_s0 i0).2) hZ (hw _ (List.mem_of_getElem? (i := 51) rfl)) (hw _ (List.mem_of_getElem? (i := 27) rfl)) (by decide) (by decide)) q16a q16c (g := (mkF m 150 #[.val (.int i0), .val (.int i1), .val (.int i2), .val (.int (f0_v7 i0)), .val (.int (f0_v11 i0)), .val (.int (f0_15_s0 i0)), .val (.int (f0_28_s0 i0)), .val (.int (f0_41_s0 i0)), .val (.int (f0_v60 i0)), .val (.int (1 : Int32)), .val (.int (0 : Int32)), .val (.ref b1), .val (.ref b6)] [(.int (0 : Int32)), (.ref b6)])) rfl (by rw [hml]; rfl) (Steps.refl _) (argsL := [(.int (0 : Int32))]) (rest := []) (lenOf pd_2 rfl) rfl (by show 2 * 0 + _ ≤ _; exact Nat.le_of_eq rfl) (hb hby at_150) (fun _ _ => ⟨rfl, rfl, (by decide : 6 + 0 ≤ _), (by decide : 18 + 0 ≤ _)⟩)
    dsimp only [Pt.U, Pt.locs, Pt.cells, Pt.slots] at X16 l16 y16 z16 st16 hQ16
    subst l16 y16 z16
    obtain ⟨rfl, N16q, K16, u16_0, u16_1, u16_2, u16_3, u16_4, u16_5, u16_6⟩ := hQ16
    have N16 := Fr.app N14 N16q
    obtain ⟨Lh16, X16, N16⟩ := hide X16 N16 (C := 6) (S := 18) (by decide) (by decide)
    refine Outs.to st16 ?_
    refine Outs.of (U' := T16.setTop (mkF m 166 #[.val (.int i0), .val (.int i1), .val (.int i2), .val (.int (f0_v7 i0)), .val (.int (f0_v11 i0)), .val (.int (f0_15_s0 i0)), .val (.int (f0_28_s0 i0)), .val (.int (f0_41_s0 i0)), .val (.int (f0_v60 i0)), .val (.int (1 : Int32)), .val (.int (0 : Int32)), .val (.ref b1), .val (.ref b6)] [(.int (f0_v60 i0)), (.int (f0_41_s0 i0)), (.int (f0_v11 i0)), (.int (0 : Int32)), (.int (0 : Int32)), (.ref b1), (.ref b6)])) (fun t k => ?_) ?_
    · refine XS.aload X16.here hx rfl (hb hby at_153) rfl rfl ?_
      refine XS.aload X16.here hx rfl (hb hby at_155) rfl rfl ?_
      refine XS.iconst X16.here hx rfl (hb hby at_157) ?_
      refine XS.iload X16.here hx rfl (hb hby at_158) rfl ?_
      refine XS.iload X16.here hx rfl (hb hby at_160) rfl ?_
      refine XS.iload X16.here hx rfl (hb hby at_162) rfl ?_
      refine XS.iload X16.here hx rfl (hb hby at_164) rfl ?_
      exact k
    obtain ⟨_, _, ⟨T17, L17, k17, n17⟩, -, X17, ⟨Lc17, hQ17, l17, y17, z17⟩, st17⟩ := Jvm.LawKit.callS X16 hx (y := (⟨"com/example/knotwork/knotwork/core/BindingUndoPinLaw", "slotOk", "(Lcom/example/knotwork/knotwork/core/Binding;Lcom/example/knotwork/knotwork/core/Item;IIIII)Z"⟩ : MethodName)) hown (mvT hZ (hw _ (List.mem_of_getElem? (i := 52) rfl))) (mvT hZ (hw _ (List.mem_of_getElem? (i := 53) rfl))) (mvT hZ (hw _ (List.mem_of_getElem? (i := 54) rfl))) (mvT hZ (hw _ (List.mem_of_getElem? (i := 55) rfl))) (by decide) (backOf (W := 0) (rmso l Z a0 hw [] b6 b1 (0 : Int32) (0 : Int32) (f0_v11 i0) (f0_41_s0 i0) (f0_v60 i0) b7 (upv (upv (fun _ => Value.null) (own_k (f0_v11 i0)) (.ref b1)) (own_k (f0_v11 i0)) .null) 0 T16.heap n0 u16_0 u16_1 u16_4 rfl (by decide) (law_d100 i0 b1)) hZ (hw _ (List.mem_of_getElem? (i := 55) rfl)) (hw _ (List.mem_of_getElem? (i := 54) rfl)) (by decide) (by decide)) (g := (mkF m 166 #[.val (.int i0), .val (.int i1), .val (.int i2), .val (.int (f0_v7 i0)), .val (.int (f0_v11 i0)), .val (.int (f0_15_s0 i0)), .val (.int (f0_28_s0 i0)), .val (.int (f0_41_s0 i0)), .val (.int (f0_v60 i0)), .val (.int (1 : Int32)), .val (.int (0 : Int32)), .val (.ref b1), .val (.ref b6)] [(.int (f0_v60 i0)), (.int (f0_41_s0 i0)), (.int (f0_v11 i0)), (.int (0 : Int32)), (.int (0 : Int32)), (.ref b1), (.ref b6)])) rfl (by rw [hml]; rfl) (argsL := [(.ref b6), (.ref b1), (.int (0 : Int32)), (.int (0 : Int32)), (.int (f0_v11 i0)), (.int (f0_41_s0 i0)), (.int (f0_v60 i0))]) (rest := []) (lenOf pd_4 rfl) rfl (by show 2 * 0 + _ ≤ _; exact Nat.le_of_eq rfl) (hb hby at_166) (fun _ _ => ⟨rfl, rfl, (by decide : 6 + 0 ≤ _), (by decide : 18 + 0 ≤ _)⟩)
    dsimp only [Pt.U, Pt.locs, Pt.cells, Pt.slots] at X17 l17 y17 z17 st17 hQ17
    subst l17 y17 z17
    obtain ⟨rfl, N17q, e17⟩ := hQ17
    have N17 := Fr.app N16 N17q
    obtain ⟨Lh17, X17, N17⟩ := hide X17 N17 (C := 6) (S := 18) (by decide) (by decide)
    refine Outs.of st17 ?_
    refine Outs.of (U' := T17.setTop (mkF m 185 #[.val (.int i0), .val (.int i1), .val (.int i2), .val (.int (f0_v7 i0)), .val (.int (f0_v11 i0)), .val (.int (f0_15_s0 i0)), .val (.int (f0_28_s0 i0)), .val (.int (f0_41_s0 i0)), .val (.int (f0_v60 i0)), .val (.int (1 : Int32)), .val (.int (0 : Int32)), .val (.ref b1), .val (.ref b6)] [(.int (f0_v60 i0)), (.int (f0_41_s0 i0)), (.int (f0_v11 i0)), (.int (0 : Int32)), (.int (1 : Int32)), (.ref b1), (.ref b6)])) (fun t k => ?_) ?_
    · refine XS.ifNo X17.here hx rfl (hb hby at_169) rfl ((if0 _ _).trans (feq (show ¬ ((1 : Int32) = (0 : Int32)) from (by decide))).1) ?_
      refine XS.aload X17.here hx rfl (hb hby at_172) rfl rfl ?_
      refine XS.aload X17.here hx rfl (hb hby at_174) rfl rfl ?_
      refine XS.iconst X17.here hx rfl (hb hby at_176) ?_
      refine XS.iload X17.here hx rfl (hb hby at_177) rfl ?_
      refine XS.iload X17.here hx rfl (hb hby at_179) rfl ?_
      refine XS.iload X17.here hx rfl (hb hby at_181) rfl ?_
      refine XS.iload X17.here hx rfl (hb hby at_183) rfl ?_
      exact k
    obtain ⟨_, _, ⟨T18, L18, k18, n18⟩, -, X18, ⟨Lc18, hQ18, l18, y18, z18⟩, st18⟩ := Jvm.LawKit.callS X17 hx (y := (⟨"com/example/knotwork/knotwork/core/BindingUndoPinLaw", "slotOk", "(Lcom/example/knotwork/knotwork/core/Binding;Lcom/example/knotwork/knotwork/core/Item;IIIII)Z"⟩ : MethodName)) hown (mvT hZ (hw _ (List.mem_of_getElem? (i := 52) rfl))) (mvT hZ (hw _ (List.mem_of_getElem? (i := 53) rfl))) (mvT hZ (hw _ (List.mem_of_getElem? (i := 54) rfl))) (mvT hZ (hw _ (List.mem_of_getElem? (i := 55) rfl))) (by decide) (backOf (W := 0) (rmso l Z a0 hw [] b6 b1 (1 : Int32) (0 : Int32) (f0_v11 i0) (f0_41_s0 i0) (f0_v60 i0) b7 (upv (upv (fun _ => Value.null) (own_k (f0_v11 i0)) (.ref b1)) (own_k (f0_v11 i0)) .null) 1 T16.heap n0 u16_0 u16_1 u16_4 rfl (by decide) (law_d101 i0 b1)) hZ (hw _ (List.mem_of_getElem? (i := 55) rfl)) (hw _ (List.mem_of_getElem? (i := 54) rfl)) (by decide) (by decide)) (g := (mkF m 185 #[.val (.int i0), .val (.int i1), .val (.int i2), .val (.int (f0_v7 i0)), .val (.int (f0_v11 i0)), .val (.int (f0_15_s0 i0)), .val (.int (f0_28_s0 i0)), .val (.int (f0_41_s0 i0)), .val (.int (f0_v60 i0)), .val (.int (1 : Int32)), .val (.int (0 : Int32)), .val (.ref b1), .val (.ref b6)] [(.int (f0_v60 i0)), (.int (f0_41_s0 i0)), (.int (f0_v11 i0)), (.int (0 : Int32)), (.int (1 : Int32)), (.ref b1), (.ref b6)])) rfl (by rw [hml]; rfl) (argsL := [(.ref b6), (.ref b1), (.int (1 : Int32)), (.int (0 : Int32)), (.int (f0_v11 i0)), (.int (f0_41_s0 i0)), (.int (f0_v60 i0))]) (rest := []) (lenOf pd_4 rfl) rfl (by show 2 * 0 + _ ≤ _; exact Nat.le_of_eq rfl) (hb hby at_185) (fun _ _ => ⟨rfl, e17, (by decide : 6 + 0 ≤ _), (by decide : 18 + 0 ≤ _)⟩)
    dsimp only [Pt.U, Pt.locs, Pt.cells, Pt.slots] at X18 l18 y18 z18 st18 hQ18
    subst l18 y18 z18
    obtain ⟨rfl, N18q, e18⟩ := hQ18
    have N18 := Fr.app N17 N18q
    obtain ⟨Lh18, X18, N18⟩ := hide X18 N18 (C := 6) (S := 18) (by decide) (by decide)
    refine Outs.of st18 ?_
    refine Outs.of (U' := T18.setTop (mkF m 204 #[.val (.int i0), .val (.int i1), .val (.int i2), .val (.int (f0_v7 i0)), .val (.int (f0_v11 i0)), .val (.int (f0_15_s0 i0)), .val (.int (f0_28_s0 i0)), .val (.int (f0_41_s0 i0)), .val (.int (f0_v60 i0)), .val (.int (1 : Int32)), .val (.int (0 : Int32)), .val (.ref b1), .val (.ref b6)] [(.int (f0_v60 i0)), (.int (f0_41_s0 i0)), (.int (f0_v11 i0)), (.int (0 : Int32)), (.int (2 : Int32)), (.ref b1), (.ref b6)])) (fun t k => ?_) ?_
    · refine XS.ifNo X18.here hx rfl (hb hby at_188) rfl ((if0 _ _).trans (feq (show ¬ ((1 : Int32) = (0 : Int32)) from (by decide))).1) ?_
      refine XS.aload X18.here hx rfl (hb hby at_191) rfl rfl ?_
      refine XS.aload X18.here hx rfl (hb hby at_193) rfl rfl ?_
      refine XS.iconst X18.here hx rfl (hb hby at_195) ?_
      refine XS.iload X18.here hx rfl (hb hby at_196) rfl ?_
      refine XS.iload X18.here hx rfl (hb hby at_198) rfl ?_
      refine XS.iload X18.here hx rfl (hb hby at_200) rfl ?_
      refine XS.iload X18.here hx rfl (hb hby at_202) rfl ?_
      exact k
    obtain ⟨_, _, ⟨T19, L19, k19, n19⟩, -, X19, ⟨Lc19, hQ19, l19, y19, z19⟩, st19⟩ := Jvm.LawKit.callS X18 hx (y := (⟨"com/example/knotwork/knotwork/core/BindingUndoPinLaw", "slotOk", "(Lcom/example/knotwork/knotwork/core/Binding;Lcom/example/knotwork/knotwork/core/Item;IIIII)Z"⟩ : MethodName)) hown (mvT hZ (hw _ (List.mem_of_getElem? (i := 52) rfl))) (mvT hZ (hw _ (List.mem_of_getElem? (i := 53) rfl))) (mvT hZ (hw _ (List.mem_of_getElem? (i := 54) rfl))) (mvT hZ (hw _ (List.mem_of_getElem? (i := 55) rfl))) (by decide) (backOf (W := 0) (rmso l Z a0 hw [] b6 b1 (2 : Int32) (0 : Int32) (f0_v11 i0) (f0_41_s0 i0) (f0_v60 i0) b7 (upv (upv (fun _ => Value.null) (own_k (f0_v11 i0)) (.ref b1)) (own_k (f0_v11 i0)) .null) 2 T16.heap n0 u16_0 u16_1 u16_4 rfl (by decide) (law_d102 i0 b1)) hZ (hw _ (List.mem_of_getElem? (i := 55) rfl)) (hw _ (List.mem_of_getElem? (i := 54) rfl)) (by decide) (by decide)) (g := (mkF m 204 #[.val (.int i0), .val (.int i1), .val (.int i2), .val (.int (f0_v7 i0)), .val (.int (f0_v11 i0)), .val (.int (f0_15_s0 i0)), .val (.int (f0_28_s0 i0)), .val (.int (f0_41_s0 i0)), .val (.int (f0_v60 i0)), .val (.int (1 : Int32)), .val (.int (0 : Int32)), .val (.ref b1), .val (.ref b6)] [(.int (f0_v60 i0)), (.int (f0_41_s0 i0)), (.int (f0_v11 i0)), (.int (0 : Int32)), (.int (2 : Int32)), (.ref b1), (.ref b6)])) rfl (by rw [hml]; rfl) (argsL := [(.ref b6), (.ref b1), (.int (2 : Int32)), (.int (0 : Int32)), (.int (f0_v11 i0)), (.int (f0_41_s0 i0)), (.int (f0_v60 i0))]) (rest := []) (lenOf pd_4 rfl) rfl (by show 2 * 0 + _ ≤ _; exact Nat.le_of_eq rfl) (hb hby at_204) (fun _ _ => ⟨rfl, e18, (by decide : 6 + 0 ≤ _), (by decide : 18 + 0 ≤ _)⟩)
    dsimp only [Pt.U, Pt.locs, Pt.cells, Pt.slots] at X19 l19 y19 z19 st19 hQ19
    subst l19 y19 z19
    obtain ⟨rfl, N19q, e19⟩ := hQ19
    have N19 := Fr.app N18 N19q
    obtain ⟨Lh19, X19, N19⟩ := hide X19 N19 (C := 6) (S := 18) (by decide) (by decide)
    refine Outs.of st19 ?_
    refine Outs.of (U' := T19.setTop (mkF m 212 #[.val (.int i0), .val (.int i1), .val (.int i2), .val (.int (f0_v7 i0)), .val (.int (f0_v11 i0)), .val (.int (f0_15_s0 i0)), .val (.int (f0_28_s0 i0)), .val (.int (f0_41_s0 i0)), .val (.int (f0_v60 i0)), .val (.int (1 : Int32)), .val (.int (0 : Int32)), .val (.ref b1), .val (.ref b6)] [(.ref b6)])) (fun t k => ?_) ?_
    · refine XS.ifNo X19.here hx rfl (hb hby at_207) rfl ((if0 _ _).trans (feq (show ¬ ((1 : Int32) = (0 : Int32)) from (by decide))).1) ?_
      refine XS.aload X19.here hx rfl (hb hby at_210) rfl rfl ?_
      exact k
    obtain ⟨cq20, kq20, q20a, q20b, q20c⟩ := isOf hZ e19 u16_0
    obtain ⟨_, _, ⟨T20, L20, k20, n20⟩, -, X20, ⟨Lc20, hQ20, l20, y20, z20⟩, st20⟩ := X19.virtualBack hx (y := (⟨"com/example/knotwork/knotwork/core/Binding", "mark", "()I"⟩ : MethodName)) (z := (⟨"com/example/knotwork/knotwork/core/Binding", "mark", "()I"⟩ : MethodName)) hown (mvT hZ (hw _ (List.mem_of_getElem? (i := 64) rfl))) (mvT hZ (hw _ (List.mem_of_getElem? (i := 65) rfl))) (notFace_of_selects (args := #[]) (mvT hZ (hw _ (List.mem_of_getElem? (i := 67) rfl)))) (mvT hZ (hw _ (List.mem_of_getElem? (i := 67) rfl))) (mvT hZ (hw _ (List.mem_of_getElem? (i := 66) rfl))) (by decide) (backOf (W := 0) (rm10 l Z a0 hw [] b6 (0 : Int32) T16.heap n0 u16_3) hZ (hw _ (List.mem_of_getElem? (i := 68) rfl)) (hw _ (List.mem_of_getElem? (i := 27) rfl)) (by decide) (by decide)) q20a q20c (g := (mkF m 212 #[.val (.int i0), .val (.int i1), .val (.int i2), .val (.int (f0_v7 i0)), .val (.int (f0_v11 i0)), .val (.int (f0_15_s0 i0)), .val (.int (f0_28_s0 i0)), .val (.int (f0_41_s0 i0)), .val (.int (f0_v60 i0)), .val (.int (1 : Int32)), .val (.int (0 : Int32)), .val (.ref b1), .val (.ref b6)] [(.ref b6)])) rfl (by rw [hml]; rfl) (Steps.refl _) (argsL := []) (rest := []) (lenOf pd_7 rfl) rfl (by show 2 * 0 + _ ≤ _; exact Nat.le_of_eq rfl) (hb hby at_212) (fun _ _ => ⟨rfl, e19, (by decide : 6 + 0 ≤ _), (by decide : 18 + 0 ≤ _)⟩)
    dsimp only [Pt.U, Pt.locs, Pt.cells, Pt.slots] at X20 l20 y20 z20 st20 hQ20
    subst l20 y20 z20
    obtain ⟨rfl, N20q, e20⟩ := hQ20
    have N20 := Fr.app N19 N20q
    obtain ⟨Lh20, X20, N20⟩ := hide X20 N20 (C := 6) (S := 18) (by decide) (by decide)
    refine Outs.to st20 ?_
    refine Outs.of (U' := T20.setTop (mkF m 225 #[.val (.int i0), .val (.int i1), .val (.int i2), .val (.int (f0_v7 i0)), .val (.int (f0_v11 i0)), .val (.int (f0_15_s0 i0)), .val (.int (f0_28_s0 i0)), .val (.int (f0_41_s0 i0)), .val (.int (f0_v60 i0)), .val (.int (1 : Int32)), .val (.int (0 : Int32)), .val (.ref b1), .val (.ref b6)] [(.int (1 : Int32))])) (fun t k => ?_) ?_
    · refine XS.iload X20.here hx rfl (hb hby at_215) rfl ?_
      refine XS.icmpNo X20.here hx rfl (hb hby at_217) rfl (teq (show (0 : Int32) = (0 : Int32) from (by decide))).2 ?_
      refine XS.iconst X20.here hx rfl (hb hby at_220) ?_
      refine XS.goto X20.here hx rfl (pc0 := 221) (pc' := 225) rfl (hb hby at_221) (by decide) (by decide) ?_
      exact k
    exact Outs.retN (t := .boolean) (z := (1 : Int32)) X20 hx hret (by simp) (hb hby at_225) hlk (by decide) (by decide) e20 ⟨⟨rfl, N20⟩, (Nat.le_trans (Nat.le_trans (Nat.le_trans (Nat.le_trans (Nat.le_trans z2 K3.1) E6.1) K7.1) K14.1) K16.1)⟩
  · rw [q9, q10]
    show Outs p e below _ _ _ _ (T7.setTop (mkF m 102 #[.val (.int i0), .val (.int i1), .val (.int i2), .val (.int (f0_v7 i0)), .val (.int (f0_v11 i0)), .val (.int (f0_15_s0 i0)), .val (.int (f0_28_s0 i0)), .val (.int (f0_41_s0 i0)), .val (.int (f0_v60 i0)), .val (.int (1 : Int32)), .val (.int (1 : Int32)), .val (.ref b1), .val (.ref b6)] []))
    refine Outs.of (U' := T7.setTop (mkF m 113 #[.val (.int i0), .val (.int i1), .val (.int i2), .val (.int (f0_v7 i0)), .val (.int (f0_v11 i0)), .val (.int (f0_15_s0 i0)), .val (.int (f0_28_s0 i0)), .val (.int (f0_41_s0 i0)), .val (.int (f0_v60 i0)), .val (.int (1 : Int32)), .val (.int (1 : Int32)), .val (.ref b1), .val (.ref b6)] [(.ref b1), (.int (f0_v11 i0)), (.ref b6)])) (fun t k => ?_) ?_
    · refine XS.iload X7.here hx rfl (hb hby at_102) rfl ?_
      refine XS.ifNo X7.here hx rfl (hb hby at_104) rfl ((if0 _ _).trans (tlt (show (0 : Int32) < (1 : Int32) from (by decide))).2.2.2) ?_
      refine XS.aload X7.here hx rfl (hb hby at_107) rfl rfl ?_
      refine XS.iload X7.here hx rfl (hb hby at_109) rfl ?_
      refine XS.aload X7.here hx rfl (hb hby at_111) rfl rfl ?_
      exact k
    have ne_b7_b7x1 : b7 ≠ b7x1 := AF.neT u7_4 u7_6 (by decide)
    have f22 : Exa Z T7.heap b1 "com/example/knotwork/knotwork/core/Sym" := (f8.keep K7)
    obtain ⟨cq21, kq21, q21a, q21b, q21c⟩ := isOf hZ rfl u7_0
    obtain ⟨_, _, ⟨T21, L21, k21, n21⟩, -, X21, ⟨Lc21, hQ21, l21, y21, z21⟩, st21⟩ := X7.virtualBack hx (y := (⟨"com/example/knotwork/knotwork/core/Binding", "bind", "(ILcom/example/knotwork/knotwork/core/Item;)V"⟩ : MethodName)) (z := (⟨"com/example/knotwork/knotwork/core/Binding", "bind", "(ILcom/example/knotwork/knotwork/core/Item;)V"⟩ : MethodName)) hown (mvT hZ (hw _ (List.mem_of_getElem? (i := 39) rfl))) (mvT hZ (hw _ (List.mem_of_getElem? (i := 40) rfl))) (notFace_of_selects (args := #[]) (mvT hZ (hw _ (List.mem_of_getElem? (i := 42) rfl)))) (mvT hZ (hw _ (List.mem_of_getElem? (i := 42) rfl))) (mvT hZ (hw _ (List.mem_of_getElem? (i := 41) rfl))) (by decide) (backOf (W := 0) (rmbd l Z a0 hw [] b6 (f0_v11 i0) b1 b7 b7x1 (fun _ => Value.null) (fun _ => (0 : Int32)) (0 : Int32) (own_k (f0_v11 i0)) 0 T7.heap n0 u7_0 g_b6 g_b7 g_b7x1 ne_b6_b7 ne_b6_b7x1 ne_b7_b7x1 u7_1 u7_2 u7_3 u7_4 u7_5 u7_6 f22 (law_s0 i0).1 (law_s0 i0).2 rfl (by decide)) hZ (hw _ (List.mem_of_getElem? (i := 43) rfl)) (hw _ (List.mem_of_getElem? (i := 27) rfl)) (by decide) (by decide)) q21a q21c (g := (mkF m 113 #[.val (.int i0), .val (.int i1), .val (.int i2), .val (.int (f0_v7 i0)), .val (.int (f0_v11 i0)), .val (.int (f0_15_s0 i0)), .val (.int (f0_28_s0 i0)), .val (.int (f0_41_s0 i0)), .val (.int (f0_v60 i0)), .val (.int (1 : Int32)), .val (.int (1 : Int32)), .val (.ref b1), .val (.ref b6)] [(.ref b1), (.int (f0_v11 i0)), (.ref b6)])) rfl (by rw [hml]; rfl) (Steps.refl _) (argsL := [(.int (f0_v11 i0)), (.ref b1)]) (rest := []) (lenOf pd_3 rfl) rfl (by show 2 * 0 + _ ≤ _; exact Nat.le_of_eq rfl) (hb hby at_113) (fun _ _ => ⟨rfl, rfl, (by decide : 6 + 0 ≤ _), (by decide : 18 + 0 ≤ _)⟩)
    dsimp only [Pt.U, Pt.locs, Pt.cells, Pt.slots] at X21 l21 y21 z21 st21 hQ21
    subst l21 y21 z21
    obtain ⟨rfl, N21q, K21, u21_0, u21_1, u21_2, u21_3, u21_4, u21_5, u21_6⟩ := hQ21
    have N21 := Fr.app N7 N21q
    obtain ⟨Lh21, X21, N21⟩ := hide X21 N21 (C := 6) (S := 18) (by decide) (by decide)
    refine Outs.to st21 ?_
    refine Outs.of (U' := T21.setTop (mkF m 150 #[.val (.int i0), .val (.int i1), .val (.int i2), .val (.int (f0_v7 i0)), .val (.int (f0_v11 i0)), .val (.int (f0_15_s0 i0)), .val (.int (f0_28_s0 i0)), .val (.int (f0_41_s0 i0)), .val (.int (f0_v60 i0)), .val (.int (1 : Int32)), .val (.int (1 : Int32)), .val (.ref b1), .val (.ref b6)] [(.int (1 : Int32)), (.ref b6)])) (fun t k => ?_) ?_
    · refine XS.iload X21.here hx rfl (hb hby at_116) rfl ?_
      refine XS.iconst X21.here hx rfl (hb hby at_118) ?_
      refine XS.icmpYes X21.here hx rfl (pc0 := 119) (pc' := 131) rfl (hb hby at_119) rfl (flt (show ¬ ((1 : Int32) < (1 : Int32)) from (by decide))).2.2.2 (by decide) (by decide) ?_
      refine XS.iload X21.here hx rfl (hb hby at_131) rfl ?_
      refine XS.iconst X21.here hx rfl (hb hby at_133) ?_
      refine XS.icmpYes X21.here hx rfl (pc0 := 134) (pc' := 146) rfl (hb hby at_134) rfl (flt (show ¬ ((2 : Int32) < (1 : Int32)) from (by decide))).2.2.2 (by decide) (by decide) ?_
      refine XS.aload X21.here hx rfl (hb hby at_146) rfl rfl ?_
      refine XS.iload X21.here hx rfl (hb hby at_148) rfl ?_
      exact k
    obtain ⟨cq23, kq23, q23a, q23b, q23c⟩ := isOf hZ rfl u21_0
    obtain ⟨_, _, ⟨T23, L23, k23, n23⟩, -, X23, ⟨Lc23, hQ23, l23, y23, z23⟩, st23⟩ := X21.virtualBack hx (y := (⟨"com/example/knotwork/knotwork/core/Binding", "undo", "(I)V"⟩ : MethodName)) (z := (⟨"com/example/knotwork/knotwork/core/Binding", "undo", "(I)V"⟩ : MethodName)) hown (mvT hZ (hw _ (List.mem_of_getElem? (i := 47) rfl))) (mvT hZ (hw _ (List.mem_of_getElem? (i := 48) rfl))) (notFace_of_selects (args := #[]) (mvT hZ (hw _ (List.mem_of_getElem? (i := 50) rfl)))) (mvT hZ (hw _ (List.mem_of_getElem? (i := 50) rfl))) (mvT hZ (hw _ (List.mem_of_getElem? (i := 49) rfl))) (by decide) (backOf (W := 0) (rmun11 l Z a0 hw [] b6 b7 b7x1 (upv (fun _ => Value.null) (own_k (f0_v11 i0)) (.ref b1)) (upv (fun _ => (0 : Int32)) 0 (f0_v11 i0)) T21.heap n0 u21_0 g_b6 g_b7 g_b7x1 ne_b6_b7 ne_b6_b7x1 ne_b7_b7x1 u21_1 u21_2 u21_3 u21_4 u21_5 u21_6) hZ (hw _ (List.mem_of_getElem? (i := 51) rfl)) (hw _ (List.mem_of_getElem? (i := 27) rfl)) (by decide) (by decide)) q23a q23c (g := (mkF m 150 #[.val (.int i0), .val (.int i1), .val (.int i2), .val (.int (f0_v7 i0)), .val (.int (f0_v11 i0)), .val (.int (f0_15_s0 i0)), .val (.int (f0_28_s0 i0)), .val (.int (f0_41_s0 i0)), .val (.int (f0_v60 i0)), .val (.int (1 : Int32)), .val (.int (1 : Int32)), .val (.ref b1), .val (.ref b6)] [(.int (1 : Int32)), (.ref b6)])) rfl (by rw [hml]; rfl) (Steps.refl _) (argsL := [(.int (1 : Int32))]) (rest := []) (lenOf pd_2 rfl) rfl (by show 2 * 0 + _ ≤ _; exact Nat.le_of_eq rfl) (hb hby at_150) (fun _ _ => ⟨rfl, rfl, (by decide : 6 + 0 ≤ _), (by decide : 18 + 0 ≤ _)⟩)
    dsimp only [Pt.U, Pt.locs, Pt.cells, Pt.slots] at X23 l23 y23 z23 st23 hQ23
    subst l23 y23 z23
    obtain ⟨rfl, N23q, K23, u23_0, u23_1, u23_2, u23_3, u23_4, u23_5, u23_6⟩ := hQ23
    have N23 := Fr.app N21 N23q
    obtain ⟨Lh23, X23, N23⟩ := hide X23 N23 (C := 6) (S := 18) (by decide) (by decide)
    refine Outs.to st23 ?_
    refine Outs.of (U' := T23.setTop (mkF m 166 #[.val (.int i0), .val (.int i1), .val (.int i2), .val (.int (f0_v7 i0)), .val (.int (f0_v11 i0)), .val (.int (f0_15_s0 i0)), .val (.int (f0_28_s0 i0)), .val (.int (f0_41_s0 i0)), .val (.int (f0_v60 i0)), .val (.int (1 : Int32)), .val (.int (1 : Int32)), .val (.ref b1), .val (.ref b6)] [(.int (f0_v60 i0)), (.int (f0_41_s0 i0)), (.int (f0_v11 i0)), (.int (1 : Int32)), (.int (0 : Int32)), (.ref b1), (.ref b6)])) (fun t k => ?_) ?_
    · refine XS.aload X23.here hx rfl (hb hby at_153) rfl rfl ?_
      refine XS.aload X23.here hx rfl (hb hby at_155) rfl rfl ?_
      refine XS.iconst X23.here hx rfl (hb hby at_157) ?_
      refine XS.iload X23.here hx rfl (hb hby at_158) rfl ?_
      refine XS.iload X23.here hx rfl (hb hby at_160) rfl ?_
      refine XS.iload X23.here hx rfl (hb hby at_162) rfl ?_
      refine XS.iload X23.here hx rfl (hb hby at_164) rfl ?_
      exact k
    obtain ⟨_, _, ⟨T24, L24, k24, n24⟩, -, X24, ⟨Lc24, hQ24, l24, y24, z24⟩, st24⟩ := Jvm.LawKit.callS X23 hx (y := (⟨"com/example/knotwork/knotwork/core/BindingUndoPinLaw", "slotOk", "(Lcom/example/knotwork/knotwork/core/Binding;Lcom/example/knotwork/knotwork/core/Item;IIIII)Z"⟩ : MethodName)) hown (mvT hZ (hw _ (List.mem_of_getElem? (i := 52) rfl))) (mvT hZ (hw _ (List.mem_of_getElem? (i := 53) rfl))) (mvT hZ (hw _ (List.mem_of_getElem? (i := 54) rfl))) (mvT hZ (hw _ (List.mem_of_getElem? (i := 55) rfl))) (by decide) (backOf (W := 0) (rmso l Z a0 hw [] b6 b1 (0 : Int32) (1 : Int32) (f0_v11 i0) (f0_41_s0 i0) (f0_v60 i0) b7 (upv (fun _ => Value.null) (own_k (f0_v11 i0)) (.ref b1)) 0 T23.heap n0 u23_0 u23_1 u23_4 rfl (by decide) (law_d110 i0 b1)) hZ (hw _ (List.mem_of_getElem? (i := 55) rfl)) (hw _ (List.mem_of_getElem? (i := 54) rfl)) (by decide) (by decide)) (g := (mkF m 166 #[.val (.int i0), .val (.int i1), .val (.int i2), .val (.int (f0_v7 i0)), .val (.int (f0_v11 i0)), .val (.int (f0_15_s0 i0)), .val (.int (f0_28_s0 i0)), .val (.int (f0_41_s0 i0)), .val (.int (f0_v60 i0)), .val (.int (1 : Int32)), .val (.int (1 : Int32)), .val (.ref b1), .val (.ref b6)] [(.int (f0_v60 i0)), (.int (f0_41_s0 i0)), (.int (f0_v11 i0)), (.int (1 : Int32)), (.int (0 : Int32)), (.ref b1), (.ref b6)])) rfl (by rw [hml]; rfl) (argsL := [(.ref b6), (.ref b1), (.int (0 : Int32)), (.int (1 : Int32)), (.int (f0_v11 i0)), (.int (f0_41_s0 i0)), (.int (f0_v60 i0))]) (rest := []) (lenOf pd_4 rfl) rfl (by show 2 * 0 + _ ≤ _; exact Nat.le_of_eq rfl) (hb hby at_166) (fun _ _ => ⟨rfl, rfl, (by decide : 6 + 0 ≤ _), (by decide : 18 + 0 ≤ _)⟩)
    dsimp only [Pt.U, Pt.locs, Pt.cells, Pt.slots] at X24 l24 y24 z24 st24 hQ24
    subst l24 y24 z24
    obtain ⟨rfl, N24q, e24⟩ := hQ24
    have N24 := Fr.app N23 N24q
    obtain ⟨Lh24, X24, N24⟩ := hide X24 N24 (C := 6) (S := 18) (by decide) (by decide)
    refine Outs.of st24 ?_
    refine Outs.of (U' := T24.setTop (mkF m 185 #[.val (.int i0), .val (.int i1), .val (.int i2), .val (.int (f0_v7 i0)), .val (.int (f0_v11 i0)), .val (.int (f0_15_s0 i0)), .val (.int (f0_28_s0 i0)), .val (.int (f0_41_s0 i0)), .val (.int (f0_v60 i0)), .val (.int (1 : Int32)), .val (.int (1 : Int32)), .val (.ref b1), .val (.ref b6)] [(.int (f0_v60 i0)), (.int (f0_41_s0 i0)), (.int (f0_v11 i0)), (.int (1 : Int32)), (.int (1 : Int32)), (.ref b1), (.ref b6)])) (fun t k => ?_) ?_
    · refine XS.ifNo X24.here hx rfl (hb hby at_169) rfl ((if0 _ _).trans (feq (show ¬ ((1 : Int32) = (0 : Int32)) from (by decide))).1) ?_
      refine XS.aload X24.here hx rfl (hb hby at_172) rfl rfl ?_
      refine XS.aload X24.here hx rfl (hb hby at_174) rfl rfl ?_
      refine XS.iconst X24.here hx rfl (hb hby at_176) ?_
      refine XS.iload X24.here hx rfl (hb hby at_177) rfl ?_
      refine XS.iload X24.here hx rfl (hb hby at_179) rfl ?_
      refine XS.iload X24.here hx rfl (hb hby at_181) rfl ?_
      refine XS.iload X24.here hx rfl (hb hby at_183) rfl ?_
      exact k
    obtain ⟨_, _, ⟨T25, L25, k25, n25⟩, -, X25, ⟨Lc25, hQ25, l25, y25, z25⟩, st25⟩ := Jvm.LawKit.callS X24 hx (y := (⟨"com/example/knotwork/knotwork/core/BindingUndoPinLaw", "slotOk", "(Lcom/example/knotwork/knotwork/core/Binding;Lcom/example/knotwork/knotwork/core/Item;IIIII)Z"⟩ : MethodName)) hown (mvT hZ (hw _ (List.mem_of_getElem? (i := 52) rfl))) (mvT hZ (hw _ (List.mem_of_getElem? (i := 53) rfl))) (mvT hZ (hw _ (List.mem_of_getElem? (i := 54) rfl))) (mvT hZ (hw _ (List.mem_of_getElem? (i := 55) rfl))) (by decide) (backOf (W := 0) (rmso l Z a0 hw [] b6 b1 (1 : Int32) (1 : Int32) (f0_v11 i0) (f0_41_s0 i0) (f0_v60 i0) b7 (upv (fun _ => Value.null) (own_k (f0_v11 i0)) (.ref b1)) 1 T23.heap n0 u23_0 u23_1 u23_4 rfl (by decide) (law_d111 i0 b1)) hZ (hw _ (List.mem_of_getElem? (i := 55) rfl)) (hw _ (List.mem_of_getElem? (i := 54) rfl)) (by decide) (by decide)) (g := (mkF m 185 #[.val (.int i0), .val (.int i1), .val (.int i2), .val (.int (f0_v7 i0)), .val (.int (f0_v11 i0)), .val (.int (f0_15_s0 i0)), .val (.int (f0_28_s0 i0)), .val (.int (f0_41_s0 i0)), .val (.int (f0_v60 i0)), .val (.int (1 : Int32)), .val (.int (1 : Int32)), .val (.ref b1), .val (.ref b6)] [(.int (f0_v60 i0)), (.int (f0_41_s0 i0)), (.int (f0_v11 i0)), (.int (1 : Int32)), (.int (1 : Int32)), (.ref b1), (.ref b6)])) rfl (by rw [hml]; rfl) (argsL := [(.ref b6), (.ref b1), (.int (1 : Int32)), (.int (1 : Int32)), (.int (f0_v11 i0)), (.int (f0_41_s0 i0)), (.int (f0_v60 i0))]) (rest := []) (lenOf pd_4 rfl) rfl (by show 2 * 0 + _ ≤ _; exact Nat.le_of_eq rfl) (hb hby at_185) (fun _ _ => ⟨rfl, e24, (by decide : 6 + 0 ≤ _), (by decide : 18 + 0 ≤ _)⟩)
    dsimp only [Pt.U, Pt.locs, Pt.cells, Pt.slots] at X25 l25 y25 z25 st25 hQ25
    subst l25 y25 z25
    obtain ⟨rfl, N25q, e25⟩ := hQ25
    have N25 := Fr.app N24 N25q
    obtain ⟨Lh25, X25, N25⟩ := hide X25 N25 (C := 6) (S := 18) (by decide) (by decide)
    refine Outs.of st25 ?_
    refine Outs.of (U' := T25.setTop (mkF m 204 #[.val (.int i0), .val (.int i1), .val (.int i2), .val (.int (f0_v7 i0)), .val (.int (f0_v11 i0)), .val (.int (f0_15_s0 i0)), .val (.int (f0_28_s0 i0)), .val (.int (f0_41_s0 i0)), .val (.int (f0_v60 i0)), .val (.int (1 : Int32)), .val (.int (1 : Int32)), .val (.ref b1), .val (.ref b6)] [(.int (f0_v60 i0)), (.int (f0_41_s0 i0)), (.int (f0_v11 i0)), (.int (1 : Int32)), (.int (2 : Int32)), (.ref b1), (.ref b6)])) (fun t k => ?_) ?_
    · refine XS.ifNo X25.here hx rfl (hb hby at_188) rfl ((if0 _ _).trans (feq (show ¬ ((1 : Int32) = (0 : Int32)) from (by decide))).1) ?_
      refine XS.aload X25.here hx rfl (hb hby at_191) rfl rfl ?_
      refine XS.aload X25.here hx rfl (hb hby at_193) rfl rfl ?_
      refine XS.iconst X25.here hx rfl (hb hby at_195) ?_
      refine XS.iload X25.here hx rfl (hb hby at_196) rfl ?_
      refine XS.iload X25.here hx rfl (hb hby at_198) rfl ?_
      refine XS.iload X25.here hx rfl (hb hby at_200) rfl ?_
      refine XS.iload X25.here hx rfl (hb hby at_202) rfl ?_
      exact k
    obtain ⟨_, _, ⟨T26, L26, k26, n26⟩, -, X26, ⟨Lc26, hQ26, l26, y26, z26⟩, st26⟩ := Jvm.LawKit.callS X25 hx (y := (⟨"com/example/knotwork/knotwork/core/BindingUndoPinLaw", "slotOk", "(Lcom/example/knotwork/knotwork/core/Binding;Lcom/example/knotwork/knotwork/core/Item;IIIII)Z"⟩ : MethodName)) hown (mvT hZ (hw _ (List.mem_of_getElem? (i := 52) rfl))) (mvT hZ (hw _ (List.mem_of_getElem? (i := 53) rfl))) (mvT hZ (hw _ (List.mem_of_getElem? (i := 54) rfl))) (mvT hZ (hw _ (List.mem_of_getElem? (i := 55) rfl))) (by decide) (backOf (W := 0) (rmso l Z a0 hw [] b6 b1 (2 : Int32) (1 : Int32) (f0_v11 i0) (f0_41_s0 i0) (f0_v60 i0) b7 (upv (fun _ => Value.null) (own_k (f0_v11 i0)) (.ref b1)) 2 T23.heap n0 u23_0 u23_1 u23_4 rfl (by decide) (law_d112 i0 b1)) hZ (hw _ (List.mem_of_getElem? (i := 55) rfl)) (hw _ (List.mem_of_getElem? (i := 54) rfl)) (by decide) (by decide)) (g := (mkF m 204 #[.val (.int i0), .val (.int i1), .val (.int i2), .val (.int (f0_v7 i0)), .val (.int (f0_v11 i0)), .val (.int (f0_15_s0 i0)), .val (.int (f0_28_s0 i0)), .val (.int (f0_41_s0 i0)), .val (.int (f0_v60 i0)), .val (.int (1 : Int32)), .val (.int (1 : Int32)), .val (.ref b1), .val (.ref b6)] [(.int (f0_v60 i0)), (.int (f0_41_s0 i0)), (.int (f0_v11 i0)), (.int (1 : Int32)), (.int (2 : Int32)), (.ref b1), (.ref b6)])) rfl (by rw [hml]; rfl) (argsL := [(.ref b6), (.ref b1), (.int (2 : Int32)), (.int (1 : Int32)), (.int (f0_v11 i0)), (.int (f0_41_s0 i0)), (.int (f0_v60 i0))]) (rest := []) (lenOf pd_4 rfl) rfl (by show 2 * 0 + _ ≤ _; exact Nat.le_of_eq rfl) (hb hby at_204) (fun _ _ => ⟨rfl, e25, (by decide : 6 + 0 ≤ _), (by decide : 18 + 0 ≤ _)⟩)
    dsimp only [Pt.U, Pt.locs, Pt.cells, Pt.slots] at X26 l26 y26 z26 st26 hQ26
    subst l26 y26 z26
    obtain ⟨rfl, N26q, e26⟩ := hQ26
    have N26 := Fr.app N25 N26q
    obtain ⟨Lh26, X26, N26⟩ := hide X26 N26 (C := 6) (S := 18) (by decide) (by decide)
    refine Outs.of st26 ?_
    refine Outs.of (U' := T26.setTop (mkF m 212 #[.val (.int i0), .val (.int i1), .val (.int i2), .val (.int (f0_v7 i0)), .val (.int (f0_v11 i0)), .val (.int (f0_15_s0 i0)), .val (.int (f0_28_s0 i0)), .val (.int (f0_41_s0 i0)), .val (.int (f0_v60 i0)), .val (.int (1 : Int32)), .val (.int (1 : Int32)), .val (.ref b1), .val (.ref b6)] [(.ref b6)])) (fun t k => ?_) ?_
    · refine XS.ifNo X26.here hx rfl (hb hby at_207) rfl ((if0 _ _).trans (feq (show ¬ ((1 : Int32) = (0 : Int32)) from (by decide))).1) ?_
      refine XS.aload X26.here hx rfl (hb hby at_210) rfl rfl ?_
      exact k
    obtain ⟨cq27, kq27, q27a, q27b, q27c⟩ := isOf hZ e26 u23_0
    obtain ⟨_, _, ⟨T27, L27, k27, n27⟩, -, X27, ⟨Lc27, hQ27, l27, y27, z27⟩, st27⟩ := X26.virtualBack hx (y := (⟨"com/example/knotwork/knotwork/core/Binding", "mark", "()I"⟩ : MethodName)) (z := (⟨"com/example/knotwork/knotwork/core/Binding", "mark", "()I"⟩ : MethodName)) hown (mvT hZ (hw _ (List.mem_of_getElem? (i := 64) rfl))) (mvT hZ (hw _ (List.mem_of_getElem? (i := 65) rfl))) (notFace_of_selects (args := #[]) (mvT hZ (hw _ (List.mem_of_getElem? (i := 67) rfl)))) (mvT hZ (hw _ (List.mem_of_getElem? (i := 67) rfl))) (mvT hZ (hw _ (List.mem_of_getElem? (i := 66) rfl))) (by decide) (backOf (W := 0) (rm10 l Z a0 hw [] b6 (1 : Int32) T23.heap n0 u23_3) hZ (hw _ (List.mem_of_getElem? (i := 68) rfl)) (hw _ (List.mem_of_getElem? (i := 27) rfl)) (by decide) (by decide)) q27a q27c (g := (mkF m 212 #[.val (.int i0), .val (.int i1), .val (.int i2), .val (.int (f0_v7 i0)), .val (.int (f0_v11 i0)), .val (.int (f0_15_s0 i0)), .val (.int (f0_28_s0 i0)), .val (.int (f0_41_s0 i0)), .val (.int (f0_v60 i0)), .val (.int (1 : Int32)), .val (.int (1 : Int32)), .val (.ref b1), .val (.ref b6)] [(.ref b6)])) rfl (by rw [hml]; rfl) (Steps.refl _) (argsL := []) (rest := []) (lenOf pd_7 rfl) rfl (by show 2 * 0 + _ ≤ _; exact Nat.le_of_eq rfl) (hb hby at_212) (fun _ _ => ⟨rfl, e26, (by decide : 6 + 0 ≤ _), (by decide : 18 + 0 ≤ _)⟩)
    dsimp only [Pt.U, Pt.locs, Pt.cells, Pt.slots] at X27 l27 y27 z27 st27 hQ27
    subst l27 y27 z27
    obtain ⟨rfl, N27q, e27⟩ := hQ27
    have N27 := Fr.app N26 N27q
    obtain ⟨Lh27, X27, N27⟩ := hide X27 N27 (C := 6) (S := 18) (by decide) (by decide)
    refine Outs.to st27 ?_
    refine Outs.of (U' := T27.setTop (mkF m 225 #[.val (.int i0), .val (.int i1), .val (.int i2), .val (.int (f0_v7 i0)), .val (.int (f0_v11 i0)), .val (.int (f0_15_s0 i0)), .val (.int (f0_28_s0 i0)), .val (.int (f0_41_s0 i0)), .val (.int (f0_v60 i0)), .val (.int (1 : Int32)), .val (.int (1 : Int32)), .val (.ref b1), .val (.ref b6)] [(.int (1 : Int32))])) (fun t k => ?_) ?_
    · refine XS.iload X27.here hx rfl (hb hby at_215) rfl ?_
      refine XS.icmpNo X27.here hx rfl (hb hby at_217) rfl (teq (show (1 : Int32) = (1 : Int32) from (by decide))).2 ?_
      refine XS.iconst X27.here hx rfl (hb hby at_220) ?_
      refine XS.goto X27.here hx rfl (pc0 := 221) (pc' := 225) rfl (hb hby at_221) (by decide) (by decide) ?_
      exact k
    exact Outs.retN (t := .boolean) (z := (1 : Int32)) X27 hx hret (by simp) (hb hby at_225) hlk (by decide) (by decide) e27 ⟨⟨rfl, N27⟩, (Nat.le_trans (Nat.le_trans (Nat.le_trans (Nat.le_trans (Nat.le_trans z2 K3.1) E6.1) K7.1) K21.1) K23.1)⟩
  · rw [q9, q10]
    show Outs p e below _ _ _ _ (T7.setTop (mkF m 102 #[.val (.int i0), .val (.int i1), .val (.int i2), .val (.int (f0_v7 i0)), .val (.int (f0_v11 i0)), .val (.int (f0_15_s0 i0)), .val (.int (f0_28_s0 i0)), .val (.int (f0_41_s0 i0)), .val (.int (f0_v60 i0)), .val (.int (2 : Int32)), .val (.int (0 : Int32)), .val (.ref b1), .val (.ref b6)] []))
    refine Outs.of (U' := T7.setTop (mkF m 113 #[.val (.int i0), .val (.int i1), .val (.int i2), .val (.int (f0_v7 i0)), .val (.int (f0_v11 i0)), .val (.int (f0_15_s0 i0)), .val (.int (f0_28_s0 i0)), .val (.int (f0_41_s0 i0)), .val (.int (f0_v60 i0)), .val (.int (2 : Int32)), .val (.int (0 : Int32)), .val (.ref b1), .val (.ref b6)] [(.ref b1), (.int (f0_v11 i0)), (.ref b6)])) (fun t k => ?_) ?_
    · refine XS.iload X7.here hx rfl (hb hby at_102) rfl ?_
      refine XS.ifNo X7.here hx rfl (hb hby at_104) rfl ((if0 _ _).trans (tlt (show (0 : Int32) < (2 : Int32) from (by decide))).2.2.2) ?_
      refine XS.aload X7.here hx rfl (hb hby at_107) rfl rfl ?_
      refine XS.iload X7.here hx rfl (hb hby at_109) rfl ?_
      refine XS.aload X7.here hx rfl (hb hby at_111) rfl rfl ?_
      exact k
    have ne_b7_b7x1 : b7 ≠ b7x1 := AF.neT u7_4 u7_6 (by decide)
    have f29 : Exa Z T7.heap b1 "com/example/knotwork/knotwork/core/Sym" := (f8.keep K7)
    obtain ⟨cq28, kq28, q28a, q28b, q28c⟩ := isOf hZ rfl u7_0
    obtain ⟨_, _, ⟨T28, L28, k28, n28⟩, -, X28, ⟨Lc28, hQ28, l28, y28, z28⟩, st28⟩ := X7.virtualBack hx (y := (⟨"com/example/knotwork/knotwork/core/Binding", "bind", "(ILcom/example/knotwork/knotwork/core/Item;)V"⟩ : MethodName)) (z := (⟨"com/example/knotwork/knotwork/core/Binding", "bind", "(ILcom/example/knotwork/knotwork/core/Item;)V"⟩ : MethodName)) hown (mvT hZ (hw _ (List.mem_of_getElem? (i := 39) rfl))) (mvT hZ (hw _ (List.mem_of_getElem? (i := 40) rfl))) (notFace_of_selects (args := #[]) (mvT hZ (hw _ (List.mem_of_getElem? (i := 42) rfl)))) (mvT hZ (hw _ (List.mem_of_getElem? (i := 42) rfl))) (mvT hZ (hw _ (List.mem_of_getElem? (i := 41) rfl))) (by decide) (backOf (W := 0) (rmbd l Z a0 hw [] b6 (f0_v11 i0) b1 b7 b7x1 (fun _ => Value.null) (fun _ => (0 : Int32)) (0 : Int32) (own_k (f0_v11 i0)) 0 T7.heap n0 u7_0 g_b6 g_b7 g_b7x1 ne_b6_b7 ne_b6_b7x1 ne_b7_b7x1 u7_1 u7_2 u7_3 u7_4 u7_5 u7_6 f29 (law_s0 i0).1 (law_s0 i0).2 rfl (by decide)) hZ (hw _ (List.mem_of_getElem? (i := 43) rfl)) (hw _ (List.mem_of_getElem? (i := 27) rfl)) (by decide) (by decide)) q28a q28c (g := (mkF m 113 #[.val (.int i0), .val (.int i1), .val (.int i2), .val (.int (f0_v7 i0)), .val (.int (f0_v11 i0)), .val (.int (f0_15_s0 i0)), .val (.int (f0_28_s0 i0)), .val (.int (f0_41_s0 i0)), .val (.int (f0_v60 i0)), .val (.int (2 : Int32)), .val (.int (0 : Int32)), .val (.ref b1), .val (.ref b6)] [(.ref b1), (.int (f0_v11 i0)), (.ref b6)])) rfl (by rw [hml]; rfl) (Steps.refl _) (argsL := [(.int (f0_v11 i0)), (.ref b1)]) (rest := []) (lenOf pd_3 rfl) rfl (by show 2 * 0 + _ ≤ _; exact Nat.le_of_eq rfl) (hb hby at_113) (fun _ _ => ⟨rfl, rfl, (by decide : 6 + 0 ≤ _), (by decide : 18 + 0 ≤ _)⟩)
    dsimp only [Pt.U, Pt.locs, Pt.cells, Pt.slots] at X28 l28 y28 z28 st28 hQ28
    subst l28 y28 z28
    obtain ⟨rfl, N28q, K28, u28_0, u28_1, u28_2, u28_3, u28_4, u28_5, u28_6⟩ := hQ28
    have N28 := Fr.app N7 N28q
    obtain ⟨Lh28, X28, N28⟩ := hide X28 N28 (C := 6) (S := 18) (by decide) (by decide)
    refine Outs.to st28 ?_
    refine Outs.of (U' := T28.setTop (mkF m 128 #[.val (.int i0), .val (.int i1), .val (.int i2), .val (.int (f0_v7 i0)), .val (.int (f0_v11 i0)), .val (.int (f0_15_s0 i0)), .val (.int (f0_28_s0 i0)), .val (.int (f0_41_s0 i0)), .val (.int (f0_v60 i0)), .val (.int (2 : Int32)), .val (.int (0 : Int32)), .val (.ref b1), .val (.ref b6)] [(.ref b1), (.int (f0_41_s0 i0)), (.ref b6)])) (fun t k => ?_) ?_
    · refine XS.iload X28.here hx rfl (hb hby at_116) rfl ?_
      refine XS.iconst X28.here hx rfl (hb hby at_118) ?_
      refine XS.icmpNo X28.here hx rfl (hb hby at_119) rfl (tlt (show (1 : Int32) < (2 : Int32) from (by decide))).2.2.2 ?_
      refine XS.aload X28.here hx rfl (hb hby at_122) rfl rfl ?_
      refine XS.iload X28.here hx rfl (hb hby at_124) rfl ?_
      refine XS.aload X28.here hx rfl (hb hby at_126) rfl rfl ?_
      exact k
    have f31 : Exa Z T28.heap b1 "com/example/knotwork/knotwork/core/Sym" := (f29.keep K28)
    obtain ⟨cq30, kq30, q30a, q30b, q30c⟩ := isOf hZ rfl u28_0
    obtain ⟨_, _, ⟨T30, L30, k30, n30⟩, -, X30, ⟨Lc30, hQ30, l30, y30, z30⟩, st30⟩ := X28.virtualBack hx (y := (⟨"com/example/knotwork/knotwork/core/Binding", "bind", "(ILcom/example/knotwork/knotwork/core/Item;)V"⟩ : MethodName)) (z := (⟨"com/example/knotwork/knotwork/core/Binding", "bind", "(ILcom/example/knotwork/knotwork/core/Item;)V"⟩ : MethodName)) hown (mvT hZ (hw _ (List.mem_of_getElem? (i := 39) rfl))) (mvT hZ (hw _ (List.mem_of_getElem? (i := 40) rfl))) (notFace_of_selects (args := #[]) (mvT hZ (hw _ (List.mem_of_getElem? (i := 42) rfl)))) (mvT hZ (hw _ (List.mem_of_getElem? (i := 42) rfl))) (mvT hZ (hw _ (List.mem_of_getElem? (i := 41) rfl))) (by decide) (backOf (W := 0) (rmbd l Z a0 hw [] b6 (f0_41_s0 i0) b1 b7 b7x1 (upv (fun _ => Value.null) (own_k (f0_v11 i0)) (.ref b1)) (upv (fun _ => (0 : Int32)) 0 (f0_v11 i0)) (1 : Int32) (own_k (f0_41_s0 i0)) 1 T28.heap n0 u28_0 g_b6 g_b7 g_b7x1 ne_b6_b7 ne_b6_b7x1 ne_b7_b7x1 u28_1 u28_2 u28_3 u28_4 u28_5 u28_6 f31 (law_s1 i0).1 (law_s1 i0).2 rfl (by decide)) hZ (hw _ (List.mem_of_getElem? (i := 43) rfl)) (hw _ (List.mem_of_getElem? (i := 27) rfl)) (by decide) (by decide)) q30a q30c (g := (mkF m 128 #[.val (.int i0), .val (.int i1), .val (.int i2), .val (.int (f0_v7 i0)), .val (.int (f0_v11 i0)), .val (.int (f0_15_s0 i0)), .val (.int (f0_28_s0 i0)), .val (.int (f0_41_s0 i0)), .val (.int (f0_v60 i0)), .val (.int (2 : Int32)), .val (.int (0 : Int32)), .val (.ref b1), .val (.ref b6)] [(.ref b1), (.int (f0_41_s0 i0)), (.ref b6)])) rfl (by rw [hml]; rfl) (Steps.refl _) (argsL := [(.int (f0_41_s0 i0)), (.ref b1)]) (rest := []) (lenOf pd_3 rfl) rfl (by show 2 * 0 + _ ≤ _; exact Nat.le_of_eq rfl) (hb hby at_128) (fun _ _ => ⟨rfl, rfl, (by decide : 6 + 0 ≤ _), (by decide : 18 + 0 ≤ _)⟩)
    dsimp only [Pt.U, Pt.locs, Pt.cells, Pt.slots] at X30 l30 y30 z30 st30 hQ30
    subst l30 y30 z30
    obtain ⟨rfl, N30q, K30, u30_0, u30_1, u30_2, u30_3, u30_4, u30_5, u30_6⟩ := hQ30
    have N30 := Fr.app N28 N30q
    obtain ⟨Lh30, X30, N30⟩ := hide X30 N30 (C := 6) (S := 18) (by decide) (by decide)
    refine Outs.to st30 ?_
    refine Outs.of (U' := T30.setTop (mkF m 150 #[.val (.int i0), .val (.int i1), .val (.int i2), .val (.int (f0_v7 i0)), .val (.int (f0_v11 i0)), .val (.int (f0_15_s0 i0)), .val (.int (f0_28_s0 i0)), .val (.int (f0_41_s0 i0)), .val (.int (f0_v60 i0)), .val (.int (2 : Int32)), .val (.int (0 : Int32)), .val (.ref b1), .val (.ref b6)] [(.int (0 : Int32)), (.ref b6)])) (fun t k => ?_) ?_
    · refine XS.iload X30.here hx rfl (hb hby at_131) rfl ?_
      refine XS.iconst X30.here hx rfl (hb hby at_133) ?_
      refine XS.icmpYes X30.here hx rfl (pc0 := 134) (pc' := 146) rfl (hb hby at_134) rfl (flt (show ¬ ((2 : Int32) < (2 : Int32)) from (by decide))).2.2.2 (by decide) (by decide) ?_
      refine XS.aload X30.here hx rfl (hb hby at_146) rfl rfl ?_
      refine XS.iload X30.here hx rfl (hb hby at_148) rfl ?_
      exact k
    obtain ⟨cq32, kq32, q32a, q32b, q32c⟩ := isOf hZ rfl u30_0
    obtain ⟨_, _, ⟨T32, L32, k32, n32⟩, -, X32, ⟨Lc32, hQ32, l32, y32, z32⟩, st32⟩ := X30.virtualBack hx (y := (⟨"com/example/knotwork/knotwork/core/Binding", "undo", "(I)V"⟩ : MethodName)) (z := (⟨"com/example/knotwork/knotwork/core/Binding", "undo", "(I)V"⟩ : MethodName)) hown (mvT hZ (hw _ (List.mem_of_getElem? (i := 47) rfl))) (mvT hZ (hw _ (List.mem_of_getElem? (i := 48) rfl))) (notFace_of_selects (args := #[]) (mvT hZ (hw _ (List.mem_of_getElem? (i := 50) rfl)))) (mvT hZ (hw _ (List.mem_of_getElem? (i := 50) rfl))) (mvT hZ (hw _ (List.mem_of_getElem? (i := 49) rfl))) (by decide) (backOf (W := 0) (rmun20 l Z a0 hw [] b6 b7 b7x1 (upv (upv (fun _ => Value.null) (own_k (f0_v11 i0)) (.ref b1)) (own_k (f0_41_s0 i0)) (.ref b1)) (upv (upv (fun _ => (0 : Int32)) 0 (f0_v11 i0)) 1 (f0_41_s0 i0)) (own_k (f0_v11 i0)) (own_k (f0_41_s0 i0)) T30.heap n0 u30_0 g_b6 g_b7 g_b7x1 ne_b6_b7 ne_b6_b7x1 ne_b7_b7x1 u30_1 u30_2 u30_3 u30_4 u30_5 u30_6 (law_s0 i0).1 (law_s0 i0).2 (law_s1 i0).1 (law_s1 i0).2) hZ (hw _ (List.mem_of_getElem? (i := 51) rfl)) (hw _ (List.mem_of_getElem? (i := 27) rfl)) (by decide) (by decide)) q32a q32c (g := (mkF m 150 #[.val (.int i0), .val (.int i1), .val (.int i2), .val (.int (f0_v7 i0)), .val (.int (f0_v11 i0)), .val (.int (f0_15_s0 i0)), .val (.int (f0_28_s0 i0)), .val (.int (f0_41_s0 i0)), .val (.int (f0_v60 i0)), .val (.int (2 : Int32)), .val (.int (0 : Int32)), .val (.ref b1), .val (.ref b6)] [(.int (0 : Int32)), (.ref b6)])) rfl (by rw [hml]; rfl) (Steps.refl _) (argsL := [(.int (0 : Int32))]) (rest := []) (lenOf pd_2 rfl) rfl (by show 2 * 0 + _ ≤ _; exact Nat.le_of_eq rfl) (hb hby at_150) (fun _ _ => ⟨rfl, rfl, (by decide : 6 + 0 ≤ _), (by decide : 18 + 0 ≤ _)⟩)
    dsimp only [Pt.U, Pt.locs, Pt.cells, Pt.slots] at X32 l32 y32 z32 st32 hQ32
    subst l32 y32 z32
    obtain ⟨rfl, N32q, K32, u32_0, u32_1, u32_2, u32_3, u32_4, u32_5, u32_6⟩ := hQ32
    have N32 := Fr.app N30 N32q
    obtain ⟨Lh32, X32, N32⟩ := hide X32 N32 (C := 6) (S := 18) (by decide) (by decide)
    refine Outs.to st32 ?_
    refine Outs.of (U' := T32.setTop (mkF m 166 #[.val (.int i0), .val (.int i1), .val (.int i2), .val (.int (f0_v7 i0)), .val (.int (f0_v11 i0)), .val (.int (f0_15_s0 i0)), .val (.int (f0_28_s0 i0)), .val (.int (f0_41_s0 i0)), .val (.int (f0_v60 i0)), .val (.int (2 : Int32)), .val (.int (0 : Int32)), .val (.ref b1), .val (.ref b6)] [(.int (f0_v60 i0)), (.int (f0_41_s0 i0)), (.int (f0_v11 i0)), (.int (0 : Int32)), (.int (0 : Int32)), (.ref b1), (.ref b6)])) (fun t k => ?_) ?_
    · refine XS.aload X32.here hx rfl (hb hby at_153) rfl rfl ?_
      refine XS.aload X32.here hx rfl (hb hby at_155) rfl rfl ?_
      refine XS.iconst X32.here hx rfl (hb hby at_157) ?_
      refine XS.iload X32.here hx rfl (hb hby at_158) rfl ?_
      refine XS.iload X32.here hx rfl (hb hby at_160) rfl ?_
      refine XS.iload X32.here hx rfl (hb hby at_162) rfl ?_
      refine XS.iload X32.here hx rfl (hb hby at_164) rfl ?_
      exact k
    obtain ⟨_, _, ⟨T33, L33, k33, n33⟩, -, X33, ⟨Lc33, hQ33, l33, y33, z33⟩, st33⟩ := Jvm.LawKit.callS X32 hx (y := (⟨"com/example/knotwork/knotwork/core/BindingUndoPinLaw", "slotOk", "(Lcom/example/knotwork/knotwork/core/Binding;Lcom/example/knotwork/knotwork/core/Item;IIIII)Z"⟩ : MethodName)) hown (mvT hZ (hw _ (List.mem_of_getElem? (i := 52) rfl))) (mvT hZ (hw _ (List.mem_of_getElem? (i := 53) rfl))) (mvT hZ (hw _ (List.mem_of_getElem? (i := 54) rfl))) (mvT hZ (hw _ (List.mem_of_getElem? (i := 55) rfl))) (by decide) (backOf (W := 0) (rmso l Z a0 hw [] b6 b1 (0 : Int32) (0 : Int32) (f0_v11 i0) (f0_41_s0 i0) (f0_v60 i0) b7 (upv (upv (upv (upv (fun _ => Value.null) (own_k (f0_v11 i0)) (.ref b1)) (own_k (f0_41_s0 i0)) (.ref b1)) (own_k (f0_41_s0 i0)) .null) (own_k (f0_v11 i0)) .null) 0 T32.heap n0 u32_0 u32_1 u32_4 rfl (by decide) (law_d200 i0 b1)) hZ (hw _ (List.mem_of_getElem? (i := 55) rfl)) (hw _ (List.mem_of_getElem? (i := 54) rfl)) (by decide) (by decide)) (g := (mkF m 166 #[.val (.int i0), .val (.int i1), .val (.int i2), .val (.int (f0_v7 i0)), .val (.int (f0_v11 i0)), .val (.int (f0_15_s0 i0)), .val (.int (f0_28_s0 i0)), .val (.int (f0_41_s0 i0)), .val (.int (f0_v60 i0)), .val (.int (2 : Int32)), .val (.int (0 : Int32)), .val (.ref b1), .val (.ref b6)] [(.int (f0_v60 i0)), (.int (f0_41_s0 i0)), (.int (f0_v11 i0)), (.int (0 : Int32)), (.int (0 : Int32)), (.ref b1), (.ref b6)])) rfl (by rw [hml]; rfl) (argsL := [(.ref b6), (.ref b1), (.int (0 : Int32)), (.int (0 : Int32)), (.int (f0_v11 i0)), (.int (f0_41_s0 i0)), (.int (f0_v60 i0))]) (rest := []) (lenOf pd_4 rfl) rfl (by show 2 * 0 + _ ≤ _; exact Nat.le_of_eq rfl) (hb hby at_166) (fun _ _ => ⟨rfl, rfl, (by decide : 6 + 0 ≤ _), (by decide : 18 + 0 ≤ _)⟩)
    dsimp only [Pt.U, Pt.locs, Pt.cells, Pt.slots] at X33 l33 y33 z33 st33 hQ33
    subst l33 y33 z33
    obtain ⟨rfl, N33q, e33⟩ := hQ33
    have N33 := Fr.app N32 N33q
    obtain ⟨Lh33, X33, N33⟩ := hide X33 N33 (C := 6) (S := 18) (by decide) (by decide)
    refine Outs.of st33 ?_
    refine Outs.of (U' := T33.setTop (mkF m 185 #[.val (.int i0), .val (.int i1), .val (.int i2), .val (.int (f0_v7 i0)), .val (.int (f0_v11 i0)), .val (.int (f0_15_s0 i0)), .val (.int (f0_28_s0 i0)), .val (.int (f0_41_s0 i0)), .val (.int (f0_v60 i0)), .val (.int (2 : Int32)), .val (.int (0 : Int32)), .val (.ref b1), .val (.ref b6)] [(.int (f0_v60 i0)), (.int (f0_41_s0 i0)), (.int (f0_v11 i0)), (.int (0 : Int32)), (.int (1 : Int32)), (.ref b1), (.ref b6)])) (fun t k => ?_) ?_
    · refine XS.ifNo X33.here hx rfl (hb hby at_169) rfl ((if0 _ _).trans (feq (show ¬ ((1 : Int32) = (0 : Int32)) from (by decide))).1) ?_
      refine XS.aload X33.here hx rfl (hb hby at_172) rfl rfl ?_
      refine XS.aload X33.here hx rfl (hb hby at_174) rfl rfl ?_
      refine XS.iconst X33.here hx rfl (hb hby at_176) ?_
      refine XS.iload X33.here hx rfl (hb hby at_177) rfl ?_
      refine XS.iload X33.here hx rfl (hb hby at_179) rfl ?_
      refine XS.iload X33.here hx rfl (hb hby at_181) rfl ?_
      refine XS.iload X33.here hx rfl (hb hby at_183) rfl ?_
      exact k
    obtain ⟨_, _, ⟨T34, L34, k34, n34⟩, -, X34, ⟨Lc34, hQ34, l34, y34, z34⟩, st34⟩ := Jvm.LawKit.callS X33 hx (y := (⟨"com/example/knotwork/knotwork/core/BindingUndoPinLaw", "slotOk", "(Lcom/example/knotwork/knotwork/core/Binding;Lcom/example/knotwork/knotwork/core/Item;IIIII)Z"⟩ : MethodName)) hown (mvT hZ (hw _ (List.mem_of_getElem? (i := 52) rfl))) (mvT hZ (hw _ (List.mem_of_getElem? (i := 53) rfl))) (mvT hZ (hw _ (List.mem_of_getElem? (i := 54) rfl))) (mvT hZ (hw _ (List.mem_of_getElem? (i := 55) rfl))) (by decide) (backOf (W := 0) (rmso l Z a0 hw [] b6 b1 (1 : Int32) (0 : Int32) (f0_v11 i0) (f0_41_s0 i0) (f0_v60 i0) b7 (upv (upv (upv (upv (fun _ => Value.null) (own_k (f0_v11 i0)) (.ref b1)) (own_k (f0_41_s0 i0)) (.ref b1)) (own_k (f0_41_s0 i0)) .null) (own_k (f0_v11 i0)) .null) 1 T32.heap n0 u32_0 u32_1 u32_4 rfl (by decide) (law_d201 i0 b1)) hZ (hw _ (List.mem_of_getElem? (i := 55) rfl)) (hw _ (List.mem_of_getElem? (i := 54) rfl)) (by decide) (by decide)) (g := (mkF m 185 #[.val (.int i0), .val (.int i1), .val (.int i2), .val (.int (f0_v7 i0)), .val (.int (f0_v11 i0)), .val (.int (f0_15_s0 i0)), .val (.int (f0_28_s0 i0)), .val (.int (f0_41_s0 i0)), .val (.int (f0_v60 i0)), .val (.int (2 : Int32)), .val (.int (0 : Int32)), .val (.ref b1), .val (.ref b6)] [(.int (f0_v60 i0)), (.int (f0_41_s0 i0)), (.int (f0_v11 i0)), (.int (0 : Int32)), (.int (1 : Int32)), (.ref b1), (.ref b6)])) rfl (by rw [hml]; rfl) (argsL := [(.ref b6), (.ref b1), (.int (1 : Int32)), (.int (0 : Int32)), (.int (f0_v11 i0)), (.int (f0_41_s0 i0)), (.int (f0_v60 i0))]) (rest := []) (lenOf pd_4 rfl) rfl (by show 2 * 0 + _ ≤ _; exact Nat.le_of_eq rfl) (hb hby at_185) (fun _ _ => ⟨rfl, e33, (by decide : 6 + 0 ≤ _), (by decide : 18 + 0 ≤ _)⟩)
    dsimp only [Pt.U, Pt.locs, Pt.cells, Pt.slots] at X34 l34 y34 z34 st34 hQ34
    subst l34 y34 z34
    obtain ⟨rfl, N34q, e34⟩ := hQ34
    have N34 := Fr.app N33 N34q
    obtain ⟨Lh34, X34, N34⟩ := hide X34 N34 (C := 6) (S := 18) (by decide) (by decide)
    refine Outs.of st34 ?_
    refine Outs.of (U' := T34.setTop (mkF m 204 #[.val (.int i0), .val (.int i1), .val (.int i2), .val (.int (f0_v7 i0)), .val (.int (f0_v11 i0)), .val (.int (f0_15_s0 i0)), .val (.int (f0_28_s0 i0)), .val (.int (f0_41_s0 i0)), .val (.int (f0_v60 i0)), .val (.int (2 : Int32)), .val (.int (0 : Int32)), .val (.ref b1), .val (.ref b6)] [(.int (f0_v60 i0)), (.int (f0_41_s0 i0)), (.int (f0_v11 i0)), (.int (0 : Int32)), (.int (2 : Int32)), (.ref b1), (.ref b6)])) (fun t k => ?_) ?_
    · refine XS.ifNo X34.here hx rfl (hb hby at_188) rfl ((if0 _ _).trans (feq (show ¬ ((1 : Int32) = (0 : Int32)) from (by decide))).1) ?_
      refine XS.aload X34.here hx rfl (hb hby at_191) rfl rfl ?_
      refine XS.aload X34.here hx rfl (hb hby at_193) rfl rfl ?_
      refine XS.iconst X34.here hx rfl (hb hby at_195) ?_
      refine XS.iload X34.here hx rfl (hb hby at_196) rfl ?_
      refine XS.iload X34.here hx rfl (hb hby at_198) rfl ?_
      refine XS.iload X34.here hx rfl (hb hby at_200) rfl ?_
      refine XS.iload X34.here hx rfl (hb hby at_202) rfl ?_
      exact k
    obtain ⟨_, _, ⟨T35, L35, k35, n35⟩, -, X35, ⟨Lc35, hQ35, l35, y35, z35⟩, st35⟩ := Jvm.LawKit.callS X34 hx (y := (⟨"com/example/knotwork/knotwork/core/BindingUndoPinLaw", "slotOk", "(Lcom/example/knotwork/knotwork/core/Binding;Lcom/example/knotwork/knotwork/core/Item;IIIII)Z"⟩ : MethodName)) hown (mvT hZ (hw _ (List.mem_of_getElem? (i := 52) rfl))) (mvT hZ (hw _ (List.mem_of_getElem? (i := 53) rfl))) (mvT hZ (hw _ (List.mem_of_getElem? (i := 54) rfl))) (mvT hZ (hw _ (List.mem_of_getElem? (i := 55) rfl))) (by decide) (backOf (W := 0) (rmso l Z a0 hw [] b6 b1 (2 : Int32) (0 : Int32) (f0_v11 i0) (f0_41_s0 i0) (f0_v60 i0) b7 (upv (upv (upv (upv (fun _ => Value.null) (own_k (f0_v11 i0)) (.ref b1)) (own_k (f0_41_s0 i0)) (.ref b1)) (own_k (f0_41_s0 i0)) .null) (own_k (f0_v11 i0)) .null) 2 T32.heap n0 u32_0 u32_1 u32_4 rfl (by decide) (law_d202 i0 b1)) hZ (hw _ (List.mem_of_getElem? (i := 55) rfl)) (hw _ (List.mem_of_getElem? (i := 54) rfl)) (by decide) (by decide)) (g := (mkF m 204 #[.val (.int i0), .val (.int i1), .val (.int i2), .val (.int (f0_v7 i0)), .val (.int (f0_v11 i0)), .val (.int (f0_15_s0 i0)), .val (.int (f0_28_s0 i0)), .val (.int (f0_41_s0 i0)), .val (.int (f0_v60 i0)), .val (.int (2 : Int32)), .val (.int (0 : Int32)), .val (.ref b1), .val (.ref b6)] [(.int (f0_v60 i0)), (.int (f0_41_s0 i0)), (.int (f0_v11 i0)), (.int (0 : Int32)), (.int (2 : Int32)), (.ref b1), (.ref b6)])) rfl (by rw [hml]; rfl) (argsL := [(.ref b6), (.ref b1), (.int (2 : Int32)), (.int (0 : Int32)), (.int (f0_v11 i0)), (.int (f0_41_s0 i0)), (.int (f0_v60 i0))]) (rest := []) (lenOf pd_4 rfl) rfl (by show 2 * 0 + _ ≤ _; exact Nat.le_of_eq rfl) (hb hby at_204) (fun _ _ => ⟨rfl, e34, (by decide : 6 + 0 ≤ _), (by decide : 18 + 0 ≤ _)⟩)
    dsimp only [Pt.U, Pt.locs, Pt.cells, Pt.slots] at X35 l35 y35 z35 st35 hQ35
    subst l35 y35 z35
    obtain ⟨rfl, N35q, e35⟩ := hQ35
    have N35 := Fr.app N34 N35q
    obtain ⟨Lh35, X35, N35⟩ := hide X35 N35 (C := 6) (S := 18) (by decide) (by decide)
    refine Outs.of st35 ?_
    refine Outs.of (U' := T35.setTop (mkF m 212 #[.val (.int i0), .val (.int i1), .val (.int i2), .val (.int (f0_v7 i0)), .val (.int (f0_v11 i0)), .val (.int (f0_15_s0 i0)), .val (.int (f0_28_s0 i0)), .val (.int (f0_41_s0 i0)), .val (.int (f0_v60 i0)), .val (.int (2 : Int32)), .val (.int (0 : Int32)), .val (.ref b1), .val (.ref b6)] [(.ref b6)])) (fun t k => ?_) ?_
    · refine XS.ifNo X35.here hx rfl (hb hby at_207) rfl ((if0 _ _).trans (feq (show ¬ ((1 : Int32) = (0 : Int32)) from (by decide))).1) ?_
      refine XS.aload X35.here hx rfl (hb hby at_210) rfl rfl ?_
      exact k
    obtain ⟨cq36, kq36, q36a, q36b, q36c⟩ := isOf hZ e35 u32_0
    obtain ⟨_, _, ⟨T36, L36, k36, n36⟩, -, X36, ⟨Lc36, hQ36, l36, y36, z36⟩, st36⟩ := X35.virtualBack hx (y := (⟨"com/example/knotwork/knotwork/core/Binding", "mark", "()I"⟩ : MethodName)) (z := (⟨"com/example/knotwork/knotwork/core/Binding", "mark", "()I"⟩ : MethodName)) hown (mvT hZ (hw _ (List.mem_of_getElem? (i := 64) rfl))) (mvT hZ (hw _ (List.mem_of_getElem? (i := 65) rfl))) (notFace_of_selects (args := #[]) (mvT hZ (hw _ (List.mem_of_getElem? (i := 67) rfl)))) (mvT hZ (hw _ (List.mem_of_getElem? (i := 67) rfl))) (mvT hZ (hw _ (List.mem_of_getElem? (i := 66) rfl))) (by decide) (backOf (W := 0) (rm10 l Z a0 hw [] b6 (0 : Int32) T32.heap n0 u32_3) hZ (hw _ (List.mem_of_getElem? (i := 68) rfl)) (hw _ (List.mem_of_getElem? (i := 27) rfl)) (by decide) (by decide)) q36a q36c (g := (mkF m 212 #[.val (.int i0), .val (.int i1), .val (.int i2), .val (.int (f0_v7 i0)), .val (.int (f0_v11 i0)), .val (.int (f0_15_s0 i0)), .val (.int (f0_28_s0 i0)), .val (.int (f0_41_s0 i0)), .val (.int (f0_v60 i0)), .val (.int (2 : Int32)), .val (.int (0 : Int32)), .val (.ref b1), .val (.ref b6)] [(.ref b6)])) rfl (by rw [hml]; rfl) (Steps.refl _) (argsL := []) (rest := []) (lenOf pd_7 rfl) rfl (by show 2 * 0 + _ ≤ _; exact Nat.le_of_eq rfl) (hb hby at_212) (fun _ _ => ⟨rfl, e35, (by decide : 6 + 0 ≤ _), (by decide : 18 + 0 ≤ _)⟩)
    dsimp only [Pt.U, Pt.locs, Pt.cells, Pt.slots] at X36 l36 y36 z36 st36 hQ36
    subst l36 y36 z36
    obtain ⟨rfl, N36q, e36⟩ := hQ36
    have N36 := Fr.app N35 N36q
    obtain ⟨Lh36, X36, N36⟩ := hide X36 N36 (C := 6) (S := 18) (by decide) (by decide)
    refine Outs.to st36 ?_
    refine Outs.of (U' := T36.setTop (mkF m 225 #[.val (.int i0), .val (.int i1), .val (.int i2), .val (.int (f0_v7 i0)), .val (.int (f0_v11 i0)), .val (.int (f0_15_s0 i0)), .val (.int (f0_28_s0 i0)), .val (.int (f0_41_s0 i0)), .val (.int (f0_v60 i0)), .val (.int (2 : Int32)), .val (.int (0 : Int32)), .val (.ref b1), .val (.ref b6)] [(.int (1 : Int32))])) (fun t k => ?_) ?_
    · refine XS.iload X36.here hx rfl (hb hby at_215) rfl ?_
      refine XS.icmpNo X36.here hx rfl (hb hby at_217) rfl (teq (show (0 : Int32) = (0 : Int32) from (by decide))).2 ?_
      refine XS.iconst X36.here hx rfl (hb hby at_220) ?_
      refine XS.goto X36.here hx rfl (pc0 := 221) (pc' := 225) rfl (hb hby at_221) (by decide) (by decide) ?_
      exact k
    exact Outs.retN (t := .boolean) (z := (1 : Int32)) X36 hx hret (by simp) (hb hby at_225) hlk (by decide) (by decide) e36 ⟨⟨rfl, N36⟩, (Nat.le_trans (Nat.le_trans (Nat.le_trans (Nat.le_trans (Nat.le_trans (Nat.le_trans z2 K3.1) E6.1) K7.1) K28.1) K30.1) K32.1)⟩
  · rw [q9, q10]
    show Outs p e below _ _ _ _ (T7.setTop (mkF m 102 #[.val (.int i0), .val (.int i1), .val (.int i2), .val (.int (f0_v7 i0)), .val (.int (f0_v11 i0)), .val (.int (f0_15_s0 i0)), .val (.int (f0_28_s0 i0)), .val (.int (f0_41_s0 i0)), .val (.int (f0_v60 i0)), .val (.int (2 : Int32)), .val (.int (1 : Int32)), .val (.ref b1), .val (.ref b6)] []))
    refine Outs.of (U' := T7.setTop (mkF m 113 #[.val (.int i0), .val (.int i1), .val (.int i2), .val (.int (f0_v7 i0)), .val (.int (f0_v11 i0)), .val (.int (f0_15_s0 i0)), .val (.int (f0_28_s0 i0)), .val (.int (f0_41_s0 i0)), .val (.int (f0_v60 i0)), .val (.int (2 : Int32)), .val (.int (1 : Int32)), .val (.ref b1), .val (.ref b6)] [(.ref b1), (.int (f0_v11 i0)), (.ref b6)])) (fun t k => ?_) ?_
    · refine XS.iload X7.here hx rfl (hb hby at_102) rfl ?_
      refine XS.ifNo X7.here hx rfl (hb hby at_104) rfl ((if0 _ _).trans (tlt (show (0 : Int32) < (2 : Int32) from (by decide))).2.2.2) ?_
      refine XS.aload X7.here hx rfl (hb hby at_107) rfl rfl ?_
      refine XS.iload X7.here hx rfl (hb hby at_109) rfl ?_
      refine XS.aload X7.here hx rfl (hb hby at_111) rfl rfl ?_
      exact k
    have ne_b7_b7x1 : b7 ≠ b7x1 := AF.neT u7_4 u7_6 (by decide)
    have f38 : Exa Z T7.heap b1 "com/example/knotwork/knotwork/core/Sym" := (f8.keep K7)
    obtain ⟨cq37, kq37, q37a, q37b, q37c⟩ := isOf hZ rfl u7_0
    obtain ⟨_, _, ⟨T37, L37, k37, n37⟩, -, X37, ⟨Lc37, hQ37, l37, y37, z37⟩, st37⟩ := X7.virtualBack hx (y := (⟨"com/example/knotwork/knotwork/core/Binding", "bind", "(ILcom/example/knotwork/knotwork/core/Item;)V"⟩ : MethodName)) (z := (⟨"com/example/knotwork/knotwork/core/Binding", "bind", "(ILcom/example/knotwork/knotwork/core/Item;)V"⟩ : MethodName)) hown (mvT hZ (hw _ (List.mem_of_getElem? (i := 39) rfl))) (mvT hZ (hw _ (List.mem_of_getElem? (i := 40) rfl))) (notFace_of_selects (args := #[]) (mvT hZ (hw _ (List.mem_of_getElem? (i := 42) rfl)))) (mvT hZ (hw _ (List.mem_of_getElem? (i := 42) rfl))) (mvT hZ (hw _ (List.mem_of_getElem? (i := 41) rfl))) (by decide) (backOf (W := 0) (rmbd l Z a0 hw [] b6 (f0_v11 i0) b1 b7 b7x1 (fun _ => Value.null) (fun _ => (0 : Int32)) (0 : Int32) (own_k (f0_v11 i0)) 0 T7.heap n0 u7_0 g_b6 g_b7 g_b7x1 ne_b6_b7 ne_b6_b7x1 ne_b7_b7x1 u7_1 u7_2 u7_3 u7_4 u7_5 u7_6 f38 (law_s0 i0).1 (law_s0 i0).2 rfl (by decide)) hZ (hw _ (List.mem_of_getElem? (i := 43) rfl)) (hw _ (List.mem_of_getElem? (i := 27) rfl)) (by decide) (by decide)) q37a q37c (g := (mkF m 113 #[.val (.int i0), .val (.int i1), .val (.int i2), .val (.int (f0_v7 i0)), .val (.int (f0_v11 i0)), .val (.int (f0_15_s0 i0)), .val (.int (f0_28_s0 i0)), .val (.int (f0_41_s0 i0)), .val (.int (f0_v60 i0)), .val (.int (2 : Int32)), .val (.int (1 : Int32)), .val (.ref b1), .val (.ref b6)] [(.ref b1), (.int (f0_v11 i0)), (.ref b6)])) rfl (by rw [hml]; rfl) (Steps.refl _) (argsL := [(.int (f0_v11 i0)), (.ref b1)]) (rest := []) (lenOf pd_3 rfl) rfl (by show 2 * 0 + _ ≤ _; exact Nat.le_of_eq rfl) (hb hby at_113) (fun _ _ => ⟨rfl, rfl, (by decide : 6 + 0 ≤ _), (by decide : 18 + 0 ≤ _)⟩)
    dsimp only [Pt.U, Pt.locs, Pt.cells, Pt.slots] at X37 l37 y37 z37 st37 hQ37
    subst l37 y37 z37
    obtain ⟨rfl, N37q, K37, u37_0, u37_1, u37_2, u37_3, u37_4, u37_5, u37_6⟩ := hQ37
    have N37 := Fr.app N7 N37q
    obtain ⟨Lh37, X37, N37⟩ := hide X37 N37 (C := 6) (S := 18) (by decide) (by decide)
    refine Outs.to st37 ?_
    refine Outs.of (U' := T37.setTop (mkF m 128 #[.val (.int i0), .val (.int i1), .val (.int i2), .val (.int (f0_v7 i0)), .val (.int (f0_v11 i0)), .val (.int (f0_15_s0 i0)), .val (.int (f0_28_s0 i0)), .val (.int (f0_41_s0 i0)), .val (.int (f0_v60 i0)), .val (.int (2 : Int32)), .val (.int (1 : Int32)), .val (.ref b1), .val (.ref b6)] [(.ref b1), (.int (f0_41_s0 i0)), (.ref b6)])) (fun t k => ?_) ?_
    · refine XS.iload X37.here hx rfl (hb hby at_116) rfl ?_
      refine XS.iconst X37.here hx rfl (hb hby at_118) ?_
      refine XS.icmpNo X37.here hx rfl (hb hby at_119) rfl (tlt (show (1 : Int32) < (2 : Int32) from (by decide))).2.2.2 ?_
      refine XS.aload X37.here hx rfl (hb hby at_122) rfl rfl ?_
      refine XS.iload X37.here hx rfl (hb hby at_124) rfl ?_
      refine XS.aload X37.here hx rfl (hb hby at_126) rfl rfl ?_
      exact k
    have f40 : Exa Z T37.heap b1 "com/example/knotwork/knotwork/core/Sym" := (f38.keep K37)
    obtain ⟨cq39, kq39, q39a, q39b, q39c⟩ := isOf hZ rfl u37_0
    obtain ⟨_, _, ⟨T39, L39, k39, n39⟩, -, X39, ⟨Lc39, hQ39, l39, y39, z39⟩, st39⟩ := X37.virtualBack hx (y := (⟨"com/example/knotwork/knotwork/core/Binding", "bind", "(ILcom/example/knotwork/knotwork/core/Item;)V"⟩ : MethodName)) (z := (⟨"com/example/knotwork/knotwork/core/Binding", "bind", "(ILcom/example/knotwork/knotwork/core/Item;)V"⟩ : MethodName)) hown (mvT hZ (hw _ (List.mem_of_getElem? (i := 39) rfl))) (mvT hZ (hw _ (List.mem_of_getElem? (i := 40) rfl))) (notFace_of_selects (args := #[]) (mvT hZ (hw _ (List.mem_of_getElem? (i := 42) rfl)))) (mvT hZ (hw _ (List.mem_of_getElem? (i := 42) rfl))) (mvT hZ (hw _ (List.mem_of_getElem? (i := 41) rfl))) (by decide) (backOf (W := 0) (rmbd l Z a0 hw [] b6 (f0_41_s0 i0) b1 b7 b7x1 (upv (fun _ => Value.null) (own_k (f0_v11 i0)) (.ref b1)) (upv (fun _ => (0 : Int32)) 0 (f0_v11 i0)) (1 : Int32) (own_k (f0_41_s0 i0)) 1 T37.heap n0 u37_0 g_b6 g_b7 g_b7x1 ne_b6_b7 ne_b6_b7x1 ne_b7_b7x1 u37_1 u37_2 u37_3 u37_4 u37_5 u37_6 f40 (law_s1 i0).1 (law_s1 i0).2 rfl (by decide)) hZ (hw _ (List.mem_of_getElem? (i := 43) rfl)) (hw _ (List.mem_of_getElem? (i := 27) rfl)) (by decide) (by decide)) q39a q39c (g := (mkF m 128 #[.val (.int i0), .val (.int i1), .val (.int i2), .val (.int (f0_v7 i0)), .val (.int (f0_v11 i0)), .val (.int (f0_15_s0 i0)), .val (.int (f0_28_s0 i0)), .val (.int (f0_41_s0 i0)), .val (.int (f0_v60 i0)), .val (.int (2 : Int32)), .val (.int (1 : Int32)), .val (.ref b1), .val (.ref b6)] [(.ref b1), (.int (f0_41_s0 i0)), (.ref b6)])) rfl (by rw [hml]; rfl) (Steps.refl _) (argsL := [(.int (f0_41_s0 i0)), (.ref b1)]) (rest := []) (lenOf pd_3 rfl) rfl (by show 2 * 0 + _ ≤ _; exact Nat.le_of_eq rfl) (hb hby at_128) (fun _ _ => ⟨rfl, rfl, (by decide : 6 + 0 ≤ _), (by decide : 18 + 0 ≤ _)⟩)
    dsimp only [Pt.U, Pt.locs, Pt.cells, Pt.slots] at X39 l39 y39 z39 st39 hQ39
    subst l39 y39 z39
    obtain ⟨rfl, N39q, K39, u39_0, u39_1, u39_2, u39_3, u39_4, u39_5, u39_6⟩ := hQ39
    have N39 := Fr.app N37 N39q
    obtain ⟨Lh39, X39, N39⟩ := hide X39 N39 (C := 6) (S := 18) (by decide) (by decide)
    refine Outs.to st39 ?_
    refine Outs.of (U' := T39.setTop (mkF m 150 #[.val (.int i0), .val (.int i1), .val (.int i2), .val (.int (f0_v7 i0)), .val (.int (f0_v11 i0)), .val (.int (f0_15_s0 i0)), .val (.int (f0_28_s0 i0)), .val (.int (f0_41_s0 i0)), .val (.int (f0_v60 i0)), .val (.int (2 : Int32)), .val (.int (1 : Int32)), .val (.ref b1), .val (.ref b6)] [(.int (1 : Int32)), (.ref b6)])) (fun t k => ?_) ?_
    · refine XS.iload X39.here hx rfl (hb hby at_131) rfl ?_
      refine XS.iconst X39.here hx rfl (hb hby at_133) ?_
      refine XS.icmpYes X39.here hx rfl (pc0 := 134) (pc' := 146) rfl (hb hby at_134) rfl (flt (show ¬ ((2 : Int32) < (2 : Int32)) from (by decide))).2.2.2 (by decide) (by decide) ?_
      refine XS.aload X39.here hx rfl (hb hby at_146) rfl rfl ?_
      refine XS.iload X39.here hx rfl (hb hby at_148) rfl ?_
      exact k
    obtain ⟨cq41, kq41, q41a, q41b, q41c⟩ := isOf hZ rfl u39_0
    obtain ⟨_, _, ⟨T41, L41, k41, n41⟩, -, X41, ⟨Lc41, hQ41, l41, y41, z41⟩, st41⟩ := X39.virtualBack hx (y := (⟨"com/example/knotwork/knotwork/core/Binding", "undo", "(I)V"⟩ : MethodName)) (z := (⟨"com/example/knotwork/knotwork/core/Binding", "undo", "(I)V"⟩ : MethodName)) hown (mvT hZ (hw _ (List.mem_of_getElem? (i := 47) rfl))) (mvT hZ (hw _ (List.mem_of_getElem? (i := 48) rfl))) (notFace_of_selects (args := #[]) (mvT hZ (hw _ (List.mem_of_getElem? (i := 50) rfl)))) (mvT hZ (hw _ (List.mem_of_getElem? (i := 50) rfl))) (mvT hZ (hw _ (List.mem_of_getElem? (i := 49) rfl))) (by decide) (backOf (W := 0) (rmun21 l Z a0 hw [] b6 b7 b7x1 (upv (upv (fun _ => Value.null) (own_k (f0_v11 i0)) (.ref b1)) (own_k (f0_41_s0 i0)) (.ref b1)) (upv (upv (fun _ => (0 : Int32)) 0 (f0_v11 i0)) 1 (f0_41_s0 i0)) (own_k (f0_41_s0 i0)) T39.heap n0 u39_0 g_b6 g_b7 g_b7x1 ne_b6_b7 ne_b6_b7x1 ne_b7_b7x1 u39_1 u39_2 u39_3 u39_4 u39_5 u39_6 (law_s1 i0).1 (law_s1 i0).2) hZ (hw _ (List.mem_of_getElem? (i := 51) rfl)) (hw _ (List.mem_of_getElem? (i := 27) rfl)) (by decide) (by decide)) q41a q41c (g := (mkF m 150 #[.val (.int i0), .val (.int i1), .val (.int i2), .val (.int (f0_v7 i0)), .val (.int (f0_v11 i0)), .val (.int (f0_15_s0 i0)), .val (.int (f0_28_s0 i0)), .val (.int (f0_41_s0 i0)), .val (.int (f0_v60 i0)), .val (.int (2 : Int32)), .val (.int (1 : Int32)), .val (.ref b1), .val (.ref b6)] [(.int (1 : Int32)), (.ref b6)])) rfl (by rw [hml]; rfl) (Steps.refl _) (argsL := [(.int (1 : Int32))]) (rest := []) (lenOf pd_2 rfl) rfl (by show 2 * 0 + _ ≤ _; exact Nat.le_of_eq rfl) (hb hby at_150) (fun _ _ => ⟨rfl, rfl, (by decide : 6 + 0 ≤ _), (by decide : 18 + 0 ≤ _)⟩)
    dsimp only [Pt.U, Pt.locs, Pt.cells, Pt.slots] at X41 l41 y41 z41 st41 hQ41
    subst l41 y41 z41
    obtain ⟨rfl, N41q, K41, u41_0, u41_1, u41_2, u41_3, u41_4, u41_5, u41_6⟩ := hQ41
    have N41 := Fr.app N39 N41q
    obtain ⟨Lh41, X41, N41⟩ := hide X41 N41 (C := 6) (S := 18) (by decide) (by decide)
    refine Outs.to st41 ?_
    refine Outs.of (U' := T41.setTop (mkF m 166 #[.val (.int i0), .val (.int i1), .val (.int i2), .val (.int (f0_v7 i0)), .val (.int (f0_v11 i0)), .val (.int (f0_15_s0 i0)), .val (.int (f0_28_s0 i0)), .val (.int (f0_41_s0 i0)), .val (.int (f0_v60 i0)), .val (.int (2 : Int32)), .val (.int (1 : Int32)), .val (.ref b1), .val (.ref b6)] [(.int (f0_v60 i0)), (.int (f0_41_s0 i0)), (.int (f0_v11 i0)), (.int (1 : Int32)), (.int (0 : Int32)), (.ref b1), (.ref b6)])) (fun t k => ?_) ?_
    · refine XS.aload X41.here hx rfl (hb hby at_153) rfl rfl ?_
      refine XS.aload X41.here hx rfl (hb hby at_155) rfl rfl ?_
      refine XS.iconst X41.here hx rfl (hb hby at_157) ?_
      refine XS.iload X41.here hx rfl (hb hby at_158) rfl ?_
      refine XS.iload X41.here hx rfl (hb hby at_160) rfl ?_
      refine XS.iload X41.here hx rfl (hb hby at_162) rfl ?_
      refine XS.iload X41.here hx rfl (hb hby at_164) rfl ?_
      exact k
    obtain ⟨_, _, ⟨T42, L42, k42, n42⟩, -, X42, ⟨Lc42, hQ42, l42, y42, z42⟩, st42⟩ := Jvm.LawKit.callS X41 hx (y := (⟨"com/example/knotwork/knotwork/core/BindingUndoPinLaw", "slotOk", "(Lcom/example/knotwork/knotwork/core/Binding;Lcom/example/knotwork/knotwork/core/Item;IIIII)Z"⟩ : MethodName)) hown (mvT hZ (hw _ (List.mem_of_getElem? (i := 52) rfl))) (mvT hZ (hw _ (List.mem_of_getElem? (i := 53) rfl))) (mvT hZ (hw _ (List.mem_of_getElem? (i := 54) rfl))) (mvT hZ (hw _ (List.mem_of_getElem? (i := 55) rfl))) (by decide) (backOf (W := 0) (rmso l Z a0 hw [] b6 b1 (0 : Int32) (1 : Int32) (f0_v11 i0) (f0_41_s0 i0) (f0_v60 i0) b7 (upv (upv (upv (fun _ => Value.null) (own_k (f0_v11 i0)) (.ref b1)) (own_k (f0_41_s0 i0)) (.ref b1)) (own_k (f0_41_s0 i0)) .null) 0 T41.heap n0 u41_0 u41_1 u41_4 rfl (by decide) (law_d210 i0 b1)) hZ (hw _ (List.mem_of_getElem? (i := 55) rfl)) (hw _ (List.mem_of_getElem? (i := 54) rfl)) (by decide) (by decide)) (g := (mkF m 166 #[.val (.int i0), .val (.int i1), .val (.int i2), .val (.int (f0_v7 i0)), .val (.int (f0_v11 i0)), .val (.int (f0_15_s0 i0)), .val (.int (f0_28_s0 i0)), .val (.int (f0_41_s0 i0)), .val (.int (f0_v60 i0)), .val (.int (2 : Int32)), .val (.int (1 : Int32)), .val (.ref b1), .val (.ref b6)] [(.int (f0_v60 i0)), (.int (f0_41_s0 i0)), (.int (f0_v11 i0)), (.int (1 : Int32)), (.int (0 : Int32)), (.ref b1), (.ref b6)])) rfl (by rw [hml]; rfl) (argsL := [(.ref b6), (.ref b1), (.int (0 : Int32)), (.int (1 : Int32)), (.int (f0_v11 i0)), (.int (f0_41_s0 i0)), (.int (f0_v60 i0))]) (rest := []) (lenOf pd_4 rfl) rfl (by show 2 * 0 + _ ≤ _; exact Nat.le_of_eq rfl) (hb hby at_166) (fun _ _ => ⟨rfl, rfl, (by decide : 6 + 0 ≤ _), (by decide : 18 + 0 ≤ _)⟩)
    dsimp only [Pt.U, Pt.locs, Pt.cells, Pt.slots] at X42 l42 y42 z42 st42 hQ42
    subst l42 y42 z42
    obtain ⟨rfl, N42q, e42⟩ := hQ42
    have N42 := Fr.app N41 N42q
    obtain ⟨Lh42, X42, N42⟩ := hide X42 N42 (C := 6) (S := 18) (by decide) (by decide)
    refine Outs.of st42 ?_
    refine Outs.of (U' := T42.setTop (mkF m 185 #[.val (.int i0), .val (.int i1), .val (.int i2), .val (.int (f0_v7 i0)), .val (.int (f0_v11 i0)), .val (.int (f0_15_s0 i0)), .val (.int (f0_28_s0 i0)), .val (.int (f0_41_s0 i0)), .val (.int (f0_v60 i0)), .val (.int (2 : Int32)), .val (.int (1 : Int32)), .val (.ref b1), .val (.ref b6)] [(.int (f0_v60 i0)), (.int (f0_41_s0 i0)), (.int (f0_v11 i0)), (.int (1 : Int32)), (.int (1 : Int32)), (.ref b1), (.ref b6)])) (fun t k => ?_) ?_
    · refine XS.ifNo X42.here hx rfl (hb hby at_169) rfl ((if0 _ _).trans (feq (show ¬ ((1 : Int32) = (0 : Int32)) from (by decide))).1) ?_
      refine XS.aload X42.here hx rfl (hb hby at_172) rfl rfl ?_
      refine XS.aload X42.here hx rfl (hb hby at_174) rfl rfl ?_
      refine XS.iconst X42.here hx rfl (hb hby at_176) ?_
      refine XS.iload X42.here hx rfl (hb hby at_177) rfl ?_
      refine XS.iload X42.here hx rfl (hb hby at_179) rfl ?_
      refine XS.iload X42.here hx rfl (hb hby at_181) rfl ?_
      refine XS.iload X42.here hx rfl (hb hby at_183) rfl ?_
      exact k
    obtain ⟨_, _, ⟨T43, L43, k43, n43⟩, -, X43, ⟨Lc43, hQ43, l43, y43, z43⟩, st43⟩ := Jvm.LawKit.callS X42 hx (y := (⟨"com/example/knotwork/knotwork/core/BindingUndoPinLaw", "slotOk", "(Lcom/example/knotwork/knotwork/core/Binding;Lcom/example/knotwork/knotwork/core/Item;IIIII)Z"⟩ : MethodName)) hown (mvT hZ (hw _ (List.mem_of_getElem? (i := 52) rfl))) (mvT hZ (hw _ (List.mem_of_getElem? (i := 53) rfl))) (mvT hZ (hw _ (List.mem_of_getElem? (i := 54) rfl))) (mvT hZ (hw _ (List.mem_of_getElem? (i := 55) rfl))) (by decide) (backOf (W := 0) (rmso l Z a0 hw [] b6 b1 (1 : Int32) (1 : Int32) (f0_v11 i0) (f0_41_s0 i0) (f0_v60 i0) b7 (upv (upv (upv (fun _ => Value.null) (own_k (f0_v11 i0)) (.ref b1)) (own_k (f0_41_s0 i0)) (.ref b1)) (own_k (f0_41_s0 i0)) .null) 1 T41.heap n0 u41_0 u41_1 u41_4 rfl (by decide) (law_d211 i0 b1)) hZ (hw _ (List.mem_of_getElem? (i := 55) rfl)) (hw _ (List.mem_of_getElem? (i := 54) rfl)) (by decide) (by decide)) (g := (mkF m 185 #[.val (.int i0), .val (.int i1), .val (.int i2), .val (.int (f0_v7 i0)), .val (.int (f0_v11 i0)), .val (.int (f0_15_s0 i0)), .val (.int (f0_28_s0 i0)), .val (.int (f0_41_s0 i0)), .val (.int (f0_v60 i0)), .val (.int (2 : Int32)), .val (.int (1 : Int32)), .val (.ref b1), .val (.ref b6)] [(.int (f0_v60 i0)), (.int (f0_41_s0 i0)), (.int (f0_v11 i0)), (.int (1 : Int32)), (.int (1 : Int32)), (.ref b1), (.ref b6)])) rfl (by rw [hml]; rfl) (argsL := [(.ref b6), (.ref b1), (.int (1 : Int32)), (.int (1 : Int32)), (.int (f0_v11 i0)), (.int (f0_41_s0 i0)), (.int (f0_v60 i0))]) (rest := []) (lenOf pd_4 rfl) rfl (by show 2 * 0 + _ ≤ _; exact Nat.le_of_eq rfl) (hb hby at_185) (fun _ _ => ⟨rfl, e42, (by decide : 6 + 0 ≤ _), (by decide : 18 + 0 ≤ _)⟩)
    dsimp only [Pt.U, Pt.locs, Pt.cells, Pt.slots] at X43 l43 y43 z43 st43 hQ43
    subst l43 y43 z43
    obtain ⟨rfl, N43q, e43⟩ := hQ43
    have N43 := Fr.app N42 N43q
    obtain ⟨Lh43, X43, N43⟩ := hide X43 N43 (C := 6) (S := 18) (by decide) (by decide)
    refine Outs.of st43 ?_
    refine Outs.of (U' := T43.setTop (mkF m 204 #[.val (.int i0), .val (.int i1), .val (.int i2), .val (.int (f0_v7 i0)), .val (.int (f0_v11 i0)), .val (.int (f0_15_s0 i0)), .val (.int (f0_28_s0 i0)), .val (.int (f0_41_s0 i0)), .val (.int (f0_v60 i0)), .val (.int (2 : Int32)), .val (.int (1 : Int32)), .val (.ref b1), .val (.ref b6)] [(.int (f0_v60 i0)), (.int (f0_41_s0 i0)), (.int (f0_v11 i0)), (.int (1 : Int32)), (.int (2 : Int32)), (.ref b1), (.ref b6)])) (fun t k => ?_) ?_
    · refine XS.ifNo X43.here hx rfl (hb hby at_188) rfl ((if0 _ _).trans (feq (show ¬ ((1 : Int32) = (0 : Int32)) from (by decide))).1) ?_
      refine XS.aload X43.here hx rfl (hb hby at_191) rfl rfl ?_
      refine XS.aload X43.here hx rfl (hb hby at_193) rfl rfl ?_
      refine XS.iconst X43.here hx rfl (hb hby at_195) ?_
      refine XS.iload X43.here hx rfl (hb hby at_196) rfl ?_
      refine XS.iload X43.here hx rfl (hb hby at_198) rfl ?_
      refine XS.iload X43.here hx rfl (hb hby at_200) rfl ?_
      refine XS.iload X43.here hx rfl (hb hby at_202) rfl ?_
      exact k
    obtain ⟨_, _, ⟨T44, L44, k44, n44⟩, -, X44, ⟨Lc44, hQ44, l44, y44, z44⟩, st44⟩ := Jvm.LawKit.callS X43 hx (y := (⟨"com/example/knotwork/knotwork/core/BindingUndoPinLaw", "slotOk", "(Lcom/example/knotwork/knotwork/core/Binding;Lcom/example/knotwork/knotwork/core/Item;IIIII)Z"⟩ : MethodName)) hown (mvT hZ (hw _ (List.mem_of_getElem? (i := 52) rfl))) (mvT hZ (hw _ (List.mem_of_getElem? (i := 53) rfl))) (mvT hZ (hw _ (List.mem_of_getElem? (i := 54) rfl))) (mvT hZ (hw _ (List.mem_of_getElem? (i := 55) rfl))) (by decide) (backOf (W := 0) (rmso l Z a0 hw [] b6 b1 (2 : Int32) (1 : Int32) (f0_v11 i0) (f0_41_s0 i0) (f0_v60 i0) b7 (upv (upv (upv (fun _ => Value.null) (own_k (f0_v11 i0)) (.ref b1)) (own_k (f0_41_s0 i0)) (.ref b1)) (own_k (f0_41_s0 i0)) .null) 2 T41.heap n0 u41_0 u41_1 u41_4 rfl (by decide) (law_d212 i0 b1)) hZ (hw _ (List.mem_of_getElem? (i := 55) rfl)) (hw _ (List.mem_of_getElem? (i := 54) rfl)) (by decide) (by decide)) (g := (mkF m 204 #[.val (.int i0), .val (.int i1), .val (.int i2), .val (.int (f0_v7 i0)), .val (.int (f0_v11 i0)), .val (.int (f0_15_s0 i0)), .val (.int (f0_28_s0 i0)), .val (.int (f0_41_s0 i0)), .val (.int (f0_v60 i0)), .val (.int (2 : Int32)), .val (.int (1 : Int32)), .val (.ref b1), .val (.ref b6)] [(.int (f0_v60 i0)), (.int (f0_41_s0 i0)), (.int (f0_v11 i0)), (.int (1 : Int32)), (.int (2 : Int32)), (.ref b1), (.ref b6)])) rfl (by rw [hml]; rfl) (argsL := [(.ref b6), (.ref b1), (.int (2 : Int32)), (.int (1 : Int32)), (.int (f0_v11 i0)), (.int (f0_41_s0 i0)), (.int (f0_v60 i0))]) (rest := []) (lenOf pd_4 rfl) rfl (by show 2 * 0 + _ ≤ _; exact Nat.le_of_eq rfl) (hb hby at_204) (fun _ _ => ⟨rfl, e43, (by decide : 6 + 0 ≤ _), (by decide : 18 + 0 ≤ _)⟩)
    dsimp only [Pt.U, Pt.locs, Pt.cells, Pt.slots] at X44 l44 y44 z44 st44 hQ44
    subst l44 y44 z44
    obtain ⟨rfl, N44q, e44⟩ := hQ44
    have N44 := Fr.app N43 N44q
    obtain ⟨Lh44, X44, N44⟩ := hide X44 N44 (C := 6) (S := 18) (by decide) (by decide)
    refine Outs.of st44 ?_
    refine Outs.of (U' := T44.setTop (mkF m 212 #[.val (.int i0), .val (.int i1), .val (.int i2), .val (.int (f0_v7 i0)), .val (.int (f0_v11 i0)), .val (.int (f0_15_s0 i0)), .val (.int (f0_28_s0 i0)), .val (.int (f0_41_s0 i0)), .val (.int (f0_v60 i0)), .val (.int (2 : Int32)), .val (.int (1 : Int32)), .val (.ref b1), .val (.ref b6)] [(.ref b6)])) (fun t k => ?_) ?_
    · refine XS.ifNo X44.here hx rfl (hb hby at_207) rfl ((if0 _ _).trans (feq (show ¬ ((1 : Int32) = (0 : Int32)) from (by decide))).1) ?_
      refine XS.aload X44.here hx rfl (hb hby at_210) rfl rfl ?_
      exact k
    obtain ⟨cq45, kq45, q45a, q45b, q45c⟩ := isOf hZ e44 u41_0
    obtain ⟨_, _, ⟨T45, L45, k45, n45⟩, -, X45, ⟨Lc45, hQ45, l45, y45, z45⟩, st45⟩ := X44.virtualBack hx (y := (⟨"com/example/knotwork/knotwork/core/Binding", "mark", "()I"⟩ : MethodName)) (z := (⟨"com/example/knotwork/knotwork/core/Binding", "mark", "()I"⟩ : MethodName)) hown (mvT hZ (hw _ (List.mem_of_getElem? (i := 64) rfl))) (mvT hZ (hw _ (List.mem_of_getElem? (i := 65) rfl))) (notFace_of_selects (args := #[]) (mvT hZ (hw _ (List.mem_of_getElem? (i := 67) rfl)))) (mvT hZ (hw _ (List.mem_of_getElem? (i := 67) rfl))) (mvT hZ (hw _ (List.mem_of_getElem? (i := 66) rfl))) (by decide) (backOf (W := 0) (rm10 l Z a0 hw [] b6 (1 : Int32) T41.heap n0 u41_3) hZ (hw _ (List.mem_of_getElem? (i := 68) rfl)) (hw _ (List.mem_of_getElem? (i := 27) rfl)) (by decide) (by decide)) q45a q45c (g := (mkF m 212 #[.val (.int i0), .val (.int i1), .val (.int i2), .val (.int (f0_v7 i0)), .val (.int (f0_v11 i0)), .val (.int (f0_15_s0 i0)), .val (.int (f0_28_s0 i0)), .val (.int (f0_41_s0 i0)), .val (.int (f0_v60 i0)), .val (.int (2 : Int32)), .val (.int (1 : Int32)), .val (.ref b1), .val (.ref b6)] [(.ref b6)])) rfl (by rw [hml]; rfl) (Steps.refl _) (argsL := []) (rest := []) (lenOf pd_7 rfl) rfl (by show 2 * 0 + _ ≤ _; exact Nat.le_of_eq rfl) (hb hby at_212) (fun _ _ => ⟨rfl, e44, (by decide : 6 + 0 ≤ _), (by decide : 18 + 0 ≤ _)⟩)
    dsimp only [Pt.U, Pt.locs, Pt.cells, Pt.slots] at X45 l45 y45 z45 st45 hQ45
    subst l45 y45 z45
    obtain ⟨rfl, N45q, e45⟩ := hQ45
    have N45 := Fr.app N44 N45q
    obtain ⟨Lh45, X45, N45⟩ := hide X45 N45 (C := 6) (S := 18) (by decide) (by decide)
    refine Outs.to st45 ?_
    refine Outs.of (U' := T45.setTop (mkF m 225 #[.val (.int i0), .val (.int i1), .val (.int i2), .val (.int (f0_v7 i0)), .val (.int (f0_v11 i0)), .val (.int (f0_15_s0 i0)), .val (.int (f0_28_s0 i0)), .val (.int (f0_41_s0 i0)), .val (.int (f0_v60 i0)), .val (.int (2 : Int32)), .val (.int (1 : Int32)), .val (.ref b1), .val (.ref b6)] [(.int (1 : Int32))])) (fun t k => ?_) ?_
    · refine XS.iload X45.here hx rfl (hb hby at_215) rfl ?_
      refine XS.icmpNo X45.here hx rfl (hb hby at_217) rfl (teq (show (1 : Int32) = (1 : Int32) from (by decide))).2 ?_
      refine XS.iconst X45.here hx rfl (hb hby at_220) ?_
      refine XS.goto X45.here hx rfl (pc0 := 221) (pc' := 225) rfl (hb hby at_221) (by decide) (by decide) ?_
      exact k
    exact Outs.retN (t := .boolean) (z := (1 : Int32)) X45 hx hret (by simp) (hb hby at_225) hlk (by decide) (by decide) e45 ⟨⟨rfl, N45⟩, (Nat.le_trans (Nat.le_trans (Nat.le_trans (Nat.le_trans (Nat.le_trans (Nat.le_trans z2 K3.1) E6.1) K7.1) K37.1) K39.1) K41.1)⟩
  · rw [q9, q10]
    show Outs p e below _ _ _ _ (T7.setTop (mkF m 102 #[.val (.int i0), .val (.int i1), .val (.int i2), .val (.int (f0_v7 i0)), .val (.int (f0_v11 i0)), .val (.int (f0_15_s0 i0)), .val (.int (f0_28_s0 i0)), .val (.int (f0_41_s0 i0)), .val (.int (f0_v60 i0)), .val (.int (2 : Int32)), .val (.int (2 : Int32)), .val (.ref b1), .val (.ref b6)] []))
    refine Outs.of (U' := T7.setTop (mkF m 113 #[.val (.int i0), .val (.int i1), .val (.int i2), .val (.int (f0_v7 i0)), .val (.int (f0_v11 i0)), .val (.int (f0_15_s0 i0)), .val (.int (f0_28_s0 i0)), .val (.int (f0_41_s0 i0)), .val (.int (f0_v60 i0)), .val (.int (2 : Int32)), .val (.int (2 : Int32)), .val (.ref b1), .val (.ref b6)] [(.ref b1), (.int (f0_v11 i0)), (.ref b6)])) (fun t k => ?_) ?_
    · refine XS.iload X7.here hx rfl (hb hby at_102) rfl ?_
      refine XS.ifNo X7.here hx rfl (hb hby at_104) rfl ((if0 _ _).trans (tlt (show (0 : Int32) < (2 : Int32) from (by decide))).2.2.2) ?_
      refine XS.aload X7.here hx rfl (hb hby at_107) rfl rfl ?_
      refine XS.iload X7.here hx rfl (hb hby at_109) rfl ?_
      refine XS.aload X7.here hx rfl (hb hby at_111) rfl rfl ?_
      exact k
    have ne_b7_b7x1 : b7 ≠ b7x1 := AF.neT u7_4 u7_6 (by decide)
    have f47 : Exa Z T7.heap b1 "com/example/knotwork/knotwork/core/Sym" := (f8.keep K7)
    obtain ⟨cq46, kq46, q46a, q46b, q46c⟩ := isOf hZ rfl u7_0
    obtain ⟨_, _, ⟨T46, L46, k46, n46⟩, -, X46, ⟨Lc46, hQ46, l46, y46, z46⟩, st46⟩ := X7.virtualBack hx (y := (⟨"com/example/knotwork/knotwork/core/Binding", "bind", "(ILcom/example/knotwork/knotwork/core/Item;)V"⟩ : MethodName)) (z := (⟨"com/example/knotwork/knotwork/core/Binding", "bind", "(ILcom/example/knotwork/knotwork/core/Item;)V"⟩ : MethodName)) hown (mvT hZ (hw _ (List.mem_of_getElem? (i := 39) rfl))) (mvT hZ (hw _ (List.mem_of_getElem? (i := 40) rfl))) (notFace_of_selects (args := #[]) (mvT hZ (hw _ (List.mem_of_getElem? (i := 42) rfl)))) (mvT hZ (hw _ (List.mem_of_getElem? (i := 42) rfl))) (mvT hZ (hw _ (List.mem_of_getElem? (i := 41) rfl))) (by decide) (backOf (W := 0) (rmbd l Z a0 hw [] b6 (f0_v11 i0) b1 b7 b7x1 (fun _ => Value.null) (fun _ => (0 : Int32)) (0 : Int32) (own_k (f0_v11 i0)) 0 T7.heap n0 u7_0 g_b6 g_b7 g_b7x1 ne_b6_b7 ne_b6_b7x1 ne_b7_b7x1 u7_1 u7_2 u7_3 u7_4 u7_5 u7_6 f47 (law_s0 i0).1 (law_s0 i0).2 rfl (by decide)) hZ (hw _ (List.mem_of_getElem? (i := 43) rfl)) (hw _ (List.mem_of_getElem? (i := 27) rfl)) (by decide) (by decide)) q46a q46c (g := (mkF m 113 #[.val (.int i0), .val (.int i1), .val (.int i2), .val (.int (f0_v7 i0)), .val (.int (f0_v11 i0)), .val (.int (f0_15_s0 i0)), .val (.int (f0_28_s0 i0)), .val (.int (f0_41_s0 i0)), .val (.int (f0_v60 i0)), .val (.int (2 : Int32)), .val (.int (2 : Int32)), .val (.ref b1), .val (.ref b6)] [(.ref b1), (.int (f0_v11 i0)), (.ref b6)])) rfl (by rw [hml]; rfl) (Steps.refl _) (argsL := [(.int (f0_v11 i0)), (.ref b1)]) (rest := []) (lenOf pd_3 rfl) rfl (by show 2 * 0 + _ ≤ _; exact Nat.le_of_eq rfl) (hb hby at_113) (fun _ _ => ⟨rfl, rfl, (by decide : 6 + 0 ≤ _), (by decide : 18 + 0 ≤ _)⟩)
    dsimp only [Pt.U, Pt.locs, Pt.cells, Pt.slots] at X46 l46 y46 z46 st46 hQ46
    subst l46 y46 z46
    obtain ⟨rfl, N46q, K46, u46_0, u46_1, u46_2, u46_3, u46_4, u46_5, u46_6⟩ := hQ46
    have N46 := Fr.app N7 N46q
    obtain ⟨Lh46, X46, N46⟩ := hide X46 N46 (C := 6) (S := 18) (by decide) (by decide)
    refine Outs.to st46 ?_
    refine Outs.of (U' := T46.setTop (mkF m 128 #[.val (.int i0), .val (.int i1), .val (.int i2), .val (.int (f0_v7 i0)), .val (.int (f0_v11 i0)), .val (.int (f0_15_s0 i0)), .val (.int (f0_28_s0 i0)), .val (.int (f0_41_s0 i0)), .val (.int (f0_v60 i0)), .val (.int (2 : Int32)), .val (.int (2 : Int32)), .val (.ref b1), .val (.ref b6)] [(.ref b1), (.int (f0_41_s0 i0)), (.ref b6)])) (fun t k => ?_) ?_
    · refine XS.iload X46.here hx rfl (hb hby at_116) rfl ?_
      refine XS.iconst X46.here hx rfl (hb hby at_118) ?_
      refine XS.icmpNo X46.here hx rfl (hb hby at_119) rfl (tlt (show (1 : Int32) < (2 : Int32) from (by decide))).2.2.2 ?_
      refine XS.aload X46.here hx rfl (hb hby at_122) rfl rfl ?_
      refine XS.iload X46.here hx rfl (hb hby at_124) rfl ?_
      refine XS.aload X46.here hx rfl (hb hby at_126) rfl rfl ?_
      exact k
    have f49 : Exa Z T46.heap b1 "com/example/knotwork/knotwork/core/Sym" := (f47.keep K46)
    obtain ⟨cq48, kq48, q48a, q48b, q48c⟩ := isOf hZ rfl u46_0
    obtain ⟨_, _, ⟨T48, L48, k48, n48⟩, -, X48, ⟨Lc48, hQ48, l48, y48, z48⟩, st48⟩ := X46.virtualBack hx (y := (⟨"com/example/knotwork/knotwork/core/Binding", "bind", "(ILcom/example/knotwork/knotwork/core/Item;)V"⟩ : MethodName)) (z := (⟨"com/example/knotwork/knotwork/core/Binding", "bind", "(ILcom/example/knotwork/knotwork/core/Item;)V"⟩ : MethodName)) hown (mvT hZ (hw _ (List.mem_of_getElem? (i := 39) rfl))) (mvT hZ (hw _ (List.mem_of_getElem? (i := 40) rfl))) (notFace_of_selects (args := #[]) (mvT hZ (hw _ (List.mem_of_getElem? (i := 42) rfl)))) (mvT hZ (hw _ (List.mem_of_getElem? (i := 42) rfl))) (mvT hZ (hw _ (List.mem_of_getElem? (i := 41) rfl))) (by decide) (backOf (W := 0) (rmbd l Z a0 hw [] b6 (f0_41_s0 i0) b1 b7 b7x1 (upv (fun _ => Value.null) (own_k (f0_v11 i0)) (.ref b1)) (upv (fun _ => (0 : Int32)) 0 (f0_v11 i0)) (1 : Int32) (own_k (f0_41_s0 i0)) 1 T46.heap n0 u46_0 g_b6 g_b7 g_b7x1 ne_b6_b7 ne_b6_b7x1 ne_b7_b7x1 u46_1 u46_2 u46_3 u46_4 u46_5 u46_6 f49 (law_s1 i0).1 (law_s1 i0).2 rfl (by decide)) hZ (hw _ (List.mem_of_getElem? (i := 43) rfl)) (hw _ (List.mem_of_getElem? (i := 27) rfl)) (by decide) (by decide)) q48a q48c (g := (mkF m 128 #[.val (.int i0), .val (.int i1), .val (.int i2), .val (.int (f0_v7 i0)), .val (.int (f0_v11 i0)), .val (.int (f0_15_s0 i0)), .val (.int (f0_28_s0 i0)), .val (.int (f0_41_s0 i0)), .val (.int (f0_v60 i0)), .val (.int (2 : Int32)), .val (.int (2 : Int32)), .val (.ref b1), .val (.ref b6)] [(.ref b1), (.int (f0_41_s0 i0)), (.ref b6)])) rfl (by rw [hml]; rfl) (Steps.refl _) (argsL := [(.int (f0_41_s0 i0)), (.ref b1)]) (rest := []) (lenOf pd_3 rfl) rfl (by show 2 * 0 + _ ≤ _; exact Nat.le_of_eq rfl) (hb hby at_128) (fun _ _ => ⟨rfl, rfl, (by decide : 6 + 0 ≤ _), (by decide : 18 + 0 ≤ _)⟩)
    dsimp only [Pt.U, Pt.locs, Pt.cells, Pt.slots] at X48 l48 y48 z48 st48 hQ48
    subst l48 y48 z48
    obtain ⟨rfl, N48q, K48, u48_0, u48_1, u48_2, u48_3, u48_4, u48_5, u48_6⟩ := hQ48
    have N48 := Fr.app N46 N48q
    obtain ⟨Lh48, X48, N48⟩ := hide X48 N48 (C := 6) (S := 18) (by decide) (by decide)
    refine Outs.to st48 ?_
    refine Outs.of (U' := T48.setTop (mkF m 150 #[.val (.int i0), .val (.int i1), .val (.int i2), .val (.int (f0_v7 i0)), .val (.int (f0_v11 i0)), .val (.int (f0_15_s0 i0)), .val (.int (f0_28_s0 i0)), .val (.int (f0_41_s0 i0)), .val (.int (f0_v60 i0)), .val (.int (2 : Int32)), .val (.int (2 : Int32)), .val (.ref b1), .val (.ref b6)] [(.int (2 : Int32)), (.ref b6)])) (fun t k => ?_) ?_
    · refine XS.iload X48.here hx rfl (hb hby at_131) rfl ?_
      refine XS.iconst X48.here hx rfl (hb hby at_133) ?_
      refine XS.icmpYes X48.here hx rfl (pc0 := 134) (pc' := 146) rfl (hb hby at_134) rfl (flt (show ¬ ((2 : Int32) < (2 : Int32)) from (by decide))).2.2.2 (by decide) (by decide) ?_
      refine XS.aload X48.here hx rfl (hb hby at_146) rfl rfl ?_
      refine XS.iload X48.here hx rfl (hb hby at_148) rfl ?_
      exact k
    obtain ⟨cq50, kq50, q50a, q50b, q50c⟩ := isOf hZ rfl u48_0
    obtain ⟨_, _, ⟨T50, L50, k50, n50⟩, -, X50, ⟨Lc50, hQ50, l50, y50, z50⟩, st50⟩ := X48.virtualBack hx (y := (⟨"com/example/knotwork/knotwork/core/Binding", "undo", "(I)V"⟩ : MethodName)) (z := (⟨"com/example/knotwork/knotwork/core/Binding", "undo", "(I)V"⟩ : MethodName)) hown (mvT hZ (hw _ (List.mem_of_getElem? (i := 47) rfl))) (mvT hZ (hw _ (List.mem_of_getElem? (i := 48) rfl))) (notFace_of_selects (args := #[]) (mvT hZ (hw _ (List.mem_of_getElem? (i := 50) rfl)))) (mvT hZ (hw _ (List.mem_of_getElem? (i := 50) rfl))) (mvT hZ (hw _ (List.mem_of_getElem? (i := 49) rfl))) (by decide) (backOf (W := 0) (rmun22 l Z a0 hw [] b6 b7 b7x1 (upv (upv (fun _ => Value.null) (own_k (f0_v11 i0)) (.ref b1)) (own_k (f0_41_s0 i0)) (.ref b1)) (upv (upv (fun _ => (0 : Int32)) 0 (f0_v11 i0)) 1 (f0_41_s0 i0)) T48.heap n0 u48_0 g_b6 g_b7 g_b7x1 ne_b6_b7 ne_b6_b7x1 ne_b7_b7x1 u48_1 u48_2 u48_3 u48_4 u48_5 u48_6) hZ (hw _ (List.mem_of_getElem? (i := 51) rfl)) (hw _ (List.mem_of_getElem? (i := 27) rfl)) (by decide) (by decide)) q50a q50c (g := (mkF m 150 #[.val (.int i0), .val (.int i1), .val (.int i2), .val (.int (f0_v7 i0)), .val (.int (f0_v11 i0)), .val (.int (f0_15_s0 i0)), .val (.int (f0_28_s0 i0)), .val (.int (f0_41_s0 i0)), .val (.int (f0_v60 i0)), .val (.int (2 : Int32)), .val (.int (2 : Int32)), .val (.ref b1), .val (.ref b6)] [(.int (2 : Int32)), (.ref b6)])) rfl (by rw [hml]; rfl) (Steps.refl _) (argsL := [(.int (2 : Int32))]) (rest := []) (lenOf pd_2 rfl) rfl (by show 2 * 0 + _ ≤ _; exact Nat.le_of_eq rfl) (hb hby at_150) (fun _ _ => ⟨rfl, rfl, (by decide : 6 + 0 ≤ _), (by decide : 18 + 0 ≤ _)⟩)
    dsimp only [Pt.U, Pt.locs, Pt.cells, Pt.slots] at X50 l50 y50 z50 st50 hQ50
    subst l50 y50 z50
    obtain ⟨rfl, N50q, K50, u50_0, u50_1, u50_2, u50_3, u50_4, u50_5, u50_6⟩ := hQ50
    have N50 := Fr.app N48 N50q
    obtain ⟨Lh50, X50, N50⟩ := hide X50 N50 (C := 6) (S := 18) (by decide) (by decide)
    refine Outs.to st50 ?_
    refine Outs.of (U' := T50.setTop (mkF m 166 #[.val (.int i0), .val (.int i1), .val (.int i2), .val (.int (f0_v7 i0)), .val (.int (f0_v11 i0)), .val (.int (f0_15_s0 i0)), .val (.int (f0_28_s0 i0)), .val (.int (f0_41_s0 i0)), .val (.int (f0_v60 i0)), .val (.int (2 : Int32)), .val (.int (2 : Int32)), .val (.ref b1), .val (.ref b6)] [(.int (f0_v60 i0)), (.int (f0_41_s0 i0)), (.int (f0_v11 i0)), (.int (2 : Int32)), (.int (0 : Int32)), (.ref b1), (.ref b6)])) (fun t k => ?_) ?_
    · refine XS.aload X50.here hx rfl (hb hby at_153) rfl rfl ?_
      refine XS.aload X50.here hx rfl (hb hby at_155) rfl rfl ?_
      refine XS.iconst X50.here hx rfl (hb hby at_157) ?_
      refine XS.iload X50.here hx rfl (hb hby at_158) rfl ?_
      refine XS.iload X50.here hx rfl (hb hby at_160) rfl ?_
      refine XS.iload X50.here hx rfl (hb hby at_162) rfl ?_
      refine XS.iload X50.here hx rfl (hb hby at_164) rfl ?_
      exact k
    obtain ⟨_, _, ⟨T51, L51, k51, n51⟩, -, X51, ⟨Lc51, hQ51, l51, y51, z51⟩, st51⟩ := Jvm.LawKit.callS X50 hx (y := (⟨"com/example/knotwork/knotwork/core/BindingUndoPinLaw", "slotOk", "(Lcom/example/knotwork/knotwork/core/Binding;Lcom/example/knotwork/knotwork/core/Item;IIIII)Z"⟩ : MethodName)) hown (mvT hZ (hw _ (List.mem_of_getElem? (i := 52) rfl))) (mvT hZ (hw _ (List.mem_of_getElem? (i := 53) rfl))) (mvT hZ (hw _ (List.mem_of_getElem? (i := 54) rfl))) (mvT hZ (hw _ (List.mem_of_getElem? (i := 55) rfl))) (by decide) (backOf (W := 0) (rmso l Z a0 hw [] b6 b1 (0 : Int32) (2 : Int32) (f0_v11 i0) (f0_41_s0 i0) (f0_v60 i0) b7 (upv (upv (fun _ => Value.null) (own_k (f0_v11 i0)) (.ref b1)) (own_k (f0_41_s0 i0)) (.ref b1)) 0 T50.heap n0 u50_0 u50_1 u50_4 rfl (by decide) (law_d220 i0 b1)) hZ (hw _ (List.mem_of_getElem? (i := 55) rfl)) (hw _ (List.mem_of_getElem? (i := 54) rfl)) (by decide) (by decide)) (g := (mkF m 166 #[.val (.int i0), .val (.int i1), .val (.int i2), .val (.int (f0_v7 i0)), .val (.int (f0_v11 i0)), .val (.int (f0_15_s0 i0)), .val (.int (f0_28_s0 i0)), .val (.int (f0_41_s0 i0)), .val (.int (f0_v60 i0)), .val (.int (2 : Int32)), .val (.int (2 : Int32)), .val (.ref b1), .val (.ref b6)] [(.int (f0_v60 i0)), (.int (f0_41_s0 i0)), (.int (f0_v11 i0)), (.int (2 : Int32)), (.int (0 : Int32)), (.ref b1), (.ref b6)])) rfl (by rw [hml]; rfl) (argsL := [(.ref b6), (.ref b1), (.int (0 : Int32)), (.int (2 : Int32)), (.int (f0_v11 i0)), (.int (f0_41_s0 i0)), (.int (f0_v60 i0))]) (rest := []) (lenOf pd_4 rfl) rfl (by show 2 * 0 + _ ≤ _; exact Nat.le_of_eq rfl) (hb hby at_166) (fun _ _ => ⟨rfl, rfl, (by decide : 6 + 0 ≤ _), (by decide : 18 + 0 ≤ _)⟩)
    dsimp only [Pt.U, Pt.locs, Pt.cells, Pt.slots] at X51 l51 y51 z51 st51 hQ51
    subst l51 y51 z51
    obtain ⟨rfl, N51q, e51⟩ := hQ51
    have N51 := Fr.app N50 N51q
    obtain ⟨Lh51, X51, N51⟩ := hide X51 N51 (C := 6) (S := 18) (by decide) (by decide)
    refine Outs.of st51 ?_
    refine Outs.of (U' := T51.setTop (mkF m 185 #[.val (.int i0), .val (.int i1), .val (.int i2), .val (.int (f0_v7 i0)), .val (.int (f0_v11 i0)), .val (.int (f0_15_s0 i0)), .val (.int (f0_28_s0 i0)), .val (.int (f0_41_s0 i0)), .val (.int (f0_v60 i0)), .val (.int (2 : Int32)), .val (.int (2 : Int32)), .val (.ref b1), .val (.ref b6)] [(.int (f0_v60 i0)), (.int (f0_41_s0 i0)), (.int (f0_v11 i0)), (.int (2 : Int32)), (.int (1 : Int32)), (.ref b1), (.ref b6)])) (fun t k => ?_) ?_
    · refine XS.ifNo X51.here hx rfl (hb hby at_169) rfl ((if0 _ _).trans (feq (show ¬ ((1 : Int32) = (0 : Int32)) from (by decide))).1) ?_
      refine XS.aload X51.here hx rfl (hb hby at_172) rfl rfl ?_
      refine XS.aload X51.here hx rfl (hb hby at_174) rfl rfl ?_
      refine XS.iconst X51.here hx rfl (hb hby at_176) ?_
      refine XS.iload X51.here hx rfl (hb hby at_177) rfl ?_
      refine XS.iload X51.here hx rfl (hb hby at_179) rfl ?_
      refine XS.iload X51.here hx rfl (hb hby at_181) rfl ?_
      refine XS.iload X51.here hx rfl (hb hby at_183) rfl ?_
      exact k
    obtain ⟨_, _, ⟨T52, L52, k52, n52⟩, -, X52, ⟨Lc52, hQ52, l52, y52, z52⟩, st52⟩ := Jvm.LawKit.callS X51 hx (y := (⟨"com/example/knotwork/knotwork/core/BindingUndoPinLaw", "slotOk", "(Lcom/example/knotwork/knotwork/core/Binding;Lcom/example/knotwork/knotwork/core/Item;IIIII)Z"⟩ : MethodName)) hown (mvT hZ (hw _ (List.mem_of_getElem? (i := 52) rfl))) (mvT hZ (hw _ (List.mem_of_getElem? (i := 53) rfl))) (mvT hZ (hw _ (List.mem_of_getElem? (i := 54) rfl))) (mvT hZ (hw _ (List.mem_of_getElem? (i := 55) rfl))) (by decide) (backOf (W := 0) (rmso l Z a0 hw [] b6 b1 (1 : Int32) (2 : Int32) (f0_v11 i0) (f0_41_s0 i0) (f0_v60 i0) b7 (upv (upv (fun _ => Value.null) (own_k (f0_v11 i0)) (.ref b1)) (own_k (f0_41_s0 i0)) (.ref b1)) 1 T50.heap n0 u50_0 u50_1 u50_4 rfl (by decide) (law_d221 i0 b1)) hZ (hw _ (List.mem_of_getElem? (i := 55) rfl)) (hw _ (List.mem_of_getElem? (i := 54) rfl)) (by decide) (by decide)) (g := (mkF m 185 #[.val (.int i0), .val (.int i1), .val (.int i2), .val (.int (f0_v7 i0)), .val (.int (f0_v11 i0)), .val (.int (f0_15_s0 i0)), .val (.int (f0_28_s0 i0)), .val (.int (f0_41_s0 i0)), .val (.int (f0_v60 i0)), .val (.int (2 : Int32)), .val (.int (2 : Int32)), .val (.ref b1), .val (.ref b6)] [(.int (f0_v60 i0)), (.int (f0_41_s0 i0)), (.int (f0_v11 i0)), (.int (2 : Int32)), (.int (1 : Int32)), (.ref b1), (.ref b6)])) rfl (by rw [hml]; rfl) (argsL := [(.ref b6), (.ref b1), (.int (1 : Int32)), (.int (2 : Int32)), (.int (f0_v11 i0)), (.int (f0_41_s0 i0)), (.int (f0_v60 i0))]) (rest := []) (lenOf pd_4 rfl) rfl (by show 2 * 0 + _ ≤ _; exact Nat.le_of_eq rfl) (hb hby at_185) (fun _ _ => ⟨rfl, e51, (by decide : 6 + 0 ≤ _), (by decide : 18 + 0 ≤ _)⟩)
    dsimp only [Pt.U, Pt.locs, Pt.cells, Pt.slots] at X52 l52 y52 z52 st52 hQ52
    subst l52 y52 z52
    obtain ⟨rfl, N52q, e52⟩ := hQ52
    have N52 := Fr.app N51 N52q
    obtain ⟨Lh52, X52, N52⟩ := hide X52 N52 (C := 6) (S := 18) (by decide) (by decide)
    refine Outs.of st52 ?_
    refine Outs.of (U' := T52.setTop (mkF m 204 #[.val (.int i0), .val (.int i1), .val (.int i2), .val (.int (f0_v7 i0)), .val (.int (f0_v11 i0)), .val (.int (f0_15_s0 i0)), .val (.int (f0_28_s0 i0)), .val (.int (f0_41_s0 i0)), .val (.int (f0_v60 i0)), .val (.int (2 : Int32)), .val (.int (2 : Int32)), .val (.ref b1), .val (.ref b6)] [(.int (f0_v60 i0)), (.int (f0_41_s0 i0)), (.int (f0_v11 i0)), (.int (2 : Int32)), (.int (2 : Int32)), (.ref b1), (.ref b6)])) (fun t k => ?_) ?_
    · refine XS.ifNo X52.here hx rfl (hb hby at_188) rfl ((if0 _ _).trans (feq (show ¬ ((1 : Int32) = (0 : Int32)) from (by decide))).1) ?_
      refine XS.aload X52.here hx rfl (hb hby at_191) rfl rfl ?_
      refine XS.aload X52.here hx rfl (hb hby at_193) rfl rfl ?_
      refine XS.iconst X52.here hx rfl (hb hby at_195) ?_
      refine XS.iload X52.here hx rfl (hb hby at_196) rfl ?_
      refine XS.iload X52.here hx rfl (hb hby at_198) rfl ?_
      refine XS.iload X52.here hx rfl (hb hby at_200) rfl ?_
      refine XS.iload X52.here hx rfl (hb hby at_202) rfl ?_
      exact k
    obtain ⟨_, _, ⟨T53, L53, k53, n53⟩, -, X53, ⟨Lc53, hQ53, l53, y53, z53⟩, st53⟩ := Jvm.LawKit.callS X52 hx (y := (⟨"com/example/knotwork/knotwork/core/BindingUndoPinLaw", "slotOk", "(Lcom/example/knotwork/knotwork/core/Binding;Lcom/example/knotwork/knotwork/core/Item;IIIII)Z"⟩ : MethodName)) hown (mvT hZ (hw _ (List.mem_of_getElem? (i := 52) rfl))) (mvT hZ (hw _ (List.mem_of_getElem? (i := 53) rfl))) (mvT hZ (hw _ (List.mem_of_getElem? (i := 54) rfl))) (mvT hZ (hw _ (List.mem_of_getElem? (i := 55) rfl))) (by decide) (backOf (W := 0) (rmso l Z a0 hw [] b6 b1 (2 : Int32) (2 : Int32) (f0_v11 i0) (f0_41_s0 i0) (f0_v60 i0) b7 (upv (upv (fun _ => Value.null) (own_k (f0_v11 i0)) (.ref b1)) (own_k (f0_41_s0 i0)) (.ref b1)) 2 T50.heap n0 u50_0 u50_1 u50_4 rfl (by decide) (law_d222 i0 b1)) hZ (hw _ (List.mem_of_getElem? (i := 55) rfl)) (hw _ (List.mem_of_getElem? (i := 54) rfl)) (by decide) (by decide)) (g := (mkF m 204 #[.val (.int i0), .val (.int i1), .val (.int i2), .val (.int (f0_v7 i0)), .val (.int (f0_v11 i0)), .val (.int (f0_15_s0 i0)), .val (.int (f0_28_s0 i0)), .val (.int (f0_41_s0 i0)), .val (.int (f0_v60 i0)), .val (.int (2 : Int32)), .val (.int (2 : Int32)), .val (.ref b1), .val (.ref b6)] [(.int (f0_v60 i0)), (.int (f0_41_s0 i0)), (.int (f0_v11 i0)), (.int (2 : Int32)), (.int (2 : Int32)), (.ref b1), (.ref b6)])) rfl (by rw [hml]; rfl) (argsL := [(.ref b6), (.ref b1), (.int (2 : Int32)), (.int (2 : Int32)), (.int (f0_v11 i0)), (.int (f0_41_s0 i0)), (.int (f0_v60 i0))]) (rest := []) (lenOf pd_4 rfl) rfl (by show 2 * 0 + _ ≤ _; exact Nat.le_of_eq rfl) (hb hby at_204) (fun _ _ => ⟨rfl, e52, (by decide : 6 + 0 ≤ _), (by decide : 18 + 0 ≤ _)⟩)
    dsimp only [Pt.U, Pt.locs, Pt.cells, Pt.slots] at X53 l53 y53 z53 st53 hQ53
    subst l53 y53 z53
    obtain ⟨rfl, N53q, e53⟩ := hQ53
    have N53 := Fr.app N52 N53q
    obtain ⟨Lh53, X53, N53⟩ := hide X53 N53 (C := 6) (S := 18) (by decide) (by decide)
    refine Outs.of st53 ?_
    refine Outs.of (U' := T53.setTop (mkF m 212 #[.val (.int i0), .val (.int i1), .val (.int i2), .val (.int (f0_v7 i0)), .val (.int (f0_v11 i0)), .val (.int (f0_15_s0 i0)), .val (.int (f0_28_s0 i0)), .val (.int (f0_41_s0 i0)), .val (.int (f0_v60 i0)), .val (.int (2 : Int32)), .val (.int (2 : Int32)), .val (.ref b1), .val (.ref b6)] [(.ref b6)])) (fun t k => ?_) ?_
    · refine XS.ifNo X53.here hx rfl (hb hby at_207) rfl ((if0 _ _).trans (feq (show ¬ ((1 : Int32) = (0 : Int32)) from (by decide))).1) ?_
      refine XS.aload X53.here hx rfl (hb hby at_210) rfl rfl ?_
      exact k
    obtain ⟨cq54, kq54, q54a, q54b, q54c⟩ := isOf hZ e53 u50_0
    obtain ⟨_, _, ⟨T54, L54, k54, n54⟩, -, X54, ⟨Lc54, hQ54, l54, y54, z54⟩, st54⟩ := X53.virtualBack hx (y := (⟨"com/example/knotwork/knotwork/core/Binding", "mark", "()I"⟩ : MethodName)) (z := (⟨"com/example/knotwork/knotwork/core/Binding", "mark", "()I"⟩ : MethodName)) hown (mvT hZ (hw _ (List.mem_of_getElem? (i := 64) rfl))) (mvT hZ (hw _ (List.mem_of_getElem? (i := 65) rfl))) (notFace_of_selects (args := #[]) (mvT hZ (hw _ (List.mem_of_getElem? (i := 67) rfl)))) (mvT hZ (hw _ (List.mem_of_getElem? (i := 67) rfl))) (mvT hZ (hw _ (List.mem_of_getElem? (i := 66) rfl))) (by decide) (backOf (W := 0) (rm10 l Z a0 hw [] b6 (2 : Int32) T50.heap n0 u50_3) hZ (hw _ (List.mem_of_getElem? (i := 68) rfl)) (hw _ (List.mem_of_getElem? (i := 27) rfl)) (by decide) (by decide)) q54a q54c (g := (mkF m 212 #[.val (.int i0), .val (.int i1), .val (.int i2), .val (.int (f0_v7 i0)), .val (.int (f0_v11 i0)), .val (.int (f0_15_s0 i0)), .val (.int (f0_28_s0 i0)), .val (.int (f0_41_s0 i0)), .val (.int (f0_v60 i0)), .val (.int (2 : Int32)), .val (.int (2 : Int32)), .val (.ref b1), .val (.ref b6)] [(.ref b6)])) rfl (by rw [hml]; rfl) (Steps.refl _) (argsL := []) (rest := []) (lenOf pd_7 rfl) rfl (by show 2 * 0 + _ ≤ _; exact Nat.le_of_eq rfl) (hb hby at_212) (fun _ _ => ⟨rfl, e53, (by decide : 6 + 0 ≤ _), (by decide : 18 + 0 ≤ _)⟩)
    dsimp only [Pt.U, Pt.locs, Pt.cells, Pt.slots] at X54 l54 y54 z54 st54 hQ54
    subst l54 y54 z54
    obtain ⟨rfl, N54q, e54⟩ := hQ54
    have N54 := Fr.app N53 N54q
    obtain ⟨Lh54, X54, N54⟩ := hide X54 N54 (C := 6) (S := 18) (by decide) (by decide)
    refine Outs.to st54 ?_
    refine Outs.of (U' := T54.setTop (mkF m 225 #[.val (.int i0), .val (.int i1), .val (.int i2), .val (.int (f0_v7 i0)), .val (.int (f0_v11 i0)), .val (.int (f0_15_s0 i0)), .val (.int (f0_28_s0 i0)), .val (.int (f0_41_s0 i0)), .val (.int (f0_v60 i0)), .val (.int (2 : Int32)), .val (.int (2 : Int32)), .val (.ref b1), .val (.ref b6)] [(.int (1 : Int32))])) (fun t k => ?_) ?_
    · refine XS.iload X54.here hx rfl (hb hby at_215) rfl ?_
      refine XS.icmpNo X54.here hx rfl (hb hby at_217) rfl (teq (show (2 : Int32) = (2 : Int32) from (by decide))).2 ?_
      refine XS.iconst X54.here hx rfl (hb hby at_220) ?_
      refine XS.goto X54.here hx rfl (pc0 := 221) (pc' := 225) rfl (hb hby at_221) (by decide) (by decide) ?_
      exact k
    exact Outs.retN (t := .boolean) (z := (1 : Int32)) X54 hx hret (by simp) (hb hby at_225) hlk (by decide) (by decide) e54 ⟨⟨rfl, N54⟩, (Nat.le_trans (Nat.le_trans (Nat.le_trans (Nat.le_trans (Nat.le_trans (Nat.le_trans z2 K3.1) E6.1) K7.1) K46.1) K48.1) K50.1)⟩
  · rw [q9, q10]
    show Outs p e below _ _ _ _ (T7.setTop (mkF m 102 #[.val (.int i0), .val (.int i1), .val (.int i2), .val (.int (f0_v7 i0)), .val (.int (f0_v11 i0)), .val (.int (f0_15_s0 i0)), .val (.int (f0_28_s0 i0)), .val (.int (f0_41_s0 i0)), .val (.int (f0_v60 i0)), .val (.int (3 : Int32)), .val (.int (0 : Int32)), .val (.ref b1), .val (.ref b6)] []))
    refine Outs.of (U' := T7.setTop (mkF m 113 #[.val (.int i0), .val (.int i1), .val (.int i2), .val (.int (f0_v7 i0)), .val (.int (f0_v11 i0)), .val (.int (f0_15_s0 i0)), .val (.int (f0_28_s0 i0)), .val (.int (f0_41_s0 i0)), .val (.int (f0_v60 i0)), .val (.int (3 : Int32)), .val (.int (0 : Int32)), .val (.ref b1), .val (.ref b6)] [(.ref b1), (.int (f0_v11 i0)), (.ref b6)])) (fun t k => ?_) ?_
    · refine XS.iload X7.here hx rfl (hb hby at_102) rfl ?_
      refine XS.ifNo X7.here hx rfl (hb hby at_104) rfl ((if0 _ _).trans (tlt (show (0 : Int32) < (3 : Int32) from (by decide))).2.2.2) ?_
      refine XS.aload X7.here hx rfl (hb hby at_107) rfl rfl ?_
      refine XS.iload X7.here hx rfl (hb hby at_109) rfl ?_
      refine XS.aload X7.here hx rfl (hb hby at_111) rfl rfl ?_
      exact k
    have ne_b7_b7x1 : b7 ≠ b7x1 := AF.neT u7_4 u7_6 (by decide)
    have f56 : Exa Z T7.heap b1 "com/example/knotwork/knotwork/core/Sym" := (f8.keep K7)
    obtain ⟨cq55, kq55, q55a, q55b, q55c⟩ := isOf hZ rfl u7_0
    obtain ⟨_, _, ⟨T55, L55, k55, n55⟩, -, X55, ⟨Lc55, hQ55, l55, y55, z55⟩, st55⟩ := X7.virtualBack hx (y := (⟨"com/example/knotwork/knotwork/core/Binding", "bind", "(ILcom/example/knotwork/knotwork/core/Item;)V"⟩ : MethodName)) (z := (⟨"com/example/knotwork/knotwork/core/Binding", "bind", "(ILcom/example/knotwork/knotwork/core/Item;)V"⟩ : MethodName)) hown (mvT hZ (hw _ (List.mem_of_getElem? (i := 39) rfl))) (mvT hZ (hw _ (List.mem_of_getElem? (i := 40) rfl))) (notFace_of_selects (args := #[]) (mvT hZ (hw _ (List.mem_of_getElem? (i := 42) rfl)))) (mvT hZ (hw _ (List.mem_of_getElem? (i := 42) rfl))) (mvT hZ (hw _ (List.mem_of_getElem? (i := 41) rfl))) (by decide) (backOf (W := 0) (rmbd l Z a0 hw [] b6 (f0_v11 i0) b1 b7 b7x1 (fun _ => Value.null) (fun _ => (0 : Int32)) (0 : Int32) (own_k (f0_v11 i0)) 0 T7.heap n0 u7_0 g_b6 g_b7 g_b7x1 ne_b6_b7 ne_b6_b7x1 ne_b7_b7x1 u7_1 u7_2 u7_3 u7_4 u7_5 u7_6 f56 (law_s0 i0).1 (law_s0 i0).2 rfl (by decide)) hZ (hw _ (List.mem_of_getElem? (i := 43) rfl)) (hw _ (List.mem_of_getElem? (i := 27) rfl)) (by decide) (by decide)) q55a q55c (g := (mkF m 113 #[.val (.int i0), .val (.int i1), .val (.int i2), .val (.int (f0_v7 i0)), .val (.int (f0_v11 i0)), .val (.int (f0_15_s0 i0)), .val (.int (f0_28_s0 i0)), .val (.int (f0_41_s0 i0)), .val (.int (f0_v60 i0)), .val (.int (3 : Int32)), .val (.int (0 : Int32)), .val (.ref b1), .val (.ref b6)] [(.ref b1), (.int (f0_v11 i0)), (.ref b6)])) rfl (by rw [hml]; rfl) (Steps.refl _) (argsL := [(.int (f0_v11 i0)), (.ref b1)]) (rest := []) (lenOf pd_3 rfl) rfl (by show 2 * 0 + _ ≤ _; exact Nat.le_of_eq rfl) (hb hby at_113) (fun _ _ => ⟨rfl, rfl, (by decide : 6 + 0 ≤ _), (by decide : 18 + 0 ≤ _)⟩)
    dsimp only [Pt.U, Pt.locs, Pt.cells, Pt.slots] at X55 l55 y55 z55 st55 hQ55
    subst l55 y55 z55
    obtain ⟨rfl, N55q, K55, u55_0, u55_1, u55_2, u55_3, u55_4, u55_5, u55_6⟩ := hQ55
    have N55 := Fr.app N7 N55q
    obtain ⟨Lh55, X55, N55⟩ := hide X55 N55 (C := 6) (S := 18) (by decide) (by decide)
    refine Outs.to st55 ?_
    refine Outs.of (U' := T55.setTop (mkF m 128 #[.val (.int i0), .val (.int i1), .val (.int i2), .val (.int (f0_v7 i0)), .val (.int (f0_v11 i0)), .val (.int (f0_15_s0 i0)), .val (.int (f0_28_s0 i0)), .val (.int (f0_41_s0 i0)), .val (.int (f0_v60 i0)), .val (.int (3 : Int32)), .val (.int (0 : Int32)), .val (.ref b1), .val (.ref b6)] [(.ref b1), (.int (f0_41_s0 i0)), (.ref b6)])) (fun t k => ?_) ?_
    · refine XS.iload X55.here hx rfl (hb hby at_116) rfl ?_
      refine XS.iconst X55.here hx rfl (hb hby at_118) ?_
      refine XS.icmpNo X55.here hx rfl (hb hby at_119) rfl (tlt (show (1 : Int32) < (3 : Int32) from (by decide))).2.2.2 ?_
      refine XS.aload X55.here hx rfl (hb hby at_122) rfl rfl ?_
      refine XS.iload X55.here hx rfl (hb hby at_124) rfl ?_
      refine XS.aload X55.here hx rfl (hb hby at_126) rfl rfl ?_
      exact k
    have f58 : Exa Z T55.heap b1 "com/example/knotwork/knotwork/core/Sym" := (f56.keep K55)
    obtain ⟨cq57, kq57, q57a, q57b, q57c⟩ := isOf hZ rfl u55_0
    obtain ⟨_, _, ⟨T57, L57, k57, n57⟩, -, X57, ⟨Lc57, hQ57, l57, y57, z57⟩, st57⟩ := X55.virtualBack hx (y := (⟨"com/example/knotwork/knotwork/core/Binding", "bind", "(ILcom/example/knotwork/knotwork/core/Item;)V"⟩ : MethodName)) (z := (⟨"com/example/knotwork/knotwork/core/Binding", "bind", "(ILcom/example/knotwork/knotwork/core/Item;)V"⟩ : MethodName)) hown (mvT hZ (hw _ (List.mem_of_getElem? (i := 39) rfl))) (mvT hZ (hw _ (List.mem_of_getElem? (i := 40) rfl))) (notFace_of_selects (args := #[]) (mvT hZ (hw _ (List.mem_of_getElem? (i := 42) rfl)))) (mvT hZ (hw _ (List.mem_of_getElem? (i := 42) rfl))) (mvT hZ (hw _ (List.mem_of_getElem? (i := 41) rfl))) (by decide) (backOf (W := 0) (rmbd l Z a0 hw [] b6 (f0_41_s0 i0) b1 b7 b7x1 (upv (fun _ => Value.null) (own_k (f0_v11 i0)) (.ref b1)) (upv (fun _ => (0 : Int32)) 0 (f0_v11 i0)) (1 : Int32) (own_k (f0_41_s0 i0)) 1 T55.heap n0 u55_0 g_b6 g_b7 g_b7x1 ne_b6_b7 ne_b6_b7x1 ne_b7_b7x1 u55_1 u55_2 u55_3 u55_4 u55_5 u55_6 f58 (law_s1 i0).1 (law_s1 i0).2 rfl (by decide)) hZ (hw _ (List.mem_of_getElem? (i := 43) rfl)) (hw _ (List.mem_of_getElem? (i := 27) rfl)) (by decide) (by decide)) q57a q57c (g := (mkF m 128 #[.val (.int i0), .val (.int i1), .val (.int i2), .val (.int (f0_v7 i0)), .val (.int (f0_v11 i0)), .val (.int (f0_15_s0 i0)), .val (.int (f0_28_s0 i0)), .val (.int (f0_41_s0 i0)), .val (.int (f0_v60 i0)), .val (.int (3 : Int32)), .val (.int (0 : Int32)), .val (.ref b1), .val (.ref b6)] [(.ref b1), (.int (f0_41_s0 i0)), (.ref b6)])) rfl (by rw [hml]; rfl) (Steps.refl _) (argsL := [(.int (f0_41_s0 i0)), (.ref b1)]) (rest := []) (lenOf pd_3 rfl) rfl (by show 2 * 0 + _ ≤ _; exact Nat.le_of_eq rfl) (hb hby at_128) (fun _ _ => ⟨rfl, rfl, (by decide : 6 + 0 ≤ _), (by decide : 18 + 0 ≤ _)⟩)
    dsimp only [Pt.U, Pt.locs, Pt.cells, Pt.slots] at X57 l57 y57 z57 st57 hQ57
    subst l57 y57 z57
    obtain ⟨rfl, N57q, K57, u57_0, u57_1, u57_2, u57_3, u57_4, u57_5, u57_6⟩ := hQ57
    have N57 := Fr.app N55 N57q
    obtain ⟨Lh57, X57, N57⟩ := hide X57 N57 (C := 6) (S := 18) (by decide) (by decide)
    refine Outs.to st57 ?_
    refine Outs.of (U' := T57.setTop (mkF m 143 #[.val (.int i0), .val (.int i1), .val (.int i2), .val (.int (f0_v7 i0)), .val (.int (f0_v11 i0)), .val (.int (f0_15_s0 i0)), .val (.int (f0_28_s0 i0)), .val (.int (f0_41_s0 i0)), .val (.int (f0_v60 i0)), .val (.int (3 : Int32)), .val (.int (0 : Int32)), .val (.ref b1), .val (.ref b6)] [(.ref b1), (.int (f0_v60 i0)), (.ref b6)])) (fun t k => ?_) ?_
    · refine XS.iload X57.here hx rfl (hb hby at_131) rfl ?_
      refine XS.iconst X57.here hx rfl (hb hby at_133) ?_
      refine XS.icmpNo X57.here hx rfl (hb hby at_134) rfl (tlt (show (2 : Int32) < (3 : Int32) from (by decide))).2.2.2 ?_
      refine XS.aload X57.here hx rfl (hb hby at_137) rfl rfl ?_
      refine XS.iload X57.here hx rfl (hb hby at_139) rfl ?_
      refine XS.aload X57.here hx rfl (hb hby at_141) rfl rfl ?_
      exact k
    have f60 : Exa Z T57.heap b1 "com/example/knotwork/knotwork/core/Sym" := (f58.keep K57)
    obtain ⟨cq59, kq59, q59a, q59b, q59c⟩ := isOf hZ rfl u57_0
    obtain ⟨_, _, ⟨T59, L59, k59, n59⟩, -, X59, ⟨Lc59, hQ59, l59, y59, z59⟩, st59⟩ := X57.virtualBack hx (y := (⟨"com/example/knotwork/knotwork/core/Binding", "bind", "(ILcom/example/knotwork/knotwork/core/Item;)V"⟩ : MethodName)) (z := (⟨"com/example/knotwork/knotwork/core/Binding", "bind", "(ILcom/example/knotwork/knotwork/core/Item;)V"⟩ : MethodName)) hown (mvT hZ (hw _ (List.mem_of_getElem? (i := 39) rfl))) (mvT hZ (hw _ (List.mem_of_getElem? (i := 40) rfl))) (notFace_of_selects (args := #[]) (mvT hZ (hw _ (List.mem_of_getElem? (i := 42) rfl)))) (mvT hZ (hw _ (List.mem_of_getElem? (i := 42) rfl))) (mvT hZ (hw _ (List.mem_of_getElem? (i := 41) rfl))) (by decide) (backOf (W := 0) (rmbd l Z a0 hw [] b6 (f0_v60 i0) b1 b7 b7x1 (upv (upv (fun _ => Value.null) (own_k (f0_v11 i0)) (.ref b1)) (own_k (f0_41_s0 i0)) (.ref b1)) (upv (upv (fun _ => (0 : Int32)) 0 (f0_v11 i0)) 1 (f0_41_s0 i0)) (2 : Int32) (own_k (f0_v60 i0)) 2 T57.heap n0 u57_0 g_b6 g_b7 g_b7x1 ne_b6_b7 ne_b6_b7x1 ne_b7_b7x1 u57_1 u57_2 u57_3 u57_4 u57_5 u57_6 f60 (law_s2 i0).1 (law_s2 i0).2 rfl (by decide)) hZ (hw _ (List.mem_of_getElem? (i := 43) rfl)) (hw _ (List.mem_of_getElem? (i := 27) rfl)) (by decide) (by decide)) q59a q59c (g := (mkF m 143 #[.val (.int i0), .val (.int i1), .val (.int i2), .val (.int (f0_v7 i0)), .val (.int (f0_v11 i0)), .val (.int (f0_15_s0 i0)), .val (.int (f0_28_s0 i0)), .val (.int (f0_41_s0 i0)), .val (.int (f0_v60 i0)), .val (.int (3 : Int32)), .val (.int (0 : Int32)), .val (.ref b1), .val (.ref b6)] [(.ref b1), (.int (f0_v60 i0)), (.ref b6)])) rfl (by rw [hml]; rfl) (Steps.refl _) (argsL := [(.int (f0_v60 i0)), (.ref b1)]) (rest := []) (lenOf pd_3 rfl) rfl (by show 2 * 0 + _ ≤ _; exact Nat.le_of_eq rfl) (hb hby at_143) (fun _ _ => ⟨rfl, rfl, (by decide : 6 + 0 ≤ _), (by decide : 18 + 0 ≤ _)⟩)
    dsimp only [Pt.U, Pt.locs, Pt.cells, Pt.slots] at X59 l59 y59 z59 st59 hQ59
    subst l59 y59 z59
    obtain ⟨rfl, N59q, K59, u59_0, u59_1, u59_2, u59_3, u59_4, u59_5, u59_6⟩ := hQ59
    have N59 := Fr.app N57 N59q
    obtain ⟨Lh59, X59, N59⟩ := hide X59 N59 (C := 6) (S := 18) (by decide) (by decide)
    refine Outs.to st59 ?_
    refine Outs.of (U' := T59.setTop (mkF m 150 #[.val (.int i0), .val (.int i1), .val (.int i2), .val (.int (f0_v7 i0)), .val (.int (f0_v11 i0)), .val (.int (f0_15_s0 i0)), .val (.int (f0_28_s0 i0)), .val (.int (f0_41_s0 i0)), .val (.int (f0_v60 i0)), .val (.int (3 : Int32)), .val (.int (0 : Int32)), .val (.ref b1), .val (.ref b6)] [(.int (0 : Int32)), (.ref b6)])) (fun t k => ?_) ?_
    · refine XS.aload X59.here hx rfl (hb hby at_146) rfl rfl ?_
      refine XS.iload X59.here hx rfl (hb hby at_148) rfl ?_
      exact k
    obtain ⟨cq61, kq61, q61a, q61b, q61c⟩ := isOf hZ rfl u59_0
    obtain ⟨_, _, ⟨T61, L61, k61, n61⟩, -, X61, ⟨Lc61, hQ61, l61, y61, z61⟩, st61⟩ := X59.virtualBack hx (y := (⟨"com/example/knotwork/knotwork/core/Binding", "undo", "(I)V"⟩ : MethodName)) (z := (⟨"com/example/knotwork/knotwork/core/Binding", "undo", "(I)V"⟩ : MethodName)) hown (mvT hZ (hw _ (List.mem_of_getElem? (i := 47) rfl))) (mvT hZ (hw _ (List.mem_of_getElem? (i := 48) rfl))) (notFace_of_selects (args := #[]) (mvT hZ (hw _ (List.mem_of_getElem? (i := 50) rfl)))) (mvT hZ (hw _ (List.mem_of_getElem? (i := 50) rfl))) (mvT hZ (hw _ (List.mem_of_getElem? (i := 49) rfl))) (by decide) (backOf (W := 0) (rmun30 l Z a0 hw [] b6 b7 b7x1 (upv (upv (upv (fun _ => Value.null) (own_k (f0_v11 i0)) (.ref b1)) (own_k (f0_41_s0 i0)) (.ref b1)) (own_k (f0_v60 i0)) (.ref b1)) (upv (upv (upv (fun _ => (0 : Int32)) 0 (f0_v11 i0)) 1 (f0_41_s0 i0)) 2 (f0_v60 i0)) (own_k (f0_v11 i0)) (own_k (f0_41_s0 i0)) (own_k (f0_v60 i0)) T59.heap n0 u59_0 g_b6 g_b7 g_b7x1 ne_b6_b7 ne_b6_b7x1 ne_b7_b7x1 u59_1 u59_2 u59_3 u59_4 u59_5 u59_6 (law_s0 i0).1 (law_s0 i0).2 (law_s1 i0).1 (law_s1 i0).2 (law_s2 i0).1 (law_s2 i0).2) hZ (hw _ (List.mem_of_getElem? (i := 51) rfl)) (hw _ (List.mem_of_getElem? (i := 27) rfl)) (by decide) (by decide)) q61a q61c (g := (mkF m 150 #[.val (.int i0), .val (.int i1), .val (.int i2), .val (.int (f0_v7 i0)), .val (.int (f0_v11 i0)), .val (.int (f0_15_s0 i0)), .val (.int (f0_28_s0 i0)), .val (.int (f0_41_s0 i0)), .val (.int (f0_v60 i0)), .val (.int (3 : Int32)), .val (.int (0 : Int32)), .val (.ref b1), .val (.ref b6)] [(.int (0 : Int32)), (.ref b6)])) rfl (by rw [hml]; rfl) (Steps.refl _) (argsL := [(.int (0 : Int32))]) (rest := []) (lenOf pd_2 rfl) rfl (by show 2 * 0 + _ ≤ _; exact Nat.le_of_eq rfl) (hb hby at_150) (fun _ _ => ⟨rfl, rfl, (by decide : 6 + 0 ≤ _), (by decide : 18 + 0 ≤ _)⟩)
    dsimp only [Pt.U, Pt.locs, Pt.cells, Pt.slots] at X61 l61 y61 z61 st61 hQ61
    subst l61 y61 z61
    obtain ⟨rfl, N61q, K61, u61_0, u61_1, u61_2, u61_3, u61_4, u61_5, u61_6⟩ := hQ61
    have N61 := Fr.app N59 N61q
    obtain ⟨Lh61, X61, N61⟩ := hide X61 N61 (C := 6) (S := 18) (by decide) (by decide)
    refine Outs.to st61 ?_
    refine Outs.of (U' := T61.setTop (mkF m 166 #[.val (.int i0), .val (.int i1), .val (.int i2), .val (.int (f0_v7 i0)), .val (.int (f0_v11 i0)), .val (.int (f0_15_s0 i0)), .val (.int (f0_28_s0 i0)), .val (.int (f0_41_s0 i0)), .val (.int (f0_v60 i0)), .val (.int (3 : Int32)), .val (.int (0 : Int32)), .val (.ref b1), .val (.ref b6)] [(.int (f0_v60 i0)), (.int (f0_41_s0 i0)), (.int (f0_v11 i0)), (.int (0 : Int32)), (.int (0 : Int32)), (.ref b1), (.ref b6)])) (fun t k => ?_) ?_
    · refine XS.aload X61.here hx rfl (hb hby at_153) rfl rfl ?_
      refine XS.aload X61.here hx rfl (hb hby at_155) rfl rfl ?_
      refine XS.iconst X61.here hx rfl (hb hby at_157) ?_
      refine XS.iload X61.here hx rfl (hb hby at_158) rfl ?_
      refine XS.iload X61.here hx rfl (hb hby at_160) rfl ?_
      refine XS.iload X61.here hx rfl (hb hby at_162) rfl ?_
      refine XS.iload X61.here hx rfl (hb hby at_164) rfl ?_
      exact k
    obtain ⟨_, _, ⟨T62, L62, k62, n62⟩, -, X62, ⟨Lc62, hQ62, l62, y62, z62⟩, st62⟩ := Jvm.LawKit.callS X61 hx (y := (⟨"com/example/knotwork/knotwork/core/BindingUndoPinLaw", "slotOk", "(Lcom/example/knotwork/knotwork/core/Binding;Lcom/example/knotwork/knotwork/core/Item;IIIII)Z"⟩ : MethodName)) hown (mvT hZ (hw _ (List.mem_of_getElem? (i := 52) rfl))) (mvT hZ (hw _ (List.mem_of_getElem? (i := 53) rfl))) (mvT hZ (hw _ (List.mem_of_getElem? (i := 54) rfl))) (mvT hZ (hw _ (List.mem_of_getElem? (i := 55) rfl))) (by decide) (backOf (W := 0) (rmso l Z a0 hw [] b6 b1 (0 : Int32) (0 : Int32) (f0_v11 i0) (f0_41_s0 i0) (f0_v60 i0) b7 (upv (upv (upv (upv (upv (upv (fun _ => Value.null) (own_k (f0_v11 i0)) (.ref b1)) (own_k (f0_41_s0 i0)) (.ref b1)) (own_k (f0_v60 i0)) (.ref b1)) (own_k (f0_v60 i0)) .null) (own_k (f0_41_s0 i0)) .null) (own_k (f0_v11 i0)) .null) 0 T61.heap n0 u61_0 u61_1 u61_4 rfl (by decide) (law_d300 i0 b1)) hZ (hw _ (List.mem_of_getElem? (i := 55) rfl)) (hw _ (List.mem_of_getElem? (i := 54) rfl)) (by decide) (by decide)) (g := (mkF m 166 #[.val (.int i0), .val (.int i1), .val (.int i2), .val (.int (f0_v7 i0)), .val (.int (f0_v11 i0)), .val (.int (f0_15_s0 i0)), .val (.int (f0_28_s0 i0)), .val (.int (f0_41_s0 i0)), .val (.int (f0_v60 i0)), .val (.int (3 : Int32)), .val (.int (0 : Int32)), .val (.ref b1), .val (.ref b6)] [(.int (f0_v60 i0)), (.int (f0_41_s0 i0)), (.int (f0_v11 i0)), (.int (0 : Int32)), (.int (0 : Int32)), (.ref b1), (.ref b6)])) rfl (by rw [hml]; rfl) (argsL := [(.ref b6), (.ref b1), (.int (0 : Int32)), (.int (0 : Int32)), (.int (f0_v11 i0)), (.int (f0_41_s0 i0)), (.int (f0_v60 i0))]) (rest := []) (lenOf pd_4 rfl) rfl (by show 2 * 0 + _ ≤ _; exact Nat.le_of_eq rfl) (hb hby at_166) (fun _ _ => ⟨rfl, rfl, (by decide : 6 + 0 ≤ _), (by decide : 18 + 0 ≤ _)⟩)
    dsimp only [Pt.U, Pt.locs, Pt.cells, Pt.slots] at X62 l62 y62 z62 st62 hQ62
    subst l62 y62 z62
    obtain ⟨rfl, N62q, e62⟩ := hQ62
    have N62 := Fr.app N61 N62q
    obtain ⟨Lh62, X62, N62⟩ := hide X62 N62 (C := 6) (S := 18) (by decide) (by decide)
    refine Outs.of st62 ?_
    refine Outs.of (U' := T62.setTop (mkF m 185 #[.val (.int i0), .val (.int i1), .val (.int i2), .val (.int (f0_v7 i0)), .val (.int (f0_v11 i0)), .val (.int (f0_15_s0 i0)), .val (.int (f0_28_s0 i0)), .val (.int (f0_41_s0 i0)), .val (.int (f0_v60 i0)), .val (.int (3 : Int32)), .val (.int (0 : Int32)), .val (.ref b1), .val (.ref b6)] [(.int (f0_v60 i0)), (.int (f0_41_s0 i0)), (.int (f0_v11 i0)), (.int (0 : Int32)), (.int (1 : Int32)), (.ref b1), (.ref b6)])) (fun t k => ?_) ?_
    · refine XS.ifNo X62.here hx rfl (hb hby at_169) rfl ((if0 _ _).trans (feq (show ¬ ((1 : Int32) = (0 : Int32)) from (by decide))).1) ?_
      refine XS.aload X62.here hx rfl (hb hby at_172) rfl rfl ?_
      refine XS.aload X62.here hx rfl (hb hby at_174) rfl rfl ?_
      refine XS.iconst X62.here hx rfl (hb hby at_176) ?_
      refine XS.iload X62.here hx rfl (hb hby at_177) rfl ?_
      refine XS.iload X62.here hx rfl (hb hby at_179) rfl ?_
      refine XS.iload X62.here hx rfl (hb hby at_181) rfl ?_
      refine XS.iload X62.here hx rfl (hb hby at_183) rfl ?_
      exact k
    obtain ⟨_, _, ⟨T63, L63, k63, n63⟩, -, X63, ⟨Lc63, hQ63, l63, y63, z63⟩, st63⟩ := Jvm.LawKit.callS X62 hx (y := (⟨"com/example/knotwork/knotwork/core/BindingUndoPinLaw", "slotOk", "(Lcom/example/knotwork/knotwork/core/Binding;Lcom/example/knotwork/knotwork/core/Item;IIIII)Z"⟩ : MethodName)) hown (mvT hZ (hw _ (List.mem_of_getElem? (i := 52) rfl))) (mvT hZ (hw _ (List.mem_of_getElem? (i := 53) rfl))) (mvT hZ (hw _ (List.mem_of_getElem? (i := 54) rfl))) (mvT hZ (hw _ (List.mem_of_getElem? (i := 55) rfl))) (by decide) (backOf (W := 0) (rmso l Z a0 hw [] b6 b1 (1 : Int32) (0 : Int32) (f0_v11 i0) (f0_41_s0 i0) (f0_v60 i0) b7 (upv (upv (upv (upv (upv (upv (fun _ => Value.null) (own_k (f0_v11 i0)) (.ref b1)) (own_k (f0_41_s0 i0)) (.ref b1)) (own_k (f0_v60 i0)) (.ref b1)) (own_k (f0_v60 i0)) .null) (own_k (f0_41_s0 i0)) .null) (own_k (f0_v11 i0)) .null) 1 T61.heap n0 u61_0 u61_1 u61_4 rfl (by decide) (law_d301 i0 b1)) hZ (hw _ (List.mem_of_getElem? (i := 55) rfl)) (hw _ (List.mem_of_getElem? (i := 54) rfl)) (by decide) (by decide)) (g := (mkF m 185 #[.val (.int i0), .val (.int i1), .val (.int i2), .val (.int (f0_v7 i0)), .val (.int (f0_v11 i0)), .val (.int (f0_15_s0 i0)), .val (.int (f0_28_s0 i0)), .val (.int (f0_41_s0 i0)), .val (.int (f0_v60 i0)), .val (.int (3 : Int32)), .val (.int (0 : Int32)), .val (.ref b1), .val (.ref b6)] [(.int (f0_v60 i0)), (.int (f0_41_s0 i0)), (.int (f0_v11 i0)), (.int (0 : Int32)), (.int (1 : Int32)), (.ref b1), (.ref b6)])) rfl (by rw [hml]; rfl) (argsL := [(.ref b6), (.ref b1), (.int (1 : Int32)), (.int (0 : Int32)), (.int (f0_v11 i0)), (.int (f0_41_s0 i0)), (.int (f0_v60 i0))]) (rest := []) (lenOf pd_4 rfl) rfl (by show 2 * 0 + _ ≤ _; exact Nat.le_of_eq rfl) (hb hby at_185) (fun _ _ => ⟨rfl, e62, (by decide : 6 + 0 ≤ _), (by decide : 18 + 0 ≤ _)⟩)
    dsimp only [Pt.U, Pt.locs, Pt.cells, Pt.slots] at X63 l63 y63 z63 st63 hQ63
    subst l63 y63 z63
    obtain ⟨rfl, N63q, e63⟩ := hQ63
    have N63 := Fr.app N62 N63q
    obtain ⟨Lh63, X63, N63⟩ := hide X63 N63 (C := 6) (S := 18) (by decide) (by decide)
    refine Outs.of st63 ?_
    refine Outs.of (U' := T63.setTop (mkF m 204 #[.val (.int i0), .val (.int i1), .val (.int i2), .val (.int (f0_v7 i0)), .val (.int (f0_v11 i0)), .val (.int (f0_15_s0 i0)), .val (.int (f0_28_s0 i0)), .val (.int (f0_41_s0 i0)), .val (.int (f0_v60 i0)), .val (.int (3 : Int32)), .val (.int (0 : Int32)), .val (.ref b1), .val (.ref b6)] [(.int (f0_v60 i0)), (.int (f0_41_s0 i0)), (.int (f0_v11 i0)), (.int (0 : Int32)), (.int (2 : Int32)), (.ref b1), (.ref b6)])) (fun t k => ?_) ?_
    · refine XS.ifNo X63.here hx rfl (hb hby at_188) rfl ((if0 _ _).trans (feq (show ¬ ((1 : Int32) = (0 : Int32)) from (by decide))).1) ?_
      refine XS.aload X63.here hx rfl (hb hby at_191) rfl rfl ?_
      refine XS.aload X63.here hx rfl (hb hby at_193) rfl rfl ?_
      refine XS.iconst X63.here hx rfl (hb hby at_195) ?_
      refine XS.iload X63.here hx rfl (hb hby at_196) rfl ?_
      refine XS.iload X63.here hx rfl (hb hby at_198) rfl ?_
      refine XS.iload X63.here hx rfl (hb hby at_200) rfl ?_
      refine XS.iload X63.here hx rfl (hb hby at_202) rfl ?_
      exact k
    obtain ⟨_, _, ⟨T64, L64, k64, n64⟩, -, X64, ⟨Lc64, hQ64, l64, y64, z64⟩, st64⟩ := Jvm.LawKit.callS X63 hx (y := (⟨"com/example/knotwork/knotwork/core/BindingUndoPinLaw", "slotOk", "(Lcom/example/knotwork/knotwork/core/Binding;Lcom/example/knotwork/knotwork/core/Item;IIIII)Z"⟩ : MethodName)) hown (mvT hZ (hw _ (List.mem_of_getElem? (i := 52) rfl))) (mvT hZ (hw _ (List.mem_of_getElem? (i := 53) rfl))) (mvT hZ (hw _ (List.mem_of_getElem? (i := 54) rfl))) (mvT hZ (hw _ (List.mem_of_getElem? (i := 55) rfl))) (by decide) (backOf (W := 0) (rmso l Z a0 hw [] b6 b1 (2 : Int32) (0 : Int32) (f0_v11 i0) (f0_41_s0 i0) (f0_v60 i0) b7 (upv (upv (upv (upv (upv (upv (fun _ => Value.null) (own_k (f0_v11 i0)) (.ref b1)) (own_k (f0_41_s0 i0)) (.ref b1)) (own_k (f0_v60 i0)) (.ref b1)) (own_k (f0_v60 i0)) .null) (own_k (f0_41_s0 i0)) .null) (own_k (f0_v11 i0)) .null) 2 T61.heap n0 u61_0 u61_1 u61_4 rfl (by decide) (law_d302 i0 b1)) hZ (hw _ (List.mem_of_getElem? (i := 55) rfl)) (hw _ (List.mem_of_getElem? (i := 54) rfl)) (by decide) (by decide)) (g := (mkF m 204 #[.val (.int i0), .val (.int i1), .val (.int i2), .val (.int (f0_v7 i0)), .val (.int (f0_v11 i0)), .val (.int (f0_15_s0 i0)), .val (.int (f0_28_s0 i0)), .val (.int (f0_41_s0 i0)), .val (.int (f0_v60 i0)), .val (.int (3 : Int32)), .val (.int (0 : Int32)), .val (.ref b1), .val (.ref b6)] [(.int (f0_v60 i0)), (.int (f0_41_s0 i0)), (.int (f0_v11 i0)), (.int (0 : Int32)), (.int (2 : Int32)), (.ref b1), (.ref b6)])) rfl (by rw [hml]; rfl) (argsL := [(.ref b6), (.ref b1), (.int (2 : Int32)), (.int (0 : Int32)), (.int (f0_v11 i0)), (.int (f0_41_s0 i0)), (.int (f0_v60 i0))]) (rest := []) (lenOf pd_4 rfl) rfl (by show 2 * 0 + _ ≤ _; exact Nat.le_of_eq rfl) (hb hby at_204) (fun _ _ => ⟨rfl, e63, (by decide : 6 + 0 ≤ _), (by decide : 18 + 0 ≤ _)⟩)
    dsimp only [Pt.U, Pt.locs, Pt.cells, Pt.slots] at X64 l64 y64 z64 st64 hQ64
    subst l64 y64 z64
    obtain ⟨rfl, N64q, e64⟩ := hQ64
    have N64 := Fr.app N63 N64q
    obtain ⟨Lh64, X64, N64⟩ := hide X64 N64 (C := 6) (S := 18) (by decide) (by decide)
    refine Outs.of st64 ?_
    refine Outs.of (U' := T64.setTop (mkF m 212 #[.val (.int i0), .val (.int i1), .val (.int i2), .val (.int (f0_v7 i0)), .val (.int (f0_v11 i0)), .val (.int (f0_15_s0 i0)), .val (.int (f0_28_s0 i0)), .val (.int (f0_41_s0 i0)), .val (.int (f0_v60 i0)), .val (.int (3 : Int32)), .val (.int (0 : Int32)), .val (.ref b1), .val (.ref b6)] [(.ref b6)])) (fun t k => ?_) ?_
    · refine XS.ifNo X64.here hx rfl (hb hby at_207) rfl ((if0 _ _).trans (feq (show ¬ ((1 : Int32) = (0 : Int32)) from (by decide))).1) ?_
      refine XS.aload X64.here hx rfl (hb hby at_210) rfl rfl ?_
      exact k
    obtain ⟨cq65, kq65, q65a, q65b, q65c⟩ := isOf hZ e64 u61_0
    obtain ⟨_, _, ⟨T65, L65, k65, n65⟩, -, X65, ⟨Lc65, hQ65, l65, y65, z65⟩, st65⟩ := X64.virtualBack hx (y := (⟨"com/example/knotwork/knotwork/core/Binding", "mark", "()I"⟩ : MethodName)) (z := (⟨"com/example/knotwork/knotwork/core/Binding", "mark", "()I"⟩ : MethodName)) hown (mvT hZ (hw _ (List.mem_of_getElem? (i := 64) rfl))) (mvT hZ (hw _ (List.mem_of_getElem? (i := 65) rfl))) (notFace_of_selects (args := #[]) (mvT hZ (hw _ (List.mem_of_getElem? (i := 67) rfl)))) (mvT hZ (hw _ (List.mem_of_getElem? (i := 67) rfl))) (mvT hZ (hw _ (List.mem_of_getElem? (i := 66) rfl))) (by decide) (backOf (W := 0) (rm10 l Z a0 hw [] b6 (0 : Int32) T61.heap n0 u61_3) hZ (hw _ (List.mem_of_getElem? (i := 68) rfl)) (hw _ (List.mem_of_getElem? (i := 27) rfl)) (by decide) (by decide)) q65a q65c (g := (mkF m 212 #[.val (.int i0), .val (.int i1), .val (.int i2), .val (.int (f0_v7 i0)), .val (.int (f0_v11 i0)), .val (.int (f0_15_s0 i0)), .val (.int (f0_28_s0 i0)), .val (.int (f0_41_s0 i0)), .val (.int (f0_v60 i0)), .val (.int (3 : Int32)), .val (.int (0 : Int32)), .val (.ref b1), .val (.ref b6)] [(.ref b6)])) rfl (by rw [hml]; rfl) (Steps.refl _) (argsL := []) (rest := []) (lenOf pd_7 rfl) rfl (by show 2 * 0 + _ ≤ _; exact Nat.le_of_eq rfl) (hb hby at_212) (fun _ _ => ⟨rfl, e64, (by decide : 6 + 0 ≤ _), (by decide : 18 + 0 ≤ _)⟩)
    dsimp only [Pt.U, Pt.locs, Pt.cells, Pt.slots] at X65 l65 y65 z65 st65 hQ65
    subst l65 y65 z65
    obtain ⟨rfl, N65q, e65⟩ := hQ65
    have N65 := Fr.app N64 N65q
    obtain ⟨Lh65, X65, N65⟩ := hide X65 N65 (C := 6) (S := 18) (by decide) (by decide)
    refine Outs.to st65 ?_
    refine Outs.of (U' := T65.setTop (mkF m 225 #[.val (.int i0), .val (.int i1), .val (.int i2), .val (.int (f0_v7 i0)), .val (.int (f0_v11 i0)), .val (.int (f0_15_s0 i0)), .val (.int (f0_28_s0 i0)), .val (.int (f0_41_s0 i0)), .val (.int (f0_v60 i0)), .val (.int (3 : Int32)), .val (.int (0 : Int32)), .val (.ref b1), .val (.ref b6)] [(.int (1 : Int32))])) (fun t k => ?_) ?_
    · refine XS.iload X65.here hx rfl (hb hby at_215) rfl ?_
      refine XS.icmpNo X65.here hx rfl (hb hby at_217) rfl (teq (show (0 : Int32) = (0 : Int32) from (by decide))).2 ?_
      refine XS.iconst X65.here hx rfl (hb hby at_220) ?_
      refine XS.goto X65.here hx rfl (pc0 := 221) (pc' := 225) rfl (hb hby at_221) (by decide) (by decide) ?_
      exact k
    exact Outs.retN (t := .boolean) (z := (1 : Int32)) X65 hx hret (by simp) (hb hby at_225) hlk (by decide) (by decide) e65 ⟨⟨rfl, N65⟩, (Nat.le_trans (Nat.le_trans (Nat.le_trans (Nat.le_trans (Nat.le_trans (Nat.le_trans (Nat.le_trans z2 K3.1) E6.1) K7.1) K55.1) K57.1) K59.1) K61.1)⟩
  · rw [q9, q10]
    show Outs p e below _ _ _ _ (T7.setTop (mkF m 102 #[.val (.int i0), .val (.int i1), .val (.int i2), .val (.int (f0_v7 i0)), .val (.int (f0_v11 i0)), .val (.int (f0_15_s0 i0)), .val (.int (f0_28_s0 i0)), .val (.int (f0_41_s0 i0)), .val (.int (f0_v60 i0)), .val (.int (3 : Int32)), .val (.int (1 : Int32)), .val (.ref b1), .val (.ref b6)] []))
    refine Outs.of (U' := T7.setTop (mkF m 113 #[.val (.int i0), .val (.int i1), .val (.int i2), .val (.int (f0_v7 i0)), .val (.int (f0_v11 i0)), .val (.int (f0_15_s0 i0)), .val (.int (f0_28_s0 i0)), .val (.int (f0_41_s0 i0)), .val (.int (f0_v60 i0)), .val (.int (3 : Int32)), .val (.int (1 : Int32)), .val (.ref b1), .val (.ref b6)] [(.ref b1), (.int (f0_v11 i0)), (.ref b6)])) (fun t k => ?_) ?_
    · refine XS.iload X7.here hx rfl (hb hby at_102) rfl ?_
      refine XS.ifNo X7.here hx rfl (hb hby at_104) rfl ((if0 _ _).trans (tlt (show (0 : Int32) < (3 : Int32) from (by decide))).2.2.2) ?_
      refine XS.aload X7.here hx rfl (hb hby at_107) rfl rfl ?_
      refine XS.iload X7.here hx rfl (hb hby at_109) rfl ?_
      refine XS.aload X7.here hx rfl (hb hby at_111) rfl rfl ?_
      exact k
    have ne_b7_b7x1 : b7 ≠ b7x1 := AF.neT u7_4 u7_6 (by decide)
    have f67 : Exa Z T7.heap b1 "com/example/knotwork/knotwork/core/Sym" := (f8.keep K7)
    obtain ⟨cq66, kq66, q66a, q66b, q66c⟩ := isOf hZ rfl u7_0
    obtain ⟨_, _, ⟨T66, L66, k66, n66⟩, -, X66, ⟨Lc66, hQ66, l66, y66, z66⟩, st66⟩ := X7.virtualBack hx (y := (⟨"com/example/knotwork/knotwork/core/Binding", "bind", "(ILcom/example/knotwork/knotwork/core/Item;)V"⟩ : MethodName)) (z := (⟨"com/example/knotwork/knotwork/core/Binding", "bind", "(ILcom/example/knotwork/knotwork/core/Item;)V"⟩ : MethodName)) hown (mvT hZ (hw _ (List.mem_of_getElem? (i := 39) rfl))) (mvT hZ (hw _ (List.mem_of_getElem? (i := 40) rfl))) (notFace_of_selects (args := #[]) (mvT hZ (hw _ (List.mem_of_getElem? (i := 42) rfl)))) (mvT hZ (hw _ (List.mem_of_getElem? (i := 42) rfl))) (mvT hZ (hw _ (List.mem_of_getElem? (i := 41) rfl))) (by decide) (backOf (W := 0) (rmbd l Z a0 hw [] b6 (f0_v11 i0) b1 b7 b7x1 (fun _ => Value.null) (fun _ => (0 : Int32)) (0 : Int32) (own_k (f0_v11 i0)) 0 T7.heap n0 u7_0 g_b6 g_b7 g_b7x1 ne_b6_b7 ne_b6_b7x1 ne_b7_b7x1 u7_1 u7_2 u7_3 u7_4 u7_5 u7_6 f67 (law_s0 i0).1 (law_s0 i0).2 rfl (by decide)) hZ (hw _ (List.mem_of_getElem? (i := 43) rfl)) (hw _ (List.mem_of_getElem? (i := 27) rfl)) (by decide) (by decide)) q66a q66c (g := (mkF m 113 #[.val (.int i0), .val (.int i1), .val (.int i2), .val (.int (f0_v7 i0)), .val (.int (f0_v11 i0)), .val (.int (f0_15_s0 i0)), .val (.int (f0_28_s0 i0)), .val (.int (f0_41_s0 i0)), .val (.int (f0_v60 i0)), .val (.int (3 : Int32)), .val (.int (1 : Int32)), .val (.ref b1), .val (.ref b6)] [(.ref b1), (.int (f0_v11 i0)), (.ref b6)])) rfl (by rw [hml]; rfl) (Steps.refl _) (argsL := [(.int (f0_v11 i0)), (.ref b1)]) (rest := []) (lenOf pd_3 rfl) rfl (by show 2 * 0 + _ ≤ _; exact Nat.le_of_eq rfl) (hb hby at_113) (fun _ _ => ⟨rfl, rfl, (by decide : 6 + 0 ≤ _), (by decide : 18 + 0 ≤ _)⟩)
    dsimp only [Pt.U, Pt.locs, Pt.cells, Pt.slots] at X66 l66 y66 z66 st66 hQ66
    subst l66 y66 z66
    obtain ⟨rfl, N66q, K66, u66_0, u66_1, u66_2, u66_3, u66_4, u66_5, u66_6⟩ := hQ66
    have N66 := Fr.app N7 N66q
    obtain ⟨Lh66, X66, N66⟩ := hide X66 N66 (C := 6) (S := 18) (by decide) (by decide)
    refine Outs.to st66 ?_
    refine Outs.of (U' := T66.setTop (mkF m 128 #[.val (.int i0), .val (.int i1), .val (.int i2), .val (.int (f0_v7 i0)), .val (.int (f0_v11 i0)), .val (.int (f0_15_s0 i0)), .val (.int (f0_28_s0 i0)), .val (.int (f0_41_s0 i0)), .val (.int (f0_v60 i0)), .val (.int (3 : Int32)), .val (.int (1 : Int32)), .val (.ref b1), .val (.ref b6)] [(.ref b1), (.int (f0_41_s0 i0)), (.ref b6)])) (fun t k => ?_) ?_
    · refine XS.iload X66.here hx rfl (hb hby at_116) rfl ?_
      refine XS.iconst X66.here hx rfl (hb hby at_118) ?_
      refine XS.icmpNo X66.here hx rfl (hb hby at_119) rfl (tlt (show (1 : Int32) < (3 : Int32) from (by decide))).2.2.2 ?_
      refine XS.aload X66.here hx rfl (hb hby at_122) rfl rfl ?_
      refine XS.iload X66.here hx rfl (hb hby at_124) rfl ?_
      refine XS.aload X66.here hx rfl (hb hby at_126) rfl rfl ?_
      exact k
    have f69 : Exa Z T66.heap b1 "com/example/knotwork/knotwork/core/Sym" := (f67.keep K66)
    obtain ⟨cq68, kq68, q68a, q68b, q68c⟩ := isOf hZ rfl u66_0
    obtain ⟨_, _, ⟨T68, L68, k68, n68⟩, -, X68, ⟨Lc68, hQ68, l68, y68, z68⟩, st68⟩ := X66.virtualBack hx (y := (⟨"com/example/knotwork/knotwork/core/Binding", "bind", "(ILcom/example/knotwork/knotwork/core/Item;)V"⟩ : MethodName)) (z := (⟨"com/example/knotwork/knotwork/core/Binding", "bind", "(ILcom/example/knotwork/knotwork/core/Item;)V"⟩ : MethodName)) hown (mvT hZ (hw _ (List.mem_of_getElem? (i := 39) rfl))) (mvT hZ (hw _ (List.mem_of_getElem? (i := 40) rfl))) (notFace_of_selects (args := #[]) (mvT hZ (hw _ (List.mem_of_getElem? (i := 42) rfl)))) (mvT hZ (hw _ (List.mem_of_getElem? (i := 42) rfl))) (mvT hZ (hw _ (List.mem_of_getElem? (i := 41) rfl))) (by decide) (backOf (W := 0) (rmbd l Z a0 hw [] b6 (f0_41_s0 i0) b1 b7 b7x1 (upv (fun _ => Value.null) (own_k (f0_v11 i0)) (.ref b1)) (upv (fun _ => (0 : Int32)) 0 (f0_v11 i0)) (1 : Int32) (own_k (f0_41_s0 i0)) 1 T66.heap n0 u66_0 g_b6 g_b7 g_b7x1 ne_b6_b7 ne_b6_b7x1 ne_b7_b7x1 u66_1 u66_2 u66_3 u66_4 u66_5 u66_6 f69 (law_s1 i0).1 (law_s1 i0).2 rfl (by decide)) hZ (hw _ (List.mem_of_getElem? (i := 43) rfl)) (hw _ (List.mem_of_getElem? (i := 27) rfl)) (by decide) (by decide)) q68a q68c (g := (mkF m 128 #[.val (.int i0), .val (.int i1), .val (.int i2), .val (.int (f0_v7 i0)), .val (.int (f0_v11 i0)), .val (.int (f0_15_s0 i0)), .val (.int (f0_28_s0 i0)), .val (.int (f0_41_s0 i0)), .val (.int (f0_v60 i0)), .val (.int (3 : Int32)), .val (.int (1 : Int32)), .val (.ref b1), .val (.ref b6)] [(.ref b1), (.int (f0_41_s0 i0)), (.ref b6)])) rfl (by rw [hml]; rfl) (Steps.refl _) (argsL := [(.int (f0_41_s0 i0)), (.ref b1)]) (rest := []) (lenOf pd_3 rfl) rfl (by show 2 * 0 + _ ≤ _; exact Nat.le_of_eq rfl) (hb hby at_128) (fun _ _ => ⟨rfl, rfl, (by decide : 6 + 0 ≤ _), (by decide : 18 + 0 ≤ _)⟩)
    dsimp only [Pt.U, Pt.locs, Pt.cells, Pt.slots] at X68 l68 y68 z68 st68 hQ68
    subst l68 y68 z68
    obtain ⟨rfl, N68q, K68, u68_0, u68_1, u68_2, u68_3, u68_4, u68_5, u68_6⟩ := hQ68
    have N68 := Fr.app N66 N68q
    obtain ⟨Lh68, X68, N68⟩ := hide X68 N68 (C := 6) (S := 18) (by decide) (by decide)
    refine Outs.to st68 ?_
    refine Outs.of (U' := T68.setTop (mkF m 143 #[.val (.int i0), .val (.int i1), .val (.int i2), .val (.int (f0_v7 i0)), .val (.int (f0_v11 i0)), .val (.int (f0_15_s0 i0)), .val (.int (f0_28_s0 i0)), .val (.int (f0_41_s0 i0)), .val (.int (f0_v60 i0)), .val (.int (3 : Int32)), .val (.int (1 : Int32)), .val (.ref b1), .val (.ref b6)] [(.ref b1), (.int (f0_v60 i0)), (.ref b6)])) (fun t k => ?_) ?_
    · refine XS.iload X68.here hx rfl (hb hby at_131) rfl ?_
      refine XS.iconst X68.here hx rfl (hb hby at_133) ?_
      refine XS.icmpNo X68.here hx rfl (hb hby at_134) rfl (tlt (show (2 : Int32) < (3 : Int32) from (by decide))).2.2.2 ?_
      refine XS.aload X68.here hx rfl (hb hby at_137) rfl rfl ?_
      refine XS.iload X68.here hx rfl (hb hby at_139) rfl ?_
      refine XS.aload X68.here hx rfl (hb hby at_141) rfl rfl ?_
      exact k
    have f71 : Exa Z T68.heap b1 "com/example/knotwork/knotwork/core/Sym" := (f69.keep K68)
    obtain ⟨cq70, kq70, q70a, q70b, q70c⟩ := isOf hZ rfl u68_0
    obtain ⟨_, _, ⟨T70, L70, k70, n70⟩, -, X70, ⟨Lc70, hQ70, l70, y70, z70⟩, st70⟩ := X68.virtualBack hx (y := (⟨"com/example/knotwork/knotwork/core/Binding", "bind", "(ILcom/example/knotwork/knotwork/core/Item;)V"⟩ : MethodName)) (z := (⟨"com/example/knotwork/knotwork/core/Binding", "bind", "(ILcom/example/knotwork/knotwork/core/Item;)V"⟩ : MethodName)) hown (mvT hZ (hw _ (List.mem_of_getElem? (i := 39) rfl))) (mvT hZ (hw _ (List.mem_of_getElem? (i := 40) rfl))) (notFace_of_selects (args := #[]) (mvT hZ (hw _ (List.mem_of_getElem? (i := 42) rfl)))) (mvT hZ (hw _ (List.mem_of_getElem? (i := 42) rfl))) (mvT hZ (hw _ (List.mem_of_getElem? (i := 41) rfl))) (by decide) (backOf (W := 0) (rmbd l Z a0 hw [] b6 (f0_v60 i0) b1 b7 b7x1 (upv (upv (fun _ => Value.null) (own_k (f0_v11 i0)) (.ref b1)) (own_k (f0_41_s0 i0)) (.ref b1)) (upv (upv (fun _ => (0 : Int32)) 0 (f0_v11 i0)) 1 (f0_41_s0 i0)) (2 : Int32) (own_k (f0_v60 i0)) 2 T68.heap n0 u68_0 g_b6 g_b7 g_b7x1 ne_b6_b7 ne_b6_b7x1 ne_b7_b7x1 u68_1 u68_2 u68_3 u68_4 u68_5 u68_6 f71 (law_s2 i0).1 (law_s2 i0).2 rfl (by decide)) hZ (hw _ (List.mem_of_getElem? (i := 43) rfl)) (hw _ (List.mem_of_getElem? (i := 27) rfl)) (by decide) (by decide)) q70a q70c (g := (mkF m 143 #[.val (.int i0), .val (.int i1), .val (.int i2), .val (.int (f0_v7 i0)), .val (.int (f0_v11 i0)), .val (.int (f0_15_s0 i0)), .val (.int (f0_28_s0 i0)), .val (.int (f0_41_s0 i0)), .val (.int (f0_v60 i0)), .val (.int (3 : Int32)), .val (.int (1 : Int32)), .val (.ref b1), .val (.ref b6)] [(.ref b1), (.int (f0_v60 i0)), (.ref b6)])) rfl (by rw [hml]; rfl) (Steps.refl _) (argsL := [(.int (f0_v60 i0)), (.ref b1)]) (rest := []) (lenOf pd_3 rfl) rfl (by show 2 * 0 + _ ≤ _; exact Nat.le_of_eq rfl) (hb hby at_143) (fun _ _ => ⟨rfl, rfl, (by decide : 6 + 0 ≤ _), (by decide : 18 + 0 ≤ _)⟩)
    dsimp only [Pt.U, Pt.locs, Pt.cells, Pt.slots] at X70 l70 y70 z70 st70 hQ70
    subst l70 y70 z70
    obtain ⟨rfl, N70q, K70, u70_0, u70_1, u70_2, u70_3, u70_4, u70_5, u70_6⟩ := hQ70
    have N70 := Fr.app N68 N70q
    obtain ⟨Lh70, X70, N70⟩ := hide X70 N70 (C := 6) (S := 18) (by decide) (by decide)
    refine Outs.to st70 ?_
    refine Outs.of (U' := T70.setTop (mkF m 150 #[.val (.int i0), .val (.int i1), .val (.int i2), .val (.int (f0_v7 i0)), .val (.int (f0_v11 i0)), .val (.int (f0_15_s0 i0)), .val (.int (f0_28_s0 i0)), .val (.int (f0_41_s0 i0)), .val (.int (f0_v60 i0)), .val (.int (3 : Int32)), .val (.int (1 : Int32)), .val (.ref b1), .val (.ref b6)] [(.int (1 : Int32)), (.ref b6)])) (fun t k => ?_) ?_
    · refine XS.aload X70.here hx rfl (hb hby at_146) rfl rfl ?_
      refine XS.iload X70.here hx rfl (hb hby at_148) rfl ?_
      exact k
    obtain ⟨cq72, kq72, q72a, q72b, q72c⟩ := isOf hZ rfl u70_0
    obtain ⟨_, _, ⟨T72, L72, k72, n72⟩, -, X72, ⟨Lc72, hQ72, l72, y72, z72⟩, st72⟩ := X70.virtualBack hx (y := (⟨"com/example/knotwork/knotwork/core/Binding", "undo", "(I)V"⟩ : MethodName)) (z := (⟨"com/example/knotwork/knotwork/core/Binding", "undo", "(I)V"⟩ : MethodName)) hown (mvT hZ (hw _ (List.mem_of_getElem? (i := 47) rfl))) (mvT hZ (hw _ (List.mem_of_getElem? (i := 48) rfl))) (notFace_of_selects (args := #[]) (mvT hZ (hw _ (List.mem_of_getElem? (i := 50) rfl)))) (mvT hZ (hw _ (List.mem_of_getElem? (i := 50) rfl))) (mvT hZ (hw _ (List.mem_of_getElem? (i := 49) rfl))) (by decide) (backOf (W := 0) (rmun31 l Z a0 hw [] b6 b7 b7x1 (upv (upv (upv (fun _ => Value.null) (own_k (f0_v11 i0)) (.ref b1)) (own_k (f0_41_s0 i0)) (.ref b1)) (own_k (f0_v60 i0)) (.ref b1)) (upv (upv (upv (fun _ => (0 : Int32)) 0 (f0_v11 i0)) 1 (f0_41_s0 i0)) 2 (f0_v60 i0)) (own_k (f0_41_s0 i0)) (own_k (f0_v60 i0)) T70.heap n0 u70_0 g_b6 g_b7 g_b7x1 ne_b6_b7 ne_b6_b7x1 ne_b7_b7x1 u70_1 u70_2 u70_3 u70_4 u70_5 u70_6 (law_s1 i0).1 (law_s1 i0).2 (law_s2 i0).1 (law_s2 i0).2) hZ (hw _ (List.mem_of_getElem? (i := 51) rfl)) (hw _ (List.mem_of_getElem? (i := 27) rfl)) (by decide) (by decide)) q72a q72c (g := (mkF m 150 #[.val (.int i0), .val (.int i1), .val (.int i2), .val (.int (f0_v7 i0)), .val (.int (f0_v11 i0)), .val (.int (f0_15_s0 i0)), .val (.int (f0_28_s0 i0)), .val (.int (f0_41_s0 i0)), .val (.int (f0_v60 i0)), .val (.int (3 : Int32)), .val (.int (1 : Int32)), .val (.ref b1), .val (.ref b6)] [(.int (1 : Int32)), (.ref b6)])) rfl (by rw [hml]; rfl) (Steps.refl _) (argsL := [(.int (1 : Int32))]) (rest := []) (lenOf pd_2 rfl) rfl (by show 2 * 0 + _ ≤ _; exact Nat.le_of_eq rfl) (hb hby at_150) (fun _ _ => ⟨rfl, rfl, (by decide : 6 + 0 ≤ _), (by decide : 18 + 0 ≤ _)⟩)
    dsimp only [Pt.U, Pt.locs, Pt.cells, Pt.slots] at X72 l72 y72 z72 st72 hQ72
    subst l72 y72 z72
    obtain ⟨rfl, N72q, K72, u72_0, u72_1, u72_2, u72_3, u72_4, u72_5, u72_6⟩ := hQ72
    have N72 := Fr.app N70 N72q
    obtain ⟨Lh72, X72, N72⟩ := hide X72 N72 (C := 6) (S := 18) (by decide) (by decide)
    refine Outs.to st72 ?_
    refine Outs.of (U' := T72.setTop (mkF m 166 #[.val (.int i0), .val (.int i1), .val (.int i2), .val (.int (f0_v7 i0)), .val (.int (f0_v11 i0)), .val (.int (f0_15_s0 i0)), .val (.int (f0_28_s0 i0)), .val (.int (f0_41_s0 i0)), .val (.int (f0_v60 i0)), .val (.int (3 : Int32)), .val (.int (1 : Int32)), .val (.ref b1), .val (.ref b6)] [(.int (f0_v60 i0)), (.int (f0_41_s0 i0)), (.int (f0_v11 i0)), (.int (1 : Int32)), (.int (0 : Int32)), (.ref b1), (.ref b6)])) (fun t k => ?_) ?_
    · refine XS.aload X72.here hx rfl (hb hby at_153) rfl rfl ?_
      refine XS.aload X72.here hx rfl (hb hby at_155) rfl rfl ?_
      refine XS.iconst X72.here hx rfl (hb hby at_157) ?_
      refine XS.iload X72.here hx rfl (hb hby at_158) rfl ?_
      refine XS.iload X72.here hx rfl (hb hby at_160) rfl ?_
      refine XS.iload X72.here hx rfl (hb hby at_162) rfl ?_
      refine XS.iload X72.here hx rfl (hb hby at_164) rfl ?_
      exact k
    obtain ⟨_, _, ⟨T73, L73, k73, n73⟩, -, X73, ⟨Lc73, hQ73, l73, y73, z73⟩, st73⟩ := Jvm.LawKit.callS X72 hx (y := (⟨"com/example/knotwork/knotwork/core/BindingUndoPinLaw", "slotOk", "(Lcom/example/knotwork/knotwork/core/Binding;Lcom/example/knotwork/knotwork/core/Item;IIIII)Z"⟩ : MethodName)) hown (mvT hZ (hw _ (List.mem_of_getElem? (i := 52) rfl))) (mvT hZ (hw _ (List.mem_of_getElem? (i := 53) rfl))) (mvT hZ (hw _ (List.mem_of_getElem? (i := 54) rfl))) (mvT hZ (hw _ (List.mem_of_getElem? (i := 55) rfl))) (by decide) (backOf (W := 0) (rmso l Z a0 hw [] b6 b1 (0 : Int32) (1 : Int32) (f0_v11 i0) (f0_41_s0 i0) (f0_v60 i0) b7 (upv (upv (upv (upv (upv (fun _ => Value.null) (own_k (f0_v11 i0)) (.ref b1)) (own_k (f0_41_s0 i0)) (.ref b1)) (own_k (f0_v60 i0)) (.ref b1)) (own_k (f0_v60 i0)) .null) (own_k (f0_41_s0 i0)) .null) 0 T72.heap n0 u72_0 u72_1 u72_4 rfl (by decide) (law_d310 i0 b1)) hZ (hw _ (List.mem_of_getElem? (i := 55) rfl)) (hw _ (List.mem_of_getElem? (i := 54) rfl)) (by decide) (by decide)) (g := (mkF m 166 #[.val (.int i0), .val (.int i1), .val (.int i2), .val (.int (f0_v7 i0)), .val (.int (f0_v11 i0)), .val (.int (f0_15_s0 i0)), .val (.int (f0_28_s0 i0)), .val (.int (f0_41_s0 i0)), .val (.int (f0_v60 i0)), .val (.int (3 : Int32)), .val (.int (1 : Int32)), .val (.ref b1), .val (.ref b6)] [(.int (f0_v60 i0)), (.int (f0_41_s0 i0)), (.int (f0_v11 i0)), (.int (1 : Int32)), (.int (0 : Int32)), (.ref b1), (.ref b6)])) rfl (by rw [hml]; rfl) (argsL := [(.ref b6), (.ref b1), (.int (0 : Int32)), (.int (1 : Int32)), (.int (f0_v11 i0)), (.int (f0_41_s0 i0)), (.int (f0_v60 i0))]) (rest := []) (lenOf pd_4 rfl) rfl (by show 2 * 0 + _ ≤ _; exact Nat.le_of_eq rfl) (hb hby at_166) (fun _ _ => ⟨rfl, rfl, (by decide : 6 + 0 ≤ _), (by decide : 18 + 0 ≤ _)⟩)
    dsimp only [Pt.U, Pt.locs, Pt.cells, Pt.slots] at X73 l73 y73 z73 st73 hQ73
    subst l73 y73 z73
    obtain ⟨rfl, N73q, e73⟩ := hQ73
    have N73 := Fr.app N72 N73q
    obtain ⟨Lh73, X73, N73⟩ := hide X73 N73 (C := 6) (S := 18) (by decide) (by decide)
    refine Outs.of st73 ?_
    refine Outs.of (U' := T73.setTop (mkF m 185 #[.val (.int i0), .val (.int i1), .val (.int i2), .val (.int (f0_v7 i0)), .val (.int (f0_v11 i0)), .val (.int (f0_15_s0 i0)), .val (.int (f0_28_s0 i0)), .val (.int (f0_41_s0 i0)), .val (.int (f0_v60 i0)), .val (.int (3 : Int32)), .val (.int (1 : Int32)), .val (.ref b1), .val (.ref b6)] [(.int (f0_v60 i0)), (.int (f0_41_s0 i0)), (.int (f0_v11 i0)), (.int (1 : Int32)), (.int (1 : Int32)), (.ref b1), (.ref b6)])) (fun t k => ?_) ?_
    · refine XS.ifNo X73.here hx rfl (hb hby at_169) rfl ((if0 _ _).trans (feq (show ¬ ((1 : Int32) = (0 : Int32)) from (by decide))).1) ?_
      refine XS.aload X73.here hx rfl (hb hby at_172) rfl rfl ?_
      refine XS.aload X73.here hx rfl (hb hby at_174) rfl rfl ?_
      refine XS.iconst X73.here hx rfl (hb hby at_176) ?_
      refine XS.iload X73.here hx rfl (hb hby at_177) rfl ?_
      refine XS.iload X73.here hx rfl (hb hby at_179) rfl ?_
      refine XS.iload X73.here hx rfl (hb hby at_181) rfl ?_
      refine XS.iload X73.here hx rfl (hb hby at_183) rfl ?_
      exact k
    obtain ⟨_, _, ⟨T74, L74, k74, n74⟩, -, X74, ⟨Lc74, hQ74, l74, y74, z74⟩, st74⟩ := Jvm.LawKit.callS X73 hx (y := (⟨"com/example/knotwork/knotwork/core/BindingUndoPinLaw", "slotOk", "(Lcom/example/knotwork/knotwork/core/Binding;Lcom/example/knotwork/knotwork/core/Item;IIIII)Z"⟩ : MethodName)) hown (mvT hZ (hw _ (List.mem_of_getElem? (i := 52) rfl))) (mvT hZ (hw _ (List.mem_of_getElem? (i := 53) rfl))) (mvT hZ (hw _ (List.mem_of_getElem? (i := 54) rfl))) (mvT hZ (hw _ (List.mem_of_getElem? (i := 55) rfl))) (by decide) (backOf (W := 0) (rmso l Z a0 hw [] b6 b1 (1 : Int32) (1 : Int32) (f0_v11 i0) (f0_41_s0 i0) (f0_v60 i0) b7 (upv (upv (upv (upv (upv (fun _ => Value.null) (own_k (f0_v11 i0)) (.ref b1)) (own_k (f0_41_s0 i0)) (.ref b1)) (own_k (f0_v60 i0)) (.ref b1)) (own_k (f0_v60 i0)) .null) (own_k (f0_41_s0 i0)) .null) 1 T72.heap n0 u72_0 u72_1 u72_4 rfl (by decide) (law_d311 i0 b1)) hZ (hw _ (List.mem_of_getElem? (i := 55) rfl)) (hw _ (List.mem_of_getElem? (i := 54) rfl)) (by decide) (by decide)) (g := (mkF m 185 #[.val (.int i0), .val (.int i1), .val (.int i2), .val (.int (f0_v7 i0)), .val (.int (f0_v11 i0)), .val (.int (f0_15_s0 i0)), .val (.int (f0_28_s0 i0)), .val (.int (f0_41_s0 i0)), .val (.int (f0_v60 i0)), .val (.int (3 : Int32)), .val (.int (1 : Int32)), .val (.ref b1), .val (.ref b6)] [(.int (f0_v60 i0)), (.int (f0_41_s0 i0)), (.int (f0_v11 i0)), (.int (1 : Int32)), (.int (1 : Int32)), (.ref b1), (.ref b6)])) rfl (by rw [hml]; rfl) (argsL := [(.ref b6), (.ref b1), (.int (1 : Int32)), (.int (1 : Int32)), (.int (f0_v11 i0)), (.int (f0_41_s0 i0)), (.int (f0_v60 i0))]) (rest := []) (lenOf pd_4 rfl) rfl (by show 2 * 0 + _ ≤ _; exact Nat.le_of_eq rfl) (hb hby at_185) (fun _ _ => ⟨rfl, e73, (by decide : 6 + 0 ≤ _), (by decide : 18 + 0 ≤ _)⟩)
    dsimp only [Pt.U, Pt.locs, Pt.cells, Pt.slots] at X74 l74 y74 z74 st74 hQ74
    subst l74 y74 z74
    obtain ⟨rfl, N74q, e74⟩ := hQ74
    have N74 := Fr.app N73 N74q
    obtain ⟨Lh74, X74, N74⟩ := hide X74 N74 (C := 6) (S := 18) (by decide) (by decide)
    refine Outs.of st74 ?_
    refine Outs.of (U' := T74.setTop (mkF m 204 #[.val (.int i0), .val (.int i1), .val (.int i2), .val (.int (f0_v7 i0)), .val (.int (f0_v11 i0)), .val (.int (f0_15_s0 i0)), .val (.int (f0_28_s0 i0)), .val (.int (f0_41_s0 i0)), .val (.int (f0_v60 i0)), .val (.int (3 : Int32)), .val (.int (1 : Int32)), .val (.ref b1), .val (.ref b6)] [(.int (f0_v60 i0)), (.int (f0_41_s0 i0)), (.int (f0_v11 i0)), (.int (1 : Int32)), (.int (2 : Int32)), (.ref b1), (.ref b6)])) (fun t k => ?_) ?_
    · refine XS.ifNo X74.here hx rfl (hb hby at_188) rfl ((if0 _ _).trans (feq (show ¬ ((1 : Int32) = (0 : Int32)) from (by decide))).1) ?_
      refine XS.aload X74.here hx rfl (hb hby at_191) rfl rfl ?_
      refine XS.aload X74.here hx rfl (hb hby at_193) rfl rfl ?_
      refine XS.iconst X74.here hx rfl (hb hby at_195) ?_
      refine XS.iload X74.here hx rfl (hb hby at_196) rfl ?_
      refine XS.iload X74.here hx rfl (hb hby at_198) rfl ?_
      refine XS.iload X74.here hx rfl (hb hby at_200) rfl ?_
      refine XS.iload X74.here hx rfl (hb hby at_202) rfl ?_
      exact k
    obtain ⟨_, _, ⟨T75, L75, k75, n75⟩, -, X75, ⟨Lc75, hQ75, l75, y75, z75⟩, st75⟩ := Jvm.LawKit.callS X74 hx (y := (⟨"com/example/knotwork/knotwork/core/BindingUndoPinLaw", "slotOk", "(Lcom/example/knotwork/knotwork/core/Binding;Lcom/example/knotwork/knotwork/core/Item;IIIII)Z"⟩ : MethodName)) hown (mvT hZ (hw _ (List.mem_of_getElem? (i := 52) rfl))) (mvT hZ (hw _ (List.mem_of_getElem? (i := 53) rfl))) (mvT hZ (hw _ (List.mem_of_getElem? (i := 54) rfl))) (mvT hZ (hw _ (List.mem_of_getElem? (i := 55) rfl))) (by decide) (backOf (W := 0) (rmso l Z a0 hw [] b6 b1 (2 : Int32) (1 : Int32) (f0_v11 i0) (f0_41_s0 i0) (f0_v60 i0) b7 (upv (upv (upv (upv (upv (fun _ => Value.null) (own_k (f0_v11 i0)) (.ref b1)) (own_k (f0_41_s0 i0)) (.ref b1)) (own_k (f0_v60 i0)) (.ref b1)) (own_k (f0_v60 i0)) .null) (own_k (f0_41_s0 i0)) .null) 2 T72.heap n0 u72_0 u72_1 u72_4 rfl (by decide) (law_d312 i0 b1)) hZ (hw _ (List.mem_of_getElem? (i := 55) rfl)) (hw _ (List.mem_of_getElem? (i := 54) rfl)) (by decide) (by decide)) (g := (mkF m 204 #[.val (.int i0), .val (.int i1), .val (.int i2), .val (.int (f0_v7 i0)), .val (.int (f0_v11 i0)), .val (.int (f0_15_s0 i0)), .val (.int (f0_28_s0 i0)), .val (.int (f0_41_s0 i0)), .val (.int (f0_v60 i0)), .val (.int (3 : Int32)), .val (.int (1 : Int32)), .val (.ref b1), .val (.ref b6)] [(.int (f0_v60 i0)), (.int (f0_41_s0 i0)), (.int (f0_v11 i0)), (.int (1 : Int32)), (.int (2 : Int32)), (.ref b1), (.ref b6)])) rfl (by rw [hml]; rfl) (argsL := [(.ref b6), (.ref b1), (.int (2 : Int32)), (.int (1 : Int32)), (.int (f0_v11 i0)), (.int (f0_41_s0 i0)), (.int (f0_v60 i0))]) (rest := []) (lenOf pd_4 rfl) rfl (by show 2 * 0 + _ ≤ _; exact Nat.le_of_eq rfl) (hb hby at_204) (fun _ _ => ⟨rfl, e74, (by decide : 6 + 0 ≤ _), (by decide : 18 + 0 ≤ _)⟩)
    dsimp only [Pt.U, Pt.locs, Pt.cells, Pt.slots] at X75 l75 y75 z75 st75 hQ75
    subst l75 y75 z75
    obtain ⟨rfl, N75q, e75⟩ := hQ75
    have N75 := Fr.app N74 N75q
    obtain ⟨Lh75, X75, N75⟩ := hide X75 N75 (C := 6) (S := 18) (by decide) (by decide)
    refine Outs.of st75 ?_
    refine Outs.of (U' := T75.setTop (mkF m 212 #[.val (.int i0), .val (.int i1), .val (.int i2), .val (.int (f0_v7 i0)), .val (.int (f0_v11 i0)), .val (.int (f0_15_s0 i0)), .val (.int (f0_28_s0 i0)), .val (.int (f0_41_s0 i0)), .val (.int (f0_v60 i0)), .val (.int (3 : Int32)), .val (.int (1 : Int32)), .val (.ref b1), .val (.ref b6)] [(.ref b6)])) (fun t k => ?_) ?_
    · refine XS.ifNo X75.here hx rfl (hb hby at_207) rfl ((if0 _ _).trans (feq (show ¬ ((1 : Int32) = (0 : Int32)) from (by decide))).1) ?_
      refine XS.aload X75.here hx rfl (hb hby at_210) rfl rfl ?_
      exact k
    obtain ⟨cq76, kq76, q76a, q76b, q76c⟩ := isOf hZ e75 u72_0
    obtain ⟨_, _, ⟨T76, L76, k76, n76⟩, -, X76, ⟨Lc76, hQ76, l76, y76, z76⟩, st76⟩ := X75.virtualBack hx (y := (⟨"com/example/knotwork/knotwork/core/Binding", "mark", "()I"⟩ : MethodName)) (z := (⟨"com/example/knotwork/knotwork/core/Binding", "mark", "()I"⟩ : MethodName)) hown (mvT hZ (hw _ (List.mem_of_getElem? (i := 64) rfl))) (mvT hZ (hw _ (List.mem_of_getElem? (i := 65) rfl))) (notFace_of_selects (args := #[]) (mvT hZ (hw _ (List.mem_of_getElem? (i := 67) rfl)))) (mvT hZ (hw _ (List.mem_of_getElem? (i := 67) rfl))) (mvT hZ (hw _ (List.mem_of_getElem? (i := 66) rfl))) (by decide) (backOf (W := 0) (rm10 l Z a0 hw [] b6 (1 : Int32) T72.heap n0 u72_3) hZ (hw _ (List.mem_of_getElem? (i := 68) rfl)) (hw _ (List.mem_of_getElem? (i := 27) rfl)) (by decide) (by decide)) q76a q76c (g := (mkF m 212 #[.val (.int i0), .val (.int i1), .val (.int i2), .val (.int (f0_v7 i0)), .val (.int (f0_v11 i0)), .val (.int (f0_15_s0 i0)), .val (.int (f0_28_s0 i0)), .val (.int (f0_41_s0 i0)), .val (.int (f0_v60 i0)), .val (.int (3 : Int32)), .val (.int (1 : Int32)), .val (.ref b1), .val (.ref b6)] [(.ref b6)])) rfl (by rw [hml]; rfl) (Steps.refl _) (argsL := []) (rest := []) (lenOf pd_7 rfl) rfl (by show 2 * 0 + _ ≤ _; exact Nat.le_of_eq rfl) (hb hby at_212) (fun _ _ => ⟨rfl, e75, (by decide : 6 + 0 ≤ _), (by decide : 18 + 0 ≤ _)⟩)
    dsimp only [Pt.U, Pt.locs, Pt.cells, Pt.slots] at X76 l76 y76 z76 st76 hQ76
    subst l76 y76 z76
    obtain ⟨rfl, N76q, e76⟩ := hQ76
    have N76 := Fr.app N75 N76q
    obtain ⟨Lh76, X76, N76⟩ := hide X76 N76 (C := 6) (S := 18) (by decide) (by decide)
    refine Outs.to st76 ?_
    refine Outs.of (U' := T76.setTop (mkF m 225 #[.val (.int i0), .val (.int i1), .val (.int i2), .val (.int (f0_v7 i0)), .val (.int (f0_v11 i0)), .val (.int (f0_15_s0 i0)), .val (.int (f0_28_s0 i0)), .val (.int (f0_41_s0 i0)), .val (.int (f0_v60 i0)), .val (.int (3 : Int32)), .val (.int (1 : Int32)), .val (.ref b1), .val (.ref b6)] [(.int (1 : Int32))])) (fun t k => ?_) ?_
    · refine XS.iload X76.here hx rfl (hb hby at_215) rfl ?_
      refine XS.icmpNo X76.here hx rfl (hb hby at_217) rfl (teq (show (1 : Int32) = (1 : Int32) from (by decide))).2 ?_
      refine XS.iconst X76.here hx rfl (hb hby at_220) ?_
      refine XS.goto X76.here hx rfl (pc0 := 221) (pc' := 225) rfl (hb hby at_221) (by decide) (by decide) ?_
      exact k
    exact Outs.retN (t := .boolean) (z := (1 : Int32)) X76 hx hret (by simp) (hb hby at_225) hlk (by decide) (by decide) e76 ⟨⟨rfl, N76⟩, (Nat.le_trans (Nat.le_trans (Nat.le_trans (Nat.le_trans (Nat.le_trans (Nat.le_trans (Nat.le_trans z2 K3.1) E6.1) K7.1) K66.1) K68.1) K70.1) K72.1)⟩
  · rw [q9, q10]
    show Outs p e below _ _ _ _ (T7.setTop (mkF m 102 #[.val (.int i0), .val (.int i1), .val (.int i2), .val (.int (f0_v7 i0)), .val (.int (f0_v11 i0)), .val (.int (f0_15_s0 i0)), .val (.int (f0_28_s0 i0)), .val (.int (f0_41_s0 i0)), .val (.int (f0_v60 i0)), .val (.int (3 : Int32)), .val (.int (2 : Int32)), .val (.ref b1), .val (.ref b6)] []))
    refine Outs.of (U' := T7.setTop (mkF m 113 #[.val (.int i0), .val (.int i1), .val (.int i2), .val (.int (f0_v7 i0)), .val (.int (f0_v11 i0)), .val (.int (f0_15_s0 i0)), .val (.int (f0_28_s0 i0)), .val (.int (f0_41_s0 i0)), .val (.int (f0_v60 i0)), .val (.int (3 : Int32)), .val (.int (2 : Int32)), .val (.ref b1), .val (.ref b6)] [(.ref b1), (.int (f0_v11 i0)), (.ref b6)])) (fun t k => ?_) ?_
    · refine XS.iload X7.here hx rfl (hb hby at_102) rfl ?_
      refine XS.ifNo X7.here hx rfl (hb hby at_104) rfl ((if0 _ _).trans (tlt (show (0 : Int32) < (3 : Int32) from (by decide))).2.2.2) ?_
      refine XS.aload X7.here hx rfl (hb hby at_107) rfl rfl ?_
      refine XS.iload X7.here hx rfl (hb hby at_109) rfl ?_
      refine XS.aload X7.here hx rfl (hb hby at_111) rfl rfl ?_
      exact k
    have ne_b7_b7x1 : b7 ≠ b7x1 := AF.neT u7_4 u7_6 (by decide)
    have f78 : Exa Z T7.heap b1 "com/example/knotwork/knotwork/core/Sym" := (f8.keep K7)
    obtain ⟨cq77, kq77, q77a, q77b, q77c⟩ := isOf hZ rfl u7_0
    obtain ⟨_, _, ⟨T77, L77, k77, n77⟩, -, X77, ⟨Lc77, hQ77, l77, y77, z77⟩, st77⟩ := X7.virtualBack hx (y := (⟨"com/example/knotwork/knotwork/core/Binding", "bind", "(ILcom/example/knotwork/knotwork/core/Item;)V"⟩ : MethodName)) (z := (⟨"com/example/knotwork/knotwork/core/Binding", "bind", "(ILcom/example/knotwork/knotwork/core/Item;)V"⟩ : MethodName)) hown (mvT hZ (hw _ (List.mem_of_getElem? (i := 39) rfl))) (mvT hZ (hw _ (List.mem_of_getElem? (i := 40) rfl))) (notFace_of_selects (args := #[]) (mvT hZ (hw _ (List.mem_of_getElem? (i := 42) rfl)))) (mvT hZ (hw _ (List.mem_of_getElem? (i := 42) rfl))) (mvT hZ (hw _ (List.mem_of_getElem? (i := 41) rfl))) (by decide) (backOf (W := 0) (rmbd l Z a0 hw [] b6 (f0_v11 i0) b1 b7 b7x1 (fun _ => Value.null) (fun _ => (0 : Int32)) (0 : Int32) (own_k (f0_v11 i0)) 0 T7.heap n0 u7_0 g_b6 g_b7 g_b7x1 ne_b6_b7 ne_b6_b7x1 ne_b7_b7x1 u7_1 u7_2 u7_3 u7_4 u7_5 u7_6 f78 (law_s0 i0).1 (law_s0 i0).2 rfl (by decide)) hZ (hw _ (List.mem_of_getElem? (i := 43) rfl)) (hw _ (List.mem_of_getElem? (i := 27) rfl)) (by decide) (by decide)) q77a q77c (g := (mkF m 113 #[.val (.int i0), .val (.int i1), .val (.int i2), .val (.int (f0_v7 i0)), .val (.int (f0_v11 i0)), .val (.int (f0_15_s0 i0)), .val (.int (f0_28_s0 i0)), .val (.int (f0_41_s0 i0)), .val (.int (f0_v60 i0)), .val (.int (3 : Int32)), .val (.int (2 : Int32)), .val (.ref b1), .val (.ref b6)] [(.ref b1), (.int (f0_v11 i0)), (.ref b6)])) rfl (by rw [hml]; rfl) (Steps.refl _) (argsL := [(.int (f0_v11 i0)), (.ref b1)]) (rest := []) (lenOf pd_3 rfl) rfl (by show 2 * 0 + _ ≤ _; exact Nat.le_of_eq rfl) (hb hby at_113) (fun _ _ => ⟨rfl, rfl, (by decide : 6 + 0 ≤ _), (by decide : 18 + 0 ≤ _)⟩)
    dsimp only [Pt.U, Pt.locs, Pt.cells, Pt.slots] at X77 l77 y77 z77 st77 hQ77
    subst l77 y77 z77
    obtain ⟨rfl, N77q, K77, u77_0, u77_1, u77_2, u77_3, u77_4, u77_5, u77_6⟩ := hQ77
    have N77 := Fr.app N7 N77q
    obtain ⟨Lh77, X77, N77⟩ := hide X77 N77 (C := 6) (S := 18) (by decide) (by decide)
    refine Outs.to st77 ?_
    refine Outs.of (U' := T77.setTop (mkF m 128 #[.val (.int i0), .val (.int i1), .val (.int i2), .val (.int (f0_v7 i0)), .val (.int (f0_v11 i0)), .val (.int (f0_15_s0 i0)), .val (.int (f0_28_s0 i0)), .val (.int (f0_41_s0 i0)), .val (.int (f0_v60 i0)), .val (.int (3 : Int32)), .val (.int (2 : Int32)), .val (.ref b1), .val (.ref b6)] [(.ref b1), (.int (f0_41_s0 i0)), (.ref b6)])) (fun t k => ?_) ?_
    · refine XS.iload X77.here hx rfl (hb hby at_116) rfl ?_
      refine XS.iconst X77.here hx rfl (hb hby at_118) ?_
      refine XS.icmpNo X77.here hx rfl (hb hby at_119) rfl (tlt (show (1 : Int32) < (3 : Int32) from (by decide))).2.2.2 ?_
      refine XS.aload X77.here hx rfl (hb hby at_122) rfl rfl ?_
      refine XS.iload X77.here hx rfl (hb hby at_124) rfl ?_
      refine XS.aload X77.here hx rfl (hb hby at_126) rfl rfl ?_
      exact k
    have f80 : Exa Z T77.heap b1 "com/example/knotwork/knotwork/core/Sym" := (f78.keep K77)
    obtain ⟨cq79, kq79, q79a, q79b, q79c⟩ := isOf hZ rfl u77_0
    obtain ⟨_, _, ⟨T79, L79, k79, n79⟩, -, X79, ⟨Lc79, hQ79, l79, y79, z79⟩, st79⟩ := X77.virtualBack hx (y := (⟨"com/example/knotwork/knotwork/core/Binding", "bind", "(ILcom/example/knotwork/knotwork/core/Item;)V"⟩ : MethodName)) (z := (⟨"com/example/knotwork/knotwork/core/Binding", "bind", "(ILcom/example/knotwork/knotwork/core/Item;)V"⟩ : MethodName)) hown (mvT hZ (hw _ (List.mem_of_getElem? (i := 39) rfl))) (mvT hZ (hw _ (List.mem_of_getElem? (i := 40) rfl))) (notFace_of_selects (args := #[]) (mvT hZ (hw _ (List.mem_of_getElem? (i := 42) rfl)))) (mvT hZ (hw _ (List.mem_of_getElem? (i := 42) rfl))) (mvT hZ (hw _ (List.mem_of_getElem? (i := 41) rfl))) (by decide) (backOf (W := 0) (rmbd l Z a0 hw [] b6 (f0_41_s0 i0) b1 b7 b7x1 (upv (fun _ => Value.null) (own_k (f0_v11 i0)) (.ref b1)) (upv (fun _ => (0 : Int32)) 0 (f0_v11 i0)) (1 : Int32) (own_k (f0_41_s0 i0)) 1 T77.heap n0 u77_0 g_b6 g_b7 g_b7x1 ne_b6_b7 ne_b6_b7x1 ne_b7_b7x1 u77_1 u77_2 u77_3 u77_4 u77_5 u77_6 f80 (law_s1 i0).1 (law_s1 i0).2 rfl (by decide)) hZ (hw _ (List.mem_of_getElem? (i := 43) rfl)) (hw _ (List.mem_of_getElem? (i := 27) rfl)) (by decide) (by decide)) q79a q79c (g := (mkF m 128 #[.val (.int i0), .val (.int i1), .val (.int i2), .val (.int (f0_v7 i0)), .val (.int (f0_v11 i0)), .val (.int (f0_15_s0 i0)), .val (.int (f0_28_s0 i0)), .val (.int (f0_41_s0 i0)), .val (.int (f0_v60 i0)), .val (.int (3 : Int32)), .val (.int (2 : Int32)), .val (.ref b1), .val (.ref b6)] [(.ref b1), (.int (f0_41_s0 i0)), (.ref b6)])) rfl (by rw [hml]; rfl) (Steps.refl _) (argsL := [(.int (f0_41_s0 i0)), (.ref b1)]) (rest := []) (lenOf pd_3 rfl) rfl (by show 2 * 0 + _ ≤ _; exact Nat.le_of_eq rfl) (hb hby at_128) (fun _ _ => ⟨rfl, rfl, (by decide : 6 + 0 ≤ _), (by decide : 18 + 0 ≤ _)⟩)
    dsimp only [Pt.U, Pt.locs, Pt.cells, Pt.slots] at X79 l79 y79 z79 st79 hQ79
    subst l79 y79 z79
    obtain ⟨rfl, N79q, K79, u79_0, u79_1, u79_2, u79_3, u79_4, u79_5, u79_6⟩ := hQ79
    have N79 := Fr.app N77 N79q
    obtain ⟨Lh79, X79, N79⟩ := hide X79 N79 (C := 6) (S := 18) (by decide) (by decide)
    refine Outs.to st79 ?_
    refine Outs.of (U' := T79.setTop (mkF m 143 #[.val (.int i0), .val (.int i1), .val (.int i2), .val (.int (f0_v7 i0)), .val (.int (f0_v11 i0)), .val (.int (f0_15_s0 i0)), .val (.int (f0_28_s0 i0)), .val (.int (f0_41_s0 i0)), .val (.int (f0_v60 i0)), .val (.int (3 : Int32)), .val (.int (2 : Int32)), .val (.ref b1), .val (.ref b6)] [(.ref b1), (.int (f0_v60 i0)), (.ref b6)])) (fun t k => ?_) ?_
    · refine XS.iload X79.here hx rfl (hb hby at_131) rfl ?_
      refine XS.iconst X79.here hx rfl (hb hby at_133) ?_
      refine XS.icmpNo X79.here hx rfl (hb hby at_134) rfl (tlt (show (2 : Int32) < (3 : Int32) from (by decide))).2.2.2 ?_
      refine XS.aload X79.here hx rfl (hb hby at_137) rfl rfl ?_
      refine XS.iload X79.here hx rfl (hb hby at_139) rfl ?_
      refine XS.aload X79.here hx rfl (hb hby at_141) rfl rfl ?_
      exact k
    have f82 : Exa Z T79.heap b1 "com/example/knotwork/knotwork/core/Sym" := (f80.keep K79)
    obtain ⟨cq81, kq81, q81a, q81b, q81c⟩ := isOf hZ rfl u79_0
    obtain ⟨_, _, ⟨T81, L81, k81, n81⟩, -, X81, ⟨Lc81, hQ81, l81, y81, z81⟩, st81⟩ := X79.virtualBack hx (y := (⟨"com/example/knotwork/knotwork/core/Binding", "bind", "(ILcom/example/knotwork/knotwork/core/Item;)V"⟩ : MethodName)) (z := (⟨"com/example/knotwork/knotwork/core/Binding", "bind", "(ILcom/example/knotwork/knotwork/core/Item;)V"⟩ : MethodName)) hown (mvT hZ (hw _ (List.mem_of_getElem? (i := 39) rfl))) (mvT hZ (hw _ (List.mem_of_getElem? (i := 40) rfl))) (notFace_of_selects (args := #[]) (mvT hZ (hw _ (List.mem_of_getElem? (i := 42) rfl)))) (mvT hZ (hw _ (List.mem_of_getElem? (i := 42) rfl))) (mvT hZ (hw _ (List.mem_of_getElem? (i := 41) rfl))) (by decide) (backOf (W := 0) (rmbd l Z a0 hw [] b6 (f0_v60 i0) b1 b7 b7x1 (upv (upv (fun _ => Value.null) (own_k (f0_v11 i0)) (.ref b1)) (own_k (f0_41_s0 i0)) (.ref b1)) (upv (upv (fun _ => (0 : Int32)) 0 (f0_v11 i0)) 1 (f0_41_s0 i0)) (2 : Int32) (own_k (f0_v60 i0)) 2 T79.heap n0 u79_0 g_b6 g_b7 g_b7x1 ne_b6_b7 ne_b6_b7x1 ne_b7_b7x1 u79_1 u79_2 u79_3 u79_4 u79_5 u79_6 f82 (law_s2 i0).1 (law_s2 i0).2 rfl (by decide)) hZ (hw _ (List.mem_of_getElem? (i := 43) rfl)) (hw _ (List.mem_of_getElem? (i := 27) rfl)) (by decide) (by decide)) q81a q81c (g := (mkF m 143 #[.val (.int i0), .val (.int i1), .val (.int i2), .val (.int (f0_v7 i0)), .val (.int (f0_v11 i0)), .val (.int (f0_15_s0 i0)), .val (.int (f0_28_s0 i0)), .val (.int (f0_41_s0 i0)), .val (.int (f0_v60 i0)), .val (.int (3 : Int32)), .val (.int (2 : Int32)), .val (.ref b1), .val (.ref b6)] [(.ref b1), (.int (f0_v60 i0)), (.ref b6)])) rfl (by rw [hml]; rfl) (Steps.refl _) (argsL := [(.int (f0_v60 i0)), (.ref b1)]) (rest := []) (lenOf pd_3 rfl) rfl (by show 2 * 0 + _ ≤ _; exact Nat.le_of_eq rfl) (hb hby at_143) (fun _ _ => ⟨rfl, rfl, (by decide : 6 + 0 ≤ _), (by decide : 18 + 0 ≤ _)⟩)
    dsimp only [Pt.U, Pt.locs, Pt.cells, Pt.slots] at X81 l81 y81 z81 st81 hQ81
    subst l81 y81 z81
    obtain ⟨rfl, N81q, K81, u81_0, u81_1, u81_2, u81_3, u81_4, u81_5, u81_6⟩ := hQ81
    have N81 := Fr.app N79 N81q
    obtain ⟨Lh81, X81, N81⟩ := hide X81 N81 (C := 6) (S := 18) (by decide) (by decide)
    refine Outs.to st81 ?_
    refine Outs.of (U' := T81.setTop (mkF m 150 #[.val (.int i0), .val (.int i1), .val (.int i2), .val (.int (f0_v7 i0)), .val (.int (f0_v11 i0)), .val (.int (f0_15_s0 i0)), .val (.int (f0_28_s0 i0)), .val (.int (f0_41_s0 i0)), .val (.int (f0_v60 i0)), .val (.int (3 : Int32)), .val (.int (2 : Int32)), .val (.ref b1), .val (.ref b6)] [(.int (2 : Int32)), (.ref b6)])) (fun t k => ?_) ?_
    · refine XS.aload X81.here hx rfl (hb hby at_146) rfl rfl ?_
      refine XS.iload X81.here hx rfl (hb hby at_148) rfl ?_
      exact k
    obtain ⟨cq83, kq83, q83a, q83b, q83c⟩ := isOf hZ rfl u81_0
    obtain ⟨_, _, ⟨T83, L83, k83, n83⟩, -, X83, ⟨Lc83, hQ83, l83, y83, z83⟩, st83⟩ := X81.virtualBack hx (y := (⟨"com/example/knotwork/knotwork/core/Binding", "undo", "(I)V"⟩ : MethodName)) (z := (⟨"com/example/knotwork/knotwork/core/Binding", "undo", "(I)V"⟩ : MethodName)) hown (mvT hZ (hw _ (List.mem_of_getElem? (i := 47) rfl))) (mvT hZ (hw _ (List.mem_of_getElem? (i := 48) rfl))) (notFace_of_selects (args := #[]) (mvT hZ (hw _ (List.mem_of_getElem? (i := 50) rfl)))) (mvT hZ (hw _ (List.mem_of_getElem? (i := 50) rfl))) (mvT hZ (hw _ (List.mem_of_getElem? (i := 49) rfl))) (by decide) (backOf (W := 0) (rmun32 l Z a0 hw [] b6 b7 b7x1 (upv (upv (upv (fun _ => Value.null) (own_k (f0_v11 i0)) (.ref b1)) (own_k (f0_41_s0 i0)) (.ref b1)) (own_k (f0_v60 i0)) (.ref b1)) (upv (upv (upv (fun _ => (0 : Int32)) 0 (f0_v11 i0)) 1 (f0_41_s0 i0)) 2 (f0_v60 i0)) (own_k (f0_v60 i0)) T81.heap n0 u81_0 g_b6 g_b7 g_b7x1 ne_b6_b7 ne_b6_b7x1 ne_b7_b7x1 u81_1 u81_2 u81_3 u81_4 u81_5 u81_6 (law_s2 i0).1 (law_s2 i0).2) hZ (hw _ (List.mem_of_getElem? (i := 51) rfl)) (hw _ (List.mem_of_getElem? (i := 27) rfl)) (by decide) (by decide)) q83a q83c (g := (mkF m 150 #[.val (.int i0), .val (.int i1), .val (.int i2), .val (.int (f0_v7 i0)), .val (.int (f0_v11 i0)), .val (.int (f0_15_s0 i0)), .val (.int (f0_28_s0 i0)), .val (.int (f0_41_s0 i0)), .val (.int (f0_v60 i0)), .val (.int (3 : Int32)), .val (.int (2 : Int32)), .val (.ref b1), .val (.ref b6)] [(.int (2 : Int32)), (.ref b6)])) rfl (by rw [hml]; rfl) (Steps.refl _) (argsL := [(.int (2 : Int32))]) (rest := []) (lenOf pd_2 rfl) rfl (by show 2 * 0 + _ ≤ _; exact Nat.le_of_eq rfl) (hb hby at_150) (fun _ _ => ⟨rfl, rfl, (by decide : 6 + 0 ≤ _), (by decide : 18 + 0 ≤ _)⟩)
    dsimp only [Pt.U, Pt.locs, Pt.cells, Pt.slots] at X83 l83 y83 z83 st83 hQ83
    subst l83 y83 z83
    obtain ⟨rfl, N83q, K83, u83_0, u83_1, u83_2, u83_3, u83_4, u83_5, u83_6⟩ := hQ83
    have N83 := Fr.app N81 N83q
    obtain ⟨Lh83, X83, N83⟩ := hide X83 N83 (C := 6) (S := 18) (by decide) (by decide)
    refine Outs.to st83 ?_
    refine Outs.of (U' := T83.setTop (mkF m 166 #[.val (.int i0), .val (.int i1), .val (.int i2), .val (.int (f0_v7 i0)), .val (.int (f0_v11 i0)), .val (.int (f0_15_s0 i0)), .val (.int (f0_28_s0 i0)), .val (.int (f0_41_s0 i0)), .val (.int (f0_v60 i0)), .val (.int (3 : Int32)), .val (.int (2 : Int32)), .val (.ref b1), .val (.ref b6)] [(.int (f0_v60 i0)), (.int (f0_41_s0 i0)), (.int (f0_v11 i0)), (.int (2 : Int32)), (.int (0 : Int32)), (.ref b1), (.ref b6)])) (fun t k => ?_) ?_
    · refine XS.aload X83.here hx rfl (hb hby at_153) rfl rfl ?_
      refine XS.aload X83.here hx rfl (hb hby at_155) rfl rfl ?_
      refine XS.iconst X83.here hx rfl (hb hby at_157) ?_
      refine XS.iload X83.here hx rfl (hb hby at_158) rfl ?_
      refine XS.iload X83.here hx rfl (hb hby at_160) rfl ?_
      refine XS.iload X83.here hx rfl (hb hby at_162) rfl ?_
      refine XS.iload X83.here hx rfl (hb hby at_164) rfl ?_
      exact k
    obtain ⟨_, _, ⟨T84, L84, k84, n84⟩, -, X84, ⟨Lc84, hQ84, l84, y84, z84⟩, st84⟩ := Jvm.LawKit.callS X83 hx (y := (⟨"com/example/knotwork/knotwork/core/BindingUndoPinLaw", "slotOk", "(Lcom/example/knotwork/knotwork/core/Binding;Lcom/example/knotwork/knotwork/core/Item;IIIII)Z"⟩ : MethodName)) hown (mvT hZ (hw _ (List.mem_of_getElem? (i := 52) rfl))) (mvT hZ (hw _ (List.mem_of_getElem? (i := 53) rfl))) (mvT hZ (hw _ (List.mem_of_getElem? (i := 54) rfl))) (mvT hZ (hw _ (List.mem_of_getElem? (i := 55) rfl))) (by decide) (backOf (W := 0) (rmso l Z a0 hw [] b6 b1 (0 : Int32) (2 : Int32) (f0_v11 i0) (f0_41_s0 i0) (f0_v60 i0) b7 (upv (upv (upv (upv (fun _ => Value.null) (own_k (f0_v11 i0)) (.ref b1)) (own_k (f0_41_s0 i0)) (.ref b1)) (own_k (f0_v60 i0)) (.ref b1)) (own_k (f0_v60 i0)) .null) 0 T83.heap n0 u83_0 u83_1 u83_4 rfl (by decide) (law_d320 i0 b1)) hZ (hw _ (List.mem_of_getElem? (i := 55) rfl)) (hw _ (List.mem_of_getElem? (i := 54) rfl)) (by decide) (by decide)) (g := (mkF m 166 #[.val (.int i0), .val (.int i1), .val (.int i2), .val (.int (f0_v7 i0)), .val (.int (f0_v11 i0)), .val (.int (f0_15_s0 i0)), .val (.int (f0_28_s0 i0)), .val (.int (f0_41_s0 i0)), .val (.int (f0_v60 i0)), .val (.int (3 : Int32)), .val (.int (2 : Int32)), .val (.ref b1), .val (.ref b6)] [(.int (f0_v60 i0)), (.int (f0_41_s0 i0)), (.int (f0_v11 i0)), (.int (2 : Int32)), (.int (0 : Int32)), (.ref b1), (.ref b6)])) rfl (by rw [hml]; rfl) (argsL := [(.ref b6), (.ref b1), (.int (0 : Int32)), (.int (2 : Int32)), (.int (f0_v11 i0)), (.int (f0_41_s0 i0)), (.int (f0_v60 i0))]) (rest := []) (lenOf pd_4 rfl) rfl (by show 2 * 0 + _ ≤ _; exact Nat.le_of_eq rfl) (hb hby at_166) (fun _ _ => ⟨rfl, rfl, (by decide : 6 + 0 ≤ _), (by decide : 18 + 0 ≤ _)⟩)
    dsimp only [Pt.U, Pt.locs, Pt.cells, Pt.slots] at X84 l84 y84 z84 st84 hQ84
    subst l84 y84 z84
    obtain ⟨rfl, N84q, e84⟩ := hQ84
    have N84 := Fr.app N83 N84q
    obtain ⟨Lh84, X84, N84⟩ := hide X84 N84 (C := 6) (S := 18) (by decide) (by decide)
    refine Outs.of st84 ?_
    refine Outs.of (U' := T84.setTop (mkF m 185 #[.val (.int i0), .val (.int i1), .val (.int i2), .val (.int (f0_v7 i0)), .val (.int (f0_v11 i0)), .val (.int (f0_15_s0 i0)), .val (.int (f0_28_s0 i0)), .val (.int (f0_41_s0 i0)), .val (.int (f0_v60 i0)), .val (.int (3 : Int32)), .val (.int (2 : Int32)), .val (.ref b1), .val (.ref b6)] [(.int (f0_v60 i0)), (.int (f0_41_s0 i0)), (.int (f0_v11 i0)), (.int (2 : Int32)), (.int (1 : Int32)), (.ref b1), (.ref b6)])) (fun t k => ?_) ?_
    · refine XS.ifNo X84.here hx rfl (hb hby at_169) rfl ((if0 _ _).trans (feq (show ¬ ((1 : Int32) = (0 : Int32)) from (by decide))).1) ?_
      refine XS.aload X84.here hx rfl (hb hby at_172) rfl rfl ?_
      refine XS.aload X84.here hx rfl (hb hby at_174) rfl rfl ?_
      refine XS.iconst X84.here hx rfl (hb hby at_176) ?_
      refine XS.iload X84.here hx rfl (hb hby at_177) rfl ?_
      refine XS.iload X84.here hx rfl (hb hby at_179) rfl ?_
      refine XS.iload X84.here hx rfl (hb hby at_181) rfl ?_
      refine XS.iload X84.here hx rfl (hb hby at_183) rfl ?_
      exact k
    obtain ⟨_, _, ⟨T85, L85, k85, n85⟩, -, X85, ⟨Lc85, hQ85, l85, y85, z85⟩, st85⟩ := Jvm.LawKit.callS X84 hx (y := (⟨"com/example/knotwork/knotwork/core/BindingUndoPinLaw", "slotOk", "(Lcom/example/knotwork/knotwork/core/Binding;Lcom/example/knotwork/knotwork/core/Item;IIIII)Z"⟩ : MethodName)) hown (mvT hZ (hw _ (List.mem_of_getElem? (i := 52) rfl))) (mvT hZ (hw _ (List.mem_of_getElem? (i := 53) rfl))) (mvT hZ (hw _ (List.mem_of_getElem? (i := 54) rfl))) (mvT hZ (hw _ (List.mem_of_getElem? (i := 55) rfl))) (by decide) (backOf (W := 0) (rmso l Z a0 hw [] b6 b1 (1 : Int32) (2 : Int32) (f0_v11 i0) (f0_41_s0 i0) (f0_v60 i0) b7 (upv (upv (upv (upv (fun _ => Value.null) (own_k (f0_v11 i0)) (.ref b1)) (own_k (f0_41_s0 i0)) (.ref b1)) (own_k (f0_v60 i0)) (.ref b1)) (own_k (f0_v60 i0)) .null) 1 T83.heap n0 u83_0 u83_1 u83_4 rfl (by decide) (law_d321 i0 b1)) hZ (hw _ (List.mem_of_getElem? (i := 55) rfl)) (hw _ (List.mem_of_getElem? (i := 54) rfl)) (by decide) (by decide)) (g := (mkF m 185 #[.val (.int i0), .val (.int i1), .val (.int i2), .val (.int (f0_v7 i0)), .val (.int (f0_v11 i0)), .val (.int (f0_15_s0 i0)), .val (.int (f0_28_s0 i0)), .val (.int (f0_41_s0 i0)), .val (.int (f0_v60 i0)), .val (.int (3 : Int32)), .val (.int (2 : Int32)), .val (.ref b1), .val (.ref b6)] [(.int (f0_v60 i0)), (.int (f0_41_s0 i0)), (.int (f0_v11 i0)), (.int (2 : Int32)), (.int (1 : Int32)), (.ref b1), (.ref b6)])) rfl (by rw [hml]; rfl) (argsL := [(.ref b6), (.ref b1), (.int (1 : Int32)), (.int (2 : Int32)), (.int (f0_v11 i0)), (.int (f0_41_s0 i0)), (.int (f0_v60 i0))]) (rest := []) (lenOf pd_4 rfl) rfl (by show 2 * 0 + _ ≤ _; exact Nat.le_of_eq rfl) (hb hby at_185) (fun _ _ => ⟨rfl, e84, (by decide : 6 + 0 ≤ _), (by decide : 18 + 0 ≤ _)⟩)
    dsimp only [Pt.U, Pt.locs, Pt.cells, Pt.slots] at X85 l85 y85 z85 st85 hQ85
    subst l85 y85 z85
    obtain ⟨rfl, N85q, e85⟩ := hQ85
    have N85 := Fr.app N84 N85q
    obtain ⟨Lh85, X85, N85⟩ := hide X85 N85 (C := 6) (S := 18) (by decide) (by decide)
    refine Outs.of st85 ?_
    refine Outs.of (U' := T85.setTop (mkF m 204 #[.val (.int i0), .val (.int i1), .val (.int i2), .val (.int (f0_v7 i0)), .val (.int (f0_v11 i0)), .val (.int (f0_15_s0 i0)), .val (.int (f0_28_s0 i0)), .val (.int (f0_41_s0 i0)), .val (.int (f0_v60 i0)), .val (.int (3 : Int32)), .val (.int (2 : Int32)), .val (.ref b1), .val (.ref b6)] [(.int (f0_v60 i0)), (.int (f0_41_s0 i0)), (.int (f0_v11 i0)), (.int (2 : Int32)), (.int (2 : Int32)), (.ref b1), (.ref b6)])) (fun t k => ?_) ?_
    · refine XS.ifNo X85.here hx rfl (hb hby at_188) rfl ((if0 _ _).trans (feq (show ¬ ((1 : Int32) = (0 : Int32)) from (by decide))).1) ?_
      refine XS.aload X85.here hx rfl (hb hby at_191) rfl rfl ?_
      refine XS.aload X85.here hx rfl (hb hby at_193) rfl rfl ?_
      refine XS.iconst X85.here hx rfl (hb hby at_195) ?_
      refine XS.iload X85.here hx rfl (hb hby at_196) rfl ?_
      refine XS.iload X85.here hx rfl (hb hby at_198) rfl ?_
      refine XS.iload X85.here hx rfl (hb hby at_200) rfl ?_
      refine XS.iload X85.here hx rfl (hb hby at_202) rfl ?_
      exact k
    obtain ⟨_, _, ⟨T86, L86, k86, n86⟩, -, X86, ⟨Lc86, hQ86, l86, y86, z86⟩, st86⟩ := Jvm.LawKit.callS X85 hx (y := (⟨"com/example/knotwork/knotwork/core/BindingUndoPinLaw", "slotOk", "(Lcom/example/knotwork/knotwork/core/Binding;Lcom/example/knotwork/knotwork/core/Item;IIIII)Z"⟩ : MethodName)) hown (mvT hZ (hw _ (List.mem_of_getElem? (i := 52) rfl))) (mvT hZ (hw _ (List.mem_of_getElem? (i := 53) rfl))) (mvT hZ (hw _ (List.mem_of_getElem? (i := 54) rfl))) (mvT hZ (hw _ (List.mem_of_getElem? (i := 55) rfl))) (by decide) (backOf (W := 0) (rmso l Z a0 hw [] b6 b1 (2 : Int32) (2 : Int32) (f0_v11 i0) (f0_41_s0 i0) (f0_v60 i0) b7 (upv (upv (upv (upv (fun _ => Value.null) (own_k (f0_v11 i0)) (.ref b1)) (own_k (f0_41_s0 i0)) (.ref b1)) (own_k (f0_v60 i0)) (.ref b1)) (own_k (f0_v60 i0)) .null) 2 T83.heap n0 u83_0 u83_1 u83_4 rfl (by decide) (law_d322 i0 b1)) hZ (hw _ (List.mem_of_getElem? (i := 55) rfl)) (hw _ (List.mem_of_getElem? (i := 54) rfl)) (by decide) (by decide)) (g := (mkF m 204 #[.val (.int i0), .val (.int i1), .val (.int i2), .val (.int (f0_v7 i0)), .val (.int (f0_v11 i0)), .val (.int (f0_15_s0 i0)), .val (.int (f0_28_s0 i0)), .val (.int (f0_41_s0 i0)), .val (.int (f0_v60 i0)), .val (.int (3 : Int32)), .val (.int (2 : Int32)), .val (.ref b1), .val (.ref b6)] [(.int (f0_v60 i0)), (.int (f0_41_s0 i0)), (.int (f0_v11 i0)), (.int (2 : Int32)), (.int (2 : Int32)), (.ref b1), (.ref b6)])) rfl (by rw [hml]; rfl) (argsL := [(.ref b6), (.ref b1), (.int (2 : Int32)), (.int (2 : Int32)), (.int (f0_v11 i0)), (.int (f0_41_s0 i0)), (.int (f0_v60 i0))]) (rest := []) (lenOf pd_4 rfl) rfl (by show 2 * 0 + _ ≤ _; exact Nat.le_of_eq rfl) (hb hby at_204) (fun _ _ => ⟨rfl, e85, (by decide : 6 + 0 ≤ _), (by decide : 18 + 0 ≤ _)⟩)
    dsimp only [Pt.U, Pt.locs, Pt.cells, Pt.slots] at X86 l86 y86 z86 st86 hQ86
    subst l86 y86 z86
    obtain ⟨rfl, N86q, e86⟩ := hQ86
    have N86 := Fr.app N85 N86q
    obtain ⟨Lh86, X86, N86⟩ := hide X86 N86 (C := 6) (S := 18) (by decide) (by decide)
    refine Outs.of st86 ?_
    refine Outs.of (U' := T86.setTop (mkF m 212 #[.val (.int i0), .val (.int i1), .val (.int i2), .val (.int (f0_v7 i0)), .val (.int (f0_v11 i0)), .val (.int (f0_15_s0 i0)), .val (.int (f0_28_s0 i0)), .val (.int (f0_41_s0 i0)), .val (.int (f0_v60 i0)), .val (.int (3 : Int32)), .val (.int (2 : Int32)), .val (.ref b1), .val (.ref b6)] [(.ref b6)])) (fun t k => ?_) ?_
    · refine XS.ifNo X86.here hx rfl (hb hby at_207) rfl ((if0 _ _).trans (feq (show ¬ ((1 : Int32) = (0 : Int32)) from (by decide))).1) ?_
      refine XS.aload X86.here hx rfl (hb hby at_210) rfl rfl ?_
      exact k
    obtain ⟨cq87, kq87, q87a, q87b, q87c⟩ := isOf hZ e86 u83_0
    obtain ⟨_, _, ⟨T87, L87, k87, n87⟩, -, X87, ⟨Lc87, hQ87, l87, y87, z87⟩, st87⟩ := X86.virtualBack hx (y := (⟨"com/example/knotwork/knotwork/core/Binding", "mark", "()I"⟩ : MethodName)) (z := (⟨"com/example/knotwork/knotwork/core/Binding", "mark", "()I"⟩ : MethodName)) hown (mvT hZ (hw _ (List.mem_of_getElem? (i := 64) rfl))) (mvT hZ (hw _ (List.mem_of_getElem? (i := 65) rfl))) (notFace_of_selects (args := #[]) (mvT hZ (hw _ (List.mem_of_getElem? (i := 67) rfl)))) (mvT hZ (hw _ (List.mem_of_getElem? (i := 67) rfl))) (mvT hZ (hw _ (List.mem_of_getElem? (i := 66) rfl))) (by decide) (backOf (W := 0) (rm10 l Z a0 hw [] b6 (2 : Int32) T83.heap n0 u83_3) hZ (hw _ (List.mem_of_getElem? (i := 68) rfl)) (hw _ (List.mem_of_getElem? (i := 27) rfl)) (by decide) (by decide)) q87a q87c (g := (mkF m 212 #[.val (.int i0), .val (.int i1), .val (.int i2), .val (.int (f0_v7 i0)), .val (.int (f0_v11 i0)), .val (.int (f0_15_s0 i0)), .val (.int (f0_28_s0 i0)), .val (.int (f0_41_s0 i0)), .val (.int (f0_v60 i0)), .val (.int (3 : Int32)), .val (.int (2 : Int32)), .val (.ref b1), .val (.ref b6)] [(.ref b6)])) rfl (by rw [hml]; rfl) (Steps.refl _) (argsL := []) (rest := []) (lenOf pd_7 rfl) rfl (by show 2 * 0 + _ ≤ _; exact Nat.le_of_eq rfl) (hb hby at_212) (fun _ _ => ⟨rfl, e86, (by decide : 6 + 0 ≤ _), (by decide : 18 + 0 ≤ _)⟩)
    dsimp only [Pt.U, Pt.locs, Pt.cells, Pt.slots] at X87 l87 y87 z87 st87 hQ87
    subst l87 y87 z87
    obtain ⟨rfl, N87q, e87⟩ := hQ87
    have N87 := Fr.app N86 N87q
    obtain ⟨Lh87, X87, N87⟩ := hide X87 N87 (C := 6) (S := 18) (by decide) (by decide)
    refine Outs.to st87 ?_
    refine Outs.of (U' := T87.setTop (mkF m 225 #[.val (.int i0), .val (.int i1), .val (.int i2), .val (.int (f0_v7 i0)), .val (.int (f0_v11 i0)), .val (.int (f0_15_s0 i0)), .val (.int (f0_28_s0 i0)), .val (.int (f0_41_s0 i0)), .val (.int (f0_v60 i0)), .val (.int (3 : Int32)), .val (.int (2 : Int32)), .val (.ref b1), .val (.ref b6)] [(.int (1 : Int32))])) (fun t k => ?_) ?_
    · refine XS.iload X87.here hx rfl (hb hby at_215) rfl ?_
      refine XS.icmpNo X87.here hx rfl (hb hby at_217) rfl (teq (show (2 : Int32) = (2 : Int32) from (by decide))).2 ?_
      refine XS.iconst X87.here hx rfl (hb hby at_220) ?_
      refine XS.goto X87.here hx rfl (pc0 := 221) (pc' := 225) rfl (hb hby at_221) (by decide) (by decide) ?_
      exact k
    exact Outs.retN (t := .boolean) (z := (1 : Int32)) X87 hx hret (by simp) (hb hby at_225) hlk (by decide) (by decide) e87 ⟨⟨rfl, N87⟩, (Nat.le_trans (Nat.le_trans (Nat.le_trans (Nat.le_trans (Nat.le_trans (Nat.le_trans (Nat.le_trans z2 K3.1) E6.1) K7.1) K77.1) K79.1) K81.1) K83.1)⟩
  · rw [q9, q10]
    show Outs p e below _ _ _ _ (T7.setTop (mkF m 102 #[.val (.int i0), .val (.int i1), .val (.int i2), .val (.int (f0_v7 i0)), .val (.int (f0_v11 i0)), .val (.int (f0_15_s0 i0)), .val (.int (f0_28_s0 i0)), .val (.int (f0_41_s0 i0)), .val (.int (f0_v60 i0)), .val (.int (3 : Int32)), .val (.int (3 : Int32)), .val (.ref b1), .val (.ref b6)] []))
    refine Outs.of (U' := T7.setTop (mkF m 113 #[.val (.int i0), .val (.int i1), .val (.int i2), .val (.int (f0_v7 i0)), .val (.int (f0_v11 i0)), .val (.int (f0_15_s0 i0)), .val (.int (f0_28_s0 i0)), .val (.int (f0_41_s0 i0)), .val (.int (f0_v60 i0)), .val (.int (3 : Int32)), .val (.int (3 : Int32)), .val (.ref b1), .val (.ref b6)] [(.ref b1), (.int (f0_v11 i0)), (.ref b6)])) (fun t k => ?_) ?_
    · refine XS.iload X7.here hx rfl (hb hby at_102) rfl ?_
      refine XS.ifNo X7.here hx rfl (hb hby at_104) rfl ((if0 _ _).trans (tlt (show (0 : Int32) < (3 : Int32) from (by decide))).2.2.2) ?_
      refine XS.aload X7.here hx rfl (hb hby at_107) rfl rfl ?_
      refine XS.iload X7.here hx rfl (hb hby at_109) rfl ?_
      refine XS.aload X7.here hx rfl (hb hby at_111) rfl rfl ?_
      exact k
    have ne_b7_b7x1 : b7 ≠ b7x1 := AF.neT u7_4 u7_6 (by decide)
    have f89 : Exa Z T7.heap b1 "com/example/knotwork/knotwork/core/Sym" := (f8.keep K7)
    obtain ⟨cq88, kq88, q88a, q88b, q88c⟩ := isOf hZ rfl u7_0
    obtain ⟨_, _, ⟨T88, L88, k88, n88⟩, -, X88, ⟨Lc88, hQ88, l88, y88, z88⟩, st88⟩ := X7.virtualBack hx (y := (⟨"com/example/knotwork/knotwork/core/Binding", "bind", "(ILcom/example/knotwork/knotwork/core/Item;)V"⟩ : MethodName)) (z := (⟨"com/example/knotwork/knotwork/core/Binding", "bind", "(ILcom/example/knotwork/knotwork/core/Item;)V"⟩ : MethodName)) hown (mvT hZ (hw _ (List.mem_of_getElem? (i := 39) rfl))) (mvT hZ (hw _ (List.mem_of_getElem? (i := 40) rfl))) (notFace_of_selects (args := #[]) (mvT hZ (hw _ (List.mem_of_getElem? (i := 42) rfl)))) (mvT hZ (hw _ (List.mem_of_getElem? (i := 42) rfl))) (mvT hZ (hw _ (List.mem_of_getElem? (i := 41) rfl))) (by decide) (backOf (W := 0) (rmbd l Z a0 hw [] b6 (f0_v11 i0) b1 b7 b7x1 (fun _ => Value.null) (fun _ => (0 : Int32)) (0 : Int32) (own_k (f0_v11 i0)) 0 T7.heap n0 u7_0 g_b6 g_b7 g_b7x1 ne_b6_b7 ne_b6_b7x1 ne_b7_b7x1 u7_1 u7_2 u7_3 u7_4 u7_5 u7_6 f89 (law_s0 i0).1 (law_s0 i0).2 rfl (by decide)) hZ (hw _ (List.mem_of_getElem? (i := 43) rfl)) (hw _ (List.mem_of_getElem? (i := 27) rfl)) (by decide) (by decide)) q88a q88c (g := (mkF m 113 #[.val (.int i0), .val (.int i1), .val (.int i2), .val (.int (f0_v7 i0)), .val (.int (f0_v11 i0)), .val (.int (f0_15_s0 i0)), .val (.int (f0_28_s0 i0)), .val (.int (f0_41_s0 i0)), .val (.int (f0_v60 i0)), .val (.int (3 : Int32)), .val (.int (3 : Int32)), .val (.ref b1), .val (.ref b6)] [(.ref b1), (.int (f0_v11 i0)), (.ref b6)])) rfl (by rw [hml]; rfl) (Steps.refl _) (argsL := [(.int (f0_v11 i0)), (.ref b1)]) (rest := []) (lenOf pd_3 rfl) rfl (by show 2 * 0 + _ ≤ _; exact Nat.le_of_eq rfl) (hb hby at_113) (fun _ _ => ⟨rfl, rfl, (by decide : 6 + 0 ≤ _), (by decide : 18 + 0 ≤ _)⟩)
    dsimp only [Pt.U, Pt.locs, Pt.cells, Pt.slots] at X88 l88 y88 z88 st88 hQ88
    subst l88 y88 z88
    obtain ⟨rfl, N88q, K88, u88_0, u88_1, u88_2, u88_3, u88_4, u88_5, u88_6⟩ := hQ88
    have N88 := Fr.app N7 N88q
    obtain ⟨Lh88, X88, N88⟩ := hide X88 N88 (C := 6) (S := 18) (by decide) (by decide)
    refine Outs.to st88 ?_
    refine Outs.of (U' := T88.setTop (mkF m 128 #[.val (.int i0), .val (.int i1), .val (.int i2), .val (.int (f0_v7 i0)), .val (.int (f0_v11 i0)), .val (.int (f0_15_s0 i0)), .val (.int (f0_28_s0 i0)), .val (.int (f0_41_s0 i0)), .val (.int (f0_v60 i0)), .val (.int (3 : Int32)), .val (.int (3 : Int32)), .val (.ref b1), .val (.ref b6)] [(.ref b1), (.int (f0_41_s0 i0)), (.ref b6)])) (fun t k => ?_) ?_
    · refine XS.iload X88.here hx rfl (hb hby at_116) rfl ?_
      refine XS.iconst X88.here hx rfl (hb hby at_118) ?_
      refine XS.icmpNo X88.here hx rfl (hb hby at_119) rfl (tlt (show (1 : Int32) < (3 : Int32) from (by decide))).2.2.2 ?_
      refine XS.aload X88.here hx rfl (hb hby at_122) rfl rfl ?_
      refine XS.iload X88.here hx rfl (hb hby at_124) rfl ?_
      refine XS.aload X88.here hx rfl (hb hby at_126) rfl rfl ?_
      exact k
    have f91 : Exa Z T88.heap b1 "com/example/knotwork/knotwork/core/Sym" := (f89.keep K88)
    obtain ⟨cq90, kq90, q90a, q90b, q90c⟩ := isOf hZ rfl u88_0
    obtain ⟨_, _, ⟨T90, L90, k90, n90⟩, -, X90, ⟨Lc90, hQ90, l90, y90, z90⟩, st90⟩ := X88.virtualBack hx (y := (⟨"com/example/knotwork/knotwork/core/Binding", "bind", "(ILcom/example/knotwork/knotwork/core/Item;)V"⟩ : MethodName)) (z := (⟨"com/example/knotwork/knotwork/core/Binding", "bind", "(ILcom/example/knotwork/knotwork/core/Item;)V"⟩ : MethodName)) hown (mvT hZ (hw _ (List.mem_of_getElem? (i := 39) rfl))) (mvT hZ (hw _ (List.mem_of_getElem? (i := 40) rfl))) (notFace_of_selects (args := #[]) (mvT hZ (hw _ (List.mem_of_getElem? (i := 42) rfl)))) (mvT hZ (hw _ (List.mem_of_getElem? (i := 42) rfl))) (mvT hZ (hw _ (List.mem_of_getElem? (i := 41) rfl))) (by decide) (backOf (W := 0) (rmbd l Z a0 hw [] b6 (f0_41_s0 i0) b1 b7 b7x1 (upv (fun _ => Value.null) (own_k (f0_v11 i0)) (.ref b1)) (upv (fun _ => (0 : Int32)) 0 (f0_v11 i0)) (1 : Int32) (own_k (f0_41_s0 i0)) 1 T88.heap n0 u88_0 g_b6 g_b7 g_b7x1 ne_b6_b7 ne_b6_b7x1 ne_b7_b7x1 u88_1 u88_2 u88_3 u88_4 u88_5 u88_6 f91 (law_s1 i0).1 (law_s1 i0).2 rfl (by decide)) hZ (hw _ (List.mem_of_getElem? (i := 43) rfl)) (hw _ (List.mem_of_getElem? (i := 27) rfl)) (by decide) (by decide)) q90a q90c (g := (mkF m 128 #[.val (.int i0), .val (.int i1), .val (.int i2), .val (.int (f0_v7 i0)), .val (.int (f0_v11 i0)), .val (.int (f0_15_s0 i0)), .val (.int (f0_28_s0 i0)), .val (.int (f0_41_s0 i0)), .val (.int (f0_v60 i0)), .val (.int (3 : Int32)), .val (.int (3 : Int32)), .val (.ref b1), .val (.ref b6)] [(.ref b1), (.int (f0_41_s0 i0)), (.ref b6)])) rfl (by rw [hml]; rfl) (Steps.refl _) (argsL := [(.int (f0_41_s0 i0)), (.ref b1)]) (rest := []) (lenOf pd_3 rfl) rfl (by show 2 * 0 + _ ≤ _; exact Nat.le_of_eq rfl) (hb hby at_128) (fun _ _ => ⟨rfl, rfl, (by decide : 6 + 0 ≤ _), (by decide : 18 + 0 ≤ _)⟩)
    dsimp only [Pt.U, Pt.locs, Pt.cells, Pt.slots] at X90 l90 y90 z90 st90 hQ90
    subst l90 y90 z90
    obtain ⟨rfl, N90q, K90, u90_0, u90_1, u90_2, u90_3, u90_4, u90_5, u90_6⟩ := hQ90
    have N90 := Fr.app N88 N90q
    obtain ⟨Lh90, X90, N90⟩ := hide X90 N90 (C := 6) (S := 18) (by decide) (by decide)
    refine Outs.to st90 ?_
    refine Outs.of (U' := T90.setTop (mkF m 143 #[.val (.int i0), .val (.int i1), .val (.int i2), .val (.int (f0_v7 i0)), .val (.int (f0_v11 i0)), .val (.int (f0_15_s0 i0)), .val (.int (f0_28_s0 i0)), .val (.int (f0_41_s0 i0)), .val (.int (f0_v60 i0)), .val (.int (3 : Int32)), .val (.int (3 : Int32)), .val (.ref b1), .val (.ref b6)] [(.ref b1), (.int (f0_v60 i0)), (.ref b6)])) (fun t k => ?_) ?_
    · refine XS.iload X90.here hx rfl (hb hby at_131) rfl ?_
      refine XS.iconst X90.here hx rfl (hb hby at_133) ?_
      refine XS.icmpNo X90.here hx rfl (hb hby at_134) rfl (tlt (show (2 : Int32) < (3 : Int32) from (by decide))).2.2.2 ?_
      refine XS.aload X90.here hx rfl (hb hby at_137) rfl rfl ?_
      refine XS.iload X90.here hx rfl (hb hby at_139) rfl ?_
      refine XS.aload X90.here hx rfl (hb hby at_141) rfl rfl ?_
      exact k
    have f93 : Exa Z T90.heap b1 "com/example/knotwork/knotwork/core/Sym" := (f91.keep K90)
    obtain ⟨cq92, kq92, q92a, q92b, q92c⟩ := isOf hZ rfl u90_0
    obtain ⟨_, _, ⟨T92, L92, k92, n92⟩, -, X92, ⟨Lc92, hQ92, l92, y92, z92⟩, st92⟩ := X90.virtualBack hx (y := (⟨"com/example/knotwork/knotwork/core/Binding", "bind", "(ILcom/example/knotwork/knotwork/core/Item;)V"⟩ : MethodName)) (z := (⟨"com/example/knotwork/knotwork/core/Binding", "bind", "(ILcom/example/knotwork/knotwork/core/Item;)V"⟩ : MethodName)) hown (mvT hZ (hw _ (List.mem_of_getElem? (i := 39) rfl))) (mvT hZ (hw _ (List.mem_of_getElem? (i := 40) rfl))) (notFace_of_selects (args := #[]) (mvT hZ (hw _ (List.mem_of_getElem? (i := 42) rfl)))) (mvT hZ (hw _ (List.mem_of_getElem? (i := 42) rfl))) (mvT hZ (hw _ (List.mem_of_getElem? (i := 41) rfl))) (by decide) (backOf (W := 0) (rmbd l Z a0 hw [] b6 (f0_v60 i0) b1 b7 b7x1 (upv (upv (fun _ => Value.null) (own_k (f0_v11 i0)) (.ref b1)) (own_k (f0_41_s0 i0)) (.ref b1)) (upv (upv (fun _ => (0 : Int32)) 0 (f0_v11 i0)) 1 (f0_41_s0 i0)) (2 : Int32) (own_k (f0_v60 i0)) 2 T90.heap n0 u90_0 g_b6 g_b7 g_b7x1 ne_b6_b7 ne_b6_b7x1 ne_b7_b7x1 u90_1 u90_2 u90_3 u90_4 u90_5 u90_6 f93 (law_s2 i0).1 (law_s2 i0).2 rfl (by decide)) hZ (hw _ (List.mem_of_getElem? (i := 43) rfl)) (hw _ (List.mem_of_getElem? (i := 27) rfl)) (by decide) (by decide)) q92a q92c (g := (mkF m 143 #[.val (.int i0), .val (.int i1), .val (.int i2), .val (.int (f0_v7 i0)), .val (.int (f0_v11 i0)), .val (.int (f0_15_s0 i0)), .val (.int (f0_28_s0 i0)), .val (.int (f0_41_s0 i0)), .val (.int (f0_v60 i0)), .val (.int (3 : Int32)), .val (.int (3 : Int32)), .val (.ref b1), .val (.ref b6)] [(.ref b1), (.int (f0_v60 i0)), (.ref b6)])) rfl (by rw [hml]; rfl) (Steps.refl _) (argsL := [(.int (f0_v60 i0)), (.ref b1)]) (rest := []) (lenOf pd_3 rfl) rfl (by show 2 * 0 + _ ≤ _; exact Nat.le_of_eq rfl) (hb hby at_143) (fun _ _ => ⟨rfl, rfl, (by decide : 6 + 0 ≤ _), (by decide : 18 + 0 ≤ _)⟩)
    dsimp only [Pt.U, Pt.locs, Pt.cells, Pt.slots] at X92 l92 y92 z92 st92 hQ92
    subst l92 y92 z92
    obtain ⟨rfl, N92q, K92, u92_0, u92_1, u92_2, u92_3, u92_4, u92_5, u92_6⟩ := hQ92
    have N92 := Fr.app N90 N92q
    obtain ⟨Lh92, X92, N92⟩ := hide X92 N92 (C := 6) (S := 18) (by decide) (by decide)
    refine Outs.to st92 ?_
    refine Outs.of (U' := T92.setTop (mkF m 150 #[.val (.int i0), .val (.int i1), .val (.int i2), .val (.int (f0_v7 i0)), .val (.int (f0_v11 i0)), .val (.int (f0_15_s0 i0)), .val (.int (f0_28_s0 i0)), .val (.int (f0_41_s0 i0)), .val (.int (f0_v60 i0)), .val (.int (3 : Int32)), .val (.int (3 : Int32)), .val (.ref b1), .val (.ref b6)] [(.int (3 : Int32)), (.ref b6)])) (fun t k => ?_) ?_
    · refine XS.aload X92.here hx rfl (hb hby at_146) rfl rfl ?_
      refine XS.iload X92.here hx rfl (hb hby at_148) rfl ?_
      exact k
    obtain ⟨cq94, kq94, q94a, q94b, q94c⟩ := isOf hZ rfl u92_0
    obtain ⟨_, _, ⟨T94, L94, k94, n94⟩, -, X94, ⟨Lc94, hQ94, l94, y94, z94⟩, st94⟩ := X92.virtualBack hx (y := (⟨"com/example/knotwork/knotwork/core/Binding", "undo", "(I)V"⟩ : MethodName)) (z := (⟨"com/example/knotwork/knotwork/core/Binding", "undo", "(I)V"⟩ : MethodName)) hown (mvT hZ (hw _ (List.mem_of_getElem? (i := 47) rfl))) (mvT hZ (hw _ (List.mem_of_getElem? (i := 48) rfl))) (notFace_of_selects (args := #[]) (mvT hZ (hw _ (List.mem_of_getElem? (i := 50) rfl)))) (mvT hZ (hw _ (List.mem_of_getElem? (i := 50) rfl))) (mvT hZ (hw _ (List.mem_of_getElem? (i := 49) rfl))) (by decide) (backOf (W := 0) (rmun33 l Z a0 hw [] b6 b7 b7x1 (upv (upv (upv (fun _ => Value.null) (own_k (f0_v11 i0)) (.ref b1)) (own_k (f0_41_s0 i0)) (.ref b1)) (own_k (f0_v60 i0)) (.ref b1)) (upv (upv (upv (fun _ => (0 : Int32)) 0 (f0_v11 i0)) 1 (f0_41_s0 i0)) 2 (f0_v60 i0)) T92.heap n0 u92_0 g_b6 g_b7 g_b7x1 ne_b6_b7 ne_b6_b7x1 ne_b7_b7x1 u92_1 u92_2 u92_3 u92_4 u92_5 u92_6) hZ (hw _ (List.mem_of_getElem? (i := 51) rfl)) (hw _ (List.mem_of_getElem? (i := 27) rfl)) (by decide) (by decide)) q94a q94c (g := (mkF m 150 #[.val (.int i0), .val (.int i1), .val (.int i2), .val (.int (f0_v7 i0)), .val (.int (f0_v11 i0)), .val (.int (f0_15_s0 i0)), .val (.int (f0_28_s0 i0)), .val (.int (f0_41_s0 i0)), .val (.int (f0_v60 i0)), .val (.int (3 : Int32)), .val (.int (3 : Int32)), .val (.ref b1), .val (.ref b6)] [(.int (3 : Int32)), (.ref b6)])) rfl (by rw [hml]; rfl) (Steps.refl _) (argsL := [(.int (3 : Int32))]) (rest := []) (lenOf pd_2 rfl) rfl (by show 2 * 0 + _ ≤ _; exact Nat.le_of_eq rfl) (hb hby at_150) (fun _ _ => ⟨rfl, rfl, (by decide : 6 + 0 ≤ _), (by decide : 18 + 0 ≤ _)⟩)
    dsimp only [Pt.U, Pt.locs, Pt.cells, Pt.slots] at X94 l94 y94 z94 st94 hQ94
    subst l94 y94 z94
    obtain ⟨rfl, N94q, K94, u94_0, u94_1, u94_2, u94_3, u94_4, u94_5, u94_6⟩ := hQ94
    have N94 := Fr.app N92 N94q
    obtain ⟨Lh94, X94, N94⟩ := hide X94 N94 (C := 6) (S := 18) (by decide) (by decide)
    refine Outs.to st94 ?_
    refine Outs.of (U' := T94.setTop (mkF m 166 #[.val (.int i0), .val (.int i1), .val (.int i2), .val (.int (f0_v7 i0)), .val (.int (f0_v11 i0)), .val (.int (f0_15_s0 i0)), .val (.int (f0_28_s0 i0)), .val (.int (f0_41_s0 i0)), .val (.int (f0_v60 i0)), .val (.int (3 : Int32)), .val (.int (3 : Int32)), .val (.ref b1), .val (.ref b6)] [(.int (f0_v60 i0)), (.int (f0_41_s0 i0)), (.int (f0_v11 i0)), (.int (3 : Int32)), (.int (0 : Int32)), (.ref b1), (.ref b6)])) (fun t k => ?_) ?_
    · refine XS.aload X94.here hx rfl (hb hby at_153) rfl rfl ?_
      refine XS.aload X94.here hx rfl (hb hby at_155) rfl rfl ?_
      refine XS.iconst X94.here hx rfl (hb hby at_157) ?_
      refine XS.iload X94.here hx rfl (hb hby at_158) rfl ?_
      refine XS.iload X94.here hx rfl (hb hby at_160) rfl ?_
      refine XS.iload X94.here hx rfl (hb hby at_162) rfl ?_
      refine XS.iload X94.here hx rfl (hb hby at_164) rfl ?_
      exact k
    obtain ⟨_, _, ⟨T95, L95, k95, n95⟩, -, X95, ⟨Lc95, hQ95, l95, y95, z95⟩, st95⟩ := Jvm.LawKit.callS X94 hx (y := (⟨"com/example/knotwork/knotwork/core/BindingUndoPinLaw", "slotOk", "(Lcom/example/knotwork/knotwork/core/Binding;Lcom/example/knotwork/knotwork/core/Item;IIIII)Z"⟩ : MethodName)) hown (mvT hZ (hw _ (List.mem_of_getElem? (i := 52) rfl))) (mvT hZ (hw _ (List.mem_of_getElem? (i := 53) rfl))) (mvT hZ (hw _ (List.mem_of_getElem? (i := 54) rfl))) (mvT hZ (hw _ (List.mem_of_getElem? (i := 55) rfl))) (by decide) (backOf (W := 0) (rmso l Z a0 hw [] b6 b1 (0 : Int32) (3 : Int32) (f0_v11 i0) (f0_41_s0 i0) (f0_v60 i0) b7 (upv (upv (upv (fun _ => Value.null) (own_k (f0_v11 i0)) (.ref b1)) (own_k (f0_41_s0 i0)) (.ref b1)) (own_k (f0_v60 i0)) (.ref b1)) 0 T94.heap n0 u94_0 u94_1 u94_4 rfl (by decide) (law_d330 i0 b1)) hZ (hw _ (List.mem_of_getElem? (i := 55) rfl)) (hw _ (List.mem_of_getElem? (i := 54) rfl)) (by decide) (by decide)) (g := (mkF m 166 #[.val (.int i0), .val (.int i1), .val (.int i2), .val (.int (f0_v7 i0)), .val (.int (f0_v11 i0)), .val (.int (f0_15_s0 i0)), .val (.int (f0_28_s0 i0)), .val (.int (f0_41_s0 i0)), .val (.int (f0_v60 i0)), .val (.int (3 : Int32)), .val (.int (3 : Int32)), .val (.ref b1), .val (.ref b6)] [(.int (f0_v60 i0)), (.int (f0_41_s0 i0)), (.int (f0_v11 i0)), (.int (3 : Int32)), (.int (0 : Int32)), (.ref b1), (.ref b6)])) rfl (by rw [hml]; rfl) (argsL := [(.ref b6), (.ref b1), (.int (0 : Int32)), (.int (3 : Int32)), (.int (f0_v11 i0)), (.int (f0_41_s0 i0)), (.int (f0_v60 i0))]) (rest := []) (lenOf pd_4 rfl) rfl (by show 2 * 0 + _ ≤ _; exact Nat.le_of_eq rfl) (hb hby at_166) (fun _ _ => ⟨rfl, rfl, (by decide : 6 + 0 ≤ _), (by decide : 18 + 0 ≤ _)⟩)
    dsimp only [Pt.U, Pt.locs, Pt.cells, Pt.slots] at X95 l95 y95 z95 st95 hQ95
    subst l95 y95 z95
    obtain ⟨rfl, N95q, e95⟩ := hQ95
    have N95 := Fr.app N94 N95q
    obtain ⟨Lh95, X95, N95⟩ := hide X95 N95 (C := 6) (S := 18) (by decide) (by decide)
    refine Outs.of st95 ?_
    refine Outs.of (U' := T95.setTop (mkF m 185 #[.val (.int i0), .val (.int i1), .val (.int i2), .val (.int (f0_v7 i0)), .val (.int (f0_v11 i0)), .val (.int (f0_15_s0 i0)), .val (.int (f0_28_s0 i0)), .val (.int (f0_41_s0 i0)), .val (.int (f0_v60 i0)), .val (.int (3 : Int32)), .val (.int (3 : Int32)), .val (.ref b1), .val (.ref b6)] [(.int (f0_v60 i0)), (.int (f0_41_s0 i0)), (.int (f0_v11 i0)), (.int (3 : Int32)), (.int (1 : Int32)), (.ref b1), (.ref b6)])) (fun t k => ?_) ?_
    · refine XS.ifNo X95.here hx rfl (hb hby at_169) rfl ((if0 _ _).trans (feq (show ¬ ((1 : Int32) = (0 : Int32)) from (by decide))).1) ?_
      refine XS.aload X95.here hx rfl (hb hby at_172) rfl rfl ?_
      refine XS.aload X95.here hx rfl (hb hby at_174) rfl rfl ?_
      refine XS.iconst X95.here hx rfl (hb hby at_176) ?_
      refine XS.iload X95.here hx rfl (hb hby at_177) rfl ?_
      refine XS.iload X95.here hx rfl (hb hby at_179) rfl ?_
      refine XS.iload X95.here hx rfl (hb hby at_181) rfl ?_
      refine XS.iload X95.here hx rfl (hb hby at_183) rfl ?_
      exact k
    obtain ⟨_, _, ⟨T96, L96, k96, n96⟩, -, X96, ⟨Lc96, hQ96, l96, y96, z96⟩, st96⟩ := Jvm.LawKit.callS X95 hx (y := (⟨"com/example/knotwork/knotwork/core/BindingUndoPinLaw", "slotOk", "(Lcom/example/knotwork/knotwork/core/Binding;Lcom/example/knotwork/knotwork/core/Item;IIIII)Z"⟩ : MethodName)) hown (mvT hZ (hw _ (List.mem_of_getElem? (i := 52) rfl))) (mvT hZ (hw _ (List.mem_of_getElem? (i := 53) rfl))) (mvT hZ (hw _ (List.mem_of_getElem? (i := 54) rfl))) (mvT hZ (hw _ (List.mem_of_getElem? (i := 55) rfl))) (by decide) (backOf (W := 0) (rmso l Z a0 hw [] b6 b1 (1 : Int32) (3 : Int32) (f0_v11 i0) (f0_41_s0 i0) (f0_v60 i0) b7 (upv (upv (upv (fun _ => Value.null) (own_k (f0_v11 i0)) (.ref b1)) (own_k (f0_41_s0 i0)) (.ref b1)) (own_k (f0_v60 i0)) (.ref b1)) 1 T94.heap n0 u94_0 u94_1 u94_4 rfl (by decide) (law_d331 i0 b1)) hZ (hw _ (List.mem_of_getElem? (i := 55) rfl)) (hw _ (List.mem_of_getElem? (i := 54) rfl)) (by decide) (by decide)) (g := (mkF m 185 #[.val (.int i0), .val (.int i1), .val (.int i2), .val (.int (f0_v7 i0)), .val (.int (f0_v11 i0)), .val (.int (f0_15_s0 i0)), .val (.int (f0_28_s0 i0)), .val (.int (f0_41_s0 i0)), .val (.int (f0_v60 i0)), .val (.int (3 : Int32)), .val (.int (3 : Int32)), .val (.ref b1), .val (.ref b6)] [(.int (f0_v60 i0)), (.int (f0_41_s0 i0)), (.int (f0_v11 i0)), (.int (3 : Int32)), (.int (1 : Int32)), (.ref b1), (.ref b6)])) rfl (by rw [hml]; rfl) (argsL := [(.ref b6), (.ref b1), (.int (1 : Int32)), (.int (3 : Int32)), (.int (f0_v11 i0)), (.int (f0_41_s0 i0)), (.int (f0_v60 i0))]) (rest := []) (lenOf pd_4 rfl) rfl (by show 2 * 0 + _ ≤ _; exact Nat.le_of_eq rfl) (hb hby at_185) (fun _ _ => ⟨rfl, e95, (by decide : 6 + 0 ≤ _), (by decide : 18 + 0 ≤ _)⟩)
    dsimp only [Pt.U, Pt.locs, Pt.cells, Pt.slots] at X96 l96 y96 z96 st96 hQ96
    subst l96 y96 z96
    obtain ⟨rfl, N96q, e96⟩ := hQ96
    have N96 := Fr.app N95 N96q
    obtain ⟨Lh96, X96, N96⟩ := hide X96 N96 (C := 6) (S := 18) (by decide) (by decide)
    refine Outs.of st96 ?_
    refine Outs.of (U' := T96.setTop (mkF m 204 #[.val (.int i0), .val (.int i1), .val (.int i2), .val (.int (f0_v7 i0)), .val (.int (f0_v11 i0)), .val (.int (f0_15_s0 i0)), .val (.int (f0_28_s0 i0)), .val (.int (f0_41_s0 i0)), .val (.int (f0_v60 i0)), .val (.int (3 : Int32)), .val (.int (3 : Int32)), .val (.ref b1), .val (.ref b6)] [(.int (f0_v60 i0)), (.int (f0_41_s0 i0)), (.int (f0_v11 i0)), (.int (3 : Int32)), (.int (2 : Int32)), (.ref b1), (.ref b6)])) (fun t k => ?_) ?_
    · refine XS.ifNo X96.here hx rfl (hb hby at_188) rfl ((if0 _ _).trans (feq (show ¬ ((1 : Int32) = (0 : Int32)) from (by decide))).1) ?_
      refine XS.aload X96.here hx rfl (hb hby at_191) rfl rfl ?_
      refine XS.aload X96.here hx rfl (hb hby at_193) rfl rfl ?_
      refine XS.iconst X96.here hx rfl (hb hby at_195) ?_
      refine XS.iload X96.here hx rfl (hb hby at_196) rfl ?_
      refine XS.iload X96.here hx rfl (hb hby at_198) rfl ?_
      refine XS.iload X96.here hx rfl (hb hby at_200) rfl ?_
      refine XS.iload X96.here hx rfl (hb hby at_202) rfl ?_
      exact k
    obtain ⟨_, _, ⟨T97, L97, k97, n97⟩, -, X97, ⟨Lc97, hQ97, l97, y97, z97⟩, st97⟩ := Jvm.LawKit.callS X96 hx (y := (⟨"com/example/knotwork/knotwork/core/BindingUndoPinLaw", "slotOk", "(Lcom/example/knotwork/knotwork/core/Binding;Lcom/example/knotwork/knotwork/core/Item;IIIII)Z"⟩ : MethodName)) hown (mvT hZ (hw _ (List.mem_of_getElem? (i := 52) rfl))) (mvT hZ (hw _ (List.mem_of_getElem? (i := 53) rfl))) (mvT hZ (hw _ (List.mem_of_getElem? (i := 54) rfl))) (mvT hZ (hw _ (List.mem_of_getElem? (i := 55) rfl))) (by decide) (backOf (W := 0) (rmso l Z a0 hw [] b6 b1 (2 : Int32) (3 : Int32) (f0_v11 i0) (f0_41_s0 i0) (f0_v60 i0) b7 (upv (upv (upv (fun _ => Value.null) (own_k (f0_v11 i0)) (.ref b1)) (own_k (f0_41_s0 i0)) (.ref b1)) (own_k (f0_v60 i0)) (.ref b1)) 2 T94.heap n0 u94_0 u94_1 u94_4 rfl (by decide) (law_d332 i0 b1)) hZ (hw _ (List.mem_of_getElem? (i := 55) rfl)) (hw _ (List.mem_of_getElem? (i := 54) rfl)) (by decide) (by decide)) (g := (mkF m 204 #[.val (.int i0), .val (.int i1), .val (.int i2), .val (.int (f0_v7 i0)), .val (.int (f0_v11 i0)), .val (.int (f0_15_s0 i0)), .val (.int (f0_28_s0 i0)), .val (.int (f0_41_s0 i0)), .val (.int (f0_v60 i0)), .val (.int (3 : Int32)), .val (.int (3 : Int32)), .val (.ref b1), .val (.ref b6)] [(.int (f0_v60 i0)), (.int (f0_41_s0 i0)), (.int (f0_v11 i0)), (.int (3 : Int32)), (.int (2 : Int32)), (.ref b1), (.ref b6)])) rfl (by rw [hml]; rfl) (argsL := [(.ref b6), (.ref b1), (.int (2 : Int32)), (.int (3 : Int32)), (.int (f0_v11 i0)), (.int (f0_41_s0 i0)), (.int (f0_v60 i0))]) (rest := []) (lenOf pd_4 rfl) rfl (by show 2 * 0 + _ ≤ _; exact Nat.le_of_eq rfl) (hb hby at_204) (fun _ _ => ⟨rfl, e96, (by decide : 6 + 0 ≤ _), (by decide : 18 + 0 ≤ _)⟩)
    dsimp only [Pt.U, Pt.locs, Pt.cells, Pt.slots] at X97 l97 y97 z97 st97 hQ97
    subst l97 y97 z97
    obtain ⟨rfl, N97q, e97⟩ := hQ97
    have N97 := Fr.app N96 N97q
    obtain ⟨Lh97, X97, N97⟩ := hide X97 N97 (C := 6) (S := 18) (by decide) (by decide)
    refine Outs.of st97 ?_
    refine Outs.of (U' := T97.setTop (mkF m 212 #[.val (.int i0), .val (.int i1), .val (.int i2), .val (.int (f0_v7 i0)), .val (.int (f0_v11 i0)), .val (.int (f0_15_s0 i0)), .val (.int (f0_28_s0 i0)), .val (.int (f0_41_s0 i0)), .val (.int (f0_v60 i0)), .val (.int (3 : Int32)), .val (.int (3 : Int32)), .val (.ref b1), .val (.ref b6)] [(.ref b6)])) (fun t k => ?_) ?_
    · refine XS.ifNo X97.here hx rfl (hb hby at_207) rfl ((if0 _ _).trans (feq (show ¬ ((1 : Int32) = (0 : Int32)) from (by decide))).1) ?_
      refine XS.aload X97.here hx rfl (hb hby at_210) rfl rfl ?_
      exact k
    obtain ⟨cq98, kq98, q98a, q98b, q98c⟩ := isOf hZ e97 u94_0
    obtain ⟨_, _, ⟨T98, L98, k98, n98⟩, -, X98, ⟨Lc98, hQ98, l98, y98, z98⟩, st98⟩ := X97.virtualBack hx (y := (⟨"com/example/knotwork/knotwork/core/Binding", "mark", "()I"⟩ : MethodName)) (z := (⟨"com/example/knotwork/knotwork/core/Binding", "mark", "()I"⟩ : MethodName)) hown (mvT hZ (hw _ (List.mem_of_getElem? (i := 64) rfl))) (mvT hZ (hw _ (List.mem_of_getElem? (i := 65) rfl))) (notFace_of_selects (args := #[]) (mvT hZ (hw _ (List.mem_of_getElem? (i := 67) rfl)))) (mvT hZ (hw _ (List.mem_of_getElem? (i := 67) rfl))) (mvT hZ (hw _ (List.mem_of_getElem? (i := 66) rfl))) (by decide) (backOf (W := 0) (rm10 l Z a0 hw [] b6 (3 : Int32) T94.heap n0 u94_3) hZ (hw _ (List.mem_of_getElem? (i := 68) rfl)) (hw _ (List.mem_of_getElem? (i := 27) rfl)) (by decide) (by decide)) q98a q98c (g := (mkF m 212 #[.val (.int i0), .val (.int i1), .val (.int i2), .val (.int (f0_v7 i0)), .val (.int (f0_v11 i0)), .val (.int (f0_15_s0 i0)), .val (.int (f0_28_s0 i0)), .val (.int (f0_41_s0 i0)), .val (.int (f0_v60 i0)), .val (.int (3 : Int32)), .val (.int (3 : Int32)), .val (.ref b1), .val (.ref b6)] [(.ref b6)])) rfl (by rw [hml]; rfl) (Steps.refl _) (argsL := []) (rest := []) (lenOf pd_7 rfl) rfl (by show 2 * 0 + _ ≤ _; exact Nat.le_of_eq rfl) (hb hby at_212) (fun _ _ => ⟨rfl, e97, (by decide : 6 + 0 ≤ _), (by decide : 18 + 0 ≤ _)⟩)
    dsimp only [Pt.U, Pt.locs, Pt.cells, Pt.slots] at X98 l98 y98 z98 st98 hQ98
    subst l98 y98 z98
    obtain ⟨rfl, N98q, e98⟩ := hQ98
    have N98 := Fr.app N97 N98q
    obtain ⟨Lh98, X98, N98⟩ := hide X98 N98 (C := 6) (S := 18) (by decide) (by decide)
    refine Outs.to st98 ?_
    refine Outs.of (U' := T98.setTop (mkF m 225 #[.val (.int i0), .val (.int i1), .val (.int i2), .val (.int (f0_v7 i0)), .val (.int (f0_v11 i0)), .val (.int (f0_15_s0 i0)), .val (.int (f0_28_s0 i0)), .val (.int (f0_41_s0 i0)), .val (.int (f0_v60 i0)), .val (.int (3 : Int32)), .val (.int (3 : Int32)), .val (.ref b1), .val (.ref b6)] [(.int (1 : Int32))])) (fun t k => ?_) ?_
    · refine XS.iload X98.here hx rfl (hb hby at_215) rfl ?_
      refine XS.icmpNo X98.here hx rfl (hb hby at_217) rfl (teq (show (3 : Int32) = (3 : Int32) from (by decide))).2 ?_
      refine XS.iconst X98.here hx rfl (hb hby at_220) ?_
      refine XS.goto X98.here hx rfl (pc0 := 221) (pc' := 225) rfl (hb hby at_221) (by decide) (by decide) ?_
      exact k
    exact Outs.retN (t := .boolean) (z := (1 : Int32)) X98 hx hret (by simp) (hb hby at_225) hlk (by decide) (by decide) e98 ⟨⟨rfl, N98⟩, (Nat.le_trans (Nat.le_trans (Nat.le_trans (Nat.le_trans (Nat.le_trans (Nat.le_trans (Nat.le_trans z2 K3.1) E6.1) K7.1) K88.1) K90.1) K92.1) K94.1)⟩
set_option maxRecDepth 65536 in
set_option maxHeartbeats 40000000 in
theorem comes_1 {Post : Tables → Env → Array Value → State → Outcome → State → Prop} (hpost : ∀ tb e args s v u, (limb_1_1.after args s (.returned v) u = true ∧ limb_1_2.after args s (.returned v) u = true ∧ True) → ReturnedEndW s (.returned v) u (Jvm.fieldLocs frame_1_writes args s ++ Jvm.arrayLocs frame_1_arrays args s ++ Jvm.staticLocs frame_1_statics s) 24 1152 → Post tb e args s (.returned v) u) :
    ArmFor flags0 classFile x code maxLocals ret World_1 tables_1 room_1 Calls_1 rest_1 Pre_1 Post := by
  intro l hfl _ _ p e ha hc hk s m args below hf hA hF happ hP
  obtain ⟨hcalls, hrest, hpre⟩ := hP
  obtain ⟨-, -, -, hnamed, -, -, -, hat⟩ := (Spec.applies_iff hf).mp happ
  obtain ⟨hg, hn⟩ := and_e (Cond.before_iff.mp (show (Jvm.Cond.and given_1 narrow_1).before args s = true from hpre))
  obtain ⟨g1, g2⟩ := and_e hg
  obtain ⟨g3, g4⟩ := and_e g2
  obtain ⟨g5, g6⟩ := and_e g4
  obtain ⟨w0, w1, w2, rfl⟩ : ∃ w0 w1 w2 : Value, args = #[w0, w1, w2] := by
    have hs : args.size = 3 := by simpa [Cond.value, given_1] using g1
    obtain ⟨L⟩ := args
    match L, hs with
    | [w0, w1, w2], _ => exact ⟨w0, w1, w2, rfl⟩
  have hw := fun d (hd : d ∈ tables_1) => atoms_spec (ws := Jvm.Cond.code x code maxLocals ret :: tables_1) hat d (List.mem_cons_of_mem _ hd)
  obtain ⟨i0, ei0⟩ := is_v g3
  obtain rfl : w0 = (.int i0) := Option.some.inj ei0
  obtain ⟨i1, ei1⟩ := is_v g5
  obtain rfl : w1 = (.int i1) := Option.some.inj ei1
  obtain ⟨i2, ei2⟩ := is_v g6
  obtain rfl : w2 = (.int i2) := Option.some.inj ei2
  obtain ⟨n, o, h1, h2, h3, v, L, rfl, hQ0, hq⟩ := rm0 l s _ hw tables_1 i0 i1 i2 s.heap s.heap.size (Nat.le_refl _) p e ha hc hk s m _ below hf ((Spec.applies_iff_loose hf).mp happ).1 ⟨rfl, State.Warmed39.refl s, rfl⟩ trivial
  obtain ⟨rfl, N⟩ : v = some (.int 1) ∧ Fr s.heap.size L := hQ0
  refine ⟨n, _, h1, h2, h3, hpost _ _ _ _ _ _ ⟨Cond.after_iff.mpr rfl, Cond.after_iff.mpr (eq_i res_at (Term.int_eval (1)) rfl), trivial⟩ ⟨hq.1, hq.2.1, hq.2.2.1, (hq.2.2.2.sift fun y hy => Or.inr (N y hy)).mono (by decide) (by decide)⟩⟩
theorem main_1_1 : Claimed_1_1 := comes_1 fun _ _ _ _ _ _ h hF => ⟨h.1, hF⟩
theorem main_1_2 : Claimed_1_2 := comes_1 fun _ _ _ _ _ _ h hF => ⟨h.2.1, hF⟩
end Jvm.Pilot.@@N@@
namespace Jvm.Pilot.@@N@@
open Jvm Jvm.ClassFile Sem Op Lib Jvm.Free Jvm.Stand Jvm.Pilot.@@N@@.Jvm.D
/-! MADE BY PROGRAM (witnessworld.py) out of the Statement's table words and the real class files: 18 classes; the members and pool entries that the words name. The judged class is class 1, her method 3. -/
namespace start1
open Jvm.ClassFile
def u (s : String) : CpInfo := .utf8 (stringToUtf16 s)
/-- a pool by its gaps: so many unusable entries, then the entry; so many at the end -/
def gap : Nat → List CpInfo → List CpInfo
  | 0, r => r
  | n + 1, r => .unusable :: gap n r
def poolList (es : List (Nat × CpInfo)) (last : Nat) : List CpInfo := es.foldr (fun e r => gap e.1 (e.2 :: r)) (gap last [])
def pool (es : List (Nat × CpInfo)) (last : Nat) : Array CpInfo := ⟨poolList es last⟩
def fileOf (pool : Array CpInfo) (this : Nat) (attrs : Array Attribute := #[]) (ms : Array MethodInfo := #[]) (fl : Nat := 33) (sup : Nat := 0) (ifs : Array Nat := #[]) (fds : Array FieldInfo := #[]) : ClassFile where
  minorVersion := 0
  majorVersion := 65
  constantPool := pool
  accessFlags := fl
  thisClass := this
  superClass := sup
  interfaces := ifs
  fields := fds
  methods := ms
  attributes := attrs
def plain (name : String) (sup : Option ClassId) : Class where
  name := name
  kind := .ordinary
  loader := none
  accessFlags := 33
  super := sup
  interfaces := #[]
  cf := none
  fields := #[]
  methods := #[]
  instanceTypes := #[]
  staticTypes := #[]
  resolved := #[]
  callSites := []
  init := .initialized
  statics := none
  mirror := none

def pool0 : Array CpInfo := pool [(5, u "<init>"), (0, u "()V"), (1, .class_ 10), (1, u "java/lang/Object")] 113

def k0c0 : Code := { maxStack := 0, maxLocals := 1, code := object_method_1_code, exceptionTable := #[], attributes := #[] }
def k0m0 : Method := { name := "<init>", desc := "()V", sig := { parameters := [], returnType := none }, accessFlags := 1, code := some k0c0 }
/-- java/lang/Object -/
def k0 : Class := { plain "java/lang/Object" none with
  accessFlags := 33
  interfaces := #[]
  cf := some (fileOf pool0 8 #[] #[{ accessFlags := 1, nameIndex := 5, descriptorIndex := 6, attributes := #[] }] 33 0 #[] #[])
  fields := #[]
  methods := #[k0m0]
  instanceTypes := #[]
  staticTypes := #[]
  resolved := Array.replicate 124 none
  statics := none }

def pool1 : Array CpInfo := pool [(2, .class_ 4), (1, u "java/lang/Object"), (0, u "<init>"), (0, u "()V"), (0, .methodref 8 9), (0, .class_ 10), (0, .nameAndType 11 12), (0, u "com/example/knotwork/knotwork/core/Binding"), (0, u "get"), (0, u "(I)Lcom/example/knotwork/knotwork/core/Item;"), (0, .methodref 14 15), (0, .class_ 16), (0, .nameAndType 17 18), (0, u "com/example/knotwork/knotwork/core/BindingUndoPinLaw"), (0, u "held"), (0, u "(IIIII)Z"), (0, .integer 2147483647), (0, .class_ 21), (0, u "com/example/knotwork/knotwork/core/Sym"), (0, .string 23), (0, u "v"), (0, .methodref 20 25), (0, .nameAndType 5 26), (0, u "(Ljava/lang/String;)V"), (0, .methodref 8 28), (0, .nameAndType 5 29), (0, u "(I)V"), (0, .methodref 8 31), (0, .nameAndType 32 33), (0, u "bind"), (0, u "(ILcom/example/knotwork/knotwork/core/Item;)V"), (0, .methodref 8 35), (0, .nameAndType 36 29), (0, u "undo"), (0, .methodref 14 38), (0, .nameAndType 39 40), (0, u "slotOk"), (0, u "(Lcom/example/knotwork/knotwork/core/Binding;Lcom/example/knotwork/knotwork/core/Item;IIIII)Z"), (0, .methodref 8 42), (0, .nameAndType 43 44), (0, u "mark"), (0, u "()I"), (5, u "law"), (0, u "(III)Z")] 2

def k1m0 : Method := { name := "<init>", desc := "()V", sig := { parameters := [], returnType := none }, accessFlags := 2, code := none }
def k1c1 : Code := { maxStack := 2, maxLocals := 5, code := method_2_code, exceptionTable := #[], attributes := #[] }
def k1m1 : Method := { name := "held", desc := "(IIIII)Z", sig := { parameters := [.int, .int, .int, .int, .int], returnType := some .boolean }, accessFlags := 10, code := some k1c1 }
def k1c2 : Code := { maxStack := 5, maxLocals := 8, code := method_3_code, exceptionTable := #[], attributes := #[] }
def k1m2 : Method := { name := "slotOk", desc := "(Lcom/example/knotwork/knotwork/core/Binding;Lcom/example/knotwork/knotwork/core/Item;IIIII)Z", sig := { parameters := [(.object "com/example/knotwork/knotwork/core/Binding"), (.object "com/example/knotwork/knotwork/core/Item"), .int, .int, .int, .int, .int], returnType := some .boolean }, accessFlags := 10, code := some k1c2 }
def k1c3 : Code := { maxStack := 7, maxLocals := 13, code := code, exceptionTable := #[], attributes := #[] }
def k1m3 : Method := { name := "law", desc := "(III)Z", sig := { parameters := [.int, .int, .int], returnType := some .boolean }, accessFlags := 9, code := some k1c3 }
/-- com/example/knotwork/knotwork/core/BindingUndoPinLaw -/
def k1 : Class := { plain "com/example/knotwork/knotwork/core/BindingUndoPinLaw" (some 0) with
  accessFlags := 49
  interfaces := #[]
  cf := some (fileOf pool1 14 #[] #[{ accessFlags := 2, nameIndex := 5, descriptorIndex := 6, attributes := #[] }, { accessFlags := 10, nameIndex := 17, descriptorIndex := 18, attributes := #[] }, { accessFlags := 10, nameIndex := 39, descriptorIndex := 40, attributes := #[] }, { accessFlags := 9, nameIndex := 50, descriptorIndex := 51, attributes := #[] }] 49 2 #[] #[])
  fields := #[]
  methods := #[k1m0, k1m1, k1m2, k1m3]
  instanceTypes := #[]
  staticTypes := #[]
  resolved := Array.replicate 54 none
  statics := none }

def pool2 : Array CpInfo := pool [(1, .methodref 2 3), (0, .class_ 4), (0, .nameAndType 5 6), (0, u "java/lang/Object"), (0, u "<init>"), (0, u "()V"), (0, .class_ 8), (0, u "java/lang/Record")] 13

def k2c0 : Code := { maxStack := 1, maxLocals := 1, code := jdk_30_method_1_code, exceptionTable := #[], attributes := #[] }
def k2m0 : Method := { name := "<init>", desc := "()V", sig := { parameters := [], returnType := none }, accessFlags := 4, code := some k2c0 }
/-- java/lang/Record -/
def k2 : Class := { plain "java/lang/Record" (some 0) with
  accessFlags := 1057
  interfaces := #[]
  cf := some (fileOf pool2 7 #[] #[{ accessFlags := 4, nameIndex := 5, descriptorIndex := 6, attributes := #[] }] 1057 2 #[] #[])
  fields := #[]
  methods := #[k2m0]
  instanceTypes := #[]
  staticTypes := #[]
  resolved := Array.replicate 22 none
  statics := none }

def pool3 : Array CpInfo := pool [(1, .class_ 2), (0, u "java/lang/Comparable"), (0, .class_ 4), (0, u "java/lang/Object")] 7

/-- java/lang/Comparable -/
def k3 : Class := { plain "java/lang/Comparable" (some 0) with
  accessFlags := 1537
  interfaces := #[]
  cf := some (fileOf pool3 1 #[] #[] 1537 3 #[] #[])
  fields := #[]
  methods := #[]
  instanceTypes := #[]
  staticTypes := #[]
  resolved := Array.replicate 12 none
  statics := none }

def pool4 : Array CpInfo := pool [(16, .class_ 18), (1, u "com/example/knotwork/knotwork/core/Item"), (63, .class_ 83), (0, u "java/lang/Object"), (0, .class_ 85), (0, u "java/lang/Comparable")] 15

/-- com/example/knotwork/knotwork/core/Item -/
def k4 : Class := { plain "com/example/knotwork/knotwork/core/Item" (some 0) with
  accessFlags := 1537
  interfaces := #[3]
  cf := some (fileOf pool4 16 #[] #[] 1537 82 #[84] #[])
  fields := #[]
  methods := #[]
  instanceTypes := #[]
  staticTypes := #[]
  resolved := Array.replicate 101 none
  statics := none }

def pool5 : Array CpInfo := pool [(1, .methodref 2 3), (0, .class_ 4), (0, .nameAndType 5 6), (0, u "java/lang/Record"), (0, u "<init>"), (0, u "()V"), (0, .fieldref 8 9), (0, .class_ 10), (0, .nameAndType 11 12), (0, u "com/example/knotwork/knotwork/core/Sym"), (0, u "name"), (0, u "Ljava/lang/String;"), (23, .class_ 37), (0, u "com/example/knotwork/knotwork/core/Item"), (0, u "(Ljava/lang/String;)V")] 12

def k5c0 : Code := { maxStack := 2, maxLocals := 2, code := prog_46_method_1_code, exceptionTable := #[], attributes := #[] }
def k5m0 : Method := { name := "<init>", desc := "(Ljava/lang/String;)V", sig := { parameters := [(.object "java/lang/String")], returnType := none }, accessFlags := 1, code := some k5c0 }
/-- com/example/knotwork/knotwork/core/Sym -/
def k5 : Class := { plain "com/example/knotwork/knotwork/core/Sym" (some 2) with
  accessFlags := 49
  interfaces := #[4]
  cf := some (fileOf pool5 8 #[] #[{ accessFlags := 1, nameIndex := 5, descriptorIndex := 38, attributes := #[] }] 49 2 #[36] #[{ accessFlags := 18, nameIndex := 11, descriptorIndex := 12, attributes := #[] }])
  fields := #[{ name := "name", type := (.object "java/lang/String"), accessFlags := 18, slot := 0, constantValue := 0 }]
  methods := #[k5m0]
  instanceTypes := #[(.object "java/lang/String")]
  staticTypes := #[]
  resolved := Array.replicate 51 none
  statics := none }

def pool6 : Array CpInfo := pool [(1, .class_ 2), (0, u "java/io/Serializable"), (0, .class_ 4), (0, u "java/lang/Object")] 2

/-- java/io/Serializable -/
def k6 : Class := { plain "java/io/Serializable" (some 0) with
  accessFlags := 1537
  interfaces := #[]
  cf := some (fileOf pool6 1 #[] #[] 1537 3 #[] #[])
  fields := #[]
  methods := #[]
  instanceTypes := #[]
  staticTypes := #[]
  resolved := Array.replicate 7 none
  statics := none }

def pool7 : Array CpInfo := pool [(2, .class_ 4), (1, u "java/lang/CharSequence"), (42, .class_ 48), (0, u "java/lang/CharSequence$1CodePointIterator"), (10, .class_ 60), (0, u "java/lang/CharSequence$1CharIterator"), (5, .class_ 67), (0, u "java/lang/Object")] 63

/-- java/lang/CharSequence -/
def k7 : Class := { plain "java/lang/CharSequence" (some 0) with
  accessFlags := 1537
  interfaces := #[]
  cf := some (fileOf pool7 2 #[.nestMembers #[47, 59]] #[] 1537 66 #[] #[])
  fields := #[]
  methods := #[]
  instanceTypes := #[]
  staticTypes := #[]
  resolved := Array.replicate 131 none
  statics := none }

def pool8 : Array CpInfo := pool [(1, .class_ 2), (0, u "java/lang/constant/Constable"), (0, .class_ 4), (0, u "java/lang/Object")] 6

/-- java/lang/constant/Constable -/
def k8 : Class := { plain "java/lang/constant/Constable" (some 0) with
  accessFlags := 1537
  interfaces := #[]
  cf := some (fileOf pool8 1 #[] #[] 1537 3 #[] #[])
  fields := #[]
  methods := #[]
  instanceTypes := #[]
  staticTypes := #[]
  resolved := Array.replicate 11 none
  statics := none }

def pool9 : Array CpInfo := pool [(1, .class_ 2), (0, u "java/lang/constant/ConstantDesc"), (0, .class_ 4), (0, u "java/lang/Object")] 32

/-- java/lang/constant/ConstantDesc -/
def k9 : Class := { plain "java/lang/constant/ConstantDesc" (some 0) with
  accessFlags := 1537
  interfaces := #[]
  cf := some (fileOf pool9 1 #[] #[] 1537 3 #[] #[])
  fields := #[]
  methods := #[]
  instanceTypes := #[]
  staticTypes := #[]
  resolved := Array.replicate 37 none
  statics := none }

def pool10 : Array CpInfo := pool [(2, .class_ 4), (1, u "java/lang/Object"), (0, u "<init>"), (0, u "()V"), (3, .class_ 12), (1, u "java/lang/String"), (0, u "value"), (0, u "[B"), (2, u "coder"), (0, u "B"), (2, u "hash"), (0, u "I"), (2, u "hashIsZero"), (0, u "Z"), (13, u "COMPACT_STRINGS"), (534, .class_ 576), (0, u "java/lang/CharSequence"), (22, u "CASE_INSENSITIVE_ORDER"), (0, u "Ljava/util/Comparator;"), (500, u "serialPersistentFields"), (0, u "[Ljava/io/ObjectStreamField;"), (0, .class_ 1104), (0, u "java/lang/String$CaseInsensitiveComparator"), (1, .class_ 1107), (0, u "java/io/Serializable"), (0, .class_ 1109), (0, u "java/lang/Comparable"), (0, .class_ 1111), (0, u "java/lang/constant/Constable"), (0, .class_ 1113), (0, u "java/lang/constant/ConstantDesc"), (2, u "serialVersionUID"), (0, u "J"), (3, u "REPL"), (0, u "C"), (2, u "LATIN1"), (1, u "UTF16")] 323

def k10m0 : Method := { name := "<init>", desc := "()V", sig := { parameters := [], returnType := none }, accessFlags := 1, code := none }
/-- java/lang/String -/
def k10 : Class := { plain "java/lang/String" (some 0) with
  accessFlags := 49
  interfaces := #[6, 3, 7, 8, 9]
  cf := some (fileOf pool10 10 #[.nestMembers #[1103]] #[{ accessFlags := 1, nameIndex := 5, descriptorIndex := 6, attributes := #[] }] 49 2 #[1106, 1108, 575, 1110, 1112] #[{ accessFlags := 18, nameIndex := 13, descriptorIndex := 14, attributes := #[] }, { accessFlags := 18, nameIndex := 17, descriptorIndex := 18, attributes := #[] }, { accessFlags := 2, nameIndex := 21, descriptorIndex := 22, attributes := #[] }, { accessFlags := 2, nameIndex := 25, descriptorIndex := 26, attributes := #[] }, { accessFlags := 26, nameIndex := 1116, descriptorIndex := 1117, attributes := #[] }, { accessFlags := 24, nameIndex := 40, descriptorIndex := 26, attributes := #[] }, { accessFlags := 26, nameIndex := 1101, descriptorIndex := 1102, attributes := #[] }, { accessFlags := 26, nameIndex := 1121, descriptorIndex := 1122, attributes := #[] }, { accessFlags := 25, nameIndex := 599, descriptorIndex := 600, attributes := #[] }, { accessFlags := 24, nameIndex := 1125, descriptorIndex := 18, attributes := #[] }, { accessFlags := 24, nameIndex := 1127, descriptorIndex := 18, attributes := #[] }])
  fields := #[{ name := "value", type := (.array .byte), accessFlags := 18, slot := 0, constantValue := 0 }, { name := "coder", type := .byte, accessFlags := 18, slot := 1, constantValue := 0 }, { name := "hash", type := .int, accessFlags := 2, slot := 2, constantValue := 0 }, { name := "hashIsZero", type := .boolean, accessFlags := 2, slot := 3, constantValue := 0 }, { name := "serialVersionUID", type := .long, accessFlags := 26, slot := 0, constantValue := 0 }, { name := "COMPACT_STRINGS", type := .boolean, accessFlags := 24, slot := 1, constantValue := 0 }, { name := "serialPersistentFields", type := (.array (.object "java/io/ObjectStreamField")), accessFlags := 26, slot := 2, constantValue := 0 }, { name := "REPL", type := .char, accessFlags := 26, slot := 3, constantValue := 0 }, { name := "CASE_INSENSITIVE_ORDER", type := (.object "java/util/Comparator"), accessFlags := 25, slot := 4, constantValue := 0 }, { name := "LATIN1", type := .byte, accessFlags := 24, slot := 5, constantValue := 0 }, { name := "UTF16", type := .byte, accessFlags := 24, slot := 6, constantValue := 0 }]
  methods := #[k10m0]
  instanceTypes := #[(.array .byte), .byte, .int, .boolean]
  staticTypes := #[.long, .boolean, (.array (.object "java/io/ObjectStreamField")), .char, (.object "java/util/Comparator"), .byte, .byte]
  resolved := Array.replicate 1451 none
  statics := none }

def pool11 : Array CpInfo := pool [(1, .methodref 2 3), (0, .class_ 4), (0, .nameAndType 5 6), (0, u "java/lang/Object"), (0, u "<init>"), (0, u "()V"), (0, .class_ 8), (0, u "com/example/knotwork/knotwork/core/Item"), (0, .fieldref 10 11), (0, .class_ 12), (0, .nameAndType 13 14), (0, u "com/example/knotwork/knotwork/core/Binding"), (0, u "values"), (0, u "[Lcom/example/knotwork/knotwork/core/Item;"), (0, .fieldref 10 16), (0, .nameAndType 17 18), (0, u "trail"), (0, u "[I"), (0, .fieldref 10 20), (0, .nameAndType 21 22), (0, u "bound"), (0, u "I"), (7, u "(I)V"), (3, u "()I"), (0, u "get"), (0, u "(I)Lcom/example/knotwork/knotwork/core/Item;"), (0, u "bind"), (0, u "(ILcom/example/knotwork/knotwork/core/Item;)V"), (1, u "mark"), (2, u "undo")] 3

def k11c0 : Code := { maxStack := 2, maxLocals := 2, code := prog_8_method_1_code, exceptionTable := #[], attributes := #[] }
def k11m0 : Method := { name := "<init>", desc := "(I)V", sig := { parameters := [.int], returnType := none }, accessFlags := 0, code := some k11c0 }
def k11c1 : Code := { maxStack := 2, maxLocals := 2, code := prog_8_method_3_code, exceptionTable := #[], attributes := #[] }
def k11m1 : Method := { name := "get", desc := "(I)Lcom/example/knotwork/knotwork/core/Item;", sig := { parameters := [.int], returnType := some (.object "com/example/knotwork/knotwork/core/Item") }, accessFlags := 0, code := some k11c1 }
def k11c2 : Code := { maxStack := 5, maxLocals := 3, code := prog_8_method_4_code, exceptionTable := #[], attributes := #[] }
def k11m2 : Method := { name := "bind", desc := "(ILcom/example/knotwork/knotwork/core/Item;)V", sig := { parameters := [.int, (.object "com/example/knotwork/knotwork/core/Item")], returnType := none }, accessFlags := 0, code := some k11c2 }
def k11c3 : Code := { maxStack := 1, maxLocals := 1, code := prog_8_method_6_code, exceptionTable := #[], attributes := #[] }
def k11m3 : Method := { name := "mark", desc := "()I", sig := { parameters := [], returnType := some .int }, accessFlags := 0, code := some k11c3 }
def k11c4 : Code := { maxStack := 5, maxLocals := 2, code := prog_8_method_8_code, exceptionTable := #[], attributes := #[] }
def k11m4 : Method := { name := "undo", desc := "(I)V", sig := { parameters := [.int], returnType := none }, accessFlags := 0, code := some k11c4 }
/-- com/example/knotwork/knotwork/core/Binding -/
def k11 : Class := { plain "com/example/knotwork/knotwork/core/Binding" (some 0) with
  accessFlags := 48
  interfaces := #[]
  cf := some (fileOf pool11 10 #[] #[{ accessFlags := 0, nameIndex := 5, descriptorIndex := 30, attributes := #[] }, { accessFlags := 0, nameIndex := 35, descriptorIndex := 36, attributes := #[] }, { accessFlags := 0, nameIndex := 37, descriptorIndex := 38, attributes := #[] }, { accessFlags := 0, nameIndex := 40, descriptorIndex := 34, attributes := #[] }, { accessFlags := 0, nameIndex := 43, descriptorIndex := 30, attributes := #[] }] 48 2 #[] #[{ accessFlags := 18, nameIndex := 13, descriptorIndex := 14, attributes := #[] }, { accessFlags := 18, nameIndex := 17, descriptorIndex := 18, attributes := #[] }, { accessFlags := 2, nameIndex := 21, descriptorIndex := 22, attributes := #[] }])
  fields := #[{ name := "values", type := (.array (.object "com/example/knotwork/knotwork/core/Item")), accessFlags := 18, slot := 0, constantValue := 0 }, { name := "trail", type := (.array .int), accessFlags := 18, slot := 1, constantValue := 0 }, { name := "bound", type := .int, accessFlags := 2, slot := 2, constantValue := 0 }]
  methods := #[k11m0, k11m1, k11m2, k11m3, k11m4]
  instanceTypes := #[(.array (.object "com/example/knotwork/knotwork/core/Item")), (.array .int), .int]
  staticTypes := #[]
  resolved := Array.replicate 47 none
  statics := none }

def pool12 : Array CpInfo := pool [(1, u "java/lang/Cloneable"), (0, .class_ 1), (0, u "java/lang/Object"), (0, .class_ 3)] 3

/-- java/lang/Cloneable -/
def k12 : Class := { plain "java/lang/Cloneable" (some 0) with
  accessFlags := 1537
  interfaces := #[]
  cf := some (fileOf pool12 2 #[] #[] 1537 4 #[] #[])
  fields := #[]
  methods := #[]
  instanceTypes := #[]
  staticTypes := #[]
  resolved := Array.replicate 8 none
  statics := none }

/-- the primitive byte -/
def k13 : Class := { plain "byte" none with kind := .primitive 'B', accessFlags := 0x411 }
/-- [B -/
def k14 : Class := { plain "[B" (some 0) with kind := .array 13 .byte, interfaces := #[12, 6], accessFlags := 1041 }

/-- the primitive int -/
def k15 : Class := { plain "int" none with kind := .primitive 'I', accessFlags := 0x411 }
/-- [I -/
def k16 : Class := { plain "[I" (some 0) with kind := .array 15 .int, interfaces := #[12, 6], accessFlags := 1041 }

/-- [Lcom/example/knotwork/knotwork/core/Item; -/
def k17 : Class := { plain "[Lcom/example/knotwork/knotwork/core/Item;" (some 0) with kind := .array 4 (.object "com/example/knotwork/knotwork/core/Item"), interfaces := #[12, 6], accessFlags := 1041 }

def heap : Heap := #[]
def classes : Array Class := #[k0, k1, k2, k3, k4, k5, k6, k7, k8, k9, k10, k11, k12, k13, k14, k15, k16, k17]
def interned : List (Array UInt16 × Addr) := []
def slotsUsed : Nat := 0
def theMethod : MethodId := ⟨1, 3⟩
def args0 : Array Value := #[.int 3, .int 7, .int 2]
def aboutOver (below : List Frame) : State where
  vm := { classes := classes, interned := interned.toArray }
  heap := heap
  slotsUsed := slotsUsed
  threads := #[{ frames := .invoking theMethod args0 :: below }]
def below0 : List Frame := [.native { method := ⟨0, 0⟩, args := #[] }]
def about1 : State := aboutOver below0
def p0 : Program := .bare "" "" ""
def e0 : Env := launch0.env 0 0 0
theorem w_frames : about1.frames = Frame.invoking theMethod args0 :: below0 := rfl
set_option maxRecDepth 65536 in
theorem w_args : argsFit about1.vm theMethod args0 = true := by decide +kernel
set_option maxRecDepth 65536 in
theorem w_heap : heapFits about1 = true := by decide +kernel
set_option maxRecDepth 65536 in
theorem w_runnable : about1.curStatus? = some .runnable := by decide +kernel
set_option maxRecDepth 65536 in
theorem w_alone : about1.alone = true := by decide +kernel
set_option maxRecDepth 65536 in
theorem w_named : about1.methodNamed? x = some theMethod := by decide +kernel
set_option maxRecDepth 65536 in
theorem w_hears : about1.hears theMethod below0 = true := by decide +kernel
set_option maxRecDepth 65536 in
theorem w_ripe : about1.ripe theMethod args0 below0 = true := by decide +kernel
theorem w_running : about1.status = .running := rfl
set_option maxRecDepth 65536 in
theorem w_room : about1.hasRoom e0.platform room_1 = true :=
  launch0.hasRoom_least _ room_1 (by decide +kernel) (by decide +kernel) (by decide +kernel) (by decide +kernel) (by decide +kernel) (by decide +kernel)
theorem allAtoms_all (ts : List Jvm.Cond) (a : Array Jvm.Value) (st : Jvm.State) : (allAtoms ts).before a st = ts.all (fun c => c.before a st) := by
  induction ts with
  | nil => rfl
  | cons c t ih =>
    show (Jvm.Cond.and c (allAtoms t)).before a st = _
    rw [Jvm.Cond.before_and, ih, List.all_cons]
def words1 : List Jvm.Cond := Jvm.Cond.code x code maxLocals ret :: tables_1
/-- a 'code' word, met by the world's own term for the bytes: nothing is compared byte by byte -/
theorem code_word {y : MethodName} {bytes : ByteArray} {mx : Nat} {rt : Option FieldType} {a : Array Value} {s : State} {m : MethodId} {meth : Method} {c : Code} (h1 : s.methodNamed? y = some m) (h2 : s.vm.method? m = some meth) (h3 : meth.code = some c) (h4 : c.code = bytes)
    (h5 : (c.maxLocals == mx && c.exceptionTable.isEmpty && decide (c.maxStack ≤ mostOperands) && decide (meth.sig.returnType = rt) && !meth.locks && decide (parseMethodDescriptor y.desc = some meth.sig)) = true) : (Jvm.Cond.code y bytes mx rt).before a s = true := by
  simp only [Bool.and_eq_true, beq_iff_eq, Bool.not_eq_true', decide_eq_true_eq] at h5
  obtain ⟨⟨⟨⟨⟨g1, g2⟩, g3⟩, g4⟩, g5⟩, g6⟩ := h5
  simp [Cond.before, Cond.holds, Cond.value, h1, h2, h3, h4, g1, g2, g3, g4, g5, g6]
def isCode : Jvm.Cond → Bool
  | .code _ _ _ _ => true
  | _ => false
theorem all_split {L : List Jvm.Cond} {P : Jvm.Cond → Bool} (h1 : L.all (fun c => isCode c || P c) = true) (h2 : ∀ c ∈ L.filter isCode, P c = true) : L.all P = true := by
  refine List.all_eq_true.mpr fun c hc => ?_
  have h := List.all_eq_true.mp h1 c hc
  rcases Bool.eq_false_or_eq_true (isCode c) with hi | hi
  · exact h2 c (List.mem_filter.mpr ⟨hc, hi⟩)
  · simpa [hi] using h
set_option maxRecDepth 65536 in
theorem w_c0 : (Jvm.Cond.code x code maxLocals ret).before args0 about1 = true := code_word (m := ⟨1, 3⟩) (meth := k1m3) (c := k1c3) (by decide +kernel) rfl rfl rfl (by decide +kernel)
set_option maxRecDepth 65536 in
theorem w_c1 : (Jvm.Cond.code ({ cls := "com/example/knotwork/knotwork/core/Sym", name := "<init>", desc := "(Ljava/lang/String;)V" } : Jvm.MethodName) prog_46_method_1_code (2 : Nat) (Option.none : Option Jvm.ClassFile.FieldType)).before args0 about1 = true := code_word (m := ⟨5, 0⟩) (meth := k5m0) (c := k5c0) (by decide +kernel) rfl rfl rfl (by decide +kernel)
set_option maxRecDepth 65536 in
theorem w_c2 : (Jvm.Cond.code ({ cls := "java/lang/Record", name := "<init>", desc := "()V" } : Jvm.MethodName) jdk_30_method_1_code (1 : Nat) (Option.none : Option Jvm.ClassFile.FieldType)).before args0 about1 = true := code_word (m := ⟨2, 0⟩) (meth := k2m0) (c := k2c0) (by decide +kernel) rfl rfl rfl (by decide +kernel)
set_option maxRecDepth 65536 in
theorem w_c3 : (Jvm.Cond.code ({ cls := "java/lang/Object", name := "<init>", desc := "()V" } : Jvm.MethodName) object_method_1_code (1 : Nat) (Option.none : Option Jvm.ClassFile.FieldType)).before args0 about1 = true := code_word (m := ⟨0, 0⟩) (meth := k0m0) (c := k0c0) (by decide +kernel) rfl rfl rfl (by decide +kernel)
set_option maxRecDepth 65536 in
theorem w_c4 : (Jvm.Cond.code ({ cls := "com/example/knotwork/knotwork/core/Binding", name := "<init>", desc := "(I)V" } : Jvm.MethodName) prog_8_method_1_code (2 : Nat) (Option.none : Option Jvm.ClassFile.FieldType)).before args0 about1 = true := code_word (m := ⟨11, 0⟩) (meth := k11m0) (c := k11c0) (by decide +kernel) rfl rfl rfl (by decide +kernel)
set_option maxRecDepth 65536 in
theorem w_c5 : (Jvm.Cond.code ({ cls := "com/example/knotwork/knotwork/core/Binding", name := "bind", desc := "(ILcom/example/knotwork/knotwork/core/Item;)V" } : Jvm.MethodName) prog_8_method_4_code (3 : Nat) (Option.none : Option Jvm.ClassFile.FieldType)).before args0 about1 = true := code_word (m := ⟨11, 2⟩) (meth := k11m2) (c := k11c2) (by decide +kernel) rfl rfl rfl (by decide +kernel)
set_option maxRecDepth 65536 in
theorem w_c6 : (Jvm.Cond.code ({ cls := "com/example/knotwork/knotwork/core/Binding", name := "undo", desc := "(I)V" } : Jvm.MethodName) prog_8_method_8_code (2 : Nat) (Option.none : Option Jvm.ClassFile.FieldType)).before args0 about1 = true := code_word (m := ⟨11, 4⟩) (meth := k11m4) (c := k11c4) (by decide +kernel) rfl rfl rfl (by decide +kernel)
set_option maxRecDepth 65536 in
theorem w_c7 : (Jvm.Cond.code ({ cls := "com/example/knotwork/knotwork/core/BindingUndoPinLaw", name := "slotOk", desc := "(Lcom/example/knotwork/knotwork/core/Binding;Lcom/example/knotwork/knotwork/core/Item;IIIII)Z" } : Jvm.MethodName) method_3_code (8 : Nat) (Option.some Jvm.ClassFile.FieldType.boolean)).before args0 about1 = true := code_word (m := ⟨1, 2⟩) (meth := k1m2) (c := k1c2) (by decide +kernel) rfl rfl rfl (by decide +kernel)
set_option maxRecDepth 65536 in
theorem w_c8 : (Jvm.Cond.code ({ cls := "com/example/knotwork/knotwork/core/Binding", name := "get", desc := "(I)Lcom/example/knotwork/knotwork/core/Item;" } : Jvm.MethodName) prog_8_method_3_code (2 : Nat) (Option.some (Jvm.ClassFile.FieldType.object "com/example/knotwork/knotwork/core/Item"))).before args0 about1 = true := code_word (m := ⟨11, 1⟩) (meth := k11m1) (c := k11c1) (by decide +kernel) rfl rfl rfl (by decide +kernel)
set_option maxRecDepth 65536 in
theorem w_c9 : (Jvm.Cond.code ({ cls := "com/example/knotwork/knotwork/core/BindingUndoPinLaw", name := "held", desc := "(IIIII)Z" } : Jvm.MethodName) method_2_code (5 : Nat) (Option.some Jvm.ClassFile.FieldType.boolean)).before args0 about1 = true := code_word (m := ⟨1, 1⟩) (meth := k1m1) (c := k1c1) (by decide +kernel) rfl rfl rfl (by decide +kernel)
set_option maxRecDepth 65536 in
theorem w_c10 : (Jvm.Cond.code ({ cls := "com/example/knotwork/knotwork/core/Binding", name := "mark", desc := "()I" } : Jvm.MethodName) prog_8_method_6_code (1 : Nat) (Option.some Jvm.ClassFile.FieldType.int)).before args0 about1 = true := code_word (m := ⟨11, 3⟩) (meth := k11m3) (c := k11c3) (by decide +kernel) rfl rfl rfl (by decide +kernel)
def codes1 : List Jvm.Cond := [Jvm.Cond.code x code maxLocals ret, Jvm.Cond.code ({ cls := "com/example/knotwork/knotwork/core/Sym", name := "<init>", desc := "(Ljava/lang/String;)V" } : Jvm.MethodName) prog_46_method_1_code (2 : Nat) (Option.none : Option Jvm.ClassFile.FieldType), Jvm.Cond.code ({ cls := "java/lang/Record", name := "<init>", desc := "()V" } : Jvm.MethodName) jdk_30_method_1_code (1 : Nat) (Option.none : Option Jvm.ClassFile.FieldType), Jvm.Cond.code ({ cls := "java/lang/Object", name := "<init>", desc := "()V" } : Jvm.MethodName) object_method_1_code (1 : Nat) (Option.none : Option Jvm.ClassFile.FieldType), Jvm.Cond.code ({ cls := "com/example/knotwork/knotwork/core/Binding", name := "<init>", desc := "(I)V" } : Jvm.MethodName) prog_8_method_1_code (2 : Nat) (Option.none : Option Jvm.ClassFile.FieldType), Jvm.Cond.code ({ cls := "com/example/knotwork/knotwork/core/Binding", name := "bind", desc := "(ILcom/example/knotwork/knotwork/core/Item;)V" } : Jvm.MethodName) prog_8_method_4_code (3 : Nat) (Option.none : Option Jvm.ClassFile.FieldType), Jvm.Cond.code ({ cls := "com/example/knotwork/knotwork/core/Binding", name := "undo", desc := "(I)V" } : Jvm.MethodName) prog_8_method_8_code (2 : Nat) (Option.none : Option Jvm.ClassFile.FieldType), Jvm.Cond.code ({ cls := "com/example/knotwork/knotwork/core/BindingUndoPinLaw", name := "slotOk", desc := "(Lcom/example/knotwork/knotwork/core/Binding;Lcom/example/knotwork/knotwork/core/Item;IIIII)Z" } : Jvm.MethodName) method_3_code (8 : Nat) (Option.some Jvm.ClassFile.FieldType.boolean), Jvm.Cond.code ({ cls := "com/example/knotwork/knotwork/core/Binding", name := "get", desc := "(I)Lcom/example/knotwork/knotwork/core/Item;" } : Jvm.MethodName) prog_8_method_3_code (2 : Nat) (Option.some (Jvm.ClassFile.FieldType.object "com/example/knotwork/knotwork/core/Item")), Jvm.Cond.code ({ cls := "com/example/knotwork/knotwork/core/BindingUndoPinLaw", name := "held", desc := "(IIIII)Z" } : Jvm.MethodName) method_2_code (5 : Nat) (Option.some Jvm.ClassFile.FieldType.boolean), Jvm.Cond.code ({ cls := "com/example/knotwork/knotwork/core/Binding", name := "mark", desc := "()I" } : Jvm.MethodName) prog_8_method_6_code (1 : Nat) (Option.some Jvm.ClassFile.FieldType.int)]
set_option maxRecDepth 65536 in
theorem codes_eq : words1.filter isCode = codes1 := rfl
theorem w_codes : ∀ c ∈ words1.filter isCode, c.before args0 about1 = true := by
  rw [codes_eq]
  intro c hc
  simp only [codes1, List.mem_cons, List.not_mem_nil, or_false] at hc
  rcases hc with rfl | rfl | rfl | rfl | rfl | rfl | rfl | rfl | rfl | rfl | rfl
  · exact w_c0
  · exact w_c1
  · exact w_c2
  · exact w_c3
  · exact w_c4
  · exact w_c5
  · exact w_c6
  · exact w_c7
  · exact w_c8
  · exact w_c9
  · exact w_c10
set_option maxRecDepth 65536 in
theorem w_t1 : (words1.take 24).all (fun c => isCode c || c.before args0 about1) = true := by decide +kernel
set_option maxRecDepth 65536 in
theorem w_t2 : ((words1.drop 24).take 24).all (fun c => isCode c || c.before args0 about1) = true := by decide +kernel
set_option maxRecDepth 65536 in
theorem w_t3 : ((words1.drop 24).drop 24).all (fun c => isCode c || c.before args0 about1) = true := by decide +kernel
theorem w_tables : (allAtoms (Jvm.Cond.code x code maxLocals ret :: tables_1)).before args0 about1 = true := by
  rw [allAtoms_all]
  show words1.all (fun c => c.before args0 about1) = true
  refine all_split ?_ w_codes
  rw [← List.take_append_drop 24 words1, List.all_append, w_t1, ← List.take_append_drop 24 (words1.drop 24), List.all_append, w_t2, w_t3]
  rfl
set_option maxRecDepth 65536 in
theorem w_case : (Jvm.Cond.and given_1 narrow_1).before args0 about1 = true := by decide +kernel
theorem w_applies : (headSpec (Jvm.Cond.code x code maxLocals ret :: tables_1) room_1).applies x e0.platform about1 = true :=
  (Spec.applies_iff w_frames).mpr ⟨w_running, w_runnable, w_alone, w_named, w_hears, w_ripe, w_room, w_tables⟩
theorem atStart : AtStart classFile x code maxLocals ret World_1 tables_1 room_1 Calls_1 rest_1 Pre_1 launch0 p0 e0 about1 theMethod args0 below0 :=
  ⟨lists_1, trivial, launch0.admits_env _ _ _, launch0.least_env, fairChoices_fair.cas, fairChoices_fair.clock, w_frames, w_args, w_heap, w_applies, trivial, trivial, w_case⟩
end start1
theorem witness_1 : WitnessClaimed_1 := ⟨start1.p0, start1.e0, start1.about1, start1.theMethod, start1.args0, start1.below0, start1.atStart⟩
end Jvm.Pilot.@@N@@
